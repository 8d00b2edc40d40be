import PyProof.Rows.All
import Wide.All
import OpenK.AllK
import Wide.FinOn
import PySem.Challenge.RW_oy0148_01
set_option Elab.async false
set_option linter.all false

section
open PySem PySem.W PyProof.Rows
namespace Mine
/-! what stands in the heap when the text's top is through: only what the walk looks at -/
noncomputable def hd.en (P : Params) (n : String) (t : Tok) (v : Value) : DictEntry := { hash := PyData.keyHash P (Str.ofString n), key := .str (Str.ofString n) t, val := v }
noncomputable def hd.fnOf (m : String) (t : Tok) (c : Addr) (df kd : Value) : Stmt → Obj
  | .FunctionDef n ps b _ _ _ sc _ _ _ => { cls := .type "function", data := .func { name := n, qualname := n, params := ps, body := .stmts b, scope := sc, globals := 3, closure := [], defaults := df, kwdefaults := kd, pyModule := .str (Str.ofString m) t, code := .ref c } }
  | _ => { cls := .none, data := .plain }
noncomputable def hd.fn (i : Nat) (m : String) (t : Tok) (c : Addr) (df kd : Value) : Obj := match PySem.Challenge.pw_oy0148_01.main.body[i]? with
  | some st => hd.fnOf m t c df kd st
  | none => { cls := .none, data := .plain }
noncomputable def hd.code (n : String) (t u : Tok) (line a b c g fl k : Int) (r₀ r₁ : Addr) (r₂ r₃ : Value) (r₄ : Addr) : Obj :=
  { cls := .type "code", data := .fields #[.str (Str.ofString n) t, .str (Str.ofString n) (t + 1), .str (Str.ofString "/claim/cut.py") (t + 2), .int line 0, .int a 0, .int b 0, .int c 0, .int g 0, .ref r₀, .bool true, .int fl 0, .ref r₁, .none, r₂, r₃, .ref r₄, .int k 0, .int line 0, .str (Str.ofString "/claim/cut.py") u] }
noncomputable def hd.ents (P : Params) : List DictEntry := [
    hd.en P "__name__" 165 (.str (Str.ofString "law_oy0148_01") 378),
    hd.en P "__doc__" 166 (.none),
    hd.en P "__package__" 167 (.none),
    hd.en P "__loader__" 168 (.builtin "__main__.__loader__#opaque"),
    hd.en P "__spec__" 169 (.none),
    hd.en P "__annotations__" 170 (.ref 6),
    hd.en P "__builtins__" 171 (.ref 4),
    hd.en P "__file__" 173 (.str (Str.ofString "/claim/cut.py") 172),
    hd.en P "__cached__" 174 (.none),
    hd.en P "_wall" 193 (.ref 21),
    hd.en P "StatisticsError" 213 (.ref 31),
    hd.en P "median" 222 (.ref 41),
    hd.en P "median_low" 230 (.ref 48),
    hd.en P "median_high" 238 (.ref 55),
    hd.en P "bytes_types" 241 (.ref 56),
    hd.en P "_bytes_from_decode_data" 248 (.ref 63),
    hd.en P "Error" 268 (.ref 73),
    hd.en P "_ascii_buffer" 276 (.ref 83),
    hd.en P "_buffer" 284 (.ref 90),
    hd.en P "_truth" 292 (.ref 97),
    hd.en P "_B64" 294 (.bytes #[65, 66, 67, 68, 69, 70, 71, 72, 73, 74, 75, 76, 77, 78, 79, 80, 81, 82, 83, 84, 85, 86, 87, 88, 89, 90, 97, 98, 99, 100, 101, 102, 103, 104, 105, 106, 107, 108, 109, 110, 111, 112, 113, 114, 115, 116, 117, 118, 119, 120, 121, 122, 48, 49, 50, 51, 52, 53, 54, 55, 56, 57, 43, 47] 293),
    hd.en P "_b64_value" 301 (.ref 104),
    hd.en P "a2b_base64" 317 (.ref 112),
    hd.en P "b2a_base64" 331 (.ref 120),
    hd.en P "b64encode" 342 (.ref 128),
    hd.en P "b64decode" 351 (.ref 136),
    hd.en P "sorted_list_difference" 367 (.ref 143),
    hd.en P "unorderable_list_difference" 377 (.ref 150),
    hd.en P "_law_octets" 385 (.ref 155),
    hd.en P "_law_signs" 391 (.ref 162),
    hd.en P "_law_numbers" 397 (.ref 167),
    hd.en P "_law_text" 403 (.ref 172),
    hd.en P "_law_places" 409 (.ref 177),
    hd.en P "_law_laid" 415 (.ref 182),
    hd.en P "_law_run" 421 (.ref 187),
    hd.en P "_law_told" 427 (.ref 192),
    hd.en P "law" 433 (.ref 197)]
noncomputable def hd.heap_39 (P : Params) : Frag := [
  (3, { cls := .type "dict", data := .dict (hd.ents P).toArray 37 }),
  (40, hd.code "median" 214 221 7 1 0 0 3 181 220 35 36 (.ref 37) (.ref 38) 39),
  (41, hd.fn 3 "cpy313.statistics" 194 40 (.none) (.none)),
  (47, hd.code "median_low" 223 229 17 1 0 0 3 181 228 42 43 (.ref 44) (.ref 45) 46),
  (48, hd.fn 4 "cpy313.statistics" 194 47 (.none) (.none)),
  (54, hd.code "median_high" 231 237 26 1 0 0 3 181 236 49 50 (.ref 51) (.ref 52) 53),
  (55, hd.fn 5 "cpy313.statistics" 194 54 (.none) (.none)),
  (62, hd.code "_bytes_from_decode_data" 242 247 34 1 0 0 3 181 246 57 58 (.ref 59) (.ref 60) 61),
  (63, hd.fn 8 "cpy313.base64" 239 62 (.none) (.none)),
  (82, hd.code "_ascii_buffer" 269 275 49 1 0 0 3 181 274 77 78 (.ref 79) (.ref 80) 81),
  (83, hd.fn 11 "binascii" 249 82 (.none) (.none)),
  (89, hd.code "_buffer" 277 283 60 1 0 0 3 181 282 84 85 (.ref 86) (.ref 87) 88),
  (90, hd.fn 12 "binascii" 249 89 (.none) (.none)),
  (96, hd.code "_truth" 285 291 67 1 0 0 3 181 290 91 92 (.ref 93) (.ref 94) 95),
  (97, hd.fn 13 "binascii" 249 96 (.none) (.none)),
  (103, hd.code "_b64_value" 295 300 73 1 0 0 3 181 299 98 99 (.ref 100) (.ref 101) 102),
  (104, hd.fn 15 "binascii" 249 103 (.none) (.none)),
  (105, { cls := .type "dict", data := .dict #[hd.en P "strict_mode" 302 (.bool .false)] 1 }),
  (111, hd.code "a2b_base64" 303 316 85 1 1 1 3 181 315 106 107 (.ref 108) (.ref 109) 110),
  (112, hd.fn 16 "binascii" 249 111 (.none) (.ref 105)),
  (113, { cls := .type "dict", data := .dict #[hd.en P "newline" 318 (.bool .true)] 1 }),
  (119, hd.code "b2a_base64" 319 330 139 1 1 1 3 181 329 114 115 (.ref 116) (.ref 117) 118),
  (120, hd.fn 17 "binascii" 249 119 (.none) (.ref 113)),
  (121, { cls := .type "tuple", data := .seq #[.none] }),
  (127, hd.code "b64encode" 334 341 162 2 0 0 3 181 340 122 123 (.ref 124) (.ref 125) 126),
  (128, hd.fn 19 "cpy313.base64" 332 127 (.ref 121) (.none)),
  (129, { cls := .type "tuple", data := .seq #[.none, .bool .false] }),
  (135, hd.code "b64decode" 343 350 168 3 0 0 3 181 349 130 131 (.ref 132) (.ref 133) 134),
  (136, hd.fn 20 "cpy313.base64" 332 135 (.ref 129) (.none)),
  (142, hd.code "sorted_list_difference" 354 366 176 2 0 0 3 181 365 137 138 (.ref 139) (.ref 140) 141),
  (143, hd.fn 22 "cpy313.unittest.util" 352 142 (.none) (.none)),
  (149, hd.code "unorderable_list_difference" 368 376 208 2 0 0 3 181 375 144 145 (.ref 146) (.ref 147) 148),
  (150, hd.fn 23 "cpy313.unittest.util" 352 149 (.none) (.none)),
  (154, hd.code "_law_octets" 380 384 218 1 0 0 3 181 383 151 152 .none .none 153),
  (155, hd.fn 25 "law_oy0148_01" 378 154 (.none) (.none)),
  (161, hd.code "_law_signs" 386 390 221 0 0 0 3 181 389 156 157 (.ref 158) (.ref 159) 160),
  (162, hd.fn 26 "law_oy0148_01" 378 161 (.none) (.none)),
  (166, hd.code "_law_numbers" 392 396 223 1 0 0 3 181 395 163 164 .none .none 165),
  (167, hd.fn 27 "law_oy0148_01" 378 166 (.none) (.none)),
  (171, hd.code "_law_text" 398 402 226 1 0 0 3 181 401 168 169 .none .none 170),
  (172, hd.fn 28 "law_oy0148_01" 378 171 (.none) (.none)),
  (176, hd.code "_law_places" 404 408 228 1 0 0 3 181 407 173 174 .none .none 175),
  (177, hd.fn 29 "law_oy0148_01" 378 176 (.none) (.none)),
  (181, hd.code "_law_laid" 410 414 230 2 0 0 3 181 413 178 179 .none .none 180),
  (182, hd.fn 30 "law_oy0148_01" 378 181 (.none) (.none)),
  (186, hd.code "_law_run" 416 420 236 1 0 0 3 181 419 183 184 .none .none 185),
  (187, hd.fn 31 "law_oy0148_01" 378 186 (.none) (.none)),
  (191, hd.code "_law_told" 422 426 255 1 0 0 3 181 425 188 189 .none .none 190),
  (192, hd.fn 32 "law_oy0148_01" 378 191 (.none) (.none)),
  (196, hd.code "law" 428 432 268 1 0 0 3 181 431 193 194 .none .none 195),
  (197, hd.fn 33 "law_oy0148_01" 378 196 (.none) (.none))]
noncomputable def hd.as : List Addr := [3, 40, 41, 47, 48, 54, 55, 62, 63, 82, 83, 89, 90, 96, 97, 103, 104, 105, 111, 112, 113, 119, 120, 121, 127, 128, 129, 135, 136, 142, 143, 149, 150, 154, 155, 161, 162, 166, 167, 171, 172, 176, 177, 181, 182, 186, 187, 191, 192, 196, 197]
theorem hd.as_ok (P : Params) : hd.as = (hd.heap_39 P).map (·.1) := rfl
noncomputable def hd.view : Program := { PySem.Challenge.pw_oy0148_01 with main := { PySem.Challenge.pw_oy0148_01.main with body := [33].filterMap fun i => PySem.Challenge.pw_oy0148_01.main.body[i]? } }
noncomputable def hd.loose : List Str := (["_wall", "StatisticsError", "median", "median_low", "median_high", "bytes_types", "_bytes_from_decode_data", "Error", "_ascii_buffer", "_buffer", "_truth", "_B64", "_b64_value", "a2b_base64", "b2a_base64", "b64encode", "b64decode", "sorted_list_difference", "unorderable_list_difference", "_law_octets", "_law_signs", "_law_numbers", "_law_text", "_law_places", "_law_laid", "_law_run", "_law_told"] : List String).map Str.ofString
/-! the opening, cut in three: each part is one small kernel check -/
noncomputable def hd.fnT (i : Nat) : Obj := match PySem.Challenge.pw_oy0148_01.main.body[i]? with
  | some (.FunctionDef n ps b _ _ _ sc _ _ _) => { cls := .none, data := .func { name := n, qualname := n, params := ps, body := .stmts b, scope := sc, globals := 0, closure := [], defaults := .none, kwdefaults := .none } }
  | _ => { cls := .none, data := .plain }
noncomputable def hd.new (P : Params) : List Obj := [
  { cls := .type "code", data := .fields #[.str (Str.ofString "<module>") 182, .str (Str.ofString "<module>") 183, .str (Str.ofString "/claim/cut.py") 184, .int 1 0, .int 0 0, .int 0 0, .int 0 0, .int 0 0, .ref 11, .bool .false, .int 181 0, .ref 12, .none, .none, .none, .none, .int 185 0, .int 1 0, .str (Str.ofString "/claim/cut.py") 186] },
  { cls := .type "frame", slots := #[some (.ref 13), some (.ref 3), some (.ref 3), none, some (.str (Str.ofString "__main__") 164), none, some (.ref 0)] },
  { cls := .type "tuple", data := .seq #[] },
  { cls := .none, data := .fields #[] },
  { cls := .type "tuple", data := .seq #[.str (Str.ofString "k") 190] },
  { cls := .type "tuple", data := .seq #[] },
  hd.fnT 0,
  hd.code "_wall" 187 192 1 1 0 0 3 181 191 15 16 (.ref 17) (.ref 18) 19,
  hd.fn 0 "__main__" 164 20 (.none) (.none),
  { cls := .type "tuple", data := .seq #[.type "ValueError"] },
  { cls := .type "builtin_function_or_method", data := .fields #[.builtin "type.__prepare__", .type "type"] },
  { cls := .type "dict", data := .dict #[hd.en P "__module__" 203 (.str (Str.ofString "cpy313.statistics") 194), hd.en P "__qualname__" 205 (.str (Str.ofString "StatisticsError") 204), hd.en P "__firstlineno__" 207 (.int 5 206), hd.en P "__static_attributes__" 208 (.ref 29)] 4 },
  { cls := .type "tuple", data := .seq #[] },
  { cls := .none, data := .fields #[] },
  { cls := .type "code", data := .fields #[.str (Str.ofString "StatisticsError") 198, .str (Str.ofString "StatisticsError") 199, .str (Str.ofString "/claim/cut.py") 200, .int 5 0, .int 0 0, .int 0 0, .int 0 0, .int 0 0, .ref 25, .bool .false, .int 181 0, .ref 26, .none, .none, .none, .none, .int 201 0, .int 5 0, .str (Str.ofString "/claim/cut.py") 202] },
  { cls := .type "frame", slots := #[some (.ref 27), some (.ref 3), some (.ref 24), none, some (.str (Str.ofString "cpy313.statistics") 194), none, some (.ref 0)] },
  { cls := .type "tuple", data := .seq #[] },
  { cls := .type "dict", data := .dict #[hd.en P "__module__" 203 (.str (Str.ofString "cpy313.statistics") 194), hd.en P "__firstlineno__" 207 (.int 5 206), hd.en P "__static_attributes__" 208 (.ref 29), hd.en P "__weakref__" 210 (.ref 32), hd.en P "__doc__" 211 (.none)] 3 },
  { cls := .type "type", data := .cls { name := Str.ofString "StatisticsError", bases := [.type "ValueError"], mro := [.ref 31, .type "ValueError", .type "Exception", .type "BaseException", .type "object"], ns := 30, qualname := Str.ofString "StatisticsError" }, slots := #[some (.ref 22), none, some (.str (Str.ofString "StatisticsError") 196), some (.str (Str.ofString "StatisticsError") 204), some (.builtin "ValueError.__new__"), some (.bool .true)] },
  { cls := .type "getset_descriptor", data := .fields #[.str (Str.ofString "__weakref__") 209, .ref 31, .builtin "ExceptionGroup.__weakref__", .none] },
  { cls := .type "super", data := .fields #[.ref 31, .ref 31, .ref 31] },
  { cls := .type "builtin_function_or_method", data := .fields #[.builtin "object.__init_subclass__", .ref 31] },
  { cls := .type "tuple", data := .seq #[] },
  { cls := .none, data := .fields #[] },
  { cls := .type "tuple", data := .seq #[.str (Str.ofString "data") 217, .str (Str.ofString "n") 218, .str (Str.ofString "i") 219] },
  { cls := .type "tuple", data := .seq #[] },
  hd.fnT 3,
  hd.code "median" 214 221 7 1 0 0 3 181 220 35 36 (.ref 37) (.ref 38) 39,
  hd.fn 3 "cpy313.statistics" 194 40 (.none) (.none),
  { cls := .type "tuple", data := .seq #[] },
  { cls := .none, data := .fields #[] },
  { cls := .type "tuple", data := .seq #[.str (Str.ofString "data") 226, .str (Str.ofString "n") 227] },
  { cls := .type "tuple", data := .seq #[] },
  hd.fnT 4,
  hd.code "median_low" 223 229 17 1 0 0 3 181 228 42 43 (.ref 44) (.ref 45) 46,
  hd.fn 4 "cpy313.statistics" 194 47 (.none) (.none),
  { cls := .type "tuple", data := .seq #[] },
  { cls := .none, data := .fields #[] },
  { cls := .type "tuple", data := .seq #[.str (Str.ofString "data") 234, .str (Str.ofString "n") 235] },
  { cls := .type "tuple", data := .seq #[] },
  hd.fnT 5,
  hd.code "median_high" 231 237 26 1 0 0 3 181 236 49 50 (.ref 51) (.ref 52) 53,
  hd.fn 5 "cpy313.statistics" 194 54 (.none) (.none),
  { cls := .type "tuple", data := .seq #[.type "bytes", .type "bytearray"] },
  { cls := .type "tuple", data := .seq #[] },
  { cls := .none, data := .fields #[] },
  { cls := .type "tuple", data := .seq #[.str (Str.ofString "s") 245] },
  { cls := .type "tuple", data := .seq #[] },
  hd.fnT 8,
  hd.code "_bytes_from_decode_data" 242 247 34 1 0 0 3 181 246 57 58 (.ref 59) (.ref 60) 61,
  hd.fn 8 "cpy313.base64" 239 62 (.none) (.none),
  { cls := .type "tuple", data := .seq #[.type "ValueError"] },
  { cls := .type "builtin_function_or_method", data := .fields #[.builtin "type.__prepare__", .type "type"] },
  { cls := .type "dict", data := .dict #[hd.en P "__module__" 258 (.str (Str.ofString "binascii") 249), hd.en P "__qualname__" 260 (.str (Str.ofString "Error") 259), hd.en P "__firstlineno__" 262 (.int 47 261), hd.en P "__static_attributes__" 263 (.ref 71)] 4 },
  { cls := .type "tuple", data := .seq #[] },
  { cls := .none, data := .fields #[] },
  { cls := .type "code", data := .fields #[.str (Str.ofString "Error") 253, .str (Str.ofString "Error") 254, .str (Str.ofString "/claim/cut.py") 255, .int 47 0, .int 0 0, .int 0 0, .int 0 0, .int 0 0, .ref 67, .bool .false, .int 181 0, .ref 68, .none, .none, .none, .none, .int 256 0, .int 47 0, .str (Str.ofString "/claim/cut.py") 257] },
  { cls := .type "frame", slots := #[some (.ref 69), some (.ref 3), some (.ref 66), none, some (.str (Str.ofString "binascii") 249), none, some (.ref 0)] },
  { cls := .type "tuple", data := .seq #[] },
  { cls := .type "dict", data := .dict #[hd.en P "__module__" 258 (.str (Str.ofString "binascii") 249), hd.en P "__firstlineno__" 262 (.int 47 261), hd.en P "__static_attributes__" 263 (.ref 71), hd.en P "__weakref__" 265 (.ref 74), hd.en P "__doc__" 266 (.none)] 3 },
  { cls := .type "type", data := .cls { name := Str.ofString "Error", bases := [.type "ValueError"], mro := [.ref 73, .type "ValueError", .type "Exception", .type "BaseException", .type "object"], ns := 72, qualname := Str.ofString "Error" }, slots := #[some (.ref 64), none, some (.str (Str.ofString "Error") 251), some (.str (Str.ofString "Error") 259), some (.builtin "ValueError.__new__"), some (.bool .true)] },
  { cls := .type "getset_descriptor", data := .fields #[.str (Str.ofString "__weakref__") 264, .ref 73, .builtin "ExceptionGroup.__weakref__", .none] },
  { cls := .type "super", data := .fields #[.ref 73, .ref 73, .ref 73] },
  { cls := .type "builtin_function_or_method", data := .fields #[.builtin "object.__init_subclass__", .ref 73] }]
noncomputable def hd.line (l : List Value) : Obj := { cls := .none, data := .fields (Array.mk l) }
/-- the module's names: the first k, with what `__name__` tells by now -/
noncomputable def hd.main (P : Params) (m : String) (t : Tok) (k : Nat) : Obj := { cls := .type "dict", data := .dict (Array.mk (hd.en P "__name__" 165 (.str (Str.ofString m) t) :: ((hd.ents P).drop 1).take (k - 1))) k }
noncomputable def hd.at (P : Params) (main : Obj) (lines : List Value) (n : Nat) (toks : Tok) (os : OsState) : Shared :=
  ⟨⟨Array.mk (([boot_o_0 P, boot_o_1 P, boot_o_2 P, main, boot_o_4 P, boot_o_5 P, boot_o_6 P, boot_o_7 P, boot_o_8 P, boot_o_9 P, boot_o_10 P, { cls := .type "tuple", data := .seq #[] }, hd.line lines] ++ hd.new P).take n), {}⟩, #[], boot_drawn, toks, os⟩
noncomputable def hd.s0 (P : Params) (os : OsState) : Shared := ⟨boot_heap P, #[], boot_drawn, boot_toks, os⟩
noncomputable def hd.s1 (P : Params) (os : OsState) : Shared := hd.at P (boot_o_3 P) [] 15 187 os
noncomputable def hd.s2 (P : Params) (os : OsState) : Shared := hd.at P (hd.main P "cpy313.statistics" 194 11) [.int 1 0, .int 0 0, .ref 20, .int 5 0, .int 0 0, .ref 27] 35 214 os
noncomputable def hd.s3 (P : Params) (os : OsState) : Shared := hd.at P (hd.main P "binascii" 249 17) [.int 1 0, .int 0 0, .ref 20, .int 5 0, .int 0 0, .ref 27, .int 7 0, .int 0 0, .ref 40, .int 17 0, .int 0 0, .ref 47, .int 26 0, .int 0 0, .ref 54, .int 34 0, .int 0 0, .ref 62, .int 47 0, .int 0 0, .ref 69] 77 269 os
noncomputable def hd.env : Env := { scope := PySem.Challenge.pw_oy0148_01.main.scope, locals := mainNs, globals := mainNs, cells := [], code := .ref 13, frame := some 14 }
noncomputable def hd.b : List Stmt := behindTheImports PySem.Challenge.pw_oy0148_01
noncomputable def hd.c : Code := .body hd.b hd.env
noncomputable def hd.p0 : Pos := ⟨0, 0, 0, 0⟩
noncomputable def hd.p2 : Pos := ⟨5, 0, 6, 8⟩
noncomputable def hd.p3 : Pos := ⟨47, 0, 48, 8⟩
noncomputable def hd.B : List Frame := [topFrame hd.p0]
noncomputable def hd.l1 : List Stmt := hd.b.take 3
noncomputable def hd.l2 : List Stmt := (hd.b.drop 3).take 8
noncomputable def hd.l3 : List Stmt := hd.b.drop 11
section
set_option maxRecDepth 100000
set_option maxHeartbeats 8000000
theorem hd.pre (w : World) (os : OsState) : topGo treeTable PySem.Challenge.pw_oy0148_01 w 11 (some (.ref 6)) 12 (hd.s0 w.params os) (topStub PySem.Challenge.pw_oy0148_01) = some (hd.s1 w.params os, ⟨denote treeTable hd.c, hd.c, hd.p0, hd.B⟩) := by kernel_rfl
theorem hd.block (w : World) (os : OsState) : segRun treeTable PySem.Challenge.pw_oy0148_01 w 11 (some (.ref 6)) 1 2 (hd.s1 w.params os) (blockOf hd.b hd.env hd.c hd.p0 hd.B) = some (.next, hd.s1 w.params os, hd.c, hd.p0) := by kernel_rfl
theorem hd.part1 (w : World) (os : OsState) : segRun treeTable PySem.Challenge.pw_oy0148_01 w 11 (some (.ref 6)) 1 300 (hd.s1 w.params os) (piecesOf hd.l1 hd.env hd.c hd.p0 hd.B) = some (.next, hd.s2 w.params os, hd.c, hd.p2) := by kernel_rfl
theorem hd.part2 (w : World) (os : OsState) : segRun treeTable PySem.Challenge.pw_oy0148_01 w 11 (some (.ref 6)) 1 400 (hd.s2 w.params os) (piecesOf hd.l2 hd.env hd.c hd.p2 hd.B) = some (.next, hd.s3 w.params os, hd.c, hd.p3) := by kernel_rfl
theorem hd.part3 (w : World) (os : OsState) : (topRun treeTable PySem.Challenge.pw_oy0148_01 w 11 (some (.ref 6)) 1750 (hd.s3 w.params os) (restOf hd.l3 hd.env hd.c hd.p3 hd.B)).map (fun s =>
    (staticsOk (importedModules PySem.Challenge.pw_oy0148_01.main.body) (boot_heap w.params) s.heap && namesBound PySem.Challenge.pw_oy0148_01 s.heap && gensDone s && laidKept (boot_heap w.params) s.heap,
     openSeen hd.view hd.loose (importedModules PySem.Challenge.pw_oy0148_01.main.body) (fun s => xlAt hd.view [] s && recOk (RowW.records PySem.Challenge.rw_oy0148_01.row.toRowW) s) true s,
     hd.as.map s.heap.get?)) = some (true, openGood hd.view hd.loose, (hd.heap_39 w.params).map fun p => some p.2) := by kernel_rfl
end
theorem run_three {tb : String → Option Builtin} {p : Program} {w : World} {n₀ : Nat} {ann : Option Value} {s₀ s₁ s₂ s₃ r : Shared} {t₀ : Thread} {env : Env} {b l₁ l₂ l₃ : List Stmt} {q p₀ p₁ p₂ : Pos} {a n₁ n₂ n₃ n₄ : Nat}
    (e : b = l₁ ++ (l₂ ++ l₃)) (h₀ : topGo tb p w n₀ ann a s₀ t₀ = some (s₁, ⟨denote tb (.body b env), .body b env, p₀, [topFrame q]⟩))
    (h₁ : segRun tb p w n₀ ann 1 n₁ s₁ (blockOf b env (.body b env) p₀ [topFrame q]) = some (.next, s₁, .body b env, p₀))
    (h₂ : segRun tb p w n₀ ann 1 n₂ s₁ (piecesOf l₁ env (.body b env) p₀ [topFrame q]) = some (.next, s₂, .body b env, p₁))
    (h₃ : segRun tb p w n₀ ann 1 n₃ s₂ (piecesOf l₂ env (.body b env) p₁ [topFrame q]) = some (.next, s₃, .body b env, p₂))
    (h₄ : topRun tb p w n₀ ann n₄ s₃ (restOf l₃ env (.body b env) p₂ [topFrame q]) = some r) :
    topRun tb p w n₀ ann (a + (n₁ + (n₂ + (n₃ + n₄)))) s₀ t₀ = some r := by
  refine go_top h₀ (piece_block h₁ ?_)
  have k := piece_app h₂ (piece_app h₃ h₄)
  rw [← e] at k
  exact k
theorem left_three {p q : Program} {loose : List Str} {Xt : Shared → Bool} {α : Type} {Yf : Shared → α} {Ya : World → α} {N m₀ : Nat} {ann : Option Value} {H : Params → Heap} {gs : Array GenState} {d : Drawn} {k : Tok}
    (o : ∀ w : World, (fencedOpening treeTable p w N).map (fun s => (s.heap, s.gens, s.drawn, s.toks)) = some (H w.params, gs, d, k))
    (z : ∀ w : World, ((H w.params).isNs mainGlobals && gs.size == 0, (H w.params).objs.size, (H w.params).nsMap mainGlobals "__annotations__") = (true, m₀, ann))
    (x : ∀ (w : World) (os : OsState), ∃ s, topRun treeTable p w m₀ ann N ⟨H w.params, gs, d, k, os⟩ (topStub p) = some s ∧
      (staticsOk (importedModules p.main.body) (H w.params) s.heap && namesBound p s.heap && gensDone s && laidKept (H w.params) s.heap) = true ∧ openSeen q loose (importedModules p.main.body) Xt true s = openGood q loose ∧ Yf s = Ya w) :
    LeftO p q loose Xt Yf Ya N := by
  intro w
  obtain ⟨⟨h', gs', d', k', os⟩, e, e'⟩ := Option.map_eq_some_iff.mp (o w)
  obtain ⟨rfl, rfl, rfl, rfl⟩ : h' = H w.params ∧ gs' = gs ∧ d' = d ∧ k' = k := by simpa using e'
  obtain ⟨z1, z2, z3⟩ : _ ∧ _ ∧ _ := by simpa only [Prod.mk.injEq] using z w
  obtain ⟨s, r, a, b, c⟩ := x w os
  have t : topFrom treeTable p w N ⟨H w.params, gs', d', k', os⟩ = some s := by
    unfold topFrom
    simp only [z1, z2, z3, r, Option.bind_some, a]
  unfold openEnds
  rw [e, Option.bind_some, t]
  exact congrArg some (Prod.ext b c)
theorem hd.plain : opening PySem.Challenge.pw_oy0148_01 = plainProg PySem.Challenge.pw_oy0148_01.main.scope.names := by kernel_rfl
theorem hd.fence (s : Shared) : fenceModules? PySem.Challenge.pw_oy0148_01 s = some s := by kernel_rfl
theorem hd.size (w : World) : ((boot_heap w.params).isNs mainGlobals && (#[] : Array GenState).size == 0, (boot_heap w.params).objs.size, (boot_heap w.params).nsMap mainGlobals "__annotations__") = (true, 11, some (.ref 6)) := by kernel_rfl
theorem hd.split : hd.b = hd.l1 ++ (hd.l2 ++ hd.l3) := by kernel_rfl
theorem hd.left : LeftO PySem.Challenge.pw_oy0148_01 hd.view hd.loose (fun s => xlAt hd.view [] s && recOk (RowW.records PySem.Challenge.rw_oy0148_01.row.toRowW) s) (fun s => hd.as.map s.heap.get?) (fun w => (hd.heap_39 w.params).map fun p => some p.2) 2464 := by
  refine left_three (boot_open hd.plain (by decide +kernel) hd.fence) hd.size fun w os => ?_
  obtain ⟨s, h, e⟩ := Option.map_eq_some_iff.mp (hd.part3 w os)
  have r := run_three hd.split (hd.pre w os) (hd.block w os) (hd.part1 w os) (hd.part2 w os) h
  obtain ⟨e1, e2, e3⟩ : _ ∧ _ ∧ _ := by simpa only [Prod.mk.injEq] using e
  exact ⟨s, r, e1, e2, e3⟩
end Mine
end

section
open PySem PySem.W PySem.Calls PyProof.Rows
namespace Mine

/-- plain data -/
inductive D where
  | none
  | bool (b : Bool)
  | int (i : Int)
  | float (x : UInt64)
  | str (s : Str)
  | bytes (b : Array UInt8)
  | type (n : String)
  | list (xs : List D)
  | tuple (xs : List D)
  | xlist (xs : List D)

mutual
/-- the value is this data in the heap; every object that it reaches is in V -/
inductive At (h : Heap) (V : Addr → Prop) : Value → D → Prop where
  | none : At h V .none .none
  | bool (b : Bool) : At h V (.bool b) (.bool b)
  | int (i : Int) (t : Tok) : At h V (.int i t) (.int i)
  | float (x : UInt64) (t : Tok) : At h V (.float x t) (.float x)
  | str (x : Str) (t : Tok) : At h V (.str x t) (.str x)
  | bytes (x : Array UInt8) (t : Tok) : At h V (.bytes x t) (.bytes x)
  | type (x : String) : At h V (.type x) (.type x)
  | list {a : Addr} {vs : List Value} {ds : List D} (hv : V a) (hl : h.PlainList a vs.toArray) (hs : Ats h V vs ds) : At h V (.ref a) (.list ds)
  | xlist {a : Addr} {vs : List Value} {ds : List D} (hv : V a) (hl : h.IsList a vs.toArray) (hs : Ats h V vs ds) : At h V (.ref a) (.xlist ds)
  | tuple {a : Addr} {vs : List Value} {ds : List D} (hv : V a) (hl : IsTup h a vs.toArray) (hs : Ats h V vs ds) : At h V (.ref a) (.tuple ds)
inductive Ats (h : Heap) (V : Addr → Prop) : List Value → List D → Prop where
  | nil : Ats h V [] []
  | cons {v : Value} {d : D} {vs : List Value} {ds : List D} (hd : At h V v d) (tl : Ats h V vs ds) : Ats h V (v :: vs) (d :: ds)
end

section
variable {h h' : Heap} {V V' : Addr → Prop}
/-- a list or a tuple -/
noncomputable def IsSeq (o : Obj) : Prop := ∃ xs n, o.data = .seq xs n
mutual
theorem At.mono (hk : ∀ a o, V a → h.get? a = some o → IsSeq o → V' a ∧ h'.get? a = some o) :
    ∀ {v : Value} {d : D}, At h V v d → At h' V' v d
  | _, _, .none => .none
  | _, _, .bool b => .bool b
  | _, _, .int i t => .int i t
  | _, _, .float i t => .float i t
  | _, _, .str i t => .str i t
  | _, _, .bytes i t => .bytes i t
  | _, _, .type i => .type i
  | _, _, .list hv ⟨n, e⟩ hs => .list (hk _ _ hv e ⟨_, _, rfl⟩).1 ⟨n, (hk _ _ hv e ⟨_, _, rfl⟩).2⟩ (Ats.mono hk hs)
  | _, _, .xlist hv ⟨o, e, c, n, d⟩ hs => .xlist (hk _ _ hv e ⟨_, _, d⟩).1 ⟨o, (hk _ _ hv e ⟨_, _, d⟩).2, c, n, d⟩ (Ats.mono hk hs)
  | _, _, .tuple hv ⟨o, e, c, n, d⟩ hs => .tuple (hk _ _ hv e ⟨_, _, d⟩).1 ⟨o, (hk _ _ hv e ⟨_, _, d⟩).2, c, n, d⟩ (Ats.mono hk hs)
theorem Ats.mono (hk : ∀ a o, V a → h.get? a = some o → IsSeq o → V' a ∧ h'.get? a = some o) :
    ∀ {vs : List Value} {ds : List D}, Ats h V vs ds → Ats h' V' vs ds
  | _, _, .nil => .nil
  | _, _, .cons hd tl => .cons (At.mono hk hd) (Ats.mono hk tl)
end
theorem At.wider {v : Value} {d : D} (q : At h V v d) (hV : ∀ a, V a → V' a) : At h V' v d := q.mono fun a _ hv e _ => ⟨hV a hv, e⟩
theorem Ats.wider {v : List Value} {d : List D} (q : Ats h V v d) (hV : ∀ a, V a → V' a) : Ats h V' v d := q.mono fun a _ hv e _ => ⟨hV a hv, e⟩
theorem Ats.length : ∀ {vs : List Value} {ds : List D}, Ats h V vs ds → vs.length = ds.length
  | _, _, .nil => rfl
  | _, _, .cons _ tl => by rw [List.length_cons, List.length_cons, tl.length]
theorem Ats.get : ∀ {vs : List Value} {ds : List D}, Ats h V vs ds → ∀ {i : Nat} {d : D}, ds[i]? = some d → ∃ v, vs[i]? = some v ∧ At h V v d
  | _, _, .nil, i, d, e => by simp at e
  | _, _, .cons hd tl, 0, d, e => by simp at e; subst e; exact ⟨_, by simp, hd⟩
  | _, _, .cons hd tl, i + 1, d, e => by
    simp at e
    obtain ⟨v, hv, ha⟩ := Ats.get tl e
    exact ⟨v, by simpa using hv, ha⟩
theorem Ats.get' : ∀ {vs : List Value} {ds : List D}, Ats h V vs ds → ∀ {i : Nat} {v : Value}, vs[i]? = some v → ∃ d, ds[i]? = some d ∧ At h V v d
  | _, _, .nil, i, d, e => by simp at e
  | _, _, .cons hd tl, 0, d, e => by simp at e; subst e; exact ⟨_, by simp, hd⟩
  | _, _, .cons hd tl, i + 1, d, e => by
    simp at e
    obtain ⟨v, hv, ha⟩ := Ats.get' tl e
    exact ⟨v, by simpa using hv, ha⟩
theorem Ats.append : ∀ {vs : List Value} {ds : List D}, Ats h V vs ds → ∀ {us : List Value} {es : List D}, Ats h V us es → Ats h V (vs ++ us) (ds ++ es)
  | _, _, .nil, _, _, x => x
  | _, _, .cons hd tl, _, _, x => .cons hd (Ats.append tl x)
theorem Ats.drop : ∀ (n : Nat) {vs : List Value} {ds : List D}, Ats h V vs ds → Ats h V (vs.drop n) (ds.drop n)
  | 0, _, _, x => by simpa using x
  | n + 1, _, _, .nil => by simpa using Ats.nil
  | n + 1, _, _, .cons hd tl => by simpa using Ats.drop n tl
theorem Ats.take : ∀ (n : Nat) {vs : List Value} {ds : List D}, Ats h V vs ds → Ats h V (vs.take n) (ds.take n)
  | 0, _, _, x => by simpa using Ats.nil
  | n + 1, _, _, .nil => by simpa using Ats.nil
  | n + 1, _, _, .cons hd tl => by simpa using Ats.cons hd (Ats.take n tl)
theorem Ats.ints : ∀ {vs : List Value} {ns : List Int}, Ats h V vs (ns.map D.int) → IntsAre vs ns
  | vs, [], x => by cases x; exact .nil
  | vs, n :: ns, x => by cases x with | cons hd tl => cases hd; exact .cons _ _ (Ats.ints tl)
theorem Ats.of_ints : ∀ {vs : List Value} {ns : List Int}, IntsAre vs ns → Ats h V vs (ns.map D.int)
  | _, _, .nil => .nil
  | _, _, .cons _ _ tl => .cons (.int _ _) (Ats.of_ints tl)
end

/-- what may become of an object that stood before: nothing, or a new frame's notes on itself -/
noncomputable def ObjLe (g : Heap) (b : Addr) (o o' : Obj) : Prop := o' = o ∨ (g.get? b = none ∧ (∃ es n, o.data = .dict es n) ∧ ∃ sl, o' = { o with slots := sl })
noncomputable def KeU (g h h' : Heap) : Prop := ∀ b o, h.get? b = some o → ∃ o', h'.get? b = some o' ∧ ObjLe g b o o'
noncomputable def Ke (g : Heap) (s s' : Shared) : Prop := ∃ h' tk, s' = { s with heap := h', toks := tk } ∧ KeU g s.heap h'

section
variable {g h h' h'' : Heap} {s s' s'' : Shared}
theorem KeU.of (k : ∀ b o, h.get? b = some o → h'.get? b = some o) : KeU g h h' := fun b o e => ⟨o, k b o e, .inl rfl⟩
theorem KeU.refl : KeU g h h := .of fun _ _ e => e
theorem ObjLe.cls {b : Addr} {o o' : Obj} (x : ObjLe g b o o') : o'.cls = o.cls := by
  rcases x with rfl | ⟨_, _, sl, rfl⟩ <;> rfl
theorem ObjLe.data {b : Addr} {o o' : Obj} (x : ObjLe g b o o') : o'.data = o.data := by
  rcases x with rfl | ⟨_, _, sl, rfl⟩ <;> rfl
theorem ObjLe.trans {b : Addr} {o o' o'' : Obj} (x : ObjLe g b o o') (y : ObjLe g b o' o'') : ObjLe g b o o'' := by
  rcases x with rfl | ⟨n, c, sl, rfl⟩
  · exact y
  · rcases y with rfl | ⟨_, _, sl', rfl⟩
    · exact .inr ⟨n, c, _, rfl⟩
    · exact .inr ⟨n, c, _, rfl⟩
theorem KeU.trans (x : KeU g h h') (y : KeU g h' h'') : KeU g h h'' := fun b o e =>
  let ⟨_, e₁, l₁⟩ := x b o e
  let ⟨o₂, e₂, l₂⟩ := y b _ e₁
  ⟨o₂, e₂, l₁.trans l₂⟩
theorem KeU.notFrame (x : KeU g h h') {b : Addr} {o : Obj} (e : h.get? b = some o) (c : ∀ es n, o.data ≠ .dict es n) : h'.get? b = some o := by
  obtain ⟨o', e', l⟩ := x b o e
  rcases l with rfl | ⟨_, ⟨es, n, hc⟩, _⟩
  · exact e'
  · exact absurd hc (c es n)
theorem KeU.base (x : KeU g h h') (k : ∀ b o, g.get? b = some o → h.get? b = some o) : ∀ b o, g.get? b = some o → h'.get? b = some o := fun b o e => by
  obtain ⟨o', e', l⟩ := x b o (k b o e)
  rcases l with rfl | ⟨hn, _⟩
  · exact e'
  · rw [e] at hn; cases hn
theorem KeU.isList (x : KeU g h h') {a : Addr} {its : Array Value} (l : h.IsList a its) : h'.IsList a its := by
  obtain ⟨o, e, c, n, d⟩ := l
  exact ⟨o, x.notFrame e (by rw [d]; intro _ _ q; cases q), c, n, d⟩
theorem KeU.plain (x : KeU g h h') {a : Addr} {its : Array Value} (l : h.PlainList a its) : h'.PlainList a its := by
  obtain ⟨n, e⟩ := l
  exact ⟨n, x.notFrame e (by intro _ _ q; cases q)⟩
theorem KeU.isTup (x : KeU g h h') {a : Addr} {its : Array Value} (l : IsTup h a its) : IsTup h' a its := by
  obtain ⟨o, e, c, n, d⟩ := l
  exact ⟨o, x.notFrame e (by rw [d]; intro _ _ q; cases q), c, n, d⟩
theorem KeU.ns (x : KeU g h h') {a : Addr} {m : Str → Option Value} (l : h.Ns a m) : h'.Ns a m := by
  obtain ⟨o, es, ep, e, d, r⟩ := l
  obtain ⟨o', e', q⟩ := x a o e
  exact ⟨o', es, ep, e', q.data.trans d, r⟩
theorem KeU.isCell (x : KeU g h h') {a : Addr} {v : Option Value} (l : h.IsCell a v) : h'.IsCell a v := by
  obtain ⟨o, e, d⟩ := l
  obtain ⟨o', e', q⟩ := x a o e
  exact ⟨o', e', q.data.trans d⟩
theorem KeU.none (x : KeU g h h') {a : Addr} (e : h'.get? a = none) : h.get? a = none := by
  cases q : h.get? a with
  | none => rfl
  | some o => obtain ⟨o', e', _⟩ := x a o q; rw [e] at e'; cases e'
theorem KeU.at (x : KeU g h h') {V V' : Addr → Prop} (hV : ∀ a, V a → V' a) {v : Value} {d : D} (q : At h V v d) : At h' V' v d :=
  q.mono fun a _ hv e hs => ⟨hV a hv, x.notFrame e (by obtain ⟨_, _, d⟩ := hs; rw [d]; intro _ _ q; cases q)⟩
theorem KeU.ats (x : KeU g h h') {V V' : Addr → Prop} (hV : ∀ a, V a → V' a) {v : List Value} {d : List D} (q : Ats h V v d) : Ats h' V' v d :=
  q.mono fun a _ hv e hs => ⟨hV a hv, x.notFrame e (by obtain ⟨_, _, d⟩ := hs; rw [d]; intro _ _ q; cases q)⟩
theorem KeU.push (o : Obj) : KeU g h (h.push o) := .of fun _ _ e => Heap.get?_push_of_some _ e

theorem Ke.refl : Ke g s s := ⟨s.heap, s.toks, rfl, .refl⟩
theorem Ke.trans (x : Ke g s s') (y : Ke g s' s'') : Ke g s s'' := by
  obtain ⟨h₁, t₁, rfl, k₁⟩ := x
  obtain ⟨h₂, t₂, rfl, k₂⟩ := y
  exact ⟨h₂, t₂, rfl, k₁.trans k₂⟩
theorem Ke.heap (x : Ke g s s') : KeU g s.heap s'.heap := by
  obtain ⟨h₁, t₁, rfl, k₁⟩ := x
  exact k₁
theorem Ke.toks {t : Nat} : Ke g s { s with toks := t } := ⟨s.heap, t, rfl, .refl⟩
theorem Ke.mk' {t : Nat} (k : KeU g s.heap h) : Ke g s { s with heap := h, toks := t } := ⟨h, t, rfl, k⟩
theorem Ke.mkh (k : KeU g s.heap h) : Ke g s { s with heap := h } := ⟨h, s.toks, rfl, k⟩
end

/-- what may be seen behind a step: what could be seen, and what is new -/
noncomputable def Fre (V : Addr → Prop) (h : Heap) : Addr → Prop := fun a => V a ∨ h.get? a = none
theorem Fre.sub {V : Addr → Prop} {h : Heap} : ∀ a, V a → Fre V h a := fun _ x => .inl x
theorem Fre.le {g h h' : Heap} {V : Addr → Prop} (k : KeU g h h') : ∀ a, Fre V h' a → Fre V h a := fun _ x => x.imp id k.none
theorem Fre.le2 {g h h' : Heap} {V : Addr → Prop} (k : KeU g h h') : ∀ a, Fre (Fre V h) h' a → Fre V h a := fun _ x => x.elim id fun q => .inr (k.none q)

/-- what is fixed throughout -/
structure Cfg where
  w : World
  g : Heap
  p : Program
  loose : List Str
  mean : ExcName → Option Value
  mg : Str → Option Value
  mb : Str → Option Value
  X : (hd.heap_39 w.params).In g
  T : Top p loose mean mg mb g
noncomputable abbrev Cfg.M (C : Cfg) : Model := model PySem.Challenge.rw_oy0148_01.row.prog C.w

structure AOK (n : Nat) (A : Around) : Prop where
  handled : 1 ≤ n → A.handled = none
  depth : A.depth + n ≤ 900
  units : A.units + 10 * n ≤ 9000
theorem AOK.le {n m : Nat} {A : Around} (x : AOK n A) (h : m ≤ n) : AOK m A := ⟨fun q => x.handled (Nat.le_trans q h), by have := x.depth; omega, by have := x.units; omega⟩
theorem AOK.deeper {n : Nat} {A : Around} {env : Env} (x : AOK (n + 1) A) : AOK n (A.deeper env) :=
  ⟨fun _ => x.handled (by omega), by have := x.depth; show A.depth + 1 + n ≤ 900; omega, by have := x.units; show A.units + 3 + 10 * n ≤ 9000; omega⟩

/-- the frames on the stack stand -/
noncomputable def FrOK (g : Heap) (A : Around) (h : Heap) : Prop := ∃ outer, A.frames = some outer ∧
  ∀ env ∈ outer, env.scope.kind ≠ .module ∧ ∃ L o, env.frame = some L ∧ g.get? L = none ∧ h.get? L = some o ∧ ∃ es n, o.data = .dict es n
theorem FrOK.keeps {g h h' : Heap} {A : Around} (x : FrOK g A h) (k : KeU g h h') : FrOK g A h' := by
  obtain ⟨outer, e, hx⟩ := x
  refine ⟨outer, e, fun env he => ?_⟩
  obtain ⟨hk, L, o, h1, h2, h3, es, n, h5⟩ := hx env he
  obtain ⟨o', e', q⟩ := k L o h3
  exact ⟨hk, L, o', h1, h2, e', es, n, q.data.trans h5⟩

/-- where a name is read -/
noncomputable def Lk (h : Heap) (env : Env) (x : Str) (v : Value) : Prop :=
  (env.kindOf x = some .local ∧ ∃ m, h.Ns env.locals m ∧ m x = some v) ∨
  ((env.kindOf x = some .cell ∨ env.kindOf x = some .free) ∧ ∃ c, env.cells.lookup x = some c ∧ h.IsCell c (some v))
theorem Lk.keeps {g h h' : Heap} {env : Env} {x : Str} {v : Value} (q : Lk h env x v) (k : KeU g h h') : Lk h' env x v := by
  rcases q with ⟨a, m, b, c⟩ | ⟨a, c, b, d⟩
  · exact .inl ⟨a, m, k.ns b, c⟩
  · exact .inr ⟨a, c, b, k.isCell d⟩

noncomputable abbrev Rho := List (Str × D)

structure Rd (C : Cfg) (A : Around) (h : Heap) (V : Addr → Prop) (env : Env) (ρ : Rho) : Prop where
  base : ∀ b o, C.g.get? b = some o → h.get? b = some o
  kind : env.scope.kind = .function
  globals : env.globals = mainGlobals
  builtins : env.builtins = builtinsNs
  names : ∀ x d, ρ.lookup x = some d → ∃ v, At h V v d ∧ Lk h env x v
  frames : FrOK C.g A h
theorem Rd.keeps {C : Cfg} {A : Around} {h h' : Heap} {V V' : Addr → Prop} {env : Env} {ρ : Rho} (r : Rd C A h V env ρ) (k : KeU C.g h h') (hV : ∀ a, V a → V' a) : Rd C A h' V' env ρ where
  base := k.base r.base
  kind := r.kind
  globals := r.globals
  builtins := r.builtins
  names := fun x d e => let ⟨v, a, l⟩ := r.names x d e; ⟨v, k.at hV a, l.keeps k⟩
  frames := r.frames.keeps k

/-- an expression gives this data, wherever the scope is sc and the names are ρ -/
noncomputable def Ev (C : Cfg) (n : Nat) (sc : Scope) (ρ : Rho) (e : Expr) (d : D) : Prop :=
  ∀ A s V env, env.scope = sc → AOK n A → Rd C A s.heap V env ρ →
    wpAny C.M A (eval e env) (fun v s' => Ke C.g s s' ∧ At s'.heap (Fre V s.heap) v d) (fun _ _ => False) s
noncomputable def Evs (C : Cfg) (n : Nat) (sc : Scope) (ρ : Rho) (es : List Expr) (ds : List D) : Prop :=
  ∀ A s V env pos, env.scope = sc → AOK n A → Rd C A s.heap V env ρ →
    wpAny C.M A (spliced (backTo pos (starEach es env))) (fun vs s' => Ke C.g s s' ∧ Ats s'.heap (Fre V s.heap) vs ds) (fun _ _ => False) s
/-- a test comes out so -/
noncomputable def Tr (C : Cfg) (n : Nat) (sc : Scope) (ρ : Rho) (e : Expr) (b : Bool) : Prop :=
  ∀ A s V env, env.scope = sc → AOK n A → Rd C A s.heap V env ρ →
    wpAny C.M A (isTrue e env (eval e env)) (fun v s' => Ke C.g s s' ∧ v = b) (fun _ _ => False) s
/-- a call of a def gives this data -/
noncomputable def Fn (C : Cfg) (n : Nat) (f : Addr) (args : List D) (d : D) : Prop :=
  ∀ A s V vs, AOK n A → (∀ b o, C.g.get? b = some o → s.heap.get? b = some o) → FrOK C.g A s.heap → Ats s.heap V vs args →
    wpAny C.M A (call (.ref f) vs) (fun v s' => Ke C.g s s' ∧ At s'.heap (Fre V s.heap) v d) (fun _ _ => False) s

section
variable {C : Cfg} {n : Nat} {sc : Scope} {ρ : Rho}
theorem Ev.le {m : Nat} {e : Expr} {d : D} (x : Ev C m sc ρ e d) (h : m ≤ n) : Ev C n sc ρ e d := fun A s V env he ha r => x A s V env he (ha.le h) r

theorem Ev.name {x : Str} {pos : Pos} {d : D} (h : ρ.lookup x = some d) (hd : (x == ("__debug__" : Str)) = false := by decide) (hc : (x == ("__classdict__" : Str)) = false := by decide) : Ev C n sc ρ (.Name x pos) d := by
  intro A s V env he ha r
  obtain ⟨v, a, l⟩ := r.names x d h
  refine wpAny_Name ?_ hd
  have q : Ke C.g s s ∧ At s.heap (Fre V s.heap) v d := ⟨.refl, KeU.refl.at (g := C.g) Fre.sub a⟩
  rcases l with ⟨hk, m, hm, hv⟩ | ⟨hk | hk, c, hc1, hv⟩
  · exact wpAny_loadName_local r.kind hk hm hv q
  · exact wpAny_loadName_cell r.kind hk hc1 hv q
  · exact wpAny_loadName_free r.kind hk hc1 hv q hc
theorem Ev.int {i : Int} {k : Nat} {pos : Pos} : Ev C n sc ρ (.Constant (.int i) k pos) (.int i) := fun _ _ _ _ _ _ _ => wpAny_Constant_int ⟨.toks, .int _ _⟩
theorem Ev.str {i : Str} {k : Nat} {pos : Pos} : Ev C n sc ρ (.Constant (.str i) k pos) (.str i) := fun _ _ _ _ _ _ _ => Constant_str ⟨.toks, .str _ _⟩
theorem Ev.bool {i : Bool} {k : Nat} {pos : Pos} : Ev C n sc ρ (.Constant (.bool i) k pos) (.bool i) := fun _ _ _ _ _ _ _ => wpAny_pure ⟨.refl, .bool _⟩
theorem Ev.none {k : Nat} {pos : Pos} : Ev C n sc ρ (.Constant .none k pos) .none := fun _ _ _ _ _ _ _ => wpAny_pure ⟨.refl, .none⟩
theorem Ev.float {i : UInt64} {k : Nat} {pos : Pos} : Ev C n sc ρ (.Constant (.float i) k pos) (.float i) := fun _ _ _ _ _ _ _ _ _ _ => ⟨.toks, .float _ _⟩

theorem Evs.nil : Evs C n sc ρ [] [] := fun _ _ _ _ _ _ _ _ => Calls.spliced_nil ⟨.refl, .nil⟩
theorem Evs.cons {e : Expr} {es : List Expr} {d : D} {ds : List D} (x : Ev C n sc ρ e d) (y : Evs C n sc ρ es ds)
    (hs : ∀ env, starEach (e :: es) env = (false, eval e env) :: starEach es env := by intro _; rfl) : Evs C n sc ρ (e :: es) (d :: ds) := by
  intro A s V env pos he ha r
  rw [hs]
  show wpAny _ _ (spliced ((false, _) :: backTo pos (starEach es env))) _ _ s
  refine Calls.spliced_cons ?_
  refine wpAny_mono (x A s V env he ha r) (fun v s₁ h₁ => ?_) fun _ _ f => f
  refine wpAny_mono (y A s₁ V env pos he ha (r.keeps h₁.1.heap fun _ q => q)) (fun vs s₂ h₂ => ?_) fun _ _ f => f
  exact ⟨h₁.1.trans h₂.1, .cons (h₂.1.heap.at (fun _ q => q) h₁.2) (h₂.2.wider (Fre.le h₁.1.heap))⟩
end
end Mine
end

section
open PySem PySem.W PySem.Calls PyProof.Rows
namespace Mine

noncomputable abbrev Ow := List (Str × List D)

structure StV (C : Cfg) (A : Around) (g₀ : Heap) (V₀ : Addr → Prop) (h : Heap) (V : Addr → Prop) (env : Env) (ρ : Rho) (ow : Ow) : Prop where
  bg : ∀ b o, C.g.get? b = some o → g₀.get? b = some o
  kind : env.scope.kind = .function
  globals : env.globals = mainGlobals
  builtins : env.builtins = builtinsNs
  keep : KeU C.g g₀ h
  vis : ∀ a, V a → V₀ a ∨ g₀.get? a = none
  frame : env.frame = some env.locals
  top : ∃ rest, A.frames = some (env :: rest)
  ns : ∃ m, h.Ns env.locals m
  nsnew : g₀.get? env.locals = none
  cells : ∀ x c, env.cells.lookup x = some c → (∃ v, h.IsCell c v) ∧ g₀.get? c = none ∧ ∀ y, env.cells.lookup y = some c → y = x
  hasc : ∀ x, env.kindOf x = some .cell → ∃ c, env.cells.lookup x = some c
  names : ∀ x d, ρ.lookup x = some d → ∃ v, At h V v d ∧ Lk h env x v
  own : ∃ ad : Str → Addr, ∀ x xs, (x, xs) ∈ ow → (∃ vs, Lk h env x (.ref (ad x)) ∧ h.PlainList (ad x) vs.toArray ∧ Ats h V vs xs) ∧ ¬ V (ad x) ∧ g₀.get? (ad x) = none ∧ ∀ y ys, (y, ys) ∈ ow → ad y = ad x → y = x
  frames : FrOK C.g A h
noncomputable def St (C : Cfg) (A : Around) (g₀ : Heap) (V₀ : Addr → Prop) (h : Heap) (env : Env) (ρ : Rho) (ow : Ow) : Prop := ∃ V, StV C A g₀ V₀ h V env ρ ow

noncomputable def Same (s s' : Shared) : Prop := ∃ h tk, s' = { s with heap := h, toks := tk }
theorem Same.refl {s : Shared} : Same s s := ⟨_, _, rfl⟩
theorem Same.trans {s s' s'' : Shared} (x : Same s s') (y : Same s' s'') : Same s s'' := by
  obtain ⟨_, _, rfl⟩ := x; obtain ⟨h, t, rfl⟩ := y; exact ⟨h, t, rfl⟩
theorem Ke.same {g : Heap} {s s' : Shared} (x : Ke g s s') : Same s s' := let ⟨h, t, e, _⟩ := x; ⟨h, t, e⟩

theorem StV.base {C : Cfg} {A : Around} {g₀ : Heap} {V₀ : Addr → Prop} {h : Heap} {V : Addr → Prop} {env : Env} {ρ : Rho} {ow : Ow} (x : StV C A g₀ V₀ h V env ρ ow) : ∀ b o, C.g.get? b = some o → h.get? b = some o :=
  x.keep.base x.bg
theorem StV.rd {C : Cfg} {A : Around} {g₀ : Heap} {V₀ : Addr → Prop} {h : Heap} {V : Addr → Prop} {env : Env} {ρ : Rho} {ow : Ow} (x : StV C A g₀ V₀ h V env ρ ow) : Rd C A h V env ρ :=
  ⟨x.base, x.kind, x.globals, x.builtins, x.names, x.frames⟩

/-- behind an expression: all stands, what is new may be seen -/
theorem StV.ke {C : Cfg} {A : Around} {g₀ : Heap} {V₀ : Addr → Prop} {h h' : Heap} {V : Addr → Prop} {env : Env} {ρ : Rho} {ow : Ow} (x : StV C A g₀ V₀ h V env ρ ow) (k : KeU C.g h h') : StV C A g₀ V₀ h' (Fre V h) env ρ ow where
  bg := x.bg
  kind := x.kind
  globals := x.globals
  builtins := x.builtins
  keep := x.keep.trans k
  vis := fun a q => q.elim (x.vis a) fun e => .inr (x.keep.none e)
  frame := x.frame
  top := x.top
  ns := let ⟨m, hm⟩ := x.ns; ⟨m, k.ns hm⟩
  nsnew := x.nsnew
  cells := fun y c e => let ⟨⟨v, a⟩, b, d⟩ := x.cells y c e; ⟨⟨v, k.isCell a⟩, b, d⟩
  hasc := x.hasc
  names := fun y d e => let ⟨v, a, l⟩ := x.names y d e; ⟨v, k.at Fre.sub a, l.keeps k⟩
  own := by
    obtain ⟨ad, H⟩ := x.own
    refine ⟨ad, fun y ys hy => ?_⟩
    obtain ⟨⟨vs, a1, a2, a3⟩, b, c, d⟩ := H y ys hy
    refine ⟨⟨vs, a1.keeps k, k.plain a2, k.ats Fre.sub a3⟩, fun q => ?_, c, d⟩
    rcases q with q | q
    · exact b q
    · obtain ⟨o, e⟩ := a2; rw [e] at q; cases q
  frames := x.frames.keeps k

/-- a name stored -/
structure Stored (h h' : Heap) (env : Env) (x : Str) (v : Value) : Prop where
  here : Lk h' env x v
  rest : ∀ y u, y ≠ x → Lk h env y u → Lk h' env y u
  ns : ∃ m, h'.Ns env.locals m
  cells : ∀ y c, env.cells.lookup y = some c → ∃ u, h'.IsCell c u
  keep : ∀ b o, b ≠ env.locals → (∀ y c, env.cells.lookup y = some c → b ≠ c) → h.get? b = some o → h'.get? b = some o

section
variable {C : Cfg} {A : Around} {g₀ : Heap} {V₀ : Addr → Prop} {V : Addr → Prop} {env : Env} {ρ : Rho} {ow : Ow} {s : Shared}

theorem StV.notL {h : Heap} (x : StV C A g₀ V₀ h V env ρ ow) {a : Addr} {o : Obj} (e : h.get? a = some o) (hd : ∀ es n, o.data ≠ .dict es n) : a ≠ env.locals := by
  rintro rfl
  obtain ⟨m, o', es, n, e', d, _⟩ := x.ns
  rw [e] at e'; cases e'; exact hd _ _ d
theorem StV.notC {h : Heap} (x : StV C A g₀ V₀ h V env ρ ow) {a : Addr} {o : Obj} (e : h.get? a = some o) (hd : ∀ v, o.data ≠ .cell v) : ∀ y c, env.cells.lookup y = some c → a ≠ c := by
  rintro y c hc rfl
  obtain ⟨⟨v, o', e', d⟩, _⟩ := x.cells y a hc
  rw [e] at e'; cases e'; exact hd _ d

theorem storeLocal {x : Str} {v : Value} (st : StV C A g₀ V₀ s.heap V env ρ ow) (hk : env.kindOf x = some .local) :
    wpAny C.M A (storeName env x v) (fun _ s' => Same s s' ∧ Stored s.heap s'.heap env x v) (fun _ _ => False) s := by
  obtain ⟨m, hm⟩ := st.ns
  refine wpAny_storeName_local hk hm (fun h' hn hs => ⟨⟨_, _, rfl⟩, ?_⟩) (by rw [st.kind]; rfl)
  refine ⟨.inl ⟨hk, _, hn, by simp⟩, fun y u hy q => ?_, ⟨_, hn⟩, fun y c hc => ?_, fun b o hb _ e => (hs.2 b hb).trans e⟩
  · rcases q with ⟨a, m', b, c⟩ | ⟨a, c, b, d⟩
    · refine .inl ⟨a, _, hn, ?_⟩
      have e : m' y = m y := by
        obtain ⟨o1, es1, n1, g1, d1, _, f1⟩ := b
        obtain ⟨o2, es2, n2, g2, d2, _, f2⟩ := hm
        rw [g1] at g2; cases g2; rw [d1] at d2; cases d2
        rw [← f1, ← f2]
      simp only [hy, if_false]; rw [← e]; exact c
    · refine .inr ⟨a, c, b, d.sameBut hs ?_⟩
      obtain ⟨o, e, hd⟩ := d
      exact st.notL e (by rw [hd]; intro _ _ q; cases q)
  · obtain ⟨⟨u, hu⟩, _⟩ := st.cells y c hc
    refine ⟨u, hu.sameBut hs ?_⟩
    obtain ⟨o, e, hd⟩ := hu
    exact st.notL e (by rw [hd]; intro _ _ q; cases q)

theorem storeCell {x : Str} {v : Value} (st : StV C A g₀ V₀ s.heap V env ρ ow) (hk : env.kindOf x = some .cell) :
    wpAny C.M A (storeName env x v) (fun _ s' => Same s s' ∧ Stored s.heap s'.heap env x v) (fun _ _ => False) s := by
  obtain ⟨c, hc⟩ := st.hasc x hk
  obtain ⟨⟨u₀, hu₀⟩, hnew, huniq⟩ := st.cells x c hc
  refine wpAny_storeName_cell st.kind hk hc hu₀ (fun h' hn hs => ⟨⟨_, s.toks, rfl⟩, ?_⟩)
  have hcL : env.locals ≠ c := by
    obtain ⟨o, e, hd⟩ := hu₀
    exact fun q => st.notL e (by rw [hd]; intro _ _ q; cases q) q.symm
  obtain ⟨m, hm⟩ := st.ns
  refine ⟨.inr ⟨.inl hk, c, hc, hn⟩, fun y u hy q => ?_, ⟨m, hm.sameBut hs hcL⟩, fun y c' hc' => ?_, fun b o _ hb e => (hs.2 b (hb x c hc)).trans e⟩
  · rcases q with ⟨a, m', b, d⟩ | ⟨a, c', b, d⟩
    · exact .inl ⟨a, m', b.sameBut hs hcL, d⟩
    · refine .inr ⟨a, c', b, d.sameBut hs ?_⟩
      rintro rfl
      exact hy (huniq y b)
  · by_cases q : c' = c
    · subst q; exact ⟨_, hn⟩
    · obtain ⟨⟨u, hu⟩, _⟩ := st.cells y c' hc'
      exact ⟨u, hu.sameBut hs q⟩

theorem wp_store {x : Str} {v : Value} (st : StV C A g₀ V₀ s.heap V env ρ ow) (hk : env.kindOf x = some .local ∨ env.kindOf x = some .cell) :
    wpAny C.M A (storeName env x v) (fun _ s' => Same s s' ∧ Stored s.heap s'.heap env x v) (fun _ _ => False) s := hk.elim (storeLocal st) (storeCell st)

theorem Stored.isList {h h' : Heap} {x : Str} {v : Value} (q : Stored h h' env x v) (st : StV C A g₀ V₀ h V env ρ ow) {a : Addr} {its : Array Value} (l : h.IsList a its) : h'.IsList a its := by
  obtain ⟨o, e, c, n, d⟩ := l
  exact ⟨o, q.keep a o (st.notL e (by rw [d]; intro _ _ q; cases q)) (st.notC e (by rw [d]; intro _ q; cases q)) e, c, n, d⟩
theorem Stored.isTup {h h' : Heap} {x : Str} {v : Value} (q : Stored h h' env x v) (st : StV C A g₀ V₀ h V env ρ ow) {a : Addr} {its : Array Value} (l : IsTup h a its) : IsTup h' a its := by
  obtain ⟨o, e, c, n, d⟩ := l
  exact ⟨o, q.keep a o (st.notL e (by rw [d]; intro _ _ q; cases q)) (st.notC e (by rw [d]; intro _ q; cases q)) e, c, n, d⟩
theorem Stored.plain {h h' : Heap} {x : Str} {v : Value} (q : Stored h h' env x v) (st : StV C A g₀ V₀ h V env ρ ow) {a : Addr} {its : Array Value} (l : h.PlainList a its) : h'.PlainList a its := by
  obtain ⟨n, e⟩ := l
  exact ⟨n, q.keep a _ (st.notL e (by intro _ _ q; cases q)) (st.notC e (by intro _ q; cases q)) e⟩
theorem Stored.seq {h h' : Heap} {x : Str} {v : Value} (q : Stored h h' env x v) (st : StV C A g₀ V₀ h V env ρ ow) {a : Addr} {o : Obj} (e : h.get? a = some o) (hs : IsSeq o) : h'.get? a = some o := by
  obtain ⟨_, _, d⟩ := hs
  exact q.keep a o (st.notL e (by rw [d]; intro _ _ q; cases q)) (st.notC e (by rw [d]; intro _ q; cases q)) e
theorem Stored.at {h h' : Heap} {x : Str} {v : Value} (q : Stored h h' env x v) (st : StV C A g₀ V₀ h V env ρ ow) {u : Value} {d : D} (a : At h V u d) : At h' V u d :=
  a.mono fun b o hv e hs => ⟨hv, q.seq st e hs⟩
theorem Stored.ats {h h' : Heap} {x : Str} {v : Value} (q : Stored h h' env x v) (st : StV C A g₀ V₀ h V env ρ ow) {u : List Value} {d : List D} (a : Ats h V u d) : Ats h' V u d :=
  a.mono fun b o hv e hs => ⟨hv, q.seq st e hs⟩

/-- the state behind a store, the names yet to be told -/
theorem Stored.st {h h' : Heap} {x : Str} {v : Value} (q : Stored h h' env x v) (st : StV C A g₀ V₀ h V env ρ ow) {ρ' : Rho} {ow' : Ow}
    (hn : ∀ y d, ρ'.lookup y = some d → ∃ u, At h' V u d ∧ Lk h' env y u)
    (ho : ∃ ad : Str → Addr, ∀ y xs, (y, xs) ∈ ow' → (∃ vs, Lk h' env y (.ref (ad y)) ∧ h'.PlainList (ad y) vs.toArray ∧ Ats h' V vs xs) ∧ ¬ V (ad y) ∧ g₀.get? (ad y) = none ∧ ∀ z zs, (z, zs) ∈ ow' → ad z = ad y → z = y) :
    StV C A g₀ V₀ h' V env ρ' ow' where
  bg := st.bg
  kind := st.kind
  globals := st.globals
  builtins := st.builtins
  keep := fun b o e => by
    obtain ⟨o', e', l⟩ := st.keep b o e
    refine ⟨o', q.keep b o' ?_ ?_ e', l⟩
    · rintro rfl; rw [st.nsnew] at e; cases e
    · rintro y c hc rfl; rw [(st.cells y b hc).2.1] at e; cases e
  vis := st.vis
  frame := st.frame
  top := st.top
  ns := q.ns
  nsnew := st.nsnew
  cells := fun y c hc => ⟨q.cells y c hc, (st.cells y c hc).2⟩
  hasc := st.hasc
  names := hn
  own := ho
  frames := by
    obtain ⟨outer, e, H⟩ := st.frames
    refine ⟨outer, e, fun en he => ?_⟩
    obtain ⟨k1, L, o, k2, k3, k4, es, n, k5⟩ := H en he
    by_cases hL : L = env.locals
    · subst hL
      obtain ⟨m, o', es', n', e', d', _⟩ := q.ns
      exact ⟨k1, _, o', k2, k3, e', es', n', d'⟩
    · exact ⟨k1, L, o, k2, k3, q.keep L o hL (st.notC k4 (by rw [k5]; intro _ q; cases q)) k4, es, n, k5⟩

theorem lookup_cons_ne {ρ : Rho} {x y : Str} {d : D} (h : y ≠ x) : List.lookup y ((x, d) :: ρ) = List.lookup y ρ := by
  rw [List.lookup_cons]
  have : (y == x) = false := by simpa using h
  rw [this]
theorem lookup_cons_self {ρ : Rho} {x : Str} {d : D} : List.lookup x ((x, d) :: ρ) = some d := by
  rw [List.lookup_cons]
  have : (x == x) = true := by simp
  rw [this]

theorem Stored.val {h h' : Heap} {x : Str} {v : Value} {d : D} (q : Stored h h' env x v) (st : StV C A g₀ V₀ h V env ρ ow) (a : At h V v d) (hx : ∀ xs, (x, xs) ∉ ow) : StV C A g₀ V₀ h' V env ((x, d) :: ρ) ow := by
  refine q.st st (fun y d' e => ?_) ?_
  · by_cases hy : y = x
    · subst hy; rw [lookup_cons_self] at e; cases e; exact ⟨v, q.at st a, q.here⟩
    · rw [lookup_cons_ne hy] at e
      obtain ⟨u, a', l⟩ := st.names y d' e
      exact ⟨u, q.at st a', q.rest y u hy l⟩
  · obtain ⟨ad, H⟩ := st.own
    refine ⟨ad, fun y xs hy => ?_⟩
    obtain ⟨⟨vs, a1, a2, a3⟩, b, c, e⟩ := H y xs hy
    exact ⟨⟨vs, q.rest y _ (fun z => hx xs (z ▸ hy)) a1, q.plain st a2, q.ats st a3⟩, b, c, e⟩

/-- a new list of the frame's own -/
theorem Stored.owned {h h' : Heap} {x : Str} {a : Addr} {vs : List Value} {xs : List D} (q : Stored h h' env x (.ref a)) (st : StV C A g₀ V₀ h V env ρ ow) (hl : h.PlainList a vs.toArray) (hs : Ats h V vs xs) (hV : ¬ V a) (hg : g₀.get? a = none)
    (hn : ∀ y ys us, (y, ys) ∈ ow → Lk h env y (.ref a) → h.PlainList a us → False)
    (hx : ∀ xs, (x, xs) ∉ ow) (hρ : ρ.lookup x = none) : StV C A g₀ V₀ h' V env ρ ((x, xs) :: ow) := by
  refine q.st st (fun y d' e => ?_) ?_
  · have hy : y ≠ x := by rintro rfl; rw [hρ] at e; cases e
    obtain ⟨u, a', l⟩ := st.names y d' e
    exact ⟨u, q.at st a', q.rest y u hy l⟩
  · obtain ⟨ad, H⟩ := st.own
    refine ⟨fun y => if y = x then a else ad y, fun y ys hy => ?_⟩
    rcases List.mem_cons.mp hy with e | hy
    · cases e
      simp only [if_true]
      refine ⟨⟨vs, q.here, q.plain st hl, q.ats st hs⟩, hV, hg, fun z zs hz e => ?_⟩
      by_cases hzx : z = x
      · exact hzx
      · rw [if_neg hzx] at e
        rcases List.mem_cons.mp hz with e' | hz
        · cases e'; exact absurd rfl hzx
        · obtain ⟨⟨us, b1, b2, _⟩, _⟩ := H z zs hz
          rw [e] at b1 b2
          exact (hn z zs _ hz b1 b2).elim
    · have hyx : y ≠ x := fun z => hx ys (z ▸ hy)
      obtain ⟨⟨us, a1, a2, a3⟩, b, c, e⟩ := H y ys hy
      simp only [hyx, if_false]
      refine ⟨⟨us, q.rest y _ hyx a1, q.plain st a2, q.ats st a3⟩, b, c, fun z zs hz e' => ?_⟩
      by_cases hzx : z = x
      · rw [if_pos hzx] at e'
        rw [← e'] at a1 a2
        exact (hn y ys _ hy a1 a2).elim
      · rw [if_neg hzx] at e'
        rcases List.mem_cons.mp hz with e'' | hz
        · cases e''; exact absurd rfl hzx
        · exact e z zs hz e'
end

inductive Out where
  | next (ρ : Rho) (ow : Ow)
  | brk (ρ : Rho) (ow : Ow)
  | cont (ρ : Rho) (ow : Ow)
  | ret (d : D)

noncomputable def Post (C : Cfg) (A : Around) (g₀ : Heap) (V₀ : Addr → Prop) (env : Env) (out : Out) (s : Shared) (fl : Flow) (s' : Shared) : Prop := Same s s' ∧ match out with
  | .next ρ ow => fl = .next ∧ St C A g₀ V₀ s'.heap env ρ ow
  | .brk ρ ow => fl = .brk ∧ St C A g₀ V₀ s'.heap env ρ ow
  | .cont ρ ow => fl = .cont ∧ St C A g₀ V₀ s'.heap env ρ ow
  | .ret d => ∃ v, fl = .ret v ∧ KeU C.g g₀ s'.heap ∧ At s'.heap (fun a => V₀ a ∨ g₀.get? a = none) v d

noncomputable def Sx (C : Cfg) (n : Nat) (sc : Scope) (ρ : Rho) (ow : Ow) (st : Stmt) (out : Out) : Prop :=
  ∀ A g₀ V₀ s env, env.scope = sc → AOK n A → St C A g₀ V₀ s.heap env ρ ow → wpAny C.M A (exec st env) (fun fl s' => Post C A g₀ V₀ env out s fl s') (fun _ _ => False) s
noncomputable def Sxs (C : Cfg) (n : Nat) (sc : Scope) (ρ : Rho) (ow : Ow) (st : List Stmt) (out : Out) : Prop :=
  ∀ A g₀ V₀ s env, env.scope = sc → AOK n A → St C A g₀ V₀ s.heap env ρ ow → wpAny C.M A (execs st env) (fun fl s' => Post C A g₀ V₀ env out s fl s') (fun _ _ => False) s

theorem Post.from {C : Cfg} {A : Around} {g₀ : Heap} {V₀ : Addr → Prop} {env : Env} {out : Out} {s s₁ s' : Shared} {fl : Flow} (x : Post C A g₀ V₀ env out s₁ fl s') (y : Same s s₁) : Post C A g₀ V₀ env out s fl s' := ⟨y.trans x.1, x.2⟩

section
variable {C : Cfg} {n : Nat} {sc : Scope} {ρ ρ' : Rho} {ow ow' : Ow} {out : Out}
theorem Sxs.nil : Sxs C n sc ρ ow [] (.next ρ ow) := fun _ _ _ _ _ _ _ st => wpAny_execs_nil ⟨.refl, rfl, st⟩
theorem Sxs.cons {st : Stmt} {rest : List Stmt} (x : Sx C n sc ρ ow st (.next ρ' ow')) (y : Sxs C n sc ρ' ow' rest out) : Sxs C n sc ρ ow (st :: rest) out := by
  intro A g₀ V₀ s env he ha hs
  rw [execs_cons]
  refine wpAny_bind (wpAny_mono (x A g₀ V₀ s env he ha hs) (fun fl s₁ h₁ => ?_) fun _ _ f => f)
  obtain ⟨h1, rfl, h2⟩ := h₁
  exact wpAny_mono (y A g₀ V₀ s₁ env he ha h2) (fun fl s₂ h₂ => h₂.from h1) fun _ _ f => f
theorem Sxs.stop {st : Stmt} {rest : List Stmt} (x : Sx C n sc ρ ow st out) (hn : ∀ ρ ow, out ≠ .next ρ ow := by intro _ _ q; cases q) : Sxs C n sc ρ ow (st :: rest) out := by
  intro A g₀ V₀ s env he ha hs
  rw [execs_cons]
  refine wpAny_bind (wpAny_mono (x A g₀ V₀ s env he ha hs) (fun fl s₁ h₁ => ?_) fun _ _ f => f)
  cases out with
  | next ρ ow => exact absurd rfl (hn ρ ow)
  | brk ρ ow => obtain ⟨h1, rfl, h2⟩ := h₁; exact wpAny_pure ⟨h1, rfl, h2⟩
  | cont ρ ow => obtain ⟨h1, rfl, h2⟩ := h₁; exact wpAny_pure ⟨h1, rfl, h2⟩
  | ret d => obtain ⟨h1, v, rfl, h2⟩ := h₁; exact wpAny_pure ⟨h1, v, rfl, h2⟩
theorem Sxs.single {st : Stmt} (x : Sx C n sc ρ ow st out) : Sxs C n sc ρ ow [st] out := by
  cases out with
  | next ρ ow => exact Sxs.cons x Sxs.nil
  | brk ρ ow => exact Sxs.stop x
  | cont ρ ow => exact Sxs.stop x
  | ret d => exact Sxs.stop x

theorem Sx.ret {e : Expr} {pos : Pos} {d : D} (x : Ev C n sc ρ e d) : Sx C n sc ρ ow (.Return (some e) pos) (.ret d) := by
  rintro A g₀ V₀ s env he ha ⟨V, st⟩
  refine wpAny_Return_some (wpAny_mono (x A s V env he ha st.rd) (fun v s₁ h₁ => ?_) fun _ _ f => f)
  have st' := st.ke h₁.1.heap
  exact ⟨h₁.1.same, v, rfl, st'.keep, h₁.2.wider st'.vis⟩

theorem kindOf_of {sc : Scope} {env : Env} {x : Str} {k : NameKind} (he : env.scope = sc) (h : sc.names.lookup x = some k) : env.kindOf x = some k := by
  unfold Env.kindOf; rw [he]; exact h

theorem Sx.assign {e : Expr} {x : Str} {px pos : Pos} {d : D} (v : Ev C n sc ρ e d) (hk : sc.names.lookup x = some .local ∨ sc.names.lookup x = some .cell) (hx : ∀ xs, (x, xs) ∉ ow)
    (hs : ∀ env : Env, env.scope = sc → swapsWith e (some (.Name x px)) pos.line env = pure false) : Sx C n sc ρ ow (.Assign [.Name x px] e pos) (.next ((x, d) :: ρ) ow) := by
  rintro A g₀ V₀ s env he ha ⟨V, st⟩
  refine wpAny_Assign_Name (wpAny_mono (v A s V env he ha st.rd) (fun v s₁ h₁ => ?_) fun _ _ f => f) (hs env he)
  have st' := st.ke h₁.1.heap
  refine wpAny_mono (wp_store st' (hk.imp (kindOf_of he) (kindOf_of he))) (fun _ s₂ h₂ => ?_) fun _ _ f => f
  exact ⟨h₁.1.same.trans h₂.1, rfl, _, h₂.2.val st' h₁.2 hx⟩

theorem Sx.ifT {test : Expr} {body orelse : List Stmt} {pos : Pos} (t : Tr C n sc ρ test true) (x : Sxs C n sc ρ ow body out) : Sx C n sc ρ ow (.If test body orelse pos) out := by
  rintro A g₀ V₀ s env he ha ⟨V, st⟩
  refine wpAny_If (wpAny_mono (t A s V env he ha st.rd) (fun b s₁ h₁ => ?_) fun _ _ f => f)
  obtain ⟨k, rfl⟩ := h₁
  exact wpAny_mono (x A g₀ V₀ s₁ env he ha ⟨_, st.ke k.heap⟩) (fun fl s₂ h₂ => h₂.from k.same) fun _ _ f => f
theorem Sx.ifF {test : Expr} {body orelse : List Stmt} {pos : Pos} (t : Tr C n sc ρ test false) (x : Sxs C n sc ρ ow orelse out) : Sx C n sc ρ ow (.If test body orelse pos) out := by
  rintro A g₀ V₀ s env he ha ⟨V, st⟩
  refine wpAny_If (wpAny_mono (t A s V env he ha st.rd) (fun b s₁ h₁ => ?_) fun _ _ f => f)
  obtain ⟨k, rfl⟩ := h₁
  exact wpAny_mono (x A g₀ V₀ s₁ env he ha ⟨_, st.ke k.heap⟩) (fun fl s₂ h₂ => h₂.from k.same) fun _ _ f => f
end
end Mine
end

section
open PySem PySem.W PySem.Calls PyProof.Rows
namespace Mine

theorem bindL_other (k : Str → Option NameKind) (x : Str) : ∀ (binds : List (Str × Value)) (m : Str → Option Value), (∀ p ∈ binds, p.1 ≠ x) → bindL k binds m x = m x
  | [], m, _ => rfl
  | (y, v) :: r, m, h => by
    unfold bindL
    rw [bindL_other k x r _ fun p hp => h p (.tail _ hp)]
    have hy : x ≠ y := fun e => h (y, v) (.head _) e.symm
    split
    · simp [hy]
    · rfl
theorem bindC_other (k : Str → Option NameKind) (x : Str) : ∀ (binds : List (Str × Value)) (m : Str → Option Value), (∀ p ∈ binds, p.1 ≠ x) → bindC k binds m x = m x
  | [], m, _ => rfl
  | (y, v) :: r, m, h => by
    unfold bindC
    rw [bindC_other k x r _ fun p hp => h p (.tail _ hp)]
    have hy : x ≠ y := fun e => h (y, v) (.head _) e.symm
    split
    · rfl
    · simp [hy]
theorem bindL_here (k : Str → Option NameKind) (x : Str) (u : Value) (hk : k x = some .local) : ∀ (binds : List (Str × Value)) (m : Str → Option Value), (binds.map (·.1)).Nodup → (x, u) ∈ binds → bindL k binds m x = some u
  | (y, v) :: r, m, hn, hm => by
    unfold bindL
    rw [List.map_cons, List.nodup_cons] at hn
    rcases List.mem_cons.mp hm with e | hm
    · cases e
      rw [bindL_other k x r _ fun p hp e => hn.1 (List.mem_map.mpr ⟨p, hp, e⟩), if_pos hk]; simp
    · exact bindL_here k x u hk r _ hn.2 hm
theorem bindC_here (k : Str → Option NameKind) (x : Str) (u : Value) (hk : k x ≠ some .local) : ∀ (binds : List (Str × Value)) (m : Str → Option Value), (binds.map (·.1)).Nodup → (x, u) ∈ binds → bindC k binds m x = some u
  | (y, v) :: r, m, hn, hm => by
    unfold bindC
    rw [List.map_cons, List.nodup_cons] at hn
    rcases List.mem_cons.mp hm with e | hm
    · cases e
      rw [bindC_other k x r _ fun p hp e => hn.1 (List.mem_map.mpr ⟨p, hp, e⟩), if_neg hk]; simp
    · exact bindC_here k x u hk r _ hn.2 hm

/-- the arguments, name by name -/
inductive Bd (h : Heap) (V : Addr → Prop) : List (Str × Value) → Rho → Prop where
  | nil : Bd h V [] []
  | cons {x : Str} {v : Value} {d : D} {bs : List (Str × Value)} {ρ : Rho} (a : At h V v d) (r : Bd h V bs ρ) : Bd h V ((x, v) :: bs) ((x, d) :: ρ)
theorem Bd.look {h : Heap} {V : Addr → Prop} : ∀ {bs : List (Str × Value)} {ρ : Rho}, Bd h V bs ρ → ∀ {x : Str} {d : D}, ρ.lookup x = some d → ∃ v, (x, v) ∈ bs ∧ At h V v d
  | _, _, .nil, _, _, e => by simp at e
  | _, _, .cons (x := y) (d := d₀) a r, x, d, e => by
    by_cases hx : x = y
    · subst hx; rw [lookup_cons_self] at e; cases e; exact ⟨_, .head _, a⟩
    · rw [lookup_cons_ne hx] at e
      obtain ⟨v, hm, ha⟩ := Bd.look r e
      exact ⟨v, .tail _ hm, ha⟩
theorem Bd.names {h : Heap} {V : Addr → Prop} : ∀ {bs : List (Str × Value)} {ρ : Rho}, Bd h V bs ρ → bs.map (·.1) = ρ.map (·.1)
  | _, _, .nil => rfl
  | _, _, .cons a r => by rw [List.map_cons, List.map_cons, Bd.names r]

section
variable {C : Cfg} {n : Nat}

theorem Fn.intro' {f : Addr} {args : Args} {d : D} {fd : FuncData} {o : Obj} {body : List Stmt} {ρ : Rho} {A : Around} {s : Shared} {V : Addr → Prop} {binds : List (Str × Value)}
    (ha : AOK (n + 1) A) (base : ∀ b o, C.g.get? b = some o → s.heap.get? b = some o) (fr : FrOK C.g A s.heap)
    (ho : (hd.heap_39 C.w.params).lookup f = some o) (hdat : o.data = .func fd) (hbody : fd.body = .stmts body) (hclo : fd.closure = []) (hgl : fd.globals = mainGlobals) (hbl : fd.builtins = builtinsNs)
    (hcode : codeIn (hd.heap_39 C.w.params) fd.code fd.qualname = true) (hco : fd.scope.isCoroutine = false) (hgen : fd.scope.isGenerator = false) (hk : fd.scope.kind = .function)
    (hbind : BindsTo s fd args binds) (hbd : Bd s.heap V binds ρ) (hnd : (ρ.map (·.1)).Nodup) (hkind : ∀ x ∈ ρ.map (·.1), fd.scope.names.lookup x = some .local ∨ fd.scope.names.lookup x = some .cell)
    (hb : Sxs C n fd.scope ρ [] body (.ret d)) :
    codeAny C.M A (.call (.ref f) args) (fun r s' => ∃ v, r = .ok (.ret v) ∧ Ke C.g s s' ∧ At s'.heap (Fre V s.heap) v d) s := by
  have X : (hd.heap_39 C.w.params).In s.heap := fun a o e => base a o (C.X a o e)
  have hnd' : (binds.map (·.1)).Nodup := by rw [hbd.names]; exact hnd
  have hkind' : ∀ x ∈ binds, fd.scope.names.lookup x.1 = some .local ∨ fd.scope.names.lookup x.1 = some .cell := fun x hx => hkind x.1 (by rw [← hbd.names]; exact List.mem_map.mpr ⟨x, hx, rfl⟩)
  refine codeAny_call_function (by have := ha.depth; unfold recursionLimit; omega) (X _ _ ho) hdat hco hgen hbody (codeRec_of X hcode) (hbind _ _ _ _ ?_)
  rw [hclo, hgl, hbl]
  refine wpAny_newFunctionEnv_cells hk (fun x hx => (hkind' x hx).imp id fun e => ⟨e, cellsFrom_some _ _ _ (.inl e)⟩) fun env he s' x => ?_
  have hlim : s'.heap.NoLimit := (C.T.nolimit.keeps base).keeps x.toInCall.keep
  refine ⟨hlim, codeAny_func ?_⟩
  have hL : s.heap.get? s.heap.objs.size = none := Heap.get?_none_of_le (Nat.le_refl _)
  have hsc : env.scope = fd.scope := by rw [he]; rfl
  have hloc : env.locals = s.heap.objs.size := by rw [he]; rfl
  have hcl : env.cells = cellsFrom (s.heap.objs.size + 1) fd.scope.names [] := by rw [he]; rfl
  have hfr : env.frame = some env.locals := by rw [he]; rfl
  have hkf : env.scope.kind = .function := by rw [hsc]; exact hk
  have st : StV C (A.deeper env) s.heap V s'.heap V env ρ [] := by
    refine ⟨base, hkf, by rw [he]; rfl, by rw [he]; rfl, .of x.toInCall.keep, fun a q => .inl q, hfr, (by obtain ⟨outer, e, _⟩ := fr; exact ⟨outer, Around.frames_deeper e⟩), ⟨_, x.toInCall.ns⟩, by rw [hloc]; exact hL, fun y c hc => ?_, fun y hy => ?_, fun y dd e => ?_, ⟨fun _ => 0, fun _ _ q => nomatch q⟩, ?_⟩
    · refine ⟨⟨_, x.cell y c hc⟩, Heap.get?_none_of_le ?_, fun z hz => name_of_addr x.apart (mem_of_lookup hz) (mem_of_lookup hc)⟩
      have := x.above y c (mem_of_lookup hc)
      rw [hloc] at this; exact Nat.le_of_lt this
    · have : (env.cells.lookup y).isSome = true := by rw [hcl]; exact cellsFrom_some _ _ _ (.inl (by rw [← hsc]; exact hy))
      exact Option.isSome_iff_exists.mp this
    · obtain ⟨v, hm, a⟩ := hbd.look e
      refine ⟨v, (KeU.of (g := C.g) x.toInCall.keep).at (fun _ q => q) a, ?_⟩
      rcases hkind' (y, v) hm with q | q
      · exact .inl ⟨by unfold Env.kindOf; rw [hsc]; exact q, _, x.toInCall.ns, bindL_here _ _ _ (by unfold Env.kindOf; rw [hsc]; exact q) _ _ hnd' hm⟩
      · have hq : env.kindOf y = some .cell := by unfold Env.kindOf; rw [hsc]; exact q
        have : (env.cells.lookup y).isSome = true := by rw [hcl]; exact cellsFrom_some _ _ _ (.inl q)
        obtain ⟨c, hc⟩ := Option.isSome_iff_exists.mp this
        refine .inr ⟨.inl hq, c, hc, ?_⟩
        have := x.cell y c hc
        rwa [bindC_here _ _ _ (by rw [hq]; decide) _ _ hnd' hm] at this
    · obtain ⟨outer, e, H⟩ := fr
      refine ⟨env :: outer, Around.frames_deeper e, fun en hen => ?_⟩
      rcases List.mem_cons.mp hen with rfl | hen
      · obtain ⟨o', es, k, e', d', _⟩ := x.toInCall.ns
        refine ⟨by rw [hkf]; decide, en.locals, o', hfr, ?_, e', es, k, d'⟩
        cases q : C.g.get? en.locals with
        | none => rfl
        | some o'' => have := base _ _ q; rw [hloc, hL] at this; cases this
      · obtain ⟨k1, L, o', k2, k3, k4, k5⟩ := H en hen
        exact ⟨k1, L, o', k2, k3, x.toInCall.keep _ _ k4, k5⟩
  obtain ⟨h₁, tk, rfl⟩ := x.toInCall.same
  refine wpAny_mono (hb _ s.heap V _ env hsc ha.deeper ⟨V, st⟩) (fun fl s₂ h₂ => ?_) fun _ _ q => q.elim
  obtain ⟨⟨h₂', t₂, rfl⟩, v, rfl, k, a⟩ := h₂
  exact ⟨v, rfl, ⟨h₂', t₂, rfl, k⟩, a⟩

theorem Fn.intro {f : Addr} {args : List D} {d : D} {fd : FuncData} {o : Obj} {body : List Stmt} (ρ : Rho)
    (ho : (hd.heap_39 C.w.params).lookup f = some o) (hdat : o.data = .func fd) (hbody : fd.body = .stmts body) (hclo : fd.closure = []) (hgl : fd.globals = mainGlobals) (hbl : fd.builtins = builtinsNs)
    (hcode : codeIn (hd.heap_39 C.w.params) fd.code fd.qualname = true) (hco : fd.scope.isCoroutine = false) (hgen : fd.scope.isGenerator = false) (hk : fd.scope.kind = .function)
    (hbind : ∀ s V vs, (∀ b o, C.g.get? b = some o → s.heap.get? b = some o) → Ats s.heap V vs args → ∃ binds, BindsTo s fd ⟨vs, []⟩ binds ∧ Bd s.heap V binds ρ)
    (hnd : (ρ.map (·.1)).Nodup) (hkind : ∀ x ∈ ρ.map (·.1), fd.scope.names.lookup x = some .local ∨ fd.scope.names.lookup x = some .cell)
    (hb : Sxs C n fd.scope ρ [] body (.ret d)) : Fn C (n + 1) f args d := by
  intro A s V vs ha base fr hvs
  obtain ⟨binds, h1, h2⟩ := hbind s V vs base hvs
  refine wpAny_call (codeAny_mono (Fn.intro' ha base fr ho hdat hbody hclo hgl hbl hcode hco hgen hk h1 h2 hnd hkind hb) ?_)
  rintro r s' ⟨v, rfl, k, a⟩
  exact ⟨k, a⟩

variable {sc : Scope} {ρ : Rho}
theorem kIn {A : Around} {h : Heap} {V : Addr → Prop} {env : Env} (r : Rd C A h V env ρ) : (hd.heap_39 C.w.params).In h := fun a o e => r.base a o (C.X a o e)

theorem global {x : Str} {pos : Pos} {v : Value} {A : Around} {s : Shared} {V : Addr → Prop} {env : Env} {Q : Value → Shared → Prop} {E : Value → Shared → Prop} (he : env.scope = sc) (r : Rd C A s.heap V env ρ) (hk : sc.names.lookup x = some .globalImplicit)
    (e : nsIn (hd.heap_39 C.w.params) mainGlobals x = some (some v)) (h : Q v s) (hd : (x == ("__debug__" : Str)) = false := by decide) : wpAny C.M A (eval (.Name x pos) env) Q E s := by
  refine Name_function_global r.kind (kindOf_of he hk) (loadGlobal_global (mg := C.mg) ?_ (mg_of C.X C.T.g e) h) hd
  rw [r.globals]; exact C.T.g.keeps r.base
theorem builtin {x : Str} {pos : Pos} {v : Value} {A : Around} {s : Shared} {V : Addr → Prop} {env : Env} {Q : Value → Shared → Prop} {E : Value → Shared → Prop} (he : env.scope = sc) (r : Rd C A s.heap V env ρ) (hk : sc.names.lookup x = some .globalImplicit)
    (e : nsIn (hd.heap_39 C.w.params) mainGlobals x = some none) (hv : bootBuiltins x = some v) (h : Q v s) (hn : x ≠ "__name__" := by decide) (hd : (x == ("__debug__" : Str)) = false := by decide) : wpAny C.M A (eval (.Name x pos) env) Q E s := by
  refine Name_function_global r.kind (kindOf_of he hk) (loadGlobal_builtin (mg := C.mg) (mb := C.mb) ?_ (mg_none_of C.X C.T.g e) ?_ ((C.T.builtins x hn).trans hv) h) hd
  · rw [r.globals]; exact C.T.g.keeps r.base
  · rw [r.builtins]; exact C.T.b.keeps r.base

theorem Ev.call {x : Str} {px pos : Pos} {f : Addr} {a : Expr} {es : List Expr} {args : List D} {d : D} (hk : sc.names.lookup x = some .globalImplicit)
    (e : nsIn (hd.heap_39 C.w.params) mainGlobals x = some (some (.ref f))) (hf : keepIn (hd.heap_39 C.w.params) (.ref f) = true)
    (ha : Evs C n sc ρ (a :: es) args) (hfn : Fn C n f args d)
    (hs : ∀ env, starEach (a :: es) env = (false, eval a env) :: starEach es env := by intro _; rfl) (hp : ∀ env, (backTo pos (starEach es env)).any (·.1) = false := by intro _; rfl)
    (hd : (x == ("__debug__" : Str)) = false := by decide) : Ev C n sc ρ (.Call (.Name x px) (a :: es) [] pos) d := by
  intro A s V env he hA r
  rw [arm_eval_Call_Name']
  refine wpAny_bind (global he r hk e ?_ hd)
  refine callWith_K (kIn r) hf (wpAny_mono (ha A s V env pos he hA r) (fun vs s₁ h₁ => ?_) fun _ _ f => f) (hs env) (hp env)
  have r' := r.keeps h₁.1.heap (V' := Fre V s.heap) Fre.sub
  refine ⟨kIn r', wpAny_mono (hfn A s₁ (Fre V s.heap) _ hA r'.base r'.frames (by rw [List.nil_append]; exact h₁.2)) (fun v s₂ h₂ => ?_) fun _ _ f => f⟩
  exact ⟨h₁.1.trans h₂.1, h₂.2.wider (Fre.le2 h₁.1.heap)⟩
theorem Ev.call0 {x : Str} {px pos : Pos} {f : Addr} {d : D} (hk : sc.names.lookup x = some .globalImplicit)
    (e : nsIn (hd.heap_39 C.w.params) mainGlobals x = some (some (.ref f))) (hf : keepIn (hd.heap_39 C.w.params) (.ref f) = true) (hfn : Fn C n f [] d)
    (hd : (x == ("__debug__" : Str)) = false := by decide) : Ev C n sc ρ (.Call (.Name x px) [] [] pos) d := by
  intro A s V env he hA r
  rw [arm_eval_Call_Name']
  refine wpAny_bind (global he r hk e ?_ hd)
  refine callWith_K0 (kIn r) hf ?_
  exact hfn A s V _ hA r.base r.frames (by rw [List.nil_append]; exact .nil)

/-- a built-in function gives this data -/
noncomputable def Bf (C : Cfg) (n : Nat) (f : Value) (args : List D) (d : D) : Prop :=
  ∀ A s V vs, AOK n A → (∀ b o, C.g.get? b = some o → s.heap.get? b = some o) → Ats s.heap V vs args →
    wpAny C.M A (PySem.call f vs) (fun v s' => Ke C.g s s' ∧ At s'.heap (Fre V s.heap) v d) (fun _ _ => False) s
theorem Ev.bcall {x : Str} {px pos : Pos} {id : String} {a : Expr} {es : List Expr} {args : List D} {d : D} (hk : sc.names.lookup x = some .globalImplicit)
    (e : nsIn (hd.heap_39 C.w.params) mainGlobals x = some Option.none) (hv : bootBuiltins x = some (.builtin id))
    (ha : Evs C n sc ρ (a :: es) args) (hfn : Bf C n (.builtin id) args d)
    (hs : ∀ env, starEach (a :: es) env = (false, eval a env) :: starEach es env := by intro _; rfl) (hp : ∀ env, (backTo pos (starEach es env)).any (·.1) = false := by intro _; rfl)
    (hn : x ≠ "__name__" := by decide) (hd : (x == ("__debug__" : Str)) = false := by decide) : Ev C n sc ρ (.Call (.Name x px) (a :: es) [] pos) d := by
  intro A s V env he hA r
  rw [arm_eval_Call_Name']
  refine wpAny_bind (builtin he r hk e hv ?_ hn hd)
  have hh := ha A s V env pos he hA r
  rw [hs env] at hh ⊢
  refine Calls.callWith_builtin (by show (false || (backTo pos (starEach es env)).any (·.1)) = false; rw [hp env]; rfl) (evalArgs_plain (wpAny_mono hh (fun vs s₁ h₁ => ?_) fun _ _ f => f))
  have r' := r.keeps h₁.1.heap (V' := Fre V s.heap) Fre.sub
  refine wpAny_mono (hfn A s₁ (Fre V s.heap) _ hA r'.base (by rw [List.nil_append]; exact h₁.2)) (fun v s₂ h₂ => ?_) fun _ _ f => f
  exact ⟨h₁.1.trans h₂.1, h₂.2.wider (Fre.le2 h₁.1.heap)⟩
end
end Mine
end

section
open PySem PySem.W PySem.Calls PyProof.Rows
namespace Mine

section
variable {C : Cfg} {n : Nat} {sc : Scope} {ρ : Rho}

/-- two data, an operator -/
noncomputable def Bo (C : Cfg) (n : Nat) (op : Operator) (a b c : D) : Prop :=
  ∀ A s V v₁ v₂, AOK n A → (∀ b o, C.g.get? b = some o → s.heap.get? b = some o) → At s.heap V v₁ a → At s.heap V v₂ b →
    wpAny C.M A (binaryOp op v₁ v₂) (fun v s' => Ke C.g s s' ∧ At s'.heap (Fre V s.heap) v c) (fun _ _ => False) s
noncomputable def Co (C : Cfg) (n : Nat) (op : CmpOp) (a b : D) (r : Bool) : Prop :=
  ∀ A s V v₁ v₂, AOK n A → (∀ b o, C.g.get? b = some o → s.heap.get? b = some o) → At s.heap V v₁ a → At s.heap V v₂ b →
    wpAny C.M A (compareOp op v₁ v₂) (fun v s' => Ke C.g s s' ∧ v = .bool r) (fun _ _ => False) s


/-- two expressions, one after the other -/
theorem two {l r : Expr} {a b : D} {A : Around} {s : Shared} {V : Addr → Prop} {env : Env} (he : env.scope = sc) (hA : AOK n A) (rd : Rd C A s.heap V env ρ) (x : Ev C n sc ρ l a) (y : Ev C n sc ρ r b) {Q : Value → Value → Shared → Prop}
    (h : ∀ v₁ v₂ s₂, Ke C.g s s₂ → At s₂.heap (Fre V s.heap) v₁ a → At s₂.heap (Fre V s.heap) v₂ b → Rd C A s₂.heap V env ρ → Q v₁ v₂ s₂) :
    wpAny C.M A (eval l env) (fun v₁ s₁ => wpAny C.M A (eval r env) (fun v₂ s₂ => Q v₁ v₂ s₂) (fun _ _ => False) s₁) (fun _ _ => False) s := by
  refine wpAny_mono (x A s V env he hA rd) (fun v₁ s₁ h₁ => ?_) fun _ _ f => f
  have r₁ := rd.keeps h₁.1.heap (V' := V) fun _ q => q
  refine wpAny_mono (y A s₁ V env he hA r₁) (fun v₂ s₂ h₂ => ?_) fun _ _ f => f
  exact h v₁ v₂ s₂ (h₁.1.trans h₂.1) (h₂.1.heap.at (fun _ q => q) h₁.2) (h₂.2.wider (Fre.le h₁.1.heap)) (r₁.keeps h₂.1.heap fun _ q => q)

theorem Ev.binop {l r : Expr} {op : Operator} {pos : Pos} {a b c : D} (x : Ev C n sc ρ l a) (y : Ev C n sc ρ r b) (z : Bo C n op a b c) : Ev C n sc ρ (.BinOp l op r pos) c := by
  intro A s V env he hA rd
  refine wpAny_BinOp (two he hA rd x y fun v₁ v₂ s₂ k a₁ a₂ r₂ => ?_)
  refine wpAny_mono (z A s₂ (Fre V s.heap) v₁ v₂ hA r₂.base a₁ a₂) (fun v s₃ h₃ => ?_) fun _ _ f => f
  exact ⟨k.trans h₃.1, h₃.2.wider (Fre.le2 k.heap)⟩
theorem Ev.cmp {l r : Expr} {op : CmpOp} {pos : Pos} {a b : D} {c : Bool} (x : Ev C n sc ρ l a) (y : Ev C n sc ρ r b) (z : Co C n op a b c) (hm : behindInMarks op r = false := by with_unfolding_all rfl) : Ev C n sc ρ (.Compare l [op] [r] pos) (.bool c) := by
  intro A s V env he hA rd
  refine wpAny_Compare1 (two he hA rd x y fun v₁ v₂ s₂ k a₁ a₂ r₂ => ?_) hm
  refine wpAny_mono (z A s₂ (Fre V s.heap) v₁ v₂ hA r₂.base a₁ a₂) (fun v s₃ h₃ => ?_) fun _ _ f => f
  obtain ⟨k₃, rfl⟩ := h₃
  exact ⟨k.trans k₃, .bool _⟩
theorem Tr.cmp {l r : Expr} {op : CmpOp} {pos : Pos} {a b : D} {c : Bool} (x : Ev C n sc ρ l a) (y : Ev C n sc ρ r b) (z : Co C n op a b c) (hm : behindInMarks op r = false := by with_unfolding_all rfl) : Tr C n sc ρ (.Compare l [op] [r] pos) c := by
  intro A s V env he hA rd
  refine wpAny_isTrue_Compare1 (two he hA rd x y fun v₁ v₂ s₂ k a₁ a₂ r₂ => ?_) hm
  refine wpAny_mono (z A s₂ (Fre V s.heap) v₁ v₂ hA r₂.base a₁ a₂) (fun v s₃ h₃ => ?_) fun _ _ f => f
  obtain ⟨k₃, rfl⟩ := h₃
  exact wpAny_truthy_bool ⟨k.trans k₃, rfl⟩
theorem Ev.ifT {t b o : Expr} {pos : Pos} {d : D} (x : Tr C n sc ρ t true) (y : Ev C n sc ρ b d) : Ev C n sc ρ (.IfExp t b o pos) d := by
  intro A s V env he hA rd
  show wpAny C.M A (do if ← isTrue t env (eval t env) then eval b env else eval o env) _ _ s
  refine wpAny_bind (wpAny_mono (x A s V env he hA rd) (fun v s₁ h₁ => ?_) fun _ _ f => f)
  obtain ⟨k, rfl⟩ := h₁
  exact wpAny_mono (y A s₁ V env he hA (rd.keeps k.heap fun _ q => q)) (fun v s₂ h₂ => ⟨k.trans h₂.1, h₂.2.wider (Fre.le k.heap)⟩) fun _ _ f => f
theorem Ev.ifF {t b o : Expr} {pos : Pos} {d : D} (x : Tr C n sc ρ t false) (y : Ev C n sc ρ o d) : Ev C n sc ρ (.IfExp t b o pos) d := by
  intro A s V env he hA rd
  show wpAny C.M A (do if ← isTrue t env (eval t env) then eval b env else eval o env) _ _ s
  refine wpAny_bind (wpAny_mono (x A s V env he hA rd) (fun v s₁ h₁ => ?_) fun _ _ f => f)
  obtain ⟨k, rfl⟩ := h₁
  exact wpAny_mono (y A s₁ V env he hA (rd.keeps k.heap fun _ q => q)) (fun v s₂ h₂ => ⟨k.trans h₂.1, h₂.2.wider (Fre.le k.heap)⟩) fun _ _ f => f

/-! ints -/
section
variable {a b : Int}
theorem Bo.add : Bo C n .Add (.int a) (.int b) (.int (a + b)) := by
  intro A s V v₁ v₂ hA _ x y; cases x; cases y; exact add_int ⟨.toks, .int _ _⟩
theorem Bo.sub : Bo C n .Sub (.int a) (.int b) (.int (a - b)) := by
  intro A s V v₁ v₂ hA _ x y; cases x; cases y; exact sub_int' ⟨.toks, .int _ _⟩
theorem Bo.mul (h : IntMulOk a b) : Bo C n .Mult (.int a) (.int b) (.int (a * b)) := by
  intro A s V v₁ v₂ hA _ x y; cases x; cases y; exact mul_int ⟨.toks, .int _ _⟩ h
theorem Bo.fdiv (h : b ≠ 0) (h2 : Builtin.divisionGoesByPylong a b = false) : Bo C n .FloorDiv (.int a) (.int b) (.int (Int.fdiv a b)) := by
  intro A s V v₁ v₂ hA _ x y; cases x; cases y; exact floordiv_int h ⟨.toks, .int _ _⟩ (.inl h2)
theorem Bo.fmod (h : b ≠ 0) : Bo C n .Mod (.int a) (.int b) (.int (Int.fmod a b)) := by
  intro A s V v₁ v₂ hA _ x y; cases x; cases y; exact mod_int' h ⟨.toks, .int _ _⟩
theorem Bo.pow (h : 0 ≤ b) (h2 : (Builtin.Int.intBits a : Int) * b ≤ 2 ^ 27) : Bo C n .Pow (.int a) (.int b) (.int (a ^ b.toNat)) := by
  intro A s V v₁ v₂ hA _ x y; cases x; cases y; exact pow_int h h2 ⟨.toks, .int _ _⟩
theorem Bo.shl (h : 0 ≤ b) (h1 : b ≤ 1000000) (h2 : a.natAbs < 2 ^ 64) : Bo C n .LShift (.int a) (.int b) (.int (a * 2 ^ b.toNat)) := by
  intro A s V v₁ v₂ hA _ x y; cases x; cases y; exact lshift_int_small h h1 h2 ⟨.toks, .int _ _⟩
theorem Bo.shr (h : 0 ≤ b) : Bo C n .RShift (.int a) (.int b) (.int (a.fdiv (2 ^ b.toNat))) := by
  intro A s V v₁ v₂ hA _ x y; cases x; cases y; exact rshift_int h ⟨.toks, .int _ _⟩
theorem Bo.band : Bo C n .BitAnd (.int a) (.int b) (.int (Builtin.bitAnd a b)) := by
  intro A s V v₁ v₂ hA _ x y; cases x; cases y; exact and_int ⟨.toks, .int _ _⟩
theorem Bo.bor : Bo C n .BitOr (.int a) (.int b) (.int (Builtin.bitOr a b)) := by
  intro A s V v₁ v₂ hA _ x y; cases x; cases y; exact or_int ⟨.toks, .int _ _⟩
theorem Bo.bxor : Bo C n .BitXor (.int a) (.int b) (.int (Builtin.bitXor a b)) := by
  intro A s V v₁ v₂ hA _ x y; cases x; cases y; exact xor_int ⟨.toks, .int _ _⟩
theorem Bo.truediv (h : ¬(b == 0) = true) (h1 : ¬Float64.isInf (Float64.ofFrac (decide (a < 0) != decide (b < 0)) a.natAbs b.natAbs) = true) : Bo C n .Div (.int a) (.int b) (.float (Float64.ofFrac (decide (a < 0) != decide (b < 0)) a.natAbs b.natAbs)) := by
  intro A s V v₁ v₂ hA _ x y; cases x; cases y
  exact AutoIntOps.truediv_2 h h1 ⟨.toks, .float _ _⟩
theorem Co.eq : Co C n .Eq (.int a) (.int b) (a == b) := by
  intro A s V v₁ v₂ hA _ x y; cases x; cases y; exact eq_int ⟨.refl, rfl⟩
theorem Co.ne : Co C n .NotEq (.int a) (.int b) (a != b) := by
  intro A s V v₁ v₂ hA _ x y; cases x; cases y; exact ne_int ⟨.refl, rfl⟩
theorem Co.lt : Co C n .Lt (.int a) (.int b) (decide (a < b)) := by
  intro A s V v₁ v₂ hA _ x y; cases x; cases y; exact lt_int ⟨.refl, rfl⟩
theorem Co.gt : Co C n .Gt (.int a) (.int b) (decide (b < a)) := by
  intro A s V v₁ v₂ hA _ x y; cases x; cases y; exact gt_int ⟨.refl, rfl⟩
theorem Co.le : Co C n .LtE (.int a) (.int b) (decide (a ≤ b)) := by
  intro A s V v₁ v₂ hA _ x y; cases x; cases y; exact PySem.P.le_int ⟨.refl, rfl⟩
theorem Co.ge : Co C n .GtE (.int a) (.int b) (decide (a ≥ b)) := by
  intro A s V v₁ v₂ hA _ x y; cases x; cases y; exact PySem.P.ge_int ⟨.refl, rfl⟩
theorem Co.eqf {a b : UInt64} : Co C n .Eq (.float a) (.float b) (Float64.cmp a b == some Ordering.eq) := by
  intro A s V v₁ v₂ hA _ x y; cases x; cases y; exact AutoFloatOps.eq_0 ⟨.refl, rfl⟩
end

/-! displays -/
theorem newList_at {vs : List Value} {ds : List D} {A : Around} {s : Shared} {V : Addr → Prop} (h : Ats s.heap V vs ds) (hz : ds.length ≤ sizeLine) :
    wpAny C.M A (newList vs) (fun v s' => Ke C.g s s' ∧ At s'.heap (Fre V s.heap) v (.list ds)) (fun _ _ => False) s := by
  refine wpAny_newObj_type ?_ (by show vs.toArray.size ≤ sizeLine; rw [List.size_toArray, h.length]; exact hz)
  exact ⟨.mkh (.push _), .list (.inr (Heap.get?_none_of_le (Nat.le_refl _))) ⟨0, Heap.get?_push_size _ rfl⟩ ((KeU.push (g := C.g) _).ats Fre.sub h)⟩
theorem newTuple_at {vs : List Value} {ds : List D} {A : Around} {s : Shared} {V : Addr → Prop} (h : Ats s.heap V vs ds) (hz : ds.length ≤ sizeLine) :
    wpAny C.M A (newTuple vs) (fun v s' => Ke C.g s s' ∧ At s'.heap (Fre V s.heap) v (.tuple ds)) (fun _ _ => False) s := by
  refine wpAny_newObj_type ?_ (by show vs.toArray.size ≤ sizeLine; rw [List.size_toArray, h.length]; exact hz)
  exact ⟨.mkh (.push _), .tuple (.inr (Heap.get?_none_of_le (Nat.le_refl _))) ⟨_, Heap.get?_push_size _ rfl, rfl, 0, rfl⟩ ((KeU.push (g := C.g) _).ats Fre.sub h)⟩
theorem Ev.list {es : List Expr} {pos : Pos} {ds : List D} (x : Evs C n sc ρ es ds) (hz : ds.length ≤ 1000 := by decide) : Ev C n sc ρ (.List es pos) (.list ds) := by
  intro A s V env he hA rd
  refine List_ (wpAny_mono (x A s V env pos he hA rd) (fun vs s₁ h₁ => ?_) fun _ _ f => f)
  exact wpAny_mono (newList_at h₁.2 (by unfold sizeLine; omega)) (fun v s₂ h₂ => ⟨h₁.1.trans h₂.1, h₂.2.wider (Fre.le2 h₁.1.heap)⟩) fun _ _ f => f
theorem Ev.tuple {es : List Expr} {k : Nat} {pos : Pos} {ds : List D} (x : Evs C n sc ρ es ds) (hz : ds.length ≤ 1000 := by decide) : Ev C n sc ρ (.Tuple es k pos) (.tuple ds) := by
  intro A s V env he hA rd
  refine Tuple_ (wpAny_mono (x A s V env pos he hA rd) (fun vs s₁ h₁ => ?_) fun _ _ f => f)
  exact wpAny_mono (newTuple_at h₁.2 (by unfold sizeLine; omega)) (fun v s₂ h₂ => ⟨h₁.1.trans h₂.1, h₂.2.wider (Fre.le2 h₁.1.heap)⟩) fun _ _ f => f

/-! items -/
noncomputable def Su (C : Cfg) (n : Nat) (value slice : Expr) (a i d : D) : Prop :=
  ∀ A s V v₁ v₂, AOK n A → At s.heap V v₁ a → At s.heap V v₂ i →
    wpAny C.M A (subscriptTail value slice v₁ v₂) (fun v s' => Ke C.g s s' ∧ At s'.heap (Fre V s.heap) v d) (fun _ _ => False) s
theorem Ev.sub {value slice : Expr} {pos : Pos} {a i d : D} (x : Ev C n sc ρ value a) (y : Ev C n sc ρ slice i) (z : Su C n value slice a i d) : Ev C n sc ρ (.Subscript value slice pos) d := by
  intro A s V env he hA rd
  refine Subscript_ (two he hA rd x y fun v₁ v₂ s₂ k a₁ a₂ r₂ => ?_)
  refine wpAny_mono (z A s₂ (Fre V s.heap) v₁ v₂ hA a₁ a₂) (fun v s₃ h₃ => ?_) fun _ _ f => f
  exact ⟨k.trans h₃.1, h₃.2.wider (Fre.le2 k.heap)⟩
theorem Su.list {value slice : Expr} {ds : List D} {i : Int} {d : D} (h0 : 0 ≤ i) (hi : i < 2 ^ 63) (hx : ds[i.toNat]? = some d)
    (hs : ∀ o i, subscripted slice false o i = operate [o, i] (getItem o i) := by intro _ _; with_unfolding_all rfl) : Su C n value slice (.list ds) (.int i) d := by
  intro A s V v₁ v₂ hA x y
  cases x with
  | list hv hl ha =>
    cases y
    obtain ⟨v, e, a⟩ := ha.get hx
    exact tail_any hl.isList.typeIs slot_list_getitem.lookup (wpAny_getItem_list hl.isList h0 hi (by simpa using e) ⟨.refl, a.wider Fre.sub⟩) (hs _ _)
theorem Su.tuple {value slice : Expr} {ds : List D} {i : Int} {d : D} (h0 : 0 ≤ i) (hi : i < 2 ^ 63) (hx : ds[i.toNat]? = some d)
    (hs : ∀ o i, subscripted slice false o i = operate [o, i] (getItem o i) := by intro _ _; with_unfolding_all rfl) : Su C n value slice (.tuple ds) (.int i) d := by
  intro A s V v₁ v₂ hA x y
  cases x with
  | tuple hv hl ha =>
    cases y
    rename_i vs t
    obtain ⟨v, e, a⟩ := ha.get hx
    have hlt : i.toNat < vs.length := (List.getElem?_eq_some_iff.mp e).1
    refine item_tupleT hl (by omega) hi (j := i.toNat) ?_ e ⟨.refl, a.wider Fre.sub⟩ (hs _ _)
    unfold seqIndex?
    simp only []
    rw [if_neg (show ¬ i < 0 by omega)]
    rw [if_pos (by simp only [Bool.and_eq_true, decide_eq_true_eq]; omega)]
end
end Mine
end

section
open PySem PySem.W PySem.Calls PyProof.Rows
namespace Mine

theorem closure_go (env : Env) (f : Str × NameKind → List (Str × Addr) → Sem (ForInStep (List (Str × Addr))))
    (hf : ∀ name kind cs, f (name, kind) cs = if kind == .free then (do let c ← cellOf env name; pure (.yield ((name, c) :: cs))) else pure (.yield cs)) :
    ∀ (names : List (Str × NameKind)) (acc : List (Str × Addr)), (∀ p ∈ names, p.2 = .free → ∃ c, env.cells.lookup p.1 = some c) →
      ∃ cl, (forIn names acc f : Sem _) = pure cl ∧ (∀ y c, (y, c) ∈ cl → (y, c) ∈ acc ∨ env.cells.lookup y = some c) ∧ (∀ y, (y, NameKind.free) ∈ names → ∃ c, (y, c) ∈ cl) ∧ ∀ q ∈ acc, q ∈ cl
  | [], acc, _ => ⟨acc, rfl, fun _ _ h => .inl h, fun _ h => (nomatch h), fun _ h => h⟩
  | (y, k) :: r, acc, h => by
    rw [List.forIn_cons, hf]
    by_cases hk : (k == .free) = true
    · rw [if_pos hk]
      obtain ⟨c, hc⟩ := h (y, k) (.head _) (beq_iff_eq.mp hk)
      obtain ⟨cl, e, a, b, d⟩ := closure_go env f hf r ((y, c) :: acc) fun p hp => h p (.tail _ hp)
      refine ⟨cl, ?_, fun z c' hm => ?_, fun z hz => ?_, fun q hq => d q (.tail _ hq)⟩
      · have : cellOf env y = pure c := by unfold cellOf; rw [hc]
        rw [this]; exact e
      · rcases a z c' hm with q | q
        · rcases List.mem_cons.mp q with q | q
          · cases q; exact .inr hc
          · exact .inl q
        · exact .inr q
      · rcases List.mem_cons.mp hz with q | q
        · cases q; exact ⟨c, d _ (.head _)⟩
        · exact b z q
    · rw [if_neg hk]
      obtain ⟨cl, e, a, b, d⟩ := closure_go env f hf r acc fun p hp => h p (.tail _ hp)
      refine ⟨cl, e, a, fun z hz => ?_, d⟩
      rcases List.mem_cons.mp hz with q | q
      · cases q; exact absurd rfl hk
      · exact b z q
theorem lookup_of_all {cl : List (Str × Addr)} {y : Str} {c₀ : Addr} (h : ∀ c, (y, c) ∈ cl → c = c₀) (hm : ∃ c, (y, c) ∈ cl) : cl.lookup y = some c₀ := by
  induction cl with
  | nil => obtain ⟨_, q⟩ := hm; cases q
  | cons p r ih =>
    obtain ⟨z, c⟩ := p
    rw [List.lookup_cons]
    by_cases hz : y = z
    · subst hz; simp only [beq_self_eq_true]; rw [h c (.head _)]
    · have : (y == z) = false := by simpa using hz
      rw [this]
      refine ih (fun c' hc => h c' (.tail _ hc)) ?_
      obtain ⟨c', q⟩ := hm
      rcases List.mem_cons.mp q with q | q
      · cases q; exact absurd rfl hz
      · exact ⟨c', q⟩
theorem closure_eq {scope : Scope} {env : Env} (h : ∀ p ∈ scope.names, p.2 = .free → ∃ c, env.cells.lookup p.1 = some c) :
    ∃ cl, closureFor scope env = pure cl ∧ ∀ y, (y, NameKind.free) ∈ scope.names → cl.lookup y = env.cells.lookup y := by
  simp only [closureFor]
  obtain ⟨cl, e, a, b, _⟩ := closure_go env (fun x cs => if x.2 == .free then (do let c ← cellOf env x.1; pure (.yield ((x.1, c) :: cs))) else pure (.yield cs)) (fun _ _ _ => rfl) scope.names [] h
  refine ⟨cl, ?_, fun y hy => ?_⟩
  · rw [e]; rfl
  · obtain ⟨c₀, hc₀⟩ := h (y, .free) hy rfl
    rw [hc₀]
    refine lookup_of_all (fun c hc => ?_) (b y hy)
    rcases a y c hc with q | q
    · cases q
    · rw [hc₀] at q; cases q; rfl

theorem cellsFrom_append : ∀ (names : List (Str × NameKind)) (n : Nat) (acc cl : List (Str × Addr)), cellsFrom n names (acc ++ cl) = cellsFrom n names acc ++ cl
  | [], _, _, _ => rfl
  | (y, k) :: r, n, acc, cl => by
    unfold cellsFrom
    split
    · exact cellsFrom_append r (n + 1) ((y, n) :: acc) cl
    · exact cellsFrom_append r n acc cl
theorem cellsFrom_not {x : Str} : ∀ (names : List (Str × NameKind)) (n : Nat) (acc : List (Str × Addr)), (∀ p ∈ names, p.2 = .cell → p.1 ≠ x) → acc.lookup x = none → (cellsFrom n names acc).lookup x = none
  | [], _, _, _, h => h
  | (y, k) :: r, n, acc, h, ha => by
    unfold cellsFrom
    split
    · rename_i hk
      refine cellsFrom_not r (n + 1) _ (fun p hp => h p (.tail _ hp)) ?_
      have : (x == y) = false := by simpa using fun e => h (y, k) (.head _) (beq_iff_eq.mp hk) e.symm
      rw [List.lookup_cons, this]; exact ha
    · exact cellsFrom_not r n acc (fun p hp => h p (.tail _ hp)) ha
theorem lookup_append {x : Str} {l l' : List (Str × Addr)} : (l ++ l').lookup x = match l.lookup x with | some c => some c | none => l'.lookup x := by
  induction l with
  | nil => rfl
  | cons p r ih =>
    obtain ⟨y, c⟩ := p
    rw [List.cons_append, List.lookup_cons, List.lookup_cons]
    cases x == y <;> simp [ih]

theorem wp_compEnv {M : Model} {A : Around} {E : Value → Shared → Prop} {s : Shared} {scope : Scope} {cl : List (Str × Addr)} {env : Env} {Q : Env → Shared → Prop}
    (hQ : Q { scope := scope, locals := s.heap.objs.size, globals := env.globals, cells := cellsFrom (s.heap.objs.size + 1) scope.names cl, qual := env.qual, func := none, code := env.code, frame := env.frame, builtins := env.builtins }
      { s with heap := pushCells (s.heap.push { cls := .type "dict", data := .dict #[] }) scope.names }) :
    wpAny M A (newFunctionEnv scope env.globals cl [] env.qual none .none (some env)) Q E s := by
  simp only [newFunctionEnv, Option.isSome_some, if_true]
  refine wpAny_bind (wpAny_alloc ?_)
  refine wpAny_bind (wpAny_layCells _ (fun name kind cells => by cases hkc : kind == NameKind.cell <;> simp [hkc]) _ _ _ _ ?_)
  rw [show ({ s with heap := s.heap.push { cls := .type "dict", data := .dict #[] } } : Shared).heap.objs.size = s.heap.objs.size + 1 from Heap.size_push ..]
  simp only [List.forIn_nil]
  exact wpAny_bind (wpAny_pure (wpAny_pure hQ))

/-- the names' kinds inside a comprehension -/
noncomputable def rel (scope sc : Scope) : Scope :=
  { scope with names := scope.names.map fun (n, k) => if (k == .free && sc.kind == .function && sc.names.lookup n == some .cell) then (n, .cell) else (n, k) }
theorem relabel_eq {scope sc : Scope} {env : Env} (he : env.scope = sc) : relabel scope env = rel scope sc := by
  subst he; rfl

/-- a thing to go through: these items come -/
noncomputable def It (C : Cfg) (n : Nat) (sc : Scope) (ρ : Rho) (e : Expr) (items : List D) : Prop :=
  ∀ A s V env, env.scope = sc → AOK n A → Rd C A s.heap V env ρ →
    wpAny C.M A (eval e env) (fun xv s₁ => wpAny C.M A (pyIter xv) (fun it s₂ => Ke C.g s s₂ ∧ ∃ I fp wr P St, it = .ref I ∧ Walks PySem.Challenge.rw_oy0148_01.row.prog C.w A I fp wr items.length P St ∧ St 0 s₂.heap ∧
      (∀ i h b, St i h → b ∈ fp → ∃ o, h.get? b = some o ∧ ∀ es k, o.data ≠ .dict es k) ∧
      (∀ i h b, St i h → b ∈ wr → ∃ o, h.get? b = some o ∧ ∃ fs, o.data = .fields fs) ∧ (∀ b ∈ wr, s.heap.get? b = none) ∧
      (∀ i v, P i v → ∃ d, items[i]? = some d ∧ At s₂.heap (Fre V s.heap) v d)) (fun _ _ => False) s₁) (fun _ _ => False) s

/-- the same, of things that come without a list -/
noncomputable def ItF (C : Cfg) (n : Nat) (sc : Scope) (ρ : Rho) (e : Expr) (items : List D) : Prop :=
  ∀ A s V env, env.scope = sc → AOK n A → Rd C A s.heap V env ρ →
    wpAny C.M A (eval e env) (fun xv s₁ => wpAny C.M A (pyIter xv) (fun it s₂ => Ke C.g s s₂ ∧ ∃ I wr P St, it = .ref I ∧ Walks PySem.Challenge.rw_oy0148_01.row.prog C.w A I wr wr items.length P St ∧ St 0 s₂.heap ∧
      (∀ i h b, St i h → b ∈ wr → ∃ o, h.get? b = some o ∧ ∃ fs, o.data = .fields fs) ∧ (∀ b ∈ wr, s.heap.get? b = none) ∧
      (∀ i v, P i v → ∃ d, items[i]? = some d ∧ At s₂.heap (Fre V s.heap) v d)) (fun _ _ => False) s₁) (fun _ _ => False) s
theorem ItF.it {C : Cfg} {n : Nat} {sc : Scope} {ρ : Rho} {e : Expr} {items : List D} (x : ItF C n sc ρ e items) : It C n sc ρ e items := by
  intro A s V env he hA rd
  refine wpAny_mono (x A s V env he hA rd) (fun xv s₁ h₁ => wpAny_mono h₁ (fun it s₂ h₂ => ?_) fun _ _ f => f) fun _ _ f => f
  obtain ⟨k, I, wr, P, St, a, b, c, d, e, f⟩ := h₂
  exact ⟨k, I, wr, wr, P, St, a, b, c, fun i h b q hb => by obtain ⟨o, e, fs, dd⟩ := d i h b q hb; exact ⟨o, e, by rw [dd]; intro _ _ q; cases q⟩, d, e, f⟩

/-- the tests of a comprehension -/
noncomputable def Trs (C : Cfg) (n : Nat) (sc : Scope) (ρ : Rho) (ifs : List Expr) (b : Bool) : Prop :=
  ∀ A s V env, env.scope = sc → AOK n A → Rd C A s.heap V env ρ →
    wpAny C.M A (forIn ifs true fun c r => if r = true then do let ok ← isTrue c env (eval c env); pure (ForInStep.yield ok) else pure (ForInStep.yield r)) (fun v s' => Ke C.g s s' ∧ v = b) (fun _ _ => False) s
theorem Trs.nil {C : Cfg} {n : Nat} {sc : Scope} {ρ : Rho} : Trs C n sc ρ [] true := fun _ _ _ _ _ _ _ => by rw [List.forIn_nil]; exact wpAny_pure ⟨.refl, rfl⟩
theorem Trs.one {C : Cfg} {n : Nat} {sc : Scope} {ρ : Rho} {e : Expr} {b : Bool} (x : Tr C n sc ρ e b) : Trs C n sc ρ [e] b := by
  intro A s V env he hA rd
  rw [List.forIn_cons]
  simp only [if_true, List.forIn_nil]
  exact wpAny_bind (wpAny_bind (wpAny_mono (x A s V env he hA rd) (fun v s₁ h₁ => wpAny_pure (wpAny_pure h₁)) fun _ _ f => f))

theorem filterMap_take {keep : D → Bool} {out : D → D} {items : List D} {i : Nat} {d : D} (h : items[i]? = some d) :
    ((items.take (i + 1)).filter keep).map out = ((items.take i).filter keep).map out ++ (if keep d then [out d] else []) := by
  rw [List.take_add_one, h, List.filter_append, List.map_append]
  simp only [Option.toList_some, List.filter_cons, List.filter_nil]
  split <;> rfl

section
variable {C : Cfg} {n : Nat} {sc : Scope} {ρ : Rho}

theorem comp_core {elt iter : Expr} {x : Str} {px : Pos} {ifs : List Expr} {scope : Scope} {pos p0 : Pos} {items : List D} {keep : D → Bool} {out : D → D} {ρ' : Rho} {use : Option (Value → Sem Unit)} {Q : Value → Shared → Prop}
    {A : Around} {s : Shared} {V : Addr → Prop} {env : Env} (he : env.scope = sc) (hA : AOK n A) (rd : Rd C A s.heap V env ρ)
    (hit : It C n sc ρ iter items) (hkind : scope.kind = .function) (hx : scope.names.lookup x = some .local ∨ (scope.names.lookup x = some .cell ∧ ∀ p ∈ scope.names, p.1 = x → p.2 = .cell))
    (hnames : ∀ y ∈ scope.names, y.2 = .local → scope.names.lookup y.1 = some .local)
    (hfree : ∀ p ∈ scope.names, p.2 = .free → (sc.names.lookup p.1 = some .cell ∨ sc.names.lookup p.1 = some .free) ∧ ∃ d, ρ.lookup p.1 = some d)
    (hρ : ∀ y d, ρ'.lookup y = some d → y ≠ x ∧ (y, NameKind.free) ∈ scope.names ∧ (∀ p ∈ scope.names, p.2 = .cell → p.1 ≠ y) ∧ ((rel scope sc).names.lookup y = some .cell ∨ (rel scope sc).names.lookup y = some .free) ∧ ρ.lookup y = some d)
    (htest : ∀ d ∈ items, Trs C n (rel scope sc) ((x, d) :: ρ') ifs (keep d))
    (helt : ∀ d ∈ items, keep d = true → Ev C n (rel scope sc) ((x, d) :: ρ') elt (out d))
    (hlen : items.length ≤ 1000) (hs : ∀ env x, foldedSetIterable iter env x = pure x)
    (hpost : ∀ DA CA h' tk m, KeU C.g s.heap h' → At h' (Fre V s.heap) (.ref DA) (.list ((items.filter keep).map out)) → h'.Ns CA m → s.heap.get? CA = none →
      compPost C.M A (fun _ _ => False) use Q (.ref DA) CA (.ok .next) { s with heap := h', toks := tk }) :
    wpAny C.M A (comprehension (.ListComp elt [⟨.Name x px, iter, ifs, 0⟩] scope pos) scope env p0 (newList []) false (eval iter env) use) Q (fun _ _ => False) s := by
  obtain ⟨cl, hcl, hclk⟩ := closure_eq (scope := scope) (env := env) fun p hp hf => by
    obtain ⟨hk, d, hd⟩ := hfree p hp hf
    obtain ⟨v, _, l⟩ := rd.names p.1 d hd
    rcases l with ⟨l, _⟩ | ⟨_, c, hc, _⟩
    · have l' : sc.names.lookup p.1 = some .local := by rw [← he]; exact l
      rcases hk with q | q <;> rw [l'] at q <;> cases q
    · exact ⟨c, hc⟩
  refine wpAny_comprehension_free rfl (hs env) hcl hkind hnames ?_
  refine wpAny_mono (hit A s V env he hA rd) (fun xv s₁ h₁ => wpAny_mono h₁ (fun it s₂ h₂ => ?_) fun _ _ f => f) fun _ _ f => f
  obtain ⟨ke₂, I, fp, wr, P, St, rfl, W, st0, hfp, hwf, hwn, hP⟩ := h₂
  have hwq : ∀ i h b, St i h → b ∈ wr → ∃ o, h.get? b = some o ∧ ∀ xs k, o.data ≠ .seq xs k := fun i h b q hb => by
    obtain ⟨o, e, fs, d⟩ := hwf i h b q hb; exact ⟨o, e, by rw [d]; intro _ _ q; cases q⟩
  refine wpAny_newObj_type (wp_compEnv ?_)
  dsimp only
  have k₂ := ke₂.heap
  obtain ⟨h₂, t₂, rfl, _⟩ := ke₂
  dsimp only at *
  have hwr : ∀ b ∈ wr, s.heap.get? b = none ∧ ∃ o, h₂.get? b = some o ∧ ∀ xs k, o.data ≠ .seq xs k := fun b hb => ⟨hwn b hb, hwq 0 h₂ b st0 hb⟩
  -- the addresses
  generalize hDA : h₂.objs.size = DA
  generalize hH3 : h₂.push { cls := .type "list", dict := none, data := .seq ([] : List Value).toArray } = h₃
  have hsz3 : h₃.objs.size = DA + 1 := by rw [← hH3, Heap.size_push, hDA]
  rw [hsz3]
  generalize hCA : DA + 1 = CA
  have n₂ : ∀ a, DA ≤ a → h₂.get? a = none := fun a ha => Heap.get?_none_of_le (by rw [hDA]; exact ha)
  have old₂ : ∀ b o, h₂.get? b = some o → b < DA := fun b o e => hDA ▸ Heap.lt_size e
  generalize hH4 : pushCells (h₃.push { cls := .type "dict", data := .dict #[] }) scope.names = h₄
  have k24 : ∀ b o, h₂.get? b = some o → h₄.get? b = some o := fun b o e => by
    rw [← hH4]; refine pushCells_keeps _ _ _ _ (Heap.get?_push_of_some _ ?_)
    rw [← hH3]; exact Heap.get?_push_of_some _ e
  have hns4 : h₄.Ns CA (fun _ => none) := by
    rw [← hH4, ← hCA, ← hsz3]; exact (Heap.Ns.new h₃ (.type "dict")).keeps (pushCells_keeps _ _)
  have hacc4 : h₄.PlainList DA #[] := by
    refine ⟨0, ?_⟩
    rw [← hH4]; refine pushCells_keeps _ _ _ _ (Heap.get?_push_of_some _ ?_)
    rw [← hH3, ← hDA]; exact Heap.get?_push_size _ rfl
  have hok := cellsFrom_ok scope.names (h₃.push { cls := .type "dict", data := .dict #[] }) (CA + 1) [] ⟨fun _ _ hm => (nomatch hm), List.Pairwise.nil⟩ (by rw [Heap.size_push, hsz3, hCA]; exact Nat.le_refl _)
  rw [hH4, Heap.size_push, hsz3, hCA] at hok
  have hcells : cellsFrom (CA + 1) scope.names cl = cellsFrom (CA + 1) scope.names [] ++ cl := cellsFrom_append scope.names (CA + 1) [] cl
  rw [hcells]
  rw [relabel_eq he]
  generalize hce : ({ scope := rel scope sc, locals := CA, globals := env.globals, cells := cellsFrom (CA + 1) scope.names [] ++ cl, qual := env.qual, func := none, code := env.code, frame := env.frame, builtins := env.builtins } : Env) = cenv
  have hcs : cenv.scope = rel scope sc := by rw [← hce]
  have hcL : cenv.locals = CA := by rw [← hce]
  have hcc : cenv.cells = cellsFrom (CA + 1) scope.names [] ++ cl := by rw [← hce]
  have hck : cenv.scope.kind = .function := by rw [hcs]; exact hkind
  have hCD : DA ≠ CA := by omega
  -- the frames stand
  have fr₂ : FrOK C.g A h₂ := rd.frames.keeps k₂
  have fr₄ : FrOK C.g A h₄ := fr₂.keeps (.of k24)
  -- the state of the loop
  let VV : Addr → Prop := fun a => Fre V s.heap a ∧ a ≠ DA
  have toVV : ∀ {h v d}, At h₂ (Fre V s.heap) v d → (∀ b o, h₂.get? b = some o → b ∉ wr → (∀ es k, o.data ≠ .dict es k) → h.get? b = some o) → At h VV v d := by
    intro h v d q hk
    refine q.mono fun a o hv e hsq => ?_
    obtain ⟨xs, k, dd⟩ := hsq
    have : a ∉ wr := fun hm => by obtain ⟨_, o', e', nd⟩ := hwr a hm; rw [e] at e'; cases e'; exact nd _ _ dd
    exact ⟨⟨hv, Nat.ne_of_lt (old₂ a o e)⟩, hk a o e this (by rw [dd]; intro _ _ q; cases q)⟩
  -- what is kept of what stood behind the iterator
  let KK : Heap → Prop := fun h => ∀ b o, b ∉ wr → h₂.get? b = some o → ∃ o', h.get? b = some o' ∧ ObjLe C.g b o o'
  have exact_of : ∀ {h}, KK h → ∀ b o, h₂.get? b = some o → b ∉ wr → (∀ es k, o.data ≠ .dict es k) → h.get? b = some o := by
    intro h kk b o e hb nd
    obtain ⟨o', e', l⟩ := kk b o hb e
    rcases l with rfl | ⟨_, ⟨es, k, q⟩, _⟩
    · exact e'
    · exact absurd q (nd es k)
  have names₂ : ∀ y d, ρ'.lookup y = some d → ∃ v c, At h₂ (Fre V s.heap) v d ∧ cenv.cells.lookup y = some c ∧ h₂.IsCell c (some v) := by
    intro y d e
    obtain ⟨_, hf, hnc, _, hl⟩ := hρ y d e
    obtain ⟨v, a, l⟩ := rd.names y d hl
    obtain ⟨hk, _⟩ := hfree (y, .free) hf rfl
    rcases l with ⟨l, _⟩ | ⟨_, c, hc, hcell⟩
    · have l' : sc.names.lookup y = some .local := by rw [← he]; exact l
      rcases hk with q | q <;> rw [l'] at q <;> cases q
    · refine ⟨v, c, k₂.at Fre.sub a, ?_, k₂.isCell hcell⟩
      rw [hcc, lookup_append, cellsFrom_not _ _ _ hnc rfl, hclk y hf]; exact hc
  -- the reading state at a turn
  have mkRd : ∀ {h d}, (KK h) → FrOK C.g A h → Lk h cenv x = Lk h cenv x → ∀ v, At h VV v d → Lk h cenv x v → Rd C A h VV cenv ((x, d) :: ρ') := by
    intro h d kk fr _ v a l
    refine ⟨fun b o e => ?_, hck, by rw [← hce]; exact rd.globals, by rw [← hce]; exact rd.builtins, fun y dd e => ?_, fr⟩
    · have e₂ := k₂.base rd.base b o e
      have hb : b ∉ wr := fun hm => by have := (hwr b hm).1; rw [rd.base b o e] at this; cases this
      obtain ⟨o', e', l'⟩ := kk b o hb e₂
      rcases l' with rfl | ⟨q, _⟩
      · exact e'
      · rw [e] at q; cases q
    · by_cases hy : y = x
      · subst hy; rw [lookup_cons_self] at e; cases e; exact ⟨v, a, l⟩
      · rw [lookup_cons_ne hy] at e
        obtain ⟨u, c, a', hc, o, eo, hd⟩ := names₂ y dd e
        have hcw : c ∉ wr := fun hm => by
          obtain ⟨hn, _⟩ := hwr c hm
          obtain ⟨_, hf, _, _, hl⟩ := hρ y dd e
          obtain ⟨u', _, l'⟩ := rd.names y dd hl
          obtain ⟨hk, _⟩ := hfree (y, .free) hf rfl
          rcases l' with ⟨l', _⟩ | ⟨_, c', hc', o', eo', _⟩
          · have l'' : sc.names.lookup y = some .local := by rw [← he]; exact l'
            rcases hk with q | q <;> rw [l''] at q <;> cases q
          · have : cenv.cells.lookup y = some c' := by rw [hcc, lookup_append, cellsFrom_not _ _ _ (hρ y dd e).2.2.1 rfl, hclk y hf]; exact hc'
            rw [hc] at this; cases this
            rw [hn] at eo'; cases eo'
        refine ⟨u, toVV a' (exact_of kk), .inr ⟨?_, c, hc, o, exact_of kk c o eo hcw (by rw [hd]; intro _ _ q; cases q), hd⟩⟩
        obtain ⟨_, _, _, hk, _⟩ := hρ y dd e
        unfold Env.kindOf; rw [hcs]; exact hk
  have frOf : ∀ {h}, KK h → FrOK C.g A h := by
    intro h kk
    obtain ⟨outer, e, H⟩ := fr₂
    refine ⟨outer, e, fun en hen => ?_⟩
    obtain ⟨q1, L, o, q2, q3, q4, es, k, q5⟩ := H en hen
    have hw : L ∉ wr := fun hw => by
      obtain ⟨o', e', nd⟩ := hfp 0 h₂ L st0 (W.sub _ hw)
      rw [q4] at e'; cases e'; exact nd es k q5
    obtain ⟨o', e', l⟩ := kk L o hw q4
    exact ⟨q1, L, o', q2, q3, e', es, k, l.data.trans q5⟩
  have hDfp : DA ∉ fp := fun hb => by
    obtain ⟨o, e, _⟩ := hfp 0 h₂ DA st0 hb; rw [n₂ DA (Nat.le_refl _)] at e; cases e
  have hCfp : CA ∉ fp := fun hb => by
    obtain ⟨o, e, _⟩ := hfp 0 h₂ CA st0 hb; rw [n₂ CA (by omega)] at e; cases e
  let mut' : Addr → Prop := fun b => b = CA ∨ cenv.cells.lookup x = some b ∧ scope.names.lookup x = some .cell
  have hmc : scope.names.lookup x = some .cell → ∃ c, cenv.cells.lookup x = some c ∧ (cellsFrom (CA + 1) scope.names []).lookup x = some c := fun hx' => by
    obtain ⟨c, hc⟩ := Option.isSome_iff_exists.mp (cellsFrom_some (x := x) scope.names (CA + 1) [] (.inl hx'))
    exact ⟨c, by rw [hcc, lookup_append, hc], hc⟩
  have hmge : ∀ b, mut' b → CA ≤ b := by
    rintro b (rfl | ⟨e, hx'⟩)
    · exact Nat.le_refl _
    · obtain ⟨c, e', hc⟩ := hmc hx'
      rw [e] at e'; cases e'
      exact Nat.le_of_lt (hok.empty x b (mem_of_lookup hc)).2
  have hmfp : ∀ b, mut' b → b ∉ fp := fun b hm hb => by
    have := hmge b hm
    obtain ⟨o, e, _⟩ := hfp 0 h₂ b st0 hb; rw [n₂ b (by omega)] at e; cases e
  have hDw : DA ∉ wr := fun q => hDfp (W.sub _ q)
  have hCw : CA ∉ wr := fun q => hCfp (W.sub _ q)
  -- what holds of what a turn stores into
  let MM : Heap → Prop := fun h => (∃ m, h.Ns CA m) ∧ ∀ c, cenv.cells.lookup x = some c → scope.names.lookup x = some .cell → ∃ v, h.IsCell c v
  have store : ∀ (v : Value) (h : Heap) (tk : Nat) (Q' : Unit → Shared → Prop) (E' : Value → Shared → Prop), MM h →
      (∀ h' tk', Lk h' cenv x v → MM h' → (∀ b o, ¬ mut' b → h.get? b = some o → h'.get? b = some o) → Q' () { s with heap := h', toks := tk' }) → wpAny C.M A (storeName cenv x v) Q' E' { s with heap := h, toks := tk } := by
    rintro v h tk Q' E' ⟨⟨m, hm⟩, hce'⟩ hq
    have hxk : (rel scope sc).names.lookup x = some .local ∨ ((rel scope sc).names.lookup x = some .cell ∧ scope.names.lookup x = some .cell) := by
      rcases hx with q | ⟨q, q'⟩
      · left
        have := lookup_relabel_local (env := env) q
        rw [← relabel_eq (scope := scope) he]; exact this
      · right
        refine ⟨?_, q⟩
        have : ∀ (l : List (Str × NameKind)), l.lookup x = some .cell → (∀ p ∈ l, p.1 = x → p.2 = .cell) →
            (l.map fun (n, k) => if (k == .free && sc.kind == .function && sc.names.lookup n == some .cell) then (n, NameKind.cell) else (n, k)).lookup x = some .cell := by
          intro l
          induction l with
          | nil => intro h; simp at h
          | cons p r ih =>
            obtain ⟨y, k⟩ := p
            intro hl hp
            rw [List.map_cons]
            by_cases hy : x = y
            · subst hy
              have hk : k = .cell := hp (x, k) (.head _) rfl
              subst hk
              simp [List.lookup_cons]
            · have hy' : (x == y) = false := by simpa using hy
              rw [List.lookup_cons, hy'] at hl
              have := ih hl fun p hp' => hp p (.tail _ hp')
              dsimp only
              split <;> (rw [List.lookup_cons, hy']; exact this)
        exact this scope.names q q'
    rcases hxk with hxk | ⟨hxk, hx'⟩
    · have hk : cenv.kindOf x = some .local := by unfold Env.kindOf; rw [hcs]; exact hxk
      refine wpAny_storeName_local hk (by rw [hcL]; exact hm) (fun h' hn hs' => ?_) (by rw [hck]; rfl)
      rw [hcL] at hn hs'
      refine hq h' _ (.inl ⟨hk, _, by rw [hcL]; exact hn, by simp⟩) ⟨⟨_, hn⟩, fun c hc hx' => ?_⟩ fun b o hb e => hs'.extBut b o (fun q => hb (.inl q)) e
      obtain ⟨u, hu⟩ := hce' c hc hx'
      refine ⟨u, hu.sameBut hs' fun q => ?_⟩
      have := hmge c (.inr ⟨hc, hx'⟩)
      obtain ⟨c', e', hc'⟩ := hmc hx'
      rw [hc] at e'; cases e'
      have := (hok.empty x c (mem_of_lookup hc')).2
      exact absurd q (Nat.ne_of_gt this)
    · have hk : cenv.kindOf x = some .cell := by unfold Env.kindOf; rw [hcs]; exact hxk
      obtain ⟨c, hc, hc'⟩ := hmc hx'
      obtain ⟨u, hu⟩ := hce' c hc hx'
      have hlt := (hok.empty x c (mem_of_lookup hc')).2
      refine wpAny_storeName_cell hck hk hc hu fun h' hn hs' => ?_
      refine hq h' _ (.inr ⟨.inl hk, c, hc, hn⟩) ⟨⟨m, hm.sameBut hs' (Nat.ne_of_lt hlt)⟩, fun c₂ hc₂ _ => ?_⟩ fun b o hb e => hs'.extBut b o (fun q => hb (.inr ⟨by rw [q]; exact hc, hx'⟩)) e
      rw [hc] at hc₂; cases hc₂; exact ⟨_, hn⟩
  -- the loop
  have loop : ∀ t₄, codeAny C.M A (.compLoop (.ListComp elt [⟨.Name x px, iter, ifs, 0⟩] scope pos) 0 (.ref I) (.ref DA) cenv) (compPost C.M A (fun _ _ => False) use Q (.ref DA) CA) { s with heap := h₄, toks := t₄ } := by
    intro t₄
    refine codeAny_compLoop_tests
      (fun k s' => ∃ h tk i ys, s' = { s with heap := h, toks := tk } ∧ St i h ∧ i ≤ items.length ∧ k = items.length + 1 - i ∧ KK h ∧ MM h ∧ h.PlainList DA ys ∧ Ats h VV ys.toList (((items.take i).filter keep).map out)) ?_ (items.length + 1) ?_
    · rintro k s' ⟨h, tk, i, ys, rfl, hst, hi, rfl, kk, mm, hl, hys⟩
      by_cases hlt : i < items.length
      · refine W.item i _ _ _ hlt hst fun v h₅ tk₅ hPv hst₅ hk₅ => ?_
        obtain ⟨d, hd, had⟩ := hP i v hPv
        have hdm : d ∈ items := List.mem_of_getElem? hd
        have kk₅ : KK h₅ := fun b o hb e => by obtain ⟨o', e', l⟩ := kk b o hb e; exact ⟨o', hk₅ b o' hb e', l⟩
        have mm₅ : MM h₅ := by
          obtain ⟨⟨m, hm⟩, hc⟩ := mm
          refine ⟨⟨m, hm.at' fun o e => hk₅ _ o hCw e⟩, fun c e hx' => ?_⟩
          obtain ⟨u, o, eo, hd⟩ := hc c e hx'
          exact ⟨u, o, hk₅ c o (fun hw => hmfp c (.inr ⟨e, hx'⟩) (W.sub _ hw)) eo, hd⟩
        have hl₅ : h₅.PlainList DA ys := hl.at fun o e => hk₅ _ o hDw e
        have hys₅ : Ats h₅ VV ys.toList (((items.take i).filter keep).map out) := by
          refine hys.mono fun a o hv e hsq => ⟨hv, hk₅ a o (fun hw => ?_) e⟩
          obtain ⟨o', e', nd⟩ := hwq i h a hst hw
          obtain ⟨_, _, d2⟩ := hsq
          rw [e'] at e; cases e; exact nd _ _ d2
        refine wpAny_assign_Name (store v h₅ tk₅ _ _ mm₅ fun h₆ tk₆ lk₆ mm₆ hk₆ => ?_)
        have kk₆ : KK h₆ := fun b o hb e => by
          obtain ⟨o', e', l⟩ := kk₅ b o hb e
          exact ⟨o', hk₆ b o' (fun hm => absurd (Nat.lt_of_lt_of_le (old₂ b o e) (Nat.le_trans (by omega) (hmge b hm))) (Nat.lt_irrefl _)) e', l⟩
        have nm : ∀ {a o}, MM h₅ → h₅.get? a = some o → (∃ xs k, o.data = .seq xs k) → ¬ mut' a := by
          rintro a o ⟨⟨m, om, es, k, em, dm, _⟩, hc⟩ e ⟨xs, k', dd⟩ (rfl | ⟨q, hx'⟩)
          · rw [e] at em; cases em; rw [dd] at dm; cases dm
          · obtain ⟨u, o', eo, hd'⟩ := hc a q hx'
            rw [e] at eo; cases eo; rw [dd] at hd'; cases hd'
        have hl₆ : h₆.PlainList DA ys := by
          obtain ⟨k2, e2⟩ := hl₅
          exact ⟨k2, hk₆ DA _ (nm mm₅ e2 ⟨_, _, rfl⟩) e2⟩
        have hys₆ : Ats h₆ VV ys.toList (((items.take i).filter keep).map out) := by
          exact hys₅.mono fun a o hv e hsq => ⟨hv, hk₆ a o (nm mm₅ e hsq) e⟩
        have hst₆ : St (i + 1) h₆ := W.frame _ _ _ hst₅ fun b hb o e => hk₆ b o (fun hm => hmfp b hm hb) e
        have rd₆ : Rd C A h₆ VV cenv ((x, d) :: ρ') := mkRd kk₆ (frOf kk₆) rfl v (toVV had (exact_of kk₆)) lk₆
        refine wpAny_mono (htest d hdm A { s with heap := h₆, toks := tk₆ } VV cenv hcs hA rd₆) (fun ok s₇ h₇ => ?_) fun _ _ f => f.elim
        obtain ⟨ke₇, rfl⟩ := h₇
        obtain ⟨h₇, tk₇, rfl, k₇⟩ := ke₇
        dsimp only at k₇
        have step : ∀ {ha hb : Heap}, KeU C.g ha hb → KK ha → MM ha → St (i + 1) ha → ha.PlainList DA ys → Ats ha VV ys.toList (((items.take i).filter keep).map out) →
            KK hb ∧ MM hb ∧ St (i + 1) hb ∧ hb.PlainList DA ys ∧ Ats hb VV ys.toList (((items.take i).filter keep).map out) := by
          intro ha hb kab q1 q2 q3 q4 q5
          refine ⟨fun b o hb' e => ?_, ?_, W.frame _ _ _ q3 fun b hb' o e => ?_, kab.plain q4, kab.ats (fun _ q => q) q5⟩
          · obtain ⟨o', e', l⟩ := q1 b o hb' e
            obtain ⟨o'', e'', l'⟩ := kab b o' e'
            exact ⟨o'', e'', l.trans l'⟩
          · obtain ⟨⟨m, hm⟩, hc⟩ := q2
            exact ⟨⟨m, kab.ns hm⟩, fun c e hx' => by obtain ⟨u, hu⟩ := hc c e hx'; exact ⟨u, kab.isCell hu⟩⟩
          · obtain ⟨o', e', nd⟩ := hfp (i + 1) ha b q3 hb'
            rw [e] at e'; cases e'
            exact kab.notFrame e nd
        obtain ⟨kk₇, mm₇, hst₇, hl₇, hys₇⟩ := step k₇ kk₆ mm₆ hst₆ hl₆ hys₆
        cases hkd : keep d with
        | false =>
          simp only [Bool.false_eq_true, if_false]
          refine ⟨items.length + 1 - (i + 1), by omega, h₇, tk₇, i + 1, ys, rfl, hst₇, by omega, rfl, kk₇, mm₇, hl₇, ?_⟩
          rw [filterMap_take hd, hkd]; simpa using hys₇
        | true =>
          simp only [if_true]
          have rd₇ : Rd C A h₇ VV cenv ((x, d) :: ρ') := rd₆.keeps k₇ fun _ q => q
          refine wpAny_mono (helt d hdm hkd A { s with heap := h₇, toks := tk₇ } VV cenv hcs hA rd₇) (fun y s₈ h₈ => ?_) fun _ _ f => f.elim
          obtain ⟨ke₈, hy⟩ := h₈
          obtain ⟨h₈, tk₈, rfl, k₈⟩ := ke₈
          dsimp only at k₈ hy
          obtain ⟨kk₈, mm₈, hst₈, hl₈, hys₈⟩ := step k₈ kk₇ mm₇ hst₇ hl₇ hys₇
          have hysz : ys.size ≤ sizeLine := by
            have e1 := hys₈.length
            rw [Array.length_toList, List.length_map] at e1
            have e2 := List.length_filter_le keep (items.take i)
            have e3 := List.length_take_le i items
            have e4 : items.length ≤ 1000 := hlen
            have e5 : (items.take i).length ≤ items.length := by rw [List.length_take]; exact Nat.min_le_right _ _
            unfold sizeLine; omega
          have hyV : ∀ a, Fre VV h₇ a → VV a := by
            rintro a (q | q)
            · exact q
            · refine ⟨.inr ?_, ?_⟩
              · cases e : s.heap.get? a with
                | none => rfl
                | some o =>
                  obtain ⟨o', e', _⟩ := k₂ a o e
                  have hw : a ∉ wr := fun hw => by rw [hwn a hw] at e; cases e
                  obtain ⟨o'', e'', _⟩ := kk₇ a o' hw e'
                  rw [q] at e''; cases e''
              · rintro rfl
                obtain ⟨o, e⟩ := hl₇; rw [q] at e; cases e
          refine wpAny_list_append_plain hl₈ (fun h₉ hl₉ hs₉ => ?_) hysz
          refine ⟨items.length + 1 - (i + 1), by omega, h₉, tk₈, i + 1, ys.push y, rfl, ?_, by omega, rfl, ?_, ?_, hl₉, ?_⟩
          · exact W.frame _ _ _ hst₈ fun b hb o e => hs₉.extBut b o (fun q => hDfp (q ▸ hb)) e
          · intro b o hb e
            obtain ⟨o', e', l⟩ := kk₈ b o hb e
            exact ⟨o', hs₉.extBut b o' (Nat.ne_of_lt (old₂ b o e)) e', l⟩
          · obtain ⟨⟨m, hm⟩, hc⟩ := mm₈
            refine ⟨⟨m, hm.sameBut hs₉ (Ne.symm hCD)⟩, fun c e hx' => ?_⟩
            obtain ⟨u, hu⟩ := hc c e hx'
            refine ⟨u, hu.sameBut hs₉ ?_⟩
            exact Nat.ne_of_gt (Nat.lt_of_lt_of_le (by omega) (hmge c (.inr ⟨e, hx'⟩)))
          · have up : ∀ {v dd}, At h₈ VV v dd → At h₉ VV v dd := fun q => q.mono fun a o hv e _ => ⟨hv, hs₉.extBut a o hv.2 e⟩
            have ups : ∀ {v dd}, Ats h₈ VV v dd → Ats h₉ VV v dd := fun q => q.mono fun a o hv e _ => ⟨hv, hs₉.extBut a o hv.2 e⟩
            rw [filterMap_take hd, hkd, Array.toList_push]
            exact (ups hys₈).append (.cons (up (hy.wider hyV)) .nil)
      · have hin : i = items.length := by omega
        subst hin
        refine W.done _ _ _ hst fun h₅ tk₅ hk₅ => ?_
        obtain ⟨⟨m, hm⟩, _⟩ := mm
        refine hpost DA CA h₅ tk₅ m (fun b o e => ?_) ?_ (hm.at' fun o e => hk₅ _ o hCw e) (k₂.none (n₂ CA (by omega)))
        · obtain ⟨o', e', l⟩ := k₂ b o e
          have hw : b ∉ wr := fun hw => by rw [hwn b hw] at e; cases e
          obtain ⟨o'', e'', l'⟩ := kk b o' hw e'
          exact ⟨o'', hk₅ b o'' hw e'', l.trans l'⟩
        · have hys' := hys
          rw [List.take_length] at hys'
          obtain ⟨yl⟩ := ys
          refine .list (.inr (k₂.none (n₂ DA (Nat.le_refl _)))) (hl.at fun o e => hk₅ _ o hDw e) (hys'.mono fun a o hv e hsq => ⟨hv.1, hk₅ a o (fun hw => ?_) e⟩)
          obtain ⟨o', e', nd⟩ := hwq _ h a hst hw
          obtain ⟨_, _, d2⟩ := hsq
          rw [e'] at e; cases e; exact nd _ _ d2
    · refine ⟨h₄, t₄, 0, #[], rfl, W.frame _ _ _ st0 fun b hb o e => k24 b o e, Nat.zero_le _, rfl, fun b o _ e => ⟨o, k24 b o e, .inl rfl⟩, ⟨⟨_, hns4⟩, fun c hc hx' => ?_⟩, hacc4, by simpa using Ats.nil⟩
      obtain ⟨c', e', hc'⟩ := hmc hx'
      rw [hc] at e'; cases e'
      exact ⟨_, (hok.empty x c (mem_of_lookup hc')).1⟩
  exact codeAny_compStart_list (loop _) (W.self 0 _ _ _ (W.frame _ _ _ st0 fun b hb o e => k24 b o e) (loop _))
end
end Mine
end

section
open PySem PySem.W PySem.Calls PyProof.Rows
namespace Mine
section
variable {C : Cfg} {n : Nat} {sc : Scope} {ρ : Rho}

theorem SameBut.atD {h h' : Heap} {CA : Addr} {m : Str → Option Value} {V : Addr → Prop} {v : Value} {d : D} (hn : h.Ns CA m) (hs : Heap.SameBut CA h h') (a : At h V v d) : At h' V v d := by
  obtain ⟨o, es, k, e, dd, _⟩ := hn
  refine a.mono fun b o2 hv e2 hsq => ⟨hv, hs.extBut b o2 ?_ e2⟩
  obtain ⟨_, _, d2⟩ := hsq
  rintro rfl; rw [e] at e2; cases e2; rw [dd] at d2; cases d2
theorem SameBut.keU {g h h' h'' : Heap} {CA : Addr} (hn : h.get? CA = none) (k : KeU g h h') (hs : Heap.SameBut CA h' h'') : KeU g h h'' := fun b o e => by
  obtain ⟨o', e', l⟩ := k b o e
  exact ⟨o', hs.extBut b o' (by rintro rfl; rw [hn] at e; cases e) e', l⟩

theorem Ev.comp {elt iter : Expr} {x : Str} {px : Pos} {ifs : List Expr} {scope : Scope} {pos : Pos} {items : List D} (keep : D → Bool) (out : D → D) (ρ' : Rho)
    (hit : It C n sc ρ iter items) (hkind : scope.kind = .function) (hx : scope.names.lookup x = some .local ∨ (scope.names.lookup x = some .cell ∧ ∀ p ∈ scope.names, p.1 = x → p.2 = .cell))
    (hnames : ∀ y ∈ scope.names, y.2 = .local → scope.names.lookup y.1 = some .local)
    (hfree : ∀ p ∈ scope.names, p.2 = .free → (sc.names.lookup p.1 = some .cell ∨ sc.names.lookup p.1 = some .free) ∧ ∃ d, ρ.lookup p.1 = some d)
    (hρ : ∀ y d, ρ'.lookup y = some d → y ≠ x ∧ (y, NameKind.free) ∈ scope.names ∧ (∀ p ∈ scope.names, p.2 = .cell → p.1 ≠ y) ∧ ((rel scope sc).names.lookup y = some .cell ∨ (rel scope sc).names.lookup y = some .free) ∧ ρ.lookup y = some d)
    (htest : ∀ d ∈ items, Trs C n (rel scope sc) ((x, d) :: ρ') ifs (keep d))
    (helt : ∀ d ∈ items, keep d = true → Ev C n (rel scope sc) ((x, d) :: ρ') elt (out d))
    (hlen : items.length ≤ 1000) (hs : ∀ env x, foldedSetIterable iter env x = pure x := by intro _ _; rfl) :
    Ev C n sc ρ (.ListComp elt [⟨.Name x px, iter, ifs, 0⟩] scope pos) (.list ((items.filter keep).map out)) := by
  intro A s V env he hA rd
  rw [eval_ListComp]
  refine comp_core he hA rd hit hkind hx hnames hfree hρ htest helt hlen hs ?_
  intro DA CA h' tk m k a hn hc
  exact ⟨m, hn, fun h'' hs' => ⟨⟨h'', tk, rfl, SameBut.keU hc k hs'⟩, SameBut.atD hn hs' a⟩⟩

/-- an assignment of a comprehension that the machine stores before it lets the names go -/
theorem Sx.assignComp {ow : Ow} {elt iter : Expr} {x z : Str} {px pz : Pos} {ifs : List Expr} {scope : Scope} {pos spos : Pos} {items : List D} (keep : D → Bool) (out : D → D) (ρ' : Rho)
    (hit : It C n sc ρ iter items) (hkind : scope.kind = .function) (hx : scope.names.lookup x = some .local ∨ (scope.names.lookup x = some .cell ∧ ∀ p ∈ scope.names, p.1 = x → p.2 = .cell))
    (hnames : ∀ y ∈ scope.names, y.2 = .local → scope.names.lookup y.1 = some .local)
    (hfree : ∀ p ∈ scope.names, p.2 = .free → (sc.names.lookup p.1 = some .cell ∨ sc.names.lookup p.1 = some .free) ∧ ∃ d, ρ.lookup p.1 = some d)
    (hρ : ∀ y d, ρ'.lookup y = some d → y ≠ x ∧ (y, NameKind.free) ∈ scope.names ∧ (∀ p ∈ scope.names, p.2 = .cell → p.1 ≠ y) ∧ ((rel scope sc).names.lookup y = some .cell ∨ (rel scope sc).names.lookup y = some .free) ∧ ρ.lookup y = some d)
    (htest : ∀ d ∈ items, Trs C n (rel scope sc) ((x, d) :: ρ') ifs (keep d))
    (helt : ∀ d ∈ items, keep d = true → Ev C n (rel scope sc) ((x, d) :: ρ') elt (out d))
    (hlen : items.length ≤ 1000) (hz : sc.names.lookup z = some .local) (hzo : ∀ xs, (z, xs) ∉ ow)
    (hsw : ∀ env : Env, env.scope = sc → swapsWith (.ListComp elt [⟨.Name x px, iter, ifs, 0⟩] scope pos) (some (.Name z pz)) spos.line env = pure true)
    (hs : ∀ env x, foldedSetIterable iter env x = pure x := by intro _ _; rfl) :
    Sx C n sc ρ ow (.Assign [.Name z pz] (.ListComp elt [⟨.Name x px, iter, ifs, 0⟩] scope pos) spos) (.next ((z, .list ((items.filter keep).map out)) :: ρ) ow) := by
  rintro A g₀ V₀ s env he hA ⟨V, st⟩
  rw [exec_Assign_Name_used _ _ _ _ (hsw env he)]
  refine wpAny_bind (wpAny_standAt (wpAny_bind ?_))
  show wpAny _ A (do let _ ← comprehension (.ListComp elt [⟨.Name x px, iter, ifs, 0⟩] scope pos) scope env _ (newList []) false (eval iter env) (some (PySem.assign (.Name z pz) env))) _ _ s
  refine wpAny_bind (wpAny_mono (comp_core (Q := fun _ s' => Post C A g₀ V₀ env (.next ((z, .list ((items.filter keep).map out)) :: ρ) ow) s .next s') he hA st.rd hit hkind hx hnames hfree hρ htest helt hlen hs ?_) (fun _ s' hq => wpAny_pure (wpAny_pure hq)) fun _ _ f => f)
  intro DA CA h' tk m k a hn hc
  show wpAny _ A (PySem.assign (.Name z pz) env (.ref DA)) _ _ _
  have st' : StV C A g₀ V₀ h' (Fre V s.heap) env ρ ow := st.ke k
  refine wpAny_assign_Name (wpAny_mono (wp_store (s := { s with heap := h', toks := tk }) st' (.inl (kindOf_of he hz))) (fun _ s₂ h₂ => ?_) fun _ _ f => f)
  obtain ⟨⟨h₂, t₂, rfl⟩, sto⟩ := h₂
  dsimp only at sto
  have st2 := sto.val st' a hzo
  have hCL : CA ≠ env.locals := by
    rintro rfl
    obtain ⟨_, o, _, _, e, _⟩ := st.ns; rw [hc] at e; cases e
  have hCc : ∀ y c, env.cells.lookup y = some c → CA ≠ c := by
    rintro y c hyc rfl
    obtain ⟨⟨_, o, e, _⟩, _⟩ := st.cells y _ hyc; rw [hc] at e; cases e
  have hn₂ : h₂.Ns CA m := hn.at' fun o e => sto.keep CA o hCL hCc e
  refine ⟨m, hn₂, fun h₃ hs₃ => ⟨⟨h₃, t₂, rfl⟩, rfl, Fre V s.heap, ?_⟩⟩
  -- the state is the same but at CA, which nobody sees
  have ex : ∀ b o, h₂.get? b = some o → b ≠ CA → h₃.get? b = some o := fun b o e hb => hs₃.extBut b o hb e
  have nCA : ∀ {b o}, h₂.get? b = some o → (∀ es k, o.data ≠ .dict es k) → b ≠ CA := by
    rintro b o e nd rfl
    obtain ⟨o', es, k, e', d', _⟩ := hn₂; rw [e] at e'; cases e'; exact nd _ _ d'
  have upA : ∀ {v d}, At h₂ (Fre V s.heap) v d → At h₃ (Fre V s.heap) v d := fun q => SameBut.atD hn₂ hs₃ q
  have upL : ∀ {b its}, h₂.PlainList b its → h₃.PlainList b its := fun l => by
    obtain ⟨k2, e2⟩ := l
    exact ⟨k2, ex _ _ e2 (nCA e2 (by intro _ _ q; cases q))⟩
  have upC : ∀ {c v}, h₂.IsCell c v → h₃.IsCell c v := fun l => by
    obtain ⟨o2, e2, d2⟩ := l
    exact ⟨o2, ex _ o2 e2 (nCA e2 (by rw [d2]; intro _ _ q; cases q)), d2⟩
  have upK : ∀ {y v}, Lk h₂ env y v → Lk h₃ env y v := fun l => by
    rcases l with ⟨a, m', b, c⟩ | ⟨a, c, b, d⟩
    · exact .inl ⟨a, m', b.sameBut hs₃ (Ne.symm hCL), c⟩
    · exact .inr ⟨a, c, b, upC d⟩
  have gCA : g₀.get? CA = none := st.keep.none hc
  refine ⟨st2.bg, st2.kind, st2.globals, st2.builtins, SameBut.keU gCA st2.keep hs₃, st2.vis, st2.frame, st2.top, ?_, st2.nsnew, fun y c hyc => ?_, st2.hasc, fun y d e => ?_, ?_, ?_⟩
  · obtain ⟨m', hm'⟩ := st2.ns; exact ⟨m', hm'.sameBut hs₃ (Ne.symm hCL)⟩
  · obtain ⟨⟨v, a1⟩, a2⟩ := st2.cells y c hyc; exact ⟨⟨v, upC a1⟩, a2⟩
  · obtain ⟨v, a1, a2⟩ := st2.names y d e; exact ⟨v, upA a1, upK a2⟩
  · obtain ⟨ad, H⟩ := st2.own
    refine ⟨ad, fun y ys hy => ?_⟩
    obtain ⟨⟨vs, a1, a2, a3⟩, b⟩ := H y ys hy
    exact ⟨⟨vs, upK a1, upL a2, a3.mono fun a o hv e hsq => ⟨hv, ex a o e (nCA e (by obtain ⟨_, _, d2⟩ := hsq; rw [d2]; intro _ _ q; cases q))⟩⟩, b⟩
  · obtain ⟨outer, e, H⟩ := st2.frames
    refine ⟨outer, e, fun en hen => ?_⟩
    obtain ⟨q1, L, o, q2, q3, q4, q5⟩ := H en hen
    refine ⟨q1, L, o, q2, q3, ex L o q4 ?_, q5⟩
    obtain ⟨outer', e', H'⟩ := st.frames
    rw [e] at e'; cases e'
    obtain ⟨_, L', o', r2, _, r4, _⟩ := H' en hen
    rw [q2] at r2; cases r2
    rintro rfl; rw [hc] at r4; cases r4

/-! what one goes through -/
theorem It.list {e : Expr} {items : List D} (x : Ev C n sc ρ e (.list items)) (hn : 1 ≤ n := by omega) : It C n sc ρ e items := by
  intro A s V env he hA rd
  refine wpAny_mono (x A s V env he hA rd) (fun v s₁ h₁ => ?_) fun _ _ f => f
  obtain ⟨k₁, a⟩ := h₁
  cases a with
  | list hv hl hs =>
    rename_i a vs
    refine wpAny_pyIter_list hl.isList ⟨k₁.trans (.mkh (.push _)), s₁.heap.objs.size, [s₁.heap.objs.size, a], [s₁.heap.objs.size], fun i v => vs.toArray[i]? = some v, fun i h => h.IsListIter s₁.heap.objs.size a i ∧ h.IsList a vs.toArray, rfl, ?_, ?_, ?_, ?_, ?_, ?_⟩
    · have W := Walks.list (prog := PySem.Challenge.rw_oy0148_01.row.prog) (w := C.w) (hA.handled hn) s₁.heap.objs.size a (Nat.ne_of_lt (by obtain ⟨o, e⟩ := hl; exact Heap.lt_size e)) vs.toArray
      have e : vs.toArray.size = items.length := by rw [List.size_toArray]; exact hs.length
      rw [← e]; exact W
    · exact ⟨⟨_, Heap.get?_push_size _ rfl, rfl, rfl⟩, hl.isList.push _⟩
    · rintro i h b ⟨⟨o, e, _, d⟩, o', e', _, _, d'⟩ hb
      rcases List.mem_cons.mp hb with rfl | hb
      · exact ⟨o, e, by rw [d]; intro _ _ q; cases q⟩
      · rw [List.mem_singleton.mp hb]; exact ⟨o', e', by rw [d']; intro _ _ q; cases q⟩
    · rintro i h b ⟨⟨o, e, _, d⟩, _⟩ hb
      rw [List.mem_singleton.mp hb]; exact ⟨o, e, _, d⟩
    · intro b hb
      rw [List.mem_singleton.mp hb]; exact k₁.heap.none (Heap.get?_none_of_le (Nat.le_refl _))
    · intro i v hv
      obtain ⟨d, e, a⟩ := hs.get' (by simpa using hv)
      exact ⟨d, e, (KeU.push (g := C.g) _).at (fun _ q => q) a⟩

theorem ItF.range {e : Expr} {px pos : Pos} {k : Int} (hk : sc.names.lookup (Str.ofString "range") = some .globalImplicit) (x : Ev C n sc ρ e (.int k)) (h0 : 0 ≤ k) (h1 : k ≤ 1000) (hn : 1 ≤ n := by omega)
    (hs : ∀ env, starEach [e] env = [(false, eval e env)] := by intro _; rfl) : ItF C n sc ρ (.Call (.Name (Str.ofString "range") px) [e] [] pos) ((List.range k.toNat).map fun (i : Nat) => D.int (i : Int)) := by
  intro A s V env he hA rd
  rw [arm_eval_Call_Name']
  refine wpAny_bind (builtin he rd hk (by rfl) (v := .type "range") (by decide +kernel) ?_)
  have hh := (Evs.cons x Evs.nil hs) A s V env pos he hA rd
  rw [hs env] at hh ⊢
  refine PySem.callWith_type rfl (evalArgs_plain (wpAny_mono hh (fun vs s₁ h₁ => ?_) fun _ _ f => f))
  obtain ⟨k₁, a⟩ := h₁
  cases a with
  | cons hd tl =>
    cases tl; cases hd
    rename_i t
    refine PySem.call_range_1 ?_
    have hsm : Builtin.Range.small 0 k 1 = true := by
      unfold Builtin.Range.small Builtin.Range.rangeFitsLong Builtin.Range.rangeSize
      have : k + (1 - 1) = k := by omega
      simp; omega
    have hsz : Builtin.Range.rangeSize 0 k 1 = ((k.toNat : Nat) : Int) := by
      unfold Builtin.Range.rangeSize
      simp; omega
    generalize hI : (s₁.heap.push { cls := .type "range", data := .fields #[.int 0 s₁.toks, .int k t, .int 1 (s₁.toks + 1)] }).objs.size = I
    have hI' : s₁.heap.get? I = none := Heap.get?_none_of_le (by rw [← hI, Heap.size_push]; exact Nat.le_succ _)
    refine wpAny_pyIter_range (Heap.get?_push_size _ rfl) hsm ?_
    dsimp only
    rw [hI]
    refine ⟨k₁.trans (.mk' ((KeU.push _).trans (.push _))), I, [I], fun i v => i < k.toNat ∧ ∃ t, v = .int (0 + (i : Int) * 1) t, fun i h => IsRangeIter h I (0 + (i : Nat) * 1) ((k.toNat : Int) - (i : Nat)) 1, rfl, ?_, ?_, ?_, ?_, ?_⟩
    · rw [List.length_map, List.length_range]
      exact (Walks.range (hA.handled hn) I 0 1 k.toNat).bound
    · show IsRangeIter _ I _ _ _
      rw [hsz, ← hI]
      have q := Heap.get?_push_size (s₁.heap.push { cls := .type "range", data := .fields #[.int 0 s₁.toks, .int k t, .int 1 (s₁.toks + 1)] }) (o := { cls := .type "range_iterator", data := .fields #[rawInt 0, rawInt (k.toNat : Int), rawInt 1] }) rfl
      simpa using q
    · intro i h b hst hb
      rw [List.mem_singleton.mp hb]; exact ⟨_, hst, _, rfl⟩
    · intro b hb
      rw [List.mem_singleton.mp hb]; exact k₁.heap.none hI'
    · rintro i v ⟨hi, t', rfl⟩
      exact ⟨.int i, by simp [hi], by rw [Int.mul_one, Int.zero_add]; exact .int _ _⟩
theorem It.range {e : Expr} {px pos : Pos} {k : Int} (hk : sc.names.lookup (Str.ofString "range") = some .globalImplicit) (x : Ev C n sc ρ e (.int k)) (h0 : 0 ≤ k) (h1 : k ≤ 1000) (hn : 1 ≤ n := by omega)
    (hs : ∀ env, starEach [e] env = [(false, eval e env)] := by intro _; rfl) : It C n sc ρ (.Call (.Name (Str.ofString "range") px) [e] [] pos) ((List.range k.toNat).map fun (i : Nat) => D.int (i : Int)) := (ItF.range hk x h0 h1 hn hs).it
end
end Mine
end

section
open PySem PySem.W PySem.Calls PyProof.Rows
namespace Mine

noncomputable def isLC (k : Option NameKind) : Bool := k == some .local || k == some .cell
noncomputable def isCF (k : Option NameKind) : Bool := k == some .cell || k == some .free
theorem isLC_iff {k : Option NameKind} (h : isLC k = true) : k = some .local ∨ k = some .cell := by
  unfold isLC at h; rcases Bool.or_eq_true_iff.mp h with q | q
  · exact .inl (beq_iff_eq.mp q)
  · exact .inr (beq_iff_eq.mp q)
theorem isCF_iff {k : Option NameKind} (h : isCF k = true) : k = some .cell ∨ k = some .free := by
  unfold isCF at h; rcases Bool.or_eq_true_iff.mp h with q | q
  · exact .inl (beq_iff_eq.mp q)
  · exact .inr (beq_iff_eq.mp q)

noncomputable def compOK (scope sc : Scope) (x : Str) (fr : List Str) : Bool :=
  scope.kind == .function && (scope.names.lookup x == some .local || (scope.names.lookup x == some .cell && scope.names.all fun p => p.1 != x || p.2 == .cell)) &&
  (scope.names.all fun y => y.2 != .local || scope.names.lookup y.1 == some .local) &&
  (scope.names.all fun p => p.2 != .free || fr.contains p.1) &&
  (fr.all fun y => y != x && scope.names.contains (y, NameKind.free) && (scope.names.all fun p => p.2 != .cell || p.1 != y) && isCF ((rel scope sc).names.lookup y) && isCF (sc.names.lookup y))
noncomputable def restr (ρ : Rho) : List Str → Rho
  | [] => []
  | y :: r => match ρ.lookup y with
    | some d => (y, d) :: restr ρ r
    | none => restr ρ r
theorem restr_look {ρ : Rho} {y : Str} {d : D} : ∀ {fr : List Str}, (restr ρ fr).lookup y = some d → y ∈ fr ∧ ρ.lookup y = some d
  | [], h => by simp [restr] at h
  | z :: r, h => by
    unfold restr at h
    split at h
    · rename_i d' e
      by_cases hy : y = z
      · subst hy; rw [lookup_cons_self] at h; cases h; exact ⟨.head _, e⟩
      · rw [lookup_cons_ne hy] at h
        obtain ⟨a, b⟩ := restr_look h
        exact ⟨.tail _ a, b⟩
    · obtain ⟨a, b⟩ := restr_look h
      exact ⟨.tail _ a, b⟩

structure CompOK (scope sc : Scope) (x : Str) (fr : List Str) : Prop where
  kind : scope.kind = .function
  hx : scope.names.lookup x = some .local ∨ (scope.names.lookup x = some .cell ∧ ∀ p ∈ scope.names, p.1 = x → p.2 = .cell)
  names : ∀ y ∈ scope.names, y.2 = .local → scope.names.lookup y.1 = some .local
  free : ∀ p ∈ scope.names, p.2 = .free → p.1 ∈ fr
  fr : ∀ y ∈ fr, y ≠ x ∧ (y, NameKind.free) ∈ scope.names ∧ (∀ p ∈ scope.names, p.2 = .cell → p.1 ≠ y) ∧ ((rel scope sc).names.lookup y = some .cell ∨ (rel scope sc).names.lookup y = some .free) ∧ (sc.names.lookup y = some .cell ∨ sc.names.lookup y = some .free)
theorem compOK_iff {scope sc : Scope} {x : Str} {fr : List Str} (h : compOK scope sc x fr = true) : CompOK scope sc x fr := by
  unfold compOK at h
  simp only [Bool.and_eq_true] at h
  obtain ⟨⟨⟨⟨h1, h2⟩, h3⟩, h4⟩, h5⟩ := h
  refine ⟨beq_iff_eq.mp h1, ?_, fun y hy hl => ?_, fun p hp hf => ?_, fun y hy => ?_⟩
  · rcases Bool.or_eq_true_iff.mp h2 with q | q
    · exact .inl (beq_iff_eq.mp q)
    · obtain ⟨q1, q2⟩ := Bool.and_eq_true_iff.mp q
      refine .inr ⟨beq_iff_eq.mp q1, fun p hp e => ?_⟩
      have := List.all_eq_true.mp q2 p hp
      rcases Bool.or_eq_true_iff.mp this with r | r
      · rw [e] at r; simp at r
      · exact beq_iff_eq.mp r
  · have := List.all_eq_true.mp h3 y hy
    rcases Bool.or_eq_true_iff.mp this with r | r
    · rw [hl] at r; cases r
    · exact beq_iff_eq.mp r
  · have := List.all_eq_true.mp h4 p hp
    rcases Bool.or_eq_true_iff.mp this with r | r
    · rw [hf] at r; cases r
    · simpa using r
  · have := List.all_eq_true.mp h5 y hy
    simp only [Bool.and_eq_true] at this
    obtain ⟨⟨⟨⟨a, b⟩, c⟩, d⟩, e⟩ := this
    refine ⟨by simpa using a, by simpa using b, fun p hp hc => ?_, isCF_iff d, isCF_iff e⟩
    have := List.all_eq_true.mp c p hp
    rcases Bool.or_eq_true_iff.mp this with r | r
    · rw [hc] at r; cases r
    · simpa using r

section
variable {C : Cfg} {n : Nat} {sc : Scope} {ρ : Rho}

theorem Ev.lc {elt iter : Expr} {x : Str} {px : Pos} {ifs : List Expr} {scope : Scope} {pos : Pos} {items : List D} (fr : List Str) (keep : D → Bool) (out : D → D)
    (hit : It C n sc ρ iter items) (hok : compOK scope sc x fr = true) (hb : (fr.all fun y => (ρ.lookup y).isSome) = true)
    (htest : ∀ d ∈ items, Trs C n (rel scope sc) ((x, d) :: restr ρ fr) ifs (keep d))
    (helt : ∀ d ∈ items, keep d = true → Ev C n (rel scope sc) ((x, d) :: restr ρ fr) elt (out d))
    (hlen : items.length ≤ 1000) (hs : ∀ env x, foldedSetIterable iter env x = pure x := by intro _ _; rfl) :
    Ev C n sc ρ (.ListComp elt [⟨.Name x px, iter, ifs, 0⟩] scope pos) (.list ((items.filter keep).map out)) := by
  have H := compOK_iff hok
  refine Ev.comp keep out (restr ρ fr) hit H.kind H.hx H.names (fun p hp hf => ?_) (fun y d e => ?_) htest helt hlen hs
  · have hm := H.free p hp hf
    exact ⟨(H.fr p.1 hm).2.2.2.2, Option.isSome_iff_exists.mp (List.all_eq_true.mp hb p.1 hm)⟩
  · obtain ⟨hm, e'⟩ := restr_look e
    obtain ⟨a, b, c, d', _⟩ := H.fr y hm
    exact ⟨a, b, c, d', e'⟩
/-- without tests -/
theorem Ev.lm {elt iter : Expr} {x : Str} {px : Pos} {scope : Scope} {pos : Pos} {items : List D} (fr : List Str) (out : D → D)
    (hit : It C n sc ρ iter items) (hok : compOK scope sc x fr = true) (hb : (fr.all fun y => (ρ.lookup y).isSome) = true)
    (helt : ∀ d ∈ items, Ev C n (rel scope sc) ((x, d) :: restr ρ fr) elt (out d))
    (hlen : items.length ≤ 1000) (hs : ∀ env x, foldedSetIterable iter env x = pure x := by intro _ _; rfl) :
    Ev C n sc ρ (.ListComp elt [⟨.Name x px, iter, [], 0⟩] scope pos) (.list (items.map out)) := by
  have := Ev.lc fr (fun _ => true) out (pos := pos) (px := px) hit hok hb (fun _ _ => Trs.nil) (fun d hd _ => helt d hd) hlen hs
  rw [List.filter_eq_self.mpr (fun _ _ => rfl)] at this
  exact this
theorem Sx.lc {ow : Ow} {elt iter : Expr} {x z : Str} {px pz : Pos} {ifs : List Expr} {scope : Scope} {pos spos : Pos} {items : List D} (fr : List Str) (keep : D → Bool) (out : D → D)
    (hit : It C n sc ρ iter items) (hok : compOK scope sc x fr = true) (hb : (fr.all fun y => (ρ.lookup y).isSome) = true)
    (htest : ∀ d ∈ items, Trs C n (rel scope sc) ((x, d) :: restr ρ fr) ifs (keep d))
    (helt : ∀ d ∈ items, keep d = true → Ev C n (rel scope sc) ((x, d) :: restr ρ fr) elt (out d))
    (hlen : items.length ≤ 1000) (hz : sc.names.lookup z = some .local) (hzo : ∀ xs, (z, xs) ∉ ow)
    (hsw : ∀ env : Env, env.scope = sc → swapsWith (.ListComp elt [⟨.Name x px, iter, ifs, 0⟩] scope pos) (some (.Name z pz)) spos.line env = pure true)
    (hs : ∀ env x, foldedSetIterable iter env x = pure x := by intro _ _; rfl) :
    Sx C n sc ρ ow (.Assign [.Name z pz] (.ListComp elt [⟨.Name x px, iter, ifs, 0⟩] scope pos) spos) (.next ((z, .list ((items.filter keep).map out)) :: ρ) ow) := by
  have H := compOK_iff hok
  refine Sx.assignComp keep out (restr ρ fr) hit H.kind H.hx H.names (fun p hp hf => ?_) (fun y d e => ?_) htest helt hlen hz hzo hsw hs
  · have hm := H.free p hp hf
    exact ⟨(H.fr p.1 hm).2.2.2.2, Option.isSome_iff_exists.mp (List.all_eq_true.mp hb p.1 hm)⟩
  · obtain ⟨hm, e'⟩ := restr_look e
    obtain ⟨a, b, c, d', _⟩ := H.fr y hm
    exact ⟨a, b, c, d', e'⟩
theorem Sx.lm {ow : Ow} {elt iter : Expr} {x z : Str} {px pz : Pos} {scope : Scope} {pos spos : Pos} {items : List D} (fr : List Str) (out : D → D)
    (hit : It C n sc ρ iter items) (hok : compOK scope sc x fr = true) (hb : (fr.all fun y => (ρ.lookup y).isSome) = true)
    (helt : ∀ d ∈ items, Ev C n (rel scope sc) ((x, d) :: restr ρ fr) elt (out d))
    (hlen : items.length ≤ 1000) (hz : sc.names.lookup z = some .local) (hzo : ∀ xs, (z, xs) ∉ ow)
    (hsw : ∀ env : Env, env.scope = sc → swapsWith (.ListComp elt [⟨.Name x px, iter, [], 0⟩] scope pos) (some (.Name z pz)) spos.line env = pure true)
    (hs : ∀ env x, foldedSetIterable iter env x = pure x := by intro _ _; rfl) :
    Sx C n sc ρ ow (.Assign [.Name z pz] (.ListComp elt [⟨.Name x px, iter, [], 0⟩] scope pos) spos) (.next ((z, .list (items.map out)) :: ρ) ow) := by
  have := Sx.lc fr (fun _ => true) out (pos := pos) (px := px) (pz := pz) (ow := ow) hit hok hb (fun _ _ => Trs.nil) (fun d hd _ => helt d hd) hlen hz hzo hsw hs
  rw [List.filter_eq_self.mpr (fun _ _ => rfl)] at this
  exact this

theorem Fn.mk {f : Addr} {args : List D} {d : D} {fd : FuncData} {o : Obj} {body : List Stmt} (ρ : Rho) (ps : List Str)
    (ho : (hd.heap_39 C.w.params).lookup f = some o) (hdat : o.data = .func fd) (hbody : fd.body = .stmts body) (hclo : fd.closure = []) (hgl : fd.globals = mainGlobals) (hbl : fd.builtins = builtinsNs)
    (hcode : codeIn (hd.heap_39 C.w.params) fd.code fd.qualname = true) (hco : fd.scope.isCoroutine = false) (hgen : fd.scope.isGenerator = false) (hk : fd.scope.kind = .function)
    (hbind : ∀ s V vs, (∀ b o, C.g.get? b = some o → s.heap.get? b = some o) → Ats s.heap V vs args → ∃ binds, BindsTo s fd ⟨vs, []⟩ binds ∧ Bd s.heap V binds ρ)
    (hps : ρ.map (·.1) = ps) (hnd : ps.Nodup) (hkind : (ps.all fun x => isLC (fd.scope.names.lookup x)) = true)
    (hb : Sxs C n fd.scope ρ [] body (.ret d)) : Fn C (n + 1) f args d :=
  Fn.intro ρ ho hdat hbody hclo hgl hbl hcode hco hgen hk hbind (hps ▸ hnd) (fun x hx => isLC_iff (List.all_eq_true.mp hkind x (hps ▸ hx))) hb

/-! bounds that powers and divisions ask -/
theorem bits_le {a : Int} {k : Nat} (h : a.natAbs < 2 ^ k) : Builtin.Int.intBits a ≤ k := by
  unfold Builtin.Int.intBits
  split
  · exact Nat.zero_le _
  · rename_i h0
    have : a.natAbs ≠ 0 := by simpa using h0
    have := (Nat.log2_lt this).mpr h
    omega
theorem Bo.pow2 {b : Int} (h : 0 ≤ b) (h1 : b ≤ 1000) : Bo C n .Pow (.int 2) (.int b) (.int (2 ^ b.toNat)) := Bo.pow h (by
  have : Builtin.Int.intBits 2 = 2 := by decide +kernel
  rw [this]; omega)
theorem Bo.fdiv' {a b : Int} (h : b ≠ 0) (h1 : b.natAbs < 1073741824) : Bo C n .FloorDiv (.int a) (.int b) (.int (Int.fdiv a b)) := Bo.fdiv h (PyProof.noPylong_small h1)
theorem Bo.mul' {a b : Int} (h1 : a.natAbs < 2 ^ 64) : Bo C n .Mult (.int a) (.int b) (.int (a * b)) := Bo.mul (IntMulOk.of_left (bits_le h1))
end
end Mine
end

section
open PySem PySem.W PySem.Calls PyProof.Rows
namespace Mine

/-! sorting ints -/
noncomputable def ins (x : Int) : List Int → List Int
  | [] => [x]
  | y :: r => if x ≤ y then x :: y :: r else y :: ins x r
noncomputable def isort : List Int → List Int
  | [] => []
  | x :: r => ins x (isort r)
theorem ins_perm (x : Int) : ∀ l, (ins x l).Perm (x :: l)
  | [] => .refl _
  | y :: r => by
    unfold ins
    split
    · exact .refl _
    · exact ((ins_perm x r).cons y).trans (.swap x y r)
theorem isort_perm : ∀ l, (isort l).Perm l
  | [] => .refl _
  | x :: r => (ins_perm x _).trans ((isort_perm r).cons x)
theorem ins_sorted (x : Int) : ∀ l : List Int, l.Pairwise (· ≤ ·) → (ins x l).Pairwise (· ≤ ·)
  | [], _ => by simp [ins]
  | y :: r, h => by
    unfold ins
    rw [List.pairwise_cons] at h
    split
    · rename_i hxy
      refine List.pairwise_cons.mpr ⟨fun z hz => ?_, List.pairwise_cons.mpr h⟩
      rcases List.mem_cons.mp hz with rfl | hz
      · exact hxy
      · exact Int.le_trans hxy (h.1 z hz)
    · rename_i hxy
      refine List.pairwise_cons.mpr ⟨fun z hz => ?_, ins_sorted x r h.2⟩
      rcases List.mem_cons.mp ((ins_perm x r).mem_iff.mp hz) with rfl | hz
      · omega
      · exact h.1 z hz
theorem isort_sorted : ∀ l, (isort l).Pairwise (· ≤ ·)
  | [] => .nil
  | x :: r => ins_sorted x _ (isort_sorted r)
theorem sorted_unique : ∀ {l m : List Int}, l.Perm m → l.Pairwise (· ≤ ·) → m.Pairwise (· ≤ ·) → l = m
  | [], m, p, _, _ => (List.nil_perm.mp p).symm
  | x :: l, [], p, _, _ => absurd p.symm.nil_eq (by simp)
  | x :: l, y :: m, p, hl, hm => by
    rw [List.pairwise_cons] at hl hm
    have hxy : x = y := by
      have h1 : x ∈ y :: m := p.mem_iff.mp (.head _)
      have h2 : y ∈ x :: l := p.mem_iff.mpr (.head _)
      rcases List.mem_cons.mp h1 with h1 | h1
      · exact h1
      · rcases List.mem_cons.mp h2 with h2 | h2
        · exact h2.symm
        · exact Int.le_antisymm (hl.1 y h2) (hm.1 x h1)
    subst hxy
    rw [sorted_unique (p.cons_inv) hl.2 hm.2]

section
variable {C : Cfg} {n : Nat} {sc : Scope} {ρ : Rho}

theorem Bf.len {ds : List D} (h : ds.length ≤ 1000) : Bf C n (.builtin "len") [.list ds] (.int ds.length) := by
  intro A s V vs hA base x
  cases x with
  | cons a tl =>
    cases tl
    cases a with
    | list hv hl hs =>
      rename_i vs
      have e : (vs.toArray.size : Int) = ds.length := by rw [List.size_toArray, hs.length]
      refine call_len_list hl.isList (by rw [e]; omega) ?_
      rw [e]
      exact ⟨.toks, .int _ _⟩
theorem Bf.sorted {ns : List Int} (h : ns.length < 64) : Bf C n (.builtin "sorted") [.list (ns.map .int)] (.list ((isort ns).map .int)) := by
  intro A s V vs hA base x
  cases x with
  | cons a tl =>
    cases tl
    cases a with
    | list hv hl hs =>
      have hi := hs.ints
      refine sorted_ints hl.isList hi (by rw [hi.length]; exact h) fun out ns' a1 a2 a3 => ?_
      have e : ns' = isort ns := sorted_unique (a2.trans (isort_perm ns).symm) a3 (isort_sorted ns)
      subst e
      obtain ⟨k, hk⟩ := sortedAll_at s.heap _ out
      refine ⟨.mkh (.of fun _ _ => sortedAll_old), .list (.inr (Heap.get?_none_of_le (Nat.le_succ _))) ⟨k, hk⟩ (Ats.of_ints ?_)⟩
      exact a1
theorem preSum_get (ns : List Int) (val : Nat → Int) (hv : ∀ i (h : i < ns.length), val i = ns[i]) : preSum val ns.length = ns.sum := by
  have : ∀ k, k ≤ ns.length → preSum val k = (ns.take k).sum := by
    intro k
    induction k with
    | zero => intro _; rfl
    | succ k ih =>
      intro hk
      have h1 : preSum val (k + 1) = preSum val k + val k := rfl
      have h2 : (ns.take (k + 1)).sum = (ns.take k).sum + ns[k] := by
        rw [List.take_add_one, List.getElem?_eq_getElem (by omega), List.sum_append]; simp
      rw [h1, ih (by omega), hv k (by omega), h2]
  rw [this _ (Nat.le_refl _), List.take_length]
theorem Bf.sum {ns : List Int} (hn' : 1 ≤ n := by omega) : Bf C n (.builtin "sum") [.list (ns.map .int)] (.int ns.sum) := by
  intro A s V vs hA base x
  cases x with
  | cons a tl =>
    cases tl
    cases a with
    | list hv hl hs =>
      rename_i a vs
      have hi := hs.ints
      have hi1 : A.in1.handled = none := hA.handled hn'
      refine call_sum_walkG (wpAny_pyIter_list hl.isList ⟨s.heap.objs.size, _, _, _, _, _, fun i => ns.getD i 0, rfl, Walks.list hi1 s.heap.objs.size a (Nat.ne_of_lt (by obtain ⟨o, e⟩ := hl; exact Heap.lt_size e)) vs.toArray,
        ⟨⟨_, Heap.get?_push_size _ rfl, rfl, rfl⟩, hl.isList.push _⟩, ?_, ?_, ?_⟩)
      · intro b hb
        rw [Heap.size_push]
        rcases List.mem_cons.mp hb with rfl | hb
        · exact Nat.lt_succ_self _
        · rw [List.mem_singleton.mp hb]; obtain ⟨o, e⟩ := hl; exact Nat.lt_succ_of_lt (Heap.lt_size e)
      · intro i v hv
        obtain ⟨d, e, q⟩ := hs.get' (by simpa using hv)
        rw [List.getElem?_map] at e
        cases hn : ns[i]? with
        | none => rw [hn] at e; cases e
        | some k =>
          rw [hn] at e; cases e; cases q
          exact ⟨_, by show _ = Value.int (ns.getD i 0) _; rw [List.getD_eq_getElem?_getD, hn]; rfl⟩
      · intro h' tk t' hk
        have e : vs.toArray.size = ns.length := by rw [List.size_toArray, hi.length]
        rw [e, preSum_get ns _ fun i h => by simp [List.getD_eq_getElem?_getD, List.getElem?_eq_getElem h]]
        refine ⟨.mk' (.of fun b o eb => hk b o ?_ (Heap.get?_push_of_some _ eb)), .int _ _⟩
        rintro hb
        rw [List.mem_singleton.mp hb] at eb
        exact absurd (Heap.lt_size eb) (Nat.lt_irrefl _)
theorem Bf.chr {i : Int} (h0 : 0 ≤ i) (h1 : i < 128) : Bf C n (.builtin "chr") [.int i] (.str ⟨#[i.toNat]⟩) := by
  intro A s V vs hA base x
  cases x with
  | cons a tl => cases tl; cases a; exact P.chr_of_int (by simp; omega) ⟨.toks, .str _ _⟩
theorem Bf.ord {c : Nat} : Bf C n (.builtin "ord") [.str ⟨#[c]⟩] (.int c) := by
  intro A s V vs hA base x
  cases x with
  | cons a tl => cases tl; cases a; exact P.ord_of_char ⟨.toks, .int _ _⟩

/-! classes called -/
theorem Ev.tcall {x : Str} {px pos : Pos} {id : String} {a : Expr} {es : List Expr} {args : List D} {d : D} (hk : sc.names.lookup x = some .globalImplicit)
    (e : nsIn (hd.heap_39 C.w.params) mainGlobals x = some Option.none) (hv : bootBuiltins x = some (.type id))
    (ha : Evs C n sc ρ (a :: es) args) (hfn : Bf C n (.type id) args d)
    (hs : ∀ env, starEach (a :: es) env = (false, eval a env) :: starEach es env := by intro _; rfl) (hp : ∀ env, (backTo pos (starEach es env)).any (·.1) = false := by intro _; rfl)
    (hn : x ≠ "__name__" := by decide) (hd : (x == ("__debug__" : Str)) = false := by decide) : Ev C n sc ρ (.Call (.Name x px) (a :: es) [] pos) d := by
  intro A s V env he hA r
  rw [arm_eval_Call_Name']
  refine wpAny_bind (builtin he r hk e hv ?_ hn hd)
  have hh := ha A s V env pos he hA r
  rw [hs env] at hh ⊢
  refine PySem.callWith_type (by show (false || (backTo pos (starEach es env)).any (·.1)) = false; rw [hp env]; rfl) (evalArgs_plain (wpAny_mono hh (fun vs s₁ h₁ => ?_) fun _ _ f => f))
  have r' := r.keeps h₁.1.heap (V' := Fre V s.heap) Fre.sub
  refine wpAny_mono (hfn A s₁ (Fre V s.heap) _ hA r'.base (by rw [List.nil_append]; exact h₁.2)) (fun v s₂ h₂ => ?_) fun _ _ f => f
  exact ⟨h₁.1.trans h₂.1, h₂.2.wider (Fre.le2 h₁.1.heap)⟩
theorem Bf.bytes {ns : List Int} (h : ∀ k ∈ ns, 0 ≤ k ∧ k < 256) (hl : ns.length ≤ 1000) (hn : 1 ≤ n := by omega) : Bf C n (.type "bytes") [.list (ns.map .int)] (.bytes (byteArr ns)) := by
  intro A s V vs hA base x
  cases x with
  | cons a tl =>
    cases tl
    cases a with
    | list hv hl' hs =>
      have hi := hs.ints
      exact call_bytes_ints hl'.isList hi h (by rw [hi.length]; unfold sizeLine; omega) (hA.handled hn) fun h' t k hk => ⟨.mk' (.of hk), .bytes _ _⟩

/-! in a list of ints -/
theorem Co.mem {k : Int} {ns : List Int} : Co C n .In (.int k) (.list (ns.map .int)) (ns.any fun x => x == k) := by
  intro A s V v₁ v₂ hA _ x y
  cases x
  cases y with
  | list hv hl hs => exact in_list_ints hl.isList hs.ints ⟨.refl, rfl⟩

/-! lists put together -/
theorem Bo.addl {xs ys : List D} (h : xs.length + ys.length ≤ 1000) : Bo C n .Add (.list xs) (.list ys) (.list (xs ++ ys)) := by
  intro A s V v₁ v₂ hA base x y
  cases x with
  | list hv hl hs =>
    cases y with
    | list hv' hl' hs' =>
      rename_i a vs b us
      have q : wpAny C.M A (binaryOp .Add (.ref a) (.ref b)) (fun v s' => Ke C.g s s' ∧ v = .ref s.heap.objs.size ∧ s'.heap.PlainList s.heap.objs.size (vs ++ us).toArray) (fun _ _ => False) s := by
        obtain ⟨c1, e1⟩ := id hl
        obtain ⟨c2, e2⟩ := id hl'
        have z : vs.toArray.size + us.toArray.size ≤ sizeLine := by rw [List.size_toArray, List.size_toArray, hs.length, hs'.length]; unfold sizeLine; omega
        refine concat_meets ⟨_, e1, rfl⟩ ⟨_, e2, rfl⟩ noFill_list_add seq_list_add F.slot_list_add F.entry_list_add (F.args_list_add_2 _ _) (AutoSeq1.list___add___list_list_0 a vs.toArray c1 b us.toArray c2 z) ⟨e1, e2, ?_⟩
        refine ⟨⟨_, _, rfl, .of fun _ _ e => Heap.get?_push_of_some _ e⟩, rfl, 0, ?_⟩
        rw [← List.append_toArray]
        exact Heap.get?_push_size _ rfl
      refine wpAny_mono q (fun v s' ⟨k, e, l⟩ => ⟨k, ?_⟩) fun _ _ f => f
      subst e
      exact .list (.inr (Heap.get?_none_of_le (Nat.le_refl _))) l (k.heap.ats Fre.sub (hs.append hs'))

/-! cuts -/
noncomputable def cut (lo hi : Option Int) (ds : List D) : List D := (ds.drop (lo.elim 0 (clipAt ds.length))).take (hi.elim ds.length (clipAt ds.length) - lo.elim 0 (clipAt ds.length))
/-- the end of a cut -/
noncomputable def Pt (C : Cfg) (n : Nat) (sc : Scope) (ρ : Rho) (e : Option Expr) (r : Option Int) : Prop := match e, r with
  | none, none => True
  | some e, some i => Ev C n sc ρ e (.int i)
  | _, _ => False
theorem evalPart {e : Option Expr} {r : Option Int} (x : Pt C n sc ρ e r) {A : Around} {s : Shared} {V : Addr → Prop} {env : Env} (he : env.scope = sc) (hA : AOK n A) (rd : Rd C A s.heap V env ρ) :
    wpAny C.M A (valueOrNone (evalOpt e env)) (fun v s' => Ke C.g s s' ∧ IsPart v r) (fun _ _ => False) s := by
  cases e with
  | none => cases r with
    | none => exact wpAny_pure ⟨.refl, .none⟩
    | some i => exact x.elim
  | some e => cases r with
    | none => exact x.elim
    | some i =>
      refine wpAny_mono (x A s V env he hA rd) (fun v s' h => ⟨h.1, ?_⟩) fun _ _ f => f
      obtain ⟨_, a⟩ := h
      cases a; exact .int _ _
theorem Ev.cut {value : Expr} {lo hi : Option Expr} {p pos : Pos} {l h : Option Int} {ds : List D} (x : Ev C n sc ρ value (.list ds)) (y : Pt C n sc ρ lo l) (z : Pt C n sc ρ hi h) (hlen : ds.length ≤ 1000) :
    Ev C n sc ρ (.Subscript value (.Slice lo hi Option.none p) pos) (.list (cut l h ds)) := by
  intro A s V env he hA rd
  refine Subscript_ (wpAny_mono (x A s V env he hA rd) (fun v s₁ h₁ => ?_) fun _ _ f => f)
  obtain ⟨k₁, a₁⟩ := h₁
  have r₁ := rd.keeps k₁.heap (V' := V) fun _ q => q
  show wpAny C.M A (do
    let l ← valueOrNone (evalOpt lo env)
    let u ← holding [l] (valueOrNone (evalOpt hi env))
    let s ← holding [l, u] (valueOrNone (evalOpt Option.none env))
    newFields "slice" [l, u, s]) _ _ s₁
  refine wpAny_bind (wpAny_mono (evalPart y he hA r₁) (fun vl s₂ h₂ => ?_) fun _ _ f => f)
  have r₂ := r₁.keeps h₂.1.heap (V' := V) fun _ q => q
  refine wpAny_bind (wpAny_holding (wpAny_mono (evalPart z he hA r₂) (fun vu s₃ h₃ => ?_) fun _ _ f => f))
  refine wpAny_bind (wpAny_holding (wpAny_pure ?_))
  have k₁₃ : Ke C.g s₁ s₃ := h₂.1.trans h₃.1
  have a₃ := k₁₃.heap.at (fun _ q => q) a₁
  refine wpAny_newObj_type ?_ (by show (3 : Nat) ≤ _; decide)
  cases a₃ with
  | list hv hl hs =>
    rename_i a vs
    refine tail_any (T := "list") (Heap.IsList.typeIs (s := { s₃ with heap := s₃.heap.push { cls := .type "slice", data := .fields #[vl, vu, .none] } }) (hl.isList.push _)) list_getitem_lookup
      (wpAny_getItem_list_slice (hl.isList.push _) (Heap.IsSliceOf.new ..) h₂.2 h₃.2 .none (by simp) ?_ (by rw [List.size_toArray, hs.length]; unfold sizeLine; omega)) (by with_unfolding_all rfl)
    refine ⟨(k₁.trans k₁₃).trans (.mkh ((KeU.push _).trans (.push _))), ?_⟩
    rw [slicePick_plain]
    have e : vs.toArray.size = ds.length := by rw [List.size_toArray, hs.length]
    rw [e]
    refine .list (.inr ((k₁.trans k₁₃).heap.none (Heap.get?_none_of_le (by rw [Heap.size_push]; exact Nat.le_succ _)))) ⟨0, Heap.get?_push_size _ rfl⟩ (((KeU.push (g := C.g) _).trans (.push _)).ats (fun _ q => q) ?_)
    exact (hs.drop _).take _
end
end Mine
end

section
open PySem PySem.W PySem.Calls PyProof.Rows
namespace Mine
set_option maxRecDepth 100000

noncomputable def placesN (m : Int) : List Nat := (List.range 14).filter fun k => Int.fmod (Int.fdiv m (2 ^ k)) 2 == 1
noncomputable def placesD (m : Int) : List D := (placesN m).map fun (i : Nat) => D.int (i : Int)

noncomputable def keepPl (m : Int) : D → Bool
  | .int k => Int.fmod (Int.fdiv m (2 ^ k.toNat)) 2 == 1
  | _ => false
theorem placesD_eq (m : Int) : (((List.range (14 : Int).toNat).map fun (i : Nat) => D.int (i : Int)).filter (keepPl m)).map id = placesD m := by
  unfold placesD placesN
  rw [List.map_id, List.filter_map]
  rfl
theorem pow2_lt {i : Nat} (h : i < 14) : ((2 : Int) ^ i) ≠ 0 ∧ ((2 : Int) ^ i).natAbs < 1073741824 := by
  have : ∀ i < 14, ((2 : Int) ^ i) ≠ 0 ∧ ((2 : Int) ^ i).natAbs < 1073741824 := by decide
  exact this i h
set_option maxHeartbeats 1000000 in
theorem fn_places {C : Cfg} {n : Nat} {m : Int} : Fn C (n + 2) 177 [.int m] (.list (placesD m)) := by
  rw [← placesD_eq]
  refine' Fn.mk [(Str.ofString "number", .int m)] [Str.ofString "number"] ?h1 ?h2 ?h3 ?h4 ?h5 ?h6 ?h7 ?h8 ?h9 ?h10 ?h11 ?h12 ?h13 ?h14 ?h15
  case h1 => exact rfl
  case h2 => exact rfl
  case h3 => exact rfl
  case h4 => exact rfl
  case h5 => exact rfl
  case h6 => exact rfl
  case h7 => exact rfl
  case h8 => exact rfl
  case h9 => exact rfl
  case h10 => exact rfl
  case h11 => intro s V vs _ h; cases h with | cons a b => cases b; exact ⟨_, BindsTo.of_eq rfl, .cons a .nil⟩
  case h12 => exact rfl
  case h13 => decide
  case h14 => decide
  case h15 =>
    refine Sxs.stop (Sx.ret (Ev.lc [Str.ofString "number"] (keepPl m) id (It.range rfl Ev.int (by decide) (by decide)) (by decide) rfl ?_ ?_ (by decide)))
    · intro d hd
      obtain ⟨i, hi, rfl⟩ := List.mem_map.mp hd
      have hi' : i < 14 := by simpa using hi
      exact Trs.one (Tr.cmp (Ev.binop (Ev.binop (Ev.name rfl) (Ev.binop Ev.int (Ev.name rfl) (Bo.pow2 (by omega) (by omega))) (Bo.fdiv' (pow2_lt hi').1 (pow2_lt hi').2)) Ev.int (Bo.fmod (by decide))) Ev.int Co.eq)
    · intro d hd _
      exact Ev.name rfl
end Mine
end

section
open PySem PySem.W PySem.Calls PyProof.Rows
namespace Mine
set_option maxRecDepth 100000
theorem fn_signs {C : Cfg} {n : Nat} : Fn C (n + 1) 162 [] (.str (Str.ofString "ABCDEFGHIJKLMNOPQRSTUVWXYZabcdefghijklmnopqrstuvwxyz0123456789+/")) := by
  refine' Fn.intro [] ?h1 ?h2 ?h3 ?h4 ?h5 ?h6 ?h7 ?h8 ?h9 ?h10 ?h11 ?h12 ?h13 ?h14
  case h1 => exact rfl
  case h2 => exact rfl
  case h3 => exact rfl
  case h4 => exact rfl
  case h5 => exact rfl
  case h6 => exact rfl
  case h7 => exact rfl
  case h8 => exact rfl
  case h9 => exact rfl
  case h10 => exact rfl
  case h11 => intro s V vs _ h; cases h; exact ⟨[], BindsTo.of_eq rfl, .nil⟩
  case h12 => decide
  case h13 => decide
  case h14 => exact Sxs.stop (Sx.ret Ev.str)
end Mine
end

section
open PySem PySem.W PySem.Calls PyProof.Rows
namespace Mine
set_option maxRecDepth 100000
theorem isort_length (l : List Int) : (isort l).length = l.length := (isort_perm l).length_eq
theorem tail_nil {x : Str} (xs : List D) : (x, xs) ∉ ([] : Ow) := fun h => nomatch h

set_option maxHeartbeats 1000000 in
theorem fn_median3 {C : Cfg} {n : Nat} {ns : List Int} (h3 : ns.length = 3) {d : Int} (hd : (isort ns)[1]? = some d) : Fn C (n + 1) 41 [.list (ns.map .int)] (.int d) := by
  refine' Fn.mk [(Str.ofString "data", .list (ns.map .int))] [Str.ofString "data"] ?h1 ?h2 ?h3 ?h4 ?h5 ?h6 ?h7 ?h8 ?h9 ?h10 ?h11 ?h12 ?h13 ?h14 ?h15
  case h1 => exact rfl
  case h2 => exact rfl
  case h3 => exact rfl
  case h4 => exact rfl
  case h5 => exact rfl
  case h6 => exact rfl
  case h7 => exact rfl
  case h8 => exact rfl
  case h9 => exact rfl
  case h10 => exact rfl
  case h11 => intro s V vs _ h; cases h with | cons a b => cases b; exact ⟨_, BindsTo.of_eq rfl, .cons a .nil⟩
  case h12 => exact rfl
  case h13 => decide
  case h14 => decide
  case h15 =>
    have hl : (((isort ns).map D.int).length : Int) = 3 := by rw [List.length_map, isort_length, h3]; rfl
    refine Sxs.cons (Sx.assign (Ev.bcall rfl rfl (by decide +kernel) (Evs.cons (Ev.name rfl) Evs.nil) (Bf.sorted (by omega))) (.inl rfl) tail_nil (fun _ _ => rfl)) ?_
    refine Sxs.cons (Sx.assign (Ev.bcall rfl rfl (by decide +kernel) (Evs.cons (Ev.name rfl) Evs.nil) (Bf.len (by omega))) (.inl rfl) tail_nil (fun _ _ => rfl)) ?_
    rw [hl]
    refine Sxs.cons (Sx.ifF (Tr.cmp (Ev.name rfl) Ev.int Co.eq) Sxs.nil) ?_
    refine Sxs.stop (Sx.ifT (Tr.cmp (Ev.binop (Ev.name rfl) Ev.int (Bo.fmod (by decide))) Ev.int Co.eq) ?_)
    refine Sxs.stop (Sx.ret (Ev.sub (Ev.name rfl) (Ev.binop (Ev.name rfl) Ev.int (Bo.fdiv' (by decide) (by decide))) (Su.list (by decide) (by decide) ?_)))
    show ((isort ns).map D.int)[1]? = _
    rw [List.getElem?_map, hd]; rfl

set_option maxHeartbeats 1000000 in
theorem fn_median2 {C : Cfg} {n : Nat} {ns : List Int} (h2 : ns.length = 2) {a b : Int} (ha : (isort ns)[0]? = some a) (hb : (isort ns)[1]? = some b)
    (hf : ¬Float64.isInf (Float64.ofFrac (decide (a + b < 0) != decide ((2 : Int) < 0)) (a + b).natAbs (2 : Int).natAbs) = true) :
    Fn C (n + 1) 41 [.list (ns.map .int)] (.float (Float64.ofFrac (decide (a + b < 0) != decide ((2 : Int) < 0)) (a + b).natAbs (2 : Int).natAbs)) := by
  refine' Fn.mk [(Str.ofString "data", .list (ns.map .int))] [Str.ofString "data"] ?h1 ?h2 ?h3 ?h4 ?h5 ?h6 ?h7 ?h8 ?h9 ?h10 ?h11 ?h12 ?h13 ?h14 ?h15
  case h1 => exact rfl
  case h2 => exact rfl
  case h3 => exact rfl
  case h4 => exact rfl
  case h5 => exact rfl
  case h6 => exact rfl
  case h7 => exact rfl
  case h8 => exact rfl
  case h9 => exact rfl
  case h10 => exact rfl
  case h11 => intro s V vs _ h; cases h with | cons a b => cases b; exact ⟨_, BindsTo.of_eq rfl, .cons a .nil⟩
  case h12 => exact rfl
  case h13 => decide
  case h14 => decide
  case h15 =>
    have hl : (((isort ns).map D.int).length : Int) = 2 := by rw [List.length_map, isort_length, h2]; rfl
    refine Sxs.cons (Sx.assign (Ev.bcall rfl rfl (by decide +kernel) (Evs.cons (Ev.name rfl) Evs.nil) (Bf.sorted (by omega))) (.inl rfl) tail_nil (fun _ _ => rfl)) ?_
    refine Sxs.cons (Sx.assign (Ev.bcall rfl rfl (by decide +kernel) (Evs.cons (Ev.name rfl) Evs.nil) (Bf.len (by omega))) (.inl rfl) tail_nil (fun _ _ => rfl)) ?_
    rw [hl]
    refine Sxs.cons (Sx.ifF (Tr.cmp (Ev.name rfl) Ev.int Co.eq) Sxs.nil) ?_
    refine Sxs.stop (Sx.ifF (Tr.cmp (Ev.binop (Ev.name rfl) Ev.int (Bo.fmod (by decide))) Ev.int Co.eq) ?_)
    refine Sxs.cons (Sx.assign (Ev.binop (Ev.name rfl) Ev.int (Bo.fdiv' (by decide) (by decide))) (.inl rfl) tail_nil (fun _ _ => rfl)) ?_
    refine Sxs.stop (Sx.ret (Ev.binop (Ev.binop (Ev.sub (Ev.name rfl) (Ev.binop (Ev.name rfl) Ev.int Bo.sub) (Su.list (d := .int a) (by decide) (by decide) ?_)) (Ev.sub (Ev.name rfl) (Ev.name rfl) (Su.list (d := .int b) (by decide) (by decide) ?_)) Bo.add) Ev.int (Bo.truediv (by decide) hf)))
    · show ((isort ns).map D.int)[0]? = _
      rw [List.getElem?_map, ha]; rfl
    · show ((isort ns).map D.int)[1]? = _
      rw [List.getElem?_map, hb]; rfl

set_option maxHeartbeats 1000000 in
theorem fn_low2 {C : Cfg} {n : Nat} {ns : List Int} (h2 : ns.length = 2) {a : Int} (ha : (isort ns)[0]? = some a) : Fn C (n + 1) 48 [.list (ns.map .int)] (.int a) := by
  refine' Fn.mk [(Str.ofString "data", .list (ns.map .int))] [Str.ofString "data"] ?h1 ?h2 ?h3 ?h4 ?h5 ?h6 ?h7 ?h8 ?h9 ?h10 ?h11 ?h12 ?h13 ?h14 ?h15
  case h1 => exact rfl
  case h2 => exact rfl
  case h3 => exact rfl
  case h4 => exact rfl
  case h5 => exact rfl
  case h6 => exact rfl
  case h7 => exact rfl
  case h8 => exact rfl
  case h9 => exact rfl
  case h10 => exact rfl
  case h11 => intro s V vs _ h; cases h with | cons a b => cases b; exact ⟨_, BindsTo.of_eq rfl, .cons a .nil⟩
  case h12 => exact rfl
  case h13 => decide
  case h14 => decide
  case h15 =>
    have hl : (((isort ns).map D.int).length : Int) = 2 := by rw [List.length_map, isort_length, h2]; rfl
    refine Sxs.cons (Sx.assign (Ev.bcall rfl rfl (by decide +kernel) (Evs.cons (Ev.name rfl) Evs.nil) (Bf.sorted (by omega))) (.inl rfl) tail_nil (fun _ _ => rfl)) ?_
    refine Sxs.cons (Sx.assign (Ev.bcall rfl rfl (by decide +kernel) (Evs.cons (Ev.name rfl) Evs.nil) (Bf.len (by omega))) (.inl rfl) tail_nil (fun _ _ => rfl)) ?_
    rw [hl]
    refine Sxs.cons (Sx.ifF (Tr.cmp (Ev.name rfl) Ev.int Co.eq) Sxs.nil) ?_
    refine Sxs.stop (Sx.ifF (Tr.cmp (Ev.binop (Ev.name rfl) Ev.int (Bo.fmod (by decide))) Ev.int Co.eq) ?_)
    refine Sxs.stop (Sx.ret (Ev.sub (Ev.name rfl) (Ev.binop (Ev.binop (Ev.name rfl) Ev.int (Bo.fdiv' (by decide) (by decide))) Ev.int Bo.sub) (Su.list (by decide) (by decide) ?_)))
    show ((isort ns).map D.int)[0]? = _
    rw [List.getElem?_map, ha]; rfl

set_option maxHeartbeats 1000000 in
theorem fn_high2 {C : Cfg} {n : Nat} {ns : List Int} (h2 : ns.length = 2) {a : Int} (ha : (isort ns)[1]? = some a) : Fn C (n + 1) 55 [.list (ns.map .int)] (.int a) := by
  refine' Fn.mk [(Str.ofString "data", .list (ns.map .int))] [Str.ofString "data"] ?h1 ?h2 ?h3 ?h4 ?h5 ?h6 ?h7 ?h8 ?h9 ?h10 ?h11 ?h12 ?h13 ?h14 ?h15
  case h1 => exact rfl
  case h2 => exact rfl
  case h3 => exact rfl
  case h4 => exact rfl
  case h5 => exact rfl
  case h6 => exact rfl
  case h7 => exact rfl
  case h8 => exact rfl
  case h9 => exact rfl
  case h10 => exact rfl
  case h11 => intro s V vs _ h; cases h with | cons a b => cases b; exact ⟨_, BindsTo.of_eq rfl, .cons a .nil⟩
  case h12 => exact rfl
  case h13 => decide
  case h14 => decide
  case h15 =>
    have hl : (((isort ns).map D.int).length : Int) = 2 := by rw [List.length_map, isort_length, h2]; rfl
    refine Sxs.cons (Sx.assign (Ev.bcall rfl rfl (by decide +kernel) (Evs.cons (Ev.name rfl) Evs.nil) (Bf.sorted (by omega))) (.inl rfl) tail_nil (fun _ _ => rfl)) ?_
    refine Sxs.cons (Sx.assign (Ev.bcall rfl rfl (by decide +kernel) (Evs.cons (Ev.name rfl) Evs.nil) (Bf.len (by omega))) (.inl rfl) tail_nil (fun _ _ => rfl)) ?_
    rw [hl]
    refine Sxs.cons (Sx.ifF (Tr.cmp (Ev.name rfl) Ev.int Co.eq) Sxs.nil) ?_
    refine Sxs.stop (Sx.ret (Ev.sub (Ev.name rfl) (Ev.binop (Ev.name rfl) Ev.int (Bo.fdiv' (by decide) (by decide))) (Su.list (by decide) (by decide) ?_)))
    show ((isort ns).map D.int)[1]? = _
    rw [List.getElem?_map, ha]; rfl
end Mine
end

section
open PySem PySem.W PySem.Calls PyProof.Rows
namespace Mine

/-- an exception on its way; h₀ is the heap ahead of it -/
structure Exc (g h₀ h : Heap) (e : Addr) (cls : String) (tb ctx : Bool) : Prop where
  keep : KeU g h₀ h
  new : h₀.get? e = none
  obj : ∃ oe vs, h.get? e = some oe ∧ oe.cls = .type cls ∧ oe.data = .fields vs ∧ 2 < vs.size ∧ (ctx = true → vs[2]? = some .none) ∧
    (tb = true → ∃ T oT ts, vs[1]? = some (.ref T) ∧ h₀.get? T = none ∧ T ≠ e ∧ h.get? T = some oT ∧ oT.data = .fields ts ∧ 3 < ts.size) ∧ (tb = false → vs[1]? = some .none)

theorem KeU.upd {g h₀ h : Heap} (k : KeU g h₀ h) {b : Addr} (hb : h₀.get? b = Option.none) (f : Obj → Obj) : KeU g h₀ (h.update b f) := fun a o e => by
  obtain ⟨o', e', l⟩ := k a o e
  refine ⟨o', ?_, l⟩
  rw [Heap.get?_update_other _ _ (fun q => by rw [q] at hb; rw [hb] at e; cases e)]; exact e'

section
variable {M : Model} {A : Around} {E : Value → Shared → Prop} {s : Shared} {g h₀ : Heap} {e : Addr} {cls : String} {tb ctx : Bool} {env : Env} {L : Addr} {rest : List Env}

theorem frOK_fun {h : Heap} (fr : FrOK g A h) (hA : A.frames = some (env :: rest)) : h.FunFrames {} (env :: rest) := by
  obtain ⟨outer, e, H⟩ := fr
  rw [hA] at e; cases e
  generalize env :: rest = l at H
  induction l with
  | nil => trivial
  | cons en r ih =>
    obtain ⟨q1, L, o, q2, q3, q4, es, n, q5⟩ := H en (.head _)
    exact ⟨q1, ⟨L, o, q2, by simp [Heap.get?], q4, by rw [q5]; intro _ q; cases q⟩, ih fun en' h' => H en' (.tail _ h')⟩
theorem slotsOnly_keU {h h₁ : Heap} (fr : FrOK g A h) (hA : A.frames = some (env :: rest)) (hs : Heap.SlotsOnly ((env :: rest).filterMap (·.frame)) h h₁) : KeU g h h₁ := by
  intro b o eb
  by_cases hb : b ∈ (env :: rest).filterMap (·.frame)
  · obtain ⟨sl, e'⟩ := hs.2.2 b o eb
    obtain ⟨outer, e, H⟩ := fr
    rw [hA] at e; cases e
    obtain ⟨en, hen, hf⟩ := List.mem_filterMap.mp hb
    obtain ⟨_, L, o', q2, q3, q4, es, n, q5⟩ := H en hen
    rw [hf] at q2; cases q2
    rw [eb] at q4; cases q4
    exact ⟨_, e', .inr ⟨q3, ⟨es, n, q5⟩, sl, rfl⟩⟩
  · exact ⟨o, (hs.2.1 b hb).trans eb, .inl rfl⟩

/-- a new entry of the traceback -/
theorem wp_entry (fr : FrOK g A h₀) (hA : A.frames = some (env :: rest)) (hf : env.frame = some L) {head : Value} {hadNext : Bool} (kp : KeU g h₀ s.heap) (new : h₀.get? e = none) {oe : Obj} {vs : Array Value}
    (he : s.heap.get? e = some oe) (hc : oe.cls = .type cls) (hd : oe.data = .fields vs) (hsz : 2 < vs.size) (hctx : ctx = true → vs[2]? = some .none) :
    wpAny M A (do let a ← frameOf env; let pl ← entryPlaceOf L hadNext; let b ← EntryCells.newEntry head a .none (rawInt L) .none pl; setField (.ref e) 1 b)
      (fun _ s' => Same s s' ∧ Exc g h₀ s'.heap e cls true ctx) E s := by
  have fr' := fr.keeps kp
  refine wpAny_bind (wpAny_frameOf_fun hA (frOK_fun fr' hA) hf fun h₁ hs₁ => ?_)
  have k₁ := slotsOnly_keU fr' hA hs₁
  refine wpAny_bind (wpAny_entryPlaceOf fun pl hpl => ?_)
  unfold EntryCells.newEntry newFields
  refine wpAny_bind (wpAny_newObj_type ?_ (hpl.sizeOk5 _ _ _ _ _))
  have he₁ : h₁.get? e = some oe := k₁.notFrame he (by rw [hd]; intro _ _ q; cases q)
  generalize hto : ({ cls := .type "traceback", dict := none, data := .fields ([head, .ref L, .none, rawInt L, .none] ++ (if pl.isEmpty then List.replicate 6 Value.none else pl)).toArray } : Obj) = to
  have hfr : to.isFreed = false := by rw [← hto]; rfl
  have he₂ := Heap.get?_push_of_some (h := h₁) to he₁
  refine wpAny_setField he₂ hd (Nat.lt_of_succ_lt hsz) ⟨⟨_, s.toks, rfl⟩, ?_⟩
  have hd₃ := Obj.data_mapFields hd (·.setIfInBounds 1 (Value.ref h₁.objs.size))
  have he₃ := Heap.get?_update_self (Obj.mapFields (·.setIfInBounds 1 (Value.ref h₁.objs.size))) he₂ (Obj.isFreed_of_fields hd₃)
  have hTe : h₁.objs.size ≠ e := Nat.ne_of_gt (Heap.lt_size he₁)
  refine ⟨KeU.upd ((kp.trans k₁).trans (.push _)) new _, new, _, _, he₃, (Obj.cls_mapFields _ _).trans hc, hd₃, by simpa using hsz, fun q => ?_, fun _ => ?_, fun q => nomatch q⟩
  · have := hctx q
    rw [Array.getElem?_setIfInBounds]; simp [this]
  · refine ⟨h₁.objs.size, to, _, by simp [Nat.lt_of_succ_lt hsz], (kp.trans k₁).none (Heap.get?_none_of_le (Nat.le_refl _)), hTe, ?_, by rw [← hto], ?_⟩
    · rw [Heap.get?_update_other _ _ (Ne.symm hTe)]; exact Heap.get?_push_size _ hfr
    · simp only [List.size_toArray, List.length_append, List.length_cons, List.length_nil]; omega

theorem wp_noteFrame (fr : FrOK g A h₀) (hA : A.frames = some (env :: rest)) (hf : env.frame = some L) (x : Exc g h₀ s.heap e cls tb ctx) :
    wpAny M A (noteFrame (.ref e) env) (fun _ s' => Same s s' ∧ Exc g h₀ s'.heap e cls true ctx) E s := by
  have x' := x
  obtain ⟨kp, new, oe, vs, he, hc, hd, hsz, hctx, htb, hnt⟩ := x
  unfold noteFrame
  simp only [hf]
  cases tb with
  | false =>
    refine wpAny_bind (wpAny_field he hd (hnt rfl) ?_)
    rw [if_neg (by decide)]
    exact wp_entry fr hA hf kp new he hc hd hsz hctx
  | true =>
    obtain ⟨T, oT, ts, h1, hT0, hTe, hT, hdT, h3⟩ := htb rfl
    refine wpAny_bind (wpAny_field he hd h1 ?_)
    rw [if_pos (show (Value.ref T != Value.none) = true from by simp)]
    refine wpAny_bind (wpAny_field hT hdT (x := ts[3]) (by simp [h3]) ?_)
    by_cases hq : (ts[3] == rawInt L) = true
    · rw [if_pos hq]; exact wpAny_pure ⟨.refl, x'⟩
    · rw [if_neg hq]
      refine wpAny_bind (wpAny_setField hT hdT h3 ?_)
      have he' : (s.heap.update T (Obj.mapFields (·.setIfInBounds 3 Value.none))).get? e = some oe := (Heap.get?_update_other _ _ hTe).trans he
      exact wp_entry (s := { s with heap := s.heap.update T (Obj.mapFields (·.setIfInBounds 3 Value.none)) }) fr hA hf (kp.upd hT0 _) new he' hc hd hsz hctx

theorem wp_setFlight {fl : Option Addr} (x : Exc g h₀ s.heap e cls true ctx) : wpAny M A (setFlight (.ref e) fl) (fun _ s' => Same s s' ∧ Exc g h₀ s'.heap e cls true ctx) E s := by
  obtain ⟨kp, new, oe, vs, he, hc, hd, hsz, hctx, htb, hnt⟩ := x
  obtain ⟨T, oT, ts, h1, hT0, hTe, hT, hdT, h3⟩ := htb rfl
  unfold setFlight
  refine wpAny_bind (wpAny_field he hd h1 ?_)
  rw [if_pos (show (Value.ref T != Value.none) = true from by simp)]
  refine wpAny_setField hT hdT h3 ⟨⟨_, s.toks, rfl⟩, kp.upd hT0 _, new, oe, vs, (Heap.get?_update_other _ _ hTe).trans he, hc, hd, hsz, hctx, fun _ => ?_, fun q => nomatch q⟩
  have hdT' := Obj.data_mapFields hdT (·.setIfInBounds 3 (fl.elim Value.none fun f => rawInt f))
  exact ⟨T, _, _, h1, hT0, hTe, Heap.get?_update_self _ hT (Obj.isFreed_of_fields hdT'), hdT', by simpa using h3⟩
/-- it comes back from an activation of the frame's own -/
theorem wp_cameBack (x : Exc g h₀ s.heap e cls true ctx) (h : ∀ s', Same s s' → Exc g h₀ s'.heap e cls true ctx → E (.ref e) s') : cameBackBy M A env E (.ref e) s := by
  have x' := x
  obtain ⟨kp, new, oe, vs, he, hc, hd, hsz, hctx, htb, hnt⟩ := x
  obtain ⟨T, oT, ts, h1, hT0, hTe, hT, hdT, h3⟩ := htb rfl
  unfold cameBackBy
  refine wpAny_bind (wpAny_field he hd h1 ?_)
  rw [if_neg (show ¬ (Value.ref T == Value.none) = true from by simp)]
  exact wpAny_mono (wp_setFlight x') (fun _ s' q => h s' q.1 q.2) fun _ _ q => q
/-- it passes a loop or a block of the frame's own -/
theorem wp_noted (fr : FrOK g A h₀) (hA : A.frames = some (env :: rest)) (hf : env.frame = some L) (x : Exc g h₀ s.heap e cls tb ctx) (h : ∀ s', Same s s' → Exc g h₀ s'.heap e cls true ctx → E (.ref e) s') : notedBy M A env E (.ref e) s := by
  unfold notedBy
  exact wpAny_mono (wp_noteFrame fr hA hf x) (fun _ s' q => h s' q.1 q.2) fun _ _ q => q
end

theorem entry_unchain : entryFor table "proto.unchain" = some Builtin.«proto.unchain» := entryFor_of_tree (by kernel_rfl)
/-- raise: nothing is handled, or something without a context -/
theorem wp_raiseNew {prog : Program} {w : World} {A : Around} {E : Value → Shared → Prop} {s : Shared} {α : Type} {Q : α → Shared → Prop} {g h₀ : Heap} {e : Addr} {cls : String} (x : Exc g h₀ s.heap e cls false true)
    (hh : A.handled = none ∨ ∃ e₁ cls₁ h₁ tb₁, A.handled = some (.ref e₁) ∧ Exc g h₁ s.heap e₁ cls₁ tb₁ true ∧ e₁ ≠ e)
    (h : ∀ s' ctx, Same s s' → Exc g h₀ s'.heap e cls false ctx → (A.handled = none → ctx = true) → E (.ref e) s') : wpAny (model prog w) A (raiseNew (.ref e) : Sem α) Q E s := by
  unfold raiseNew
  refine wpAny_bind (wpAny_handled ?_)
  rcases hh with hh | ⟨e₁, cls₁, h₁, tb₁, hh, x₁, hne⟩
  · rw [hh]
    exact wpAny_bind (wpAny_pure (wpAny_throw (h s true .refl x fun _ => rfl)))
  · rw [hh]
    dsimp only
    rw [if_pos (show (Value.ref e₁ != Value.ref e) = true from by simp [hne])]
    obtain ⟨kp, new, oe, vs, he, hc, hd, hsz, hctx, htb, hnt⟩ := x
    obtain ⟨kp₁, new₁, oe₁, vs₁, he₁, hc₁, hd₁, hsz₁, hctx₁, htb₁, hnt₁⟩ := x₁
    refine wpAny_bind (wpAny_holding (wpAny_runValue (codeAny_builtin entry_unchain ?_)))
    show wpAny _ _ (field (.ref e₁) 2 >>= _) _ _ s
    refine wpAny_bind (wpAny_field he₁ hd₁ (hctx₁ rfl) ?_)
    refine wpAny_bind (wpAny_pure (wpAny_pure ?_))
    dsimp only
    unfold updateField
    refine wpAny_bind (wpAny_bind (wpAny_load he ?_))
    rw [hd]
    dsimp only
    rw [if_pos hsz]
    have hd' := Obj.data_mapFields hd (·.setIfInBounds 2 (Value.ref e₁))
    refine wpAny_update he (wpAny_throw (h _ false ⟨_, s.toks, rfl⟩ ⟨kp.upd new _, new, _, _, Heap.get?_update_self _ he (Obj.isFreed_of_fields hd'), (Obj.cls_mapFields _ _).trans hc, hd', by simpa using hsz, (by intro q; cases q), (by intro q; cases q), fun _ => ?_⟩ (fun q => by rw [hh] at q; cases q)))
    have := hnt rfl
    rw [Array.getElem?_setIfInBounds]; simp [this]
end Mine
end

section
open PySem PySem.W PySem.Calls PyProof.Rows
namespace Mine

section
variable {C : Cfg} {A : Around} {g₀ : Heap} {V₀ V : Addr → Prop} {h : Heap} {env : Env} {ρ : Rho} {ow ow' r : Ow} {x : Str} {xs : List D}

theorem StV.perm (st : StV C A g₀ V₀ h V env ρ ow) (hp : ∀ p ∈ ow', p ∈ ow) : StV C A g₀ V₀ h V env ρ ow' :=
  { st with own := (by
      obtain ⟨ad, H⟩ := st.own
      refine ⟨ad, fun y ys hy => ?_⟩
      obtain ⟨a, b, c, d⟩ := H y ys (hp _ hy)
      exact ⟨a, b, c, fun z zs hz => d z zs (hp _ hz)⟩) }
theorem StV.fewer {ρ' : Rho} (st : StV C A g₀ V₀ h V env ρ ow) (hp : ∀ y d, ρ'.lookup y = some d → ρ.lookup y = some d) : StV C A g₀ V₀ h V env ρ' ow :=
  { st with names := fun y d e => st.names y d (hp y d e) }

/-- a list of the frame's own, changed -/
theorem StV.setOwn (st : StV C A g₀ V₀ h V env ρ ((x, xs) :: r)) (hr : ∀ ys, (x, ys) ∉ r) : ∃ a vs, Lk h env x (.ref a) ∧ h.PlainList a vs.toArray ∧ Ats h V vs xs ∧ ¬ V a ∧ g₀.get? a = none ∧
    ∀ h' vs' xs', Heap.SameBut a h h' → h'.PlainList a vs'.toArray → Ats h V vs' xs' → StV C A g₀ V₀ h' V env ρ ((x, xs') :: r) := by
  obtain ⟨ad, H⟩ := st.own
  obtain ⟨⟨vs, lk, hl, hs⟩, hV, hg, hu⟩ := H x xs (.head _)
  refine ⟨ad x, vs, lk, hl, hs, hV, hg, fun h' vs' xs' sb hl' hs' => ?_⟩
  have hseq : IsSeq { cls := .type "list", data := .seq vs.toArray hl.choose : Obj } := ⟨_, _, rfl⟩
  have hL : ad x ≠ env.locals := st.notL hl.choose_spec (by intro _ _ q; cases q)
  have hC : ∀ y c, env.cells.lookup y = some c → ad x ≠ c := st.notC hl.choose_spec (by intro _ q; cases q)
  have up : ∀ {v d}, At h V v d → At h' V v d := fun q => q.mono fun b o hv e _ => ⟨hv, sb.extBut b o (fun q => hV (q ▸ hv)) e⟩
  have ups : ∀ {v d}, Ats h V v d → Ats h' V v d := fun q => q.mono fun b o hv e _ => ⟨hv, sb.extBut b o (fun q => hV (q ▸ hv)) e⟩
  have upc : ∀ {c v}, h.IsCell c v → c ≠ ad x → h'.IsCell c v := fun q hc => q.sameBut sb hc
  have upk : ∀ {y v}, Lk h env y v → Lk h' env y v := fun q => by
    rcases q with ⟨a, m, b, c⟩ | ⟨a, c, b, d⟩
    · exact .inl ⟨a, m, b.sameBut sb (Ne.symm hL), c⟩
    · exact .inr ⟨a, c, b, upc d (Ne.symm (hC _ c b))⟩
  refine { st with keep := fun b o e => ?_, ns := ?_, cells := fun y c e => ?_, names := fun y d e => ?_, own := ⟨ad, fun y ys hy => ?_⟩, frames := ?_ }
  · obtain ⟨o', e', l⟩ := st.keep b o e
    exact ⟨o', sb.extBut b o' (by rintro rfl; rw [hg] at e; cases e) e', l⟩
  · obtain ⟨m, hm⟩ := st.ns; exact ⟨m, hm.sameBut sb (Ne.symm hL)⟩
  · obtain ⟨⟨v, a1⟩, a2⟩ := st.cells y c e; exact ⟨⟨v, upc a1 (Ne.symm (hC y c e))⟩, a2⟩
  · obtain ⟨v, a1, a2⟩ := st.names y d e; exact ⟨v, up a1, upk a2⟩
  · rcases List.mem_cons.mp hy with q | hy
    · cases q
      refine ⟨⟨vs', upk lk, hl', ups hs'⟩, hV, hg, fun z zs hz e => ?_⟩
      rcases List.mem_cons.mp hz with q | hz
      · cases q; rfl
      · exact hu z zs (.tail _ hz) e
    · obtain ⟨⟨us, b1, b2, b3⟩, b4, b5, b6⟩ := H y ys (.tail _ hy)
      have hyx : ad y ≠ ad x := fun e => hr ys (hu y ys (.tail _ hy) e ▸ hy)
      refine ⟨⟨us, upk b1, b2.extBut sb.extBut hyx, ups b3⟩, b4, b5, fun z zs hz e => ?_⟩
      rcases List.mem_cons.mp hz with q | hz
      · cases q; exact absurd e.symm hyx
      · exact b6 z zs (.tail _ hz) e
  · obtain ⟨outer, e, F⟩ := st.frames
    refine ⟨outer, e, fun en hen => ?_⟩
    obtain ⟨q1, L, o, q2, q3, q4, es, n, q5⟩ := F en hen
    refine ⟨q1, L, o, q2, q3, sb.extBut L o ?_ q4, es, n, q5⟩
    rintro rfl
    obtain ⟨k, ek⟩ := hl; rw [q4] at ek; cases ek; cases q5

/-- a list of the frame's own that will not change any more -/
theorem StV.freeze (st : StV C A g₀ V₀ h V env ρ ((x, xs) :: r)) (hr : ∀ ys, (x, ys) ∉ r) : ∃ V', StV C A g₀ V₀ h V' env ((x, .list xs) :: ρ) r := by
  obtain ⟨ad, H⟩ := st.own
  obtain ⟨⟨vs, lk, hl, hs⟩, hV, hg, hu⟩ := H x xs (.head _)
  refine ⟨fun a => V a ∨ a = ad x, { st with vis := fun a q => ?_, names := fun y d e => ?_, own := ⟨ad, fun y ys hy => ?_⟩ }⟩
  · rcases q with q | rfl
    · exact st.vis a q
    · exact .inr hg
  · by_cases hy : y = x
    · subst hy; rw [lookup_cons_self] at e; cases e
      exact ⟨_, .list (.inr rfl) hl (hs.wider fun _ q => .inl q), lk⟩
    · rw [lookup_cons_ne hy] at e
      obtain ⟨v, a1, a2⟩ := st.names y d e
      exact ⟨v, a1.wider fun _ q => .inl q, a2⟩
  · obtain ⟨⟨us, b1, b2, b3⟩, b4, b5, b6⟩ := H y ys (.tail _ hy)
    refine ⟨⟨us, b1, b2, b3.wider fun _ q => .inl q⟩, fun q => ?_, b5, fun z zs hz e => b6 z zs (.tail _ hz) e⟩
    rcases q with q | q
    · exact b4 q
    · exact hr ys (hu y ys (.tail _ hy) q ▸ hy)

/-- what a frame may change -/
theorem StV.rebase (st : StV C A g₀ V₀ h V env ρ ow) : ∃ g₁, (∀ b o, g₁.get? b = some o → h.get? b = some o) ∧ StV C A g₁ V h V env ρ ow ∧
    (∀ b o, h.get? b = some o → (∀ es k, o.data ≠ .dict es k) → (∀ v, o.data ≠ .cell v) → (∀ xs k, o.data ≠ .seq xs k) → g₁.get? b = some o) ∧
    (∀ b o, V b → h.get? b = some o → IsSeq o → g₁.get? b = some o) ∧
    ∀ h' V' ρ' ow', StV C A g₁ V h' V' env ρ' ow' → StV C A g₀ V₀ h' V' env ρ' ow' := by
  obtain ⟨ad, H⟩ := st.own
  let X : List Addr := env.locals :: (env.cells.filterMap (fun p => env.cells.lookup p.1) ++ ow.map fun p => ad p.1)
  have hX : ∀ b ∈ X, g₀.get? b = none ∧ ∃ o, h.get? b = some o ∧ ((∃ es k, o.data = .dict es k) ∨ (∃ v, o.data = .cell v) ∨ (IsSeq o ∧ ¬ V b)) := by
    intro b hb
    rcases List.mem_cons.mp hb with rfl | hb
    · obtain ⟨m, o, es, k, e, d, _⟩ := st.ns
      exact ⟨st.nsnew, o, e, .inl ⟨es, k, d⟩⟩
    · rcases List.mem_append.mp hb with hb | hb
      · obtain ⟨p, hp, e⟩ := List.mem_filterMap.mp hb
        obtain ⟨⟨v, o, e', d⟩, q, _⟩ := st.cells p.1 b e
        exact ⟨q, o, e', .inr (.inl ⟨v, d⟩)⟩
      · obtain ⟨p, hp, rfl⟩ := List.mem_map.mp hb
        obtain ⟨⟨vs, _, ⟨k, e⟩, _⟩, q1, q2, _⟩ := H p.1 p.2 hp
        exact ⟨q2, _, e, .inr (.inr ⟨⟨_, _, rfl⟩, q1⟩)⟩
  have hLX : env.locals ∈ X := .head _
  have hcX : ∀ y c, env.cells.lookup y = some c → c ∈ X := fun y c e => .tail _ (List.mem_append.mpr (.inl (List.mem_filterMap.mpr ⟨(y, c), mem_of_lookup e, e⟩)))
  have hoX : ∀ y ys, (y, ys) ∈ ow → ad y ∈ X := fun y ys hy => .tail _ (List.mem_append.mpr (.inr (List.mem_map.mpr ⟨(y, ys), hy, rfl⟩)))
  have g01 : ∀ b o, g₀.get? b = some o → ∃ o', (hideAll h X).get? b = some o' ∧ ObjLe C.g b o o' := fun b o e => by
    obtain ⟨o', e', l⟩ := st.keep b o e
    exact ⟨o', hideAll_get _ e' (fun hb => by rw [(hX b hb).1] at e; cases e), l⟩
  refine ⟨hideAll h X, fun b o e => of_hideAll _ e, ?_, fun b o e n1 n2 n3 => hideAll_get _ e fun hb => ?_, fun b o hv e hs => hideAll_get _ e fun hb => ?_, ?_⟩
  · refine { st with bg := fun b o e => ?_, keep := .of fun b o e => of_hideAll _ e, vis := fun a q => .inl q, nsnew := hideAll_none _ hLX, cells := fun y c e => ?_, own := ⟨ad, fun y ys hy => ?_⟩ }
    · exact hideAll_get _ (st.base b o e) fun hb => by have := (hX b hb).1; rw [st.bg b o e] at this; cases this
    · obtain ⟨a1, _, a3⟩ := st.cells y c e; exact ⟨a1, hideAll_none _ (hcX y c e), a3⟩
    · obtain ⟨a1, a2, _, a4⟩ := H y ys hy; exact ⟨a1, a2, hideAll_none _ (hoX y ys hy), a4⟩
  · obtain ⟨_, o', e', q⟩ := hX b hb
    rw [e] at e'; cases e'
    rcases q with ⟨es, k, d⟩ | ⟨v, d⟩ | ⟨⟨xs, k, d⟩, _⟩
    · exact n1 es k d
    · exact n2 v d
    · exact n3 xs k d
  · obtain ⟨_, o', e', q⟩ := hX b hb
    rw [e] at e'; cases e'
    obtain ⟨xs, k, d⟩ := hs
    rcases q with ⟨es, k', d'⟩ | ⟨v, d'⟩ | ⟨_, q⟩
    · rw [d] at d'; cases d'
    · rw [d] at d'; cases d'
    · exact q hv
  · intro h' V' ρ' ow' st'
    have none01 : ∀ b, (hideAll h X).get? b = none → g₀.get? b = none := fun b q => by
      cases e : g₀.get? b with
      | none => rfl
      | some o => obtain ⟨o', e', _⟩ := g01 b o e; rw [q] at e'; cases e'
    refine { st' with bg := st.bg, keep := fun b o e => ?_, vis := fun a q => ?_, nsnew := st.nsnew, cells := fun y c e => ?_, own := ?_ }
    · obtain ⟨o', e', l⟩ := g01 b o e
      obtain ⟨o'', e'', l'⟩ := st'.keep b o' e'
      exact ⟨o'', e'', l.trans l'⟩
    · rcases st'.vis a q with q | q
      · exact st.vis a q
      · exact .inr (none01 a q)
    · obtain ⟨a1, _, a3⟩ := st'.cells y c e; exact ⟨a1, (st.cells y c e).2.1, a3⟩
    · obtain ⟨ad', H'⟩ := st'.own
      refine ⟨ad', fun y ys hy => ?_⟩
      obtain ⟨a1, a2, a3, a4⟩ := H' y ys hy
      exact ⟨a1, a2, none01 _ a3, a4⟩
end
end Mine
end

section
open PySem PySem.W PySem.Calls PyProof.Rows
namespace Mine

section
variable {C : Cfg} {n : Nat} {sc : Scope} {ρ ρ' : Rho} {ow ow' r : Ow} {out : Out} {x : Str} {xs : List D}

theorem Sxs.perm {st : List Stmt} (hp : ∀ p ∈ ow', p ∈ ow) (h : Sxs C n sc ρ ow' st out) : Sxs C n sc ρ ow st out := by
  rintro A g₀ V₀ s env he hA ⟨V, q⟩
  exact h A g₀ V₀ s env he hA ⟨V, q.perm hp⟩
theorem Sxs.fewer {st : List Stmt} (hp : ∀ y d, ρ'.lookup y = some d → ρ.lookup y = some d) (h : Sxs C n sc ρ' ow st out) : Sxs C n sc ρ ow st out := by
  rintro A g₀ V₀ s env he hA ⟨V, q⟩
  exact h A g₀ V₀ s env he hA ⟨V, q.fewer hp⟩
theorem Sx.fewer {st : Stmt} (hp : ∀ y d, ρ'.lookup y = some d → ρ.lookup y = some d) (h : Sx C n sc ρ' ow st out) : Sx C n sc ρ ow st out := by
  rintro A g₀ V₀ s env he hA ⟨V, q⟩
  exact h A g₀ V₀ s env he hA ⟨V, q.fewer hp⟩
theorem Sxs.freeze {st : List Stmt} (hr : ∀ ys, (x, ys) ∉ r) (h : Sxs C n sc ((x, .list xs) :: ρ) r st out) : Sxs C n sc ρ ((x, xs) :: r) st out := by
  rintro A g₀ V₀ s env he hA ⟨V, q⟩
  obtain ⟨V', q'⟩ := q.freeze hr
  exact h A g₀ V₀ s env he hA ⟨V', q'⟩

theorem lk_unique {h : Heap} {env : Env} {u v : Value} (a : Lk h env x u) (b : Lk h env x v) : u = v := by
  rcases a with ⟨q1, m, q2, q3⟩ | ⟨q1, c, q2, q3⟩ <;> rcases b with ⟨r1, m', r2, r3⟩ | ⟨r1, c', r2, r3⟩
  · obtain ⟨o1, es1, n1, g1, d1, _, f1⟩ := q2
    obtain ⟨o2, es2, n2, g2, d2, _, f2⟩ := r2
    rw [g1] at g2; cases g2; rw [d1] at d2; cases d2
    have : m x = m' x := by rw [← f1, ← f2]
    rw [q3, r3] at this; cases this; rfl
  · rcases r1 with r1 | r1 <;> rw [q1] at r1 <;> cases r1
  · rcases q1 with q1 | q1 <;> rw [r1] at q1 <;> cases q1
  · rw [q2] at r2; cases r2
    obtain ⟨o1, g1, d1⟩ := q3
    obtain ⟨o2, g2, d2⟩ := r3
    rw [g1] at g2; cases g2; rw [d1] at d2; cases d2; rfl
/-- a new empty list of the frame's own -/
theorem Sx.newList {px p pos : Pos} (hk : isLC (sc.names.lookup x) = true) (hx : ∀ ys, (x, ys) ∉ ow) (hρ : ρ.lookup x = none) : Sx C n sc ρ ow (.Assign [.Name x px] (.List [] p) pos) (.next ρ ((x, []) :: ow)) := by
  rintro A g₀ V₀ s env he hA ⟨V, st⟩
  refine wpAny_Assign_Name ?_ rfl
  refine List_ (Calls.spliced_nil ?_)
  refine wpAny_newObj_type ?_
  have hn : s.heap.get? s.heap.objs.size = none := Heap.get?_none_of_le (Nat.le_refl _)
  have k : KeU C.g s.heap (s.heap.push { cls := .type "list", dict := none, data := .seq ([] : List Value).toArray }) := .push _
  have st' : StV C A g₀ V₀ (s.heap.push { cls := .type "list", dict := none, data := .seq ([] : List Value).toArray }) (Fre V s.heap) env ρ ow := st.ke k
  have st'' : StV C A g₀ V₀ (s.heap.push { cls := .type "list", dict := none, data := .seq ([] : List Value).toArray }) (fun a => Fre V s.heap a ∧ a ≠ s.heap.objs.size) env ρ ow := by
    have kp := k
    obtain ⟨ad, H⟩ := st.own
    have hV : ∀ {b o}, s.heap.get? b = some o → b ≠ s.heap.objs.size := fun e => Nat.ne_of_lt (Heap.lt_size e)
    refine { st' with vis := fun a q => st'.vis a q.1, names := fun y d e => ?_, own := ⟨ad, fun y ys hy => ?_⟩ }
    · obtain ⟨v, a1, a2⟩ := st.names y d e
      exact ⟨v, a1.mono fun b o hv e _ => ⟨⟨.inl hv, hV e⟩, Heap.get?_push_of_some _ e⟩, a2.keeps kp⟩
    · obtain ⟨⟨vs, a1, a2, a3⟩, b, c, d⟩ := H y ys hy
      refine ⟨⟨vs, a1.keeps kp, kp.plain a2, a3.mono fun b o hv e _ => ⟨⟨.inl hv, hV e⟩, Heap.get?_push_of_some _ e⟩⟩, fun q => ?_, c, d⟩
      rcases q.1 with q | q
      · exact b q
      · obtain ⟨_, e⟩ := a2; rw [q] at e; cases e
  refine wpAny_mono (wp_store (s := { s with heap := s.heap.push { cls := .type "list", dict := none, data := .seq ([] : List Value).toArray } }) st'' ((isLC_iff hk).imp (kindOf_of he) (kindOf_of he))) (fun _ s₂ h₂ => ?_) fun _ _ f => f
  obtain ⟨⟨h₂, t₂, rfl⟩, sto⟩ := h₂
  refine ⟨⟨h₂, t₂, rfl⟩, rfl, _, sto.owned (vs := []) st'' ⟨0, Heap.get?_push_size _ rfl⟩ .nil (fun q => q.2 rfl) (st.keep.none hn) (fun y ys us hy lk hl => ?_) hx hρ⟩
  obtain ⟨ad, H⟩ := st.own
  obtain ⟨⟨vs, a1, a2, _⟩, _⟩ := H y ys hy
  have e : ad y = s.heap.objs.size := Value.ref.inj (lk_unique (a1.keeps k) lk)
  obtain ⟨_, e'⟩ := a2
  rw [e, hn] at e'; cases e'

/-! methods of lists -/
theorem noDict {h : Heap} {a : Addr} {its : Array Value} (l : h.PlainList a its) : h.NoDictAt (.ref a) := let ⟨_, e⟩ := l; ⟨_, e, rfl⟩
theorem interactive_no {env : Env} (h : env.scope.kind = .function) : interactive env = false := by unfold interactive; rw [h]; rfl

theorem lk_eval {A : Around} {s : Shared} {env : Env} {v : Value} {pos : Pos} {Q : Value → Shared → Prop} {E : Value → Shared → Prop} (hk : env.scope.kind = .function) (lk : Lk s.heap env x v) (h : Q v s)
    (hd : (x == ("__debug__" : Str)) = false) (hc : (x == ("__classdict__" : Str)) = false) : wpAny C.M A (eval (.Name x pos) env) Q E s := by
  refine wpAny_Name ?_ hd
  rcases lk with ⟨hk', m, hm, hv⟩ | ⟨hk' | hk', c, hc1, hv⟩
  · exact wpAny_loadName_local hk hk' hm hv h
  · exact wpAny_loadName_cell hk hk' hc1 hv h
  · exact wpAny_loadName_free hk hk' hc1 hv h hc

theorem mcall {A : Around} {s : Shared} {env : Env} {E : Value → Shared → Prop} {Q : Value → Shared → Prop} {o : Expr} {name : Str} {apos pos : Pos} {args : List Expr} (hb : ∀ t, attributeBase o name env t = t)
    (hform : methodCallForm args.length (backTo pos (starEach args env)) [] = true) (hl : (apos.endLine == pos.line) = true)
    (h : wpAny C.M A (eval o env) (fun ov s₁ => wpAny C.M A (getMethod ov name (do return (← importBound o env).getD true)) (fun fx s₂ => wpAny C.M A (callWith pos fx.1 fx.2 (backTo pos (starEach args env)) []) Q E s₂) E s₁) E s) :
    wpAny C.M A (eval (.Call (.Attribute o name apos) args [] pos) env) Q E s := by
  show wpAny C.M A (do
    let ov ← attributeBase o name env (eval o env)
    standAt apos.atName
    methodCall o name apos pos env ov (args.length + 0) (backTo pos (starEach args env)) []) Q E s
  rw [hb]
  refine wpAny_bind (wpAny_mono h (fun ov s₁ h₁ => wpAny_bind (wpAny_standAt ?_)) fun _ _ f => f)
  unfold methodCall calleeOf
  rw [Nat.add_zero, hform]
  simp only [if_true]
  refine wpAny_bind (wpAny_holding (wpAny_mono h₁ (fun fx s₂ h₂ => ?_) fun _ _ f => f))
  have hpos : methodCallPos true o env apos pos = pure pos := by unfold methodCallPos; simp [hl]
  exact wpAny_bind (wpAny_of_eq hpos h₂)

theorem Sx.append {px ap p pos : Pos} {e : Expr} {d : D} (v : Ev C n sc ρ e d) (hr : ∀ ys, (x, ys) ∉ r) (hlen : xs.length ≤ 1000)
    (hl : (ap.endLine == p.line) = true := by rfl)
    (hs : ∀ env, starEach [e] env = [(false, eval e env)] := by intro _; rfl)
    (hsw : ∀ env : Env, swapsWith (.Call (.Attribute (.Name x px) (Str.ofString "append") ap) [e] [] p) none pos.line env = pure false := by intro _; rfl)
    (hd : (x == ("__debug__" : Str)) = false := by decide) (hc : (x == ("__classdict__" : Str)) = false := by decide) :
    Sx C n sc ρ ((x, xs) :: r) (.Expr (.Call (.Attribute (.Name x px) (Str.ofString "append") ap) [e] [] p) pos) (.next ρ ((x, xs ++ [d]) :: r)) := by
  rintro A g₀ V₀ s env he hA ⟨V, st⟩
  refine wpAny_Expr_any ?_ (interactive_no st.kind) (hsw env)
  obtain ⟨a, vs, lk, hl', _⟩ := st.setOwn hr
  refine mcall (fun _ => rfl) (by rw [hs]; rfl) hl (lk_eval st.kind lk ?_ hd hc)
  refine getMethod_list_of slot_list_append type_list_append hl'.isList (noDict hl') ?_
  refine callWith_method1 (wpAny_mono ((Evs.cons v Evs.nil hs) A s V env p he hA st.rd) (fun us s₁ h₁ => ?_) fun _ _ f => f.elim) (hs env) rfl
  obtain ⟨k₁, a₁⟩ := h₁
  cases a₁ with
  | cons hd' tl =>
    cases tl
    have st₁ := st.ke k₁.heap
    obtain ⟨a', vs', lk', hl₁, hs', hV', _, set⟩ := st₁.setOwn hr
    have ea : a = a' := by
      have := (lk.keeps k₁.heap)
      exact Value.ref.inj (lk_unique this lk')
    subst ea
    have hz : vs'.toArray.size ≤ sizeLine := by rw [List.size_toArray, hs'.length]; unfold sizeLine; omega
    refine wpAny_list_append_plain hl₁ (fun h₂ hl₂ sb => ?_) hz
    refine ⟨k₁.same.trans ⟨h₂, s₁.toks, rfl⟩, rfl, _, set h₂ (vs' ++ [_]) (xs ++ [d]) sb ?_ (hs'.append (.cons hd' .nil))⟩
    simpa using hl₂
end
end Mine
end

section
open PySem PySem.W PySem.Calls PyProof.Rows
namespace Mine

section
variable {C : Cfg} {n : Nat} {sc : Scope} {ρ ρ' : Rho} {ow ow' r : Ow} {out : Out} {x : Str} {xs : List D}

/-! while, turn by turn -/
noncomputable def Wx (C : Cfg) (n : Nat) (sc : Scope) (ρ : Rho) (ow : Ow) (test : Expr) (body : List Stmt) (out : Out) : Prop :=
  ∀ A g₀ V₀ s env, env.scope = sc → AOK n A → St C A g₀ V₀ s.heap env ρ ow →
    codeAny C.M A (.whileLoop test body [] env) (fun r s' => ∃ fl, r = .ok fl ∧ Post C A g₀ V₀ env out s fl s') s
theorem Sx.whileW {test : Expr} {body : List Stmt} {pos : Pos} (h : Wx C n sc ρ ow test body out) : Sx C n sc ρ ow (.While test body [] pos) out := by
  rintro A g₀ V₀ s env he hA st
  refine wpAny_While (codeAny_mono (h A g₀ V₀ s env he hA st) ?_)
  rintro r s' ⟨fl, rfl, p⟩
  exact p
theorem wx_turn {A : Around} {s : Shared} {env : Env} {test : Expr} {body : List Stmt} {R : Result → Shared → Prop}
    (h : wpAny C.M A (isTrue test env (eval test env)) (fun b s₂ => if b then wpAny C.M A (execs body env) (fun f s₃ => match f with
            | .next | .cont => codeAny C.M A (.whileLoop test body [] env) R s₃
            | .brk => R (.ok .next) s₃
            | .ret v => R (.ok (.ret v)) s₃) (fun _ _ => False) s₂
        else R (.ok .next) s₂) (fun _ _ => False) s) : codeAny C.M A (.whileLoop test body [] env) R s := by
  refine codeAny_of_tree ?_
  rw [Around.under_of_weight (by rfl) (by rfl)]
  show wpAny _ A ((whileTurn test body [] env).onRaise (fun x => do noteFrame x env; theTreesLotGoes x)) _ _ s
  refine wpAny_noted ?_
  simp only [whileTurn]
  refine wpAny_bind (wpAny_mono h (fun b s₂ h₂ => ?_) fun _ _ h' => h'.elim)
  cases b with
  | false =>
    simp only [Bool.false_eq_true, if_false] at h₂ ⊢
    exact wpAny_bind (wpAny_execs_nil (wpAny_pure h₂))
  | true =>
    simp only [if_true] at h₂ ⊢
    refine wpAny_bind (wpAny_mono h₂ (fun f s₃ h₃ => ?_) fun _ _ h' => h'.elim)
    cases f with
    | next => exact wpAny_pure ⟨rfl, h₃⟩
    | cont => exact wpAny_pure ⟨rfl, h₃⟩
    | brk => exact wpAny_pure h₃
    | ret v => exact wpAny_pure h₃
theorem Wx.stop {test : Expr} {body : List Stmt} (t : Tr C n sc ρ test false) : Wx C n sc ρ ow test body (.next ρ ow) := by
  rintro A g₀ V₀ s env he hA ⟨V, st⟩
  refine wx_turn (wpAny_mono (t A s V env he hA st.rd) (fun b s₁ h₁ => ?_) fun _ _ f => f)
  obtain ⟨k, rfl⟩ := h₁
  exact ⟨_, rfl, k.same, rfl, _, st.ke k.heap⟩
theorem Wx.step {test : Expr} {body : List Stmt} (t : Tr C n sc ρ test true) (b : Sxs C n sc ρ ow body (.next ρ' ow')) (w : Wx C n sc ρ' ow' test body out) : Wx C n sc ρ ow test body out := by
  rintro A g₀ V₀ s env he hA ⟨V, st⟩
  refine wx_turn (wpAny_mono (t A s V env he hA st.rd) (fun b' s₁ h₁ => ?_) fun _ _ f => f)
  obtain ⟨k, rfl⟩ := h₁
  simp only [if_true]
  refine wpAny_mono (b A g₀ V₀ s₁ env he hA ⟨_, st.ke k.heap⟩) (fun fl s₂ h₂ => ?_) fun _ _ f => f
  obtain ⟨h1, rfl, h2⟩ := h₂
  refine codeAny_mono (w A g₀ V₀ s₂ env he hA h2) ?_
  rintro r s' ⟨fl, rfl, p⟩
  exact ⟨fl, rfl, p.from (k.same.trans h1)⟩
theorem Wx.brk {test : Expr} {body : List Stmt} (t : Tr C n sc ρ test true) (b : Sxs C n sc ρ ow body (.brk ρ' ow')) : Wx C n sc ρ ow test body (.next ρ' ow') := by
  rintro A g₀ V₀ s env he hA ⟨V, st⟩
  refine wx_turn (wpAny_mono (t A s V env he hA st.rd) (fun b' s₁ h₁ => ?_) fun _ _ f => f)
  obtain ⟨k, rfl⟩ := h₁
  simp only [if_true]
  refine wpAny_mono (b A g₀ V₀ s₁ env he hA ⟨_, st.ke k.heap⟩) (fun fl s₂ h₂ => ?_) fun _ _ f => f
  obtain ⟨h1, rfl, h2⟩ := h₂
  exact ⟨_, rfl, k.same.trans h1, rfl, h2⟩
theorem Sx.brk {pos : Pos} : Sx C n sc ρ ow (.Break pos) (.brk ρ ow) := fun _ _ _ _ _ _ _ st => wpAny_bind (wpAny_standAt (wpAny_pure ⟨.refl, rfl, st⟩))
theorem Sx.pass {pos : Pos} : Sx C n sc ρ ow (.Pass pos) (.next ρ ow) := fun _ _ _ _ _ _ _ st => wpAny_Pass ⟨.refl, rfl, st⟩

/-- i += e -/
theorem Sx.aug {e : Expr} {op : Operator} {px pos : Pos} {a b c : D} (hx : ρ.lookup x = some a) (v : Ev C n sc ρ e b) (hk : isLC (sc.names.lookup x) = true) (hxo : ∀ ys, (x, ys) ∉ ow)
    (hop : ∀ A s V v₁ v₂, AOK n A → (∀ b o, C.g.get? b = some o → s.heap.get? b = some o) → At s.heap V v₁ a → At s.heap V v₂ b →
      wpAny C.M A (inplaceOp op v₁ v₂) (fun v s' => Ke C.g s s' ∧ At s'.heap (Fre V s.heap) v c) (fun _ _ => False) s)
    (hd : (x == ("__debug__" : Str)) = false := by decide) (hc : (x == ("__classdict__" : Str)) = false := by decide) :
    Sx C n sc ρ ow (.AugAssign (.Name x px) op e pos) (.next ((x, c) :: ρ) ow) := by
  rintro A g₀ V₀ s env he hA ⟨V, st⟩
  refine wpAny_AugAssign_Name ?_
  obtain ⟨u, au, lk⟩ := st.names x a hx
  have ld : ∀ {Q : Value → Shared → Prop}, Q u s → wpAny C.M A (loadName env x) Q (fun _ _ => False) s := fun q => by
    rcases lk with ⟨hk', m, hm, hv⟩ | ⟨hk' | hk', c, hc1, hv⟩
    · exact wpAny_loadName_local st.kind hk' hm hv q
    · exact wpAny_loadName_cell st.kind hk' hc1 hv q
    · exact wpAny_loadName_free st.kind hk' hc1 hv q hc
  refine ld (wpAny_mono (v A s V env he hA st.rd) (fun v₂ s₁ h₁ => ?_) fun _ _ f => f)
  have st₁ := st.ke h₁.1.heap
  refine wpAny_mono (hop A s₁ (Fre V s.heap) u v₂ hA st₁.base (h₁.1.heap.at Fre.sub au) h₁.2) (fun v₃ s₂ h₂ => ?_) fun _ _ f => f
  have st₂ := st₁.ke h₂.1.heap
  refine wpAny_mono (wp_store st₂ ((isLC_iff hk).imp (kindOf_of he) (kindOf_of he))) (fun _ s₃ h₃ => ?_) fun _ _ f => f
  exact ⟨(h₁.1.same.trans h₂.1.same).trans h₃.1, rfl, _, h₃.2.val st₂ h₂.2 hxo⟩
theorem iadd_ints {a b : Int} : ∀ A s V v₁ v₂, AOK n A → (∀ b o, C.g.get? b = some o → s.heap.get? b = some o) → At s.heap V v₁ (.int a) → At s.heap V v₂ (.int b) →
      wpAny C.M A (inplaceOp .Add v₁ v₂) (fun v s' => Ke C.g s s' ∧ At s'.heap (Fre V s.heap) v (.int (a + b))) (fun _ _ => False) s := by
  intro A s V v₁ v₂ _ _ x y; cases x; cases y; exact P.iadd_int ⟨.toks, .int _ _⟩

theorem ItF.bytes {e : Expr} {bs : Array UInt8} (x : Ev C n sc ρ e (.bytes bs)) (hn : 1 ≤ n := by omega) : ItF C n sc ρ e (bs.toList.map fun c => .int (c.toNat : Int)) := by
  intro A s V env he hA rd
  refine wpAny_mono (x A s V env he hA rd) (fun v s₁ h₁ => ?_) fun _ _ f => f
  obtain ⟨k₁, a⟩ := h₁
  cases a with
  | bytes _ t =>
    refine KBw.pyIter_bytes ⟨k₁.trans (.mkh (.push _)), s₁.heap.objs.size, [s₁.heap.objs.size], fun i v => ∃ c u, bs[i]? = some c ∧ v = .int (c.toNat : Int) u, fun i h => KBw.IsBytesIter h s₁.heap.objs.size bs t i, rfl, ?_, ?_, ?_, ?_, ?_⟩
    · have W := KBw.walks (prog := PySem.Challenge.rw_oy0148_01.row.prog) (w := C.w) (hA.handled hn) s₁.heap.objs.size bs t
      rw [List.length_map, Array.length_toList]; exact W
    · exact ⟨_, Heap.get?_push_size _ rfl, rfl, rfl⟩
    · rintro i h b ⟨o, e, _, d⟩ hb
      rw [List.mem_singleton.mp hb]; exact ⟨o, e, _, d⟩
    · intro b hb
      rw [List.mem_singleton.mp hb]; exact k₁.heap.none (Heap.get?_none_of_le (Nat.le_refl _))
    · rintro i v ⟨c, u, hc, rfl⟩
      exact ⟨.int c.toNat, by simp [hc], .int _ _⟩

/-- something changes that no name reaches -/
theorem StV.but {A : Around} {g₀ : Heap} {V₀ V : Addr → Prop} {h h' : Heap} {env : Env} {wr : List Addr} (st : StV C A g₀ V₀ h V env ρ ow) (hk : ∀ b o, b ∉ wr → h.get? b = some o → h'.get? b = some o)
    (hw : ∀ b ∈ wr, g₀.get? b = none ∧ ∃ o, h.get? b = some o ∧ ∃ fs, o.data = .fields fs) : StV C A g₀ V₀ h' V env ρ ow := by
  have ex : ∀ {b o}, h.get? b = some o → (∀ fs, o.data ≠ .fields fs) → h'.get? b = some o := fun e nf => hk _ _ (fun hb => by
    obtain ⟨_, o', e', fs, d⟩ := hw _ hb; rw [e] at e'; cases e'; exact nf fs d) e
  have upA : ∀ {v d}, At h V v d → At h' V v d := fun q => q.mono fun b o hv e hs => ⟨hv, ex e (by obtain ⟨_, _, d⟩ := hs; rw [d]; intro _ q; cases q)⟩
  have upAs : ∀ {v d}, Ats h V v d → Ats h' V v d := fun q => q.mono fun b o hv e hs => ⟨hv, ex e (by obtain ⟨_, _, d⟩ := hs; rw [d]; intro _ q; cases q)⟩
  have upC : ∀ {c v}, h.IsCell c v → h'.IsCell c v := fun ⟨o, e, d⟩ => ⟨o, ex e (by rw [d]; intro _ q; cases q), d⟩
  have upN : ∀ {a m}, h.Ns a m → h'.Ns a m := fun ⟨o, es, k, e, d, q⟩ => ⟨o, es, k, ex e (by rw [d]; intro _ q; cases q), d, q⟩
  have upK : ∀ {y v}, Lk h env y v → Lk h' env y v := fun q => by
    rcases q with ⟨a, m, b, c⟩ | ⟨a, c, b, d⟩
    · exact .inl ⟨a, m, upN b, c⟩
    · exact .inr ⟨a, c, b, upC d⟩
  refine { st with keep := fun b o e => ?_, ns := ?_, cells := fun y c e => ?_, names := fun y d e => ?_, own := ?_, frames := ?_ }
  · obtain ⟨o', e', l⟩ := st.keep b o e
    exact ⟨o', hk b o' (fun hb => by rw [(hw b hb).1] at e; cases e) e', l⟩
  · obtain ⟨m, hm⟩ := st.ns; exact ⟨m, upN hm⟩
  · obtain ⟨⟨v, a1⟩, a2⟩ := st.cells y c e; exact ⟨⟨v, upC a1⟩, a2⟩
  · obtain ⟨v, a1, a2⟩ := st.names y d e; exact ⟨v, upA a1, upK a2⟩
  · obtain ⟨ad, H⟩ := st.own
    refine ⟨ad, fun y ys hy => ?_⟩
    obtain ⟨⟨vs, a1, ⟨k, a2⟩, a3⟩, b⟩ := H y ys hy
    exact ⟨⟨vs, upK a1, ⟨k, ex a2 (by intro _ q; cases q)⟩, upAs a3⟩, b⟩
  · obtain ⟨outer, e, H⟩ := st.frames
    refine ⟨outer, e, fun en hen => ?_⟩
    obtain ⟨q1, L, o, q2, q3, q4, es, k, q5⟩ := H en hen
    exact ⟨q1, L, o, q2, q3, ex q4 (by rw [q5]; intro _ q; cases q), es, k, q5⟩

/-- for over ints -/
theorem Sx.forI {iter : Expr} {body : List Stmt} {px pos : Pos} {ns : List Int} (σ : Nat → Rho × Ow) (h0 : σ 0 = (ρ, ow)) (hit : ItF C n sc ρ iter (ns.map .int)) (hk : isLC (sc.names.lookup x) = true) (hxo : ∀ i ys, (x, ys) ∉ (σ i).2)
    (hb : ∀ i k, ns[i]? = some k → Sxs C n sc ((x, .int k) :: (σ i).1) (σ i).2 body (.next (σ (i + 1)).1 (σ (i + 1)).2))
    (hs : ∀ env x, foldedSetIterable iter env x = pure x := by intro _ _; rfl) : Sx C n sc ρ ow (.For (.Name x px) iter body [] pos) (.next (σ ns.length).1 (σ ns.length).2) := by
  rintro A g₀ V₀ s env he hA ⟨V, st⟩
  refine wpAny_For (wpAny_mono (hit A s V env he hA st.rd) (fun xv s₁ h₁ => wpAny_mono h₁ (fun it s₂ h₂ => ?_) fun _ _ f => f) fun _ _ f => f) (hs env)
  obtain ⟨ke₂, I, wr, P, St', rfl, W, st0, hwf, hwn, hP⟩ := h₂
  rw [List.length_map] at W
  have hwg : ∀ b ∈ wr, g₀.get? b = none := fun b hb => st.keep.none (hwn b hb)
  have stI : StV C A g₀ V₀ s₂.heap (Fre V s.heap) env (σ 0).1 (σ 0).2 := by rw [h0]; exact st.ke ke₂.heap
  obtain ⟨h₂, t₂, rfl, _⟩ := ke₂
  refine codeAny_forLoop_any (fun k s' => ∃ h tk i, s' = { s with heap := h, toks := tk } ∧ St' i h ∧ i ≤ ns.length ∧ k = ns.length + 1 - i ∧ ∃ V', StV C A g₀ V₀ h V' env (σ i).1 (σ i).2) ?_ (ns.length + 1)
    ⟨h₂, t₂, 0, rfl, st0, Nat.zero_le _, rfl, _, stI⟩
  rintro k s' ⟨h, tk, i, rfl, hst, hi, rfl, V', sv⟩
  by_cases hlt : i < ns.length
  · refine W.item i _ _ _ hlt hst fun v h₅ tk₅ hPv hst₅ hk₅ => ?_
    obtain ⟨d, hd, had⟩ := hP i v hPv
    rw [List.getElem?_map] at hd
    cases hn : ns[i]? with
    | none => rw [hn] at hd; cases hd
    | some m =>
      rw [hn] at hd; cases hd
      have ev : ∃ t, v = .int m t := by cases had; exact ⟨_, rfl⟩
      obtain ⟨t, rfl⟩ := ev
      have sv₅ : StV C A g₀ V₀ h₅ V' env (σ i).1 (σ i).2 := sv.but hk₅ fun b hb => ⟨hwg b hb, hwf i h b hst hb⟩
      refine wpAny_of_eq (a := ()) rfl ?_
      refine wpAny_assign_Name (wpAny_mono (wp_store (s := { s with heap := h₅, toks := tk₅ }) sv₅ ((isLC_iff hk).imp (kindOf_of he) (kindOf_of he))) (fun _ s₆ h₆ => ?_) fun _ _ f => f.elim)
      obtain ⟨⟨h₆, t₆, rfl⟩, sto⟩ := h₆
      dsimp only at sto
      have sv₆ := sto.val sv₅ (d := .int m) (.int _ _) (hxo i)
      obtain ⟨g₁, gk, sr, gf, _, back⟩ := sv₆.rebase
      have wfr : ∀ {b o}, h₅.get? b = some o → b ∈ wr → h₆.get? b = some o ∧ ∃ fs, o.data = .fields fs := fun {b o} e hb => by
        obtain ⟨o', e', fs, d⟩ := hwf (i + 1) h₅ b hst₅ hb
        rw [e] at e'; cases e'
        exact ⟨sto.keep b o (sv₅.notL e (by rw [d]; intro _ _ q; cases q)) (sv₅.notC e (by rw [d]; intro _ q; cases q)) e, fs, d⟩
      have hst₆ : St' (i + 1) h₆ := W.frame _ _ _ hst₅ fun b hb o e => (wfr e hb).1
      refine wpAny_mono (hb i m hn A g₁ V' { s with heap := h₆, toks := t₆ } env he hA ⟨V', sr⟩) (fun fl s₇ h₇ => ?_) fun _ _ f => f.elim
      obtain ⟨⟨h₇, t₇, rfl⟩, rfl, V₇, sv₇⟩ := h₇
      dsimp only at sv₇
      refine ⟨ns.length + 1 - (i + 1), by omega, h₇, t₇, i + 1, rfl, W.frame _ _ _ hst₆ fun b hb' o e => ?_, by omega, rfl, V₇, back _ _ _ _ sv₇⟩
      obtain ⟨o', e', fs, d⟩ := hwf (i + 1) h₆ b hst₆ hb'
      rw [e] at e'; cases e'
      have eg := gf b o e (by rw [d]; intro _ _ q; cases q) (by rw [d]; intro _ q; cases q) (by rw [d]; intro _ _ q; cases q)
      exact sv₇.keep.notFrame eg (by rw [d]; intro _ _ q; cases q)
  · have hin : i = ns.length := by omega
    subst hin
    refine W.done _ _ _ hst fun h₅ tk₅ hk₅ => wpAny_execs_nil ?_
    exact ⟨⟨h₅, tk₅, rfl⟩, rfl, V', sv.but hk₅ fun b hb => ⟨hwg b hb, hwf _ h b hst hb⟩⟩
end
end Mine
end

section
open PySem PySem.W PySem.Calls PyProof.Rows
namespace Mine

theorem Exc.keeps {g h₀ h h' : Heap} {e : Addr} {cls : String} {tb ctx : Bool} (x : Exc g h₀ h e cls tb ctx) (k : KeU g h h') : Exc g h₀ h' e cls tb ctx := by
  obtain ⟨kp, new, oe, vs, he, hc, hd, hsz, hctx, htb, hnt⟩ := x
  refine ⟨kp.trans k, new, oe, vs, k.notFrame he (by rw [hd]; intro _ _ q; cases q), hc, hd, hsz, hctx, fun q => ?_, hnt⟩
  obtain ⟨T, oT, ts, h1, hT0, hTe, hT, hdT, h3⟩ := htb q
  exact ⟨T, oT, ts, h1, hT0, hTe, k.notFrame hT (by rw [hdT]; intro _ _ q; cases q), hdT, h3⟩

/-- what is being handled has no context and stands in h -/
noncomputable def Hd (C : Cfg) (A : Around) (h : Heap) : Prop := A.handled = none ∨ ∃ e₁ cls₁ h₁ tb₁, A.handled = some (.ref e₁) ∧ Exc C.g h₁ h e₁ cls₁ tb₁ true
theorem Hd.keeps {C : Cfg} {A : Around} {h h' : Heap} (x : Hd C A h) (k : KeU C.g h h') : Hd C A h' := x.imp id fun ⟨e₁, c, h₁, tb, a, b⟩ => ⟨e₁, c, h₁, tb, a, b.keeps k⟩

section
variable {C : Cfg} {n : Nat} {sc : Scope} {ρ ρ' : Rho} {ow ow' r : Ow} {out : Out} {x : Str} {xs : List D} {cls : String} {c : Bool}

theorem wp_raise {A : Around} {s : Shared} {α : Type} {msg : String} {Q : α → Shared → Prop} {E : Value → Shared → Prop} (hp : PlainExc cls) (hh : Hd C A s.heap)
    (h : ∀ s' e ctx, Same s s' → Exc C.g s.heap s'.heap e cls false ctx → (A.handled = none → ctx = true) → E (.ref e) s') : wpAny C.M A (raiseErrorWords cls msg : Sem α) Q E s := by
  unfold raiseErrorWords
  refine wpAny_bind (wpAny_mkText (wpAny_bind (wpAny_newExc_plain hp fun h' e hm => ?_)))
  obtain ⟨t, e1, _, _⟩ := hm.there
  have x : Exc C.g s.heap h' e cls false true := ⟨.of hm.keeps, hm.new, _, _, e1, rfl, rfl, by simp, fun _ => rfl, (by intro q; cases q), fun _ => rfl⟩
  refine wp_raiseNew (s := { s with heap := h', toks := s.toks + 1 }) x ?_ fun s' ctx sm y hc => h s' e ctx (Same.trans ⟨h', s.toks + 1, rfl⟩ sm) y hc
  rcases hh with hh | ⟨e₁, c₁, h₁, tb₁, hh, x₁⟩
  · exact .inl hh
  · refine .inr ⟨e₁, c₁, h₁, tb₁, hh, x₁.keeps (.of hm.keeps), ?_⟩
    rintro rfl
    obtain ⟨_, _, oe, vs, he, _⟩ := x₁
    rw [hm.new] at he; cases he

/-- beyond the list's end -/
theorem getItem_out {A : Around} {s : Shared} {l : Addr} {items : Array Value} {k : Int} {t : Tok} {Q : Value → Shared → Prop} {E : Value → Shared → Prop} (hl : s.heap.IsList l items) (h0 : 0 ≤ k) (hfit : k < 2 ^ 63) (hx : (items.size : Int) ≤ k)
    (hh : Hd C A s.heap) (h : ∀ s' e ctx, Same s s' → Exc C.g s.heap s'.heap e "IndexError" false ctx → (A.handled = none → ctx = true) → E (.ref e) s') : wpAny C.M A (getItem (.ref l) (.int k t)) Q E s := by
  obtain ⟨o, ho, hc, ne, hd⟩ := id hl
  unfold getItem
  try with_reducible refine wpAny_holding ?_
  first | refine wpAny_bind (wpAny_pure ?_) | skip
  refine wpAny_bind (wpAny_sequenceKey hl.typeIs (by decide) ?_)
  refine wpAny_bind (wpAny_callSpecial?_slot (name := Str.ofString "__getitem__") hl.typeIs slot_list_getitem
    (wpAny_call_entry slot_list_getitem hl.typeIs entry_list_getitem ?_ (args_list_getitem _ _)))
  show wpAny _ _ (Builtin.List.listSubscript? (.int k t) >>= _) _ _ s
  refine wpAny_bind (wpAny_listSubscript_int (fitsIndex_of h0 hfit) ?_)
  clear hfit
  obtain ⟨j, rfl⟩ := Int.eq_ofNat_of_zero_le h0
  have hx' : items[j]? = none := Array.getElem?_eq_none (by omega)
  show wpAny _ _ ((seqItemAt l j >>= fun r => pure (r.map (j, ·))) >>= _) _ _ s
  refine wpAny_bind (wpAny_bind (wpAny_seqItemAt ho hd (wpAny_pure ?_)))
  rw [hx']
  exact wpAny_bind (wpAny_rule (wpAny_bind (wp_raise plainExc_IndexError (A := A.in1) hh h)))

/-- an expression that raises -/
noncomputable def EvE (C : Cfg) (n : Nat) (sc : Scope) (ρ : Rho) (e : Expr) (cls : String) : Prop :=
  ∀ A s V env, env.scope = sc → AOK n A → Hd C A s.heap → Rd C A s.heap V env ρ →
    wpAny C.M A (eval e env) (fun _ _ => False) (fun v s' => Same s s' ∧ ∃ a ctx h₀, v = .ref a ∧ KeU C.g s.heap h₀ ∧ Exc C.g h₀ s'.heap a cls false ctx ∧ (A.handled = none → ctx = true)) s
theorem EvE.item {value slice : Expr} {pos : Pos} {ds : List D} {i : Int} (u : Ev C n sc ρ value (.list ds)) (v : Ev C n sc ρ slice (.int i)) (h0 : (ds.length : Int) ≤ i) (hi : i < 2 ^ 63)
    (hs : ∀ o i, subscripted slice false o i = operate [o, i] (getItem o i) := by intro _ _; with_unfolding_all rfl) : EvE C n sc ρ (.Subscript value slice pos) "IndexError" := by
  intro A s V env he hA hh rd
  refine Subscript_ ?_
  refine wpAny_mono (two he hA rd u v (Q := fun v₁ v₂ s₂ => Ke C.g s s₂ ∧ At s₂.heap (Fre V s.heap) v₁ (.list ds) ∧ At s₂.heap (Fre V s.heap) v₂ (.int i)) fun v₁ v₂ s₂ k a₁ a₂ r₂ => ⟨k, a₁, a₂⟩) (fun v₁ s₁ h₁ => wpAny_mono h₁ (fun v₂ s₂ h₂ => ?_) fun _ _ f => f.elim) fun _ _ f => f.elim
  obtain ⟨k, a₁, a₂⟩ := h₂
  cases a₁ with
  | list hv hl hs' =>
    cases a₂
    refine tail_any hl.isList.typeIs slot_list_getitem.lookup (getItem_out hl.isList (by omega) hi (by rw [List.size_toArray, hs'.length]; exact h0) (hh.keeps k.heap) fun s' e ctx sm x hc => ?_) (hs _ _)
    exact ⟨k.same.trans sm, e, ctx, s₂.heap, rfl, k.heap, x, hc⟩
/-- a test that raises in its left part -/
noncomputable def TrE (C : Cfg) (n : Nat) (sc : Scope) (ρ : Rho) (e : Expr) (cls : String) : Prop :=
  ∀ A s V env, env.scope = sc → AOK n A → Hd C A s.heap → Rd C A s.heap V env ρ →
    wpAny C.M A (isTrue e env (eval e env)) (fun _ _ => False) (fun v s' => Same s s' ∧ ∃ a ctx h₀, v = .ref a ∧ KeU C.g s.heap h₀ ∧ Exc C.g h₀ s'.heap a cls false ctx ∧ (A.handled = none → ctx = true)) s
theorem TrE.cmp {l rr : Expr} {op : CmpOp} {pos : Pos} (u : EvE C n sc ρ l cls) (hm : behindInMarks op rr = false := by with_unfolding_all rfl) : TrE C n sc ρ (.Compare l [op] [rr] pos) cls := by
  intro A s V env he hA hh rd
  exact wpAny_isTrue_Compare1 (wpAny_mono (u A s V env he hA hh rd) (fun _ _ f => f.elim) fun _ _ q => q) hm

/-- a statement that raises; the state is that ahead of the exception -/
noncomputable def EPost (C : Cfg) (A : Around) (g₀ : Heap) (V₀ : Addr → Prop) (env : Env) (cls : String) (c : Bool) (ρ' : Rho) (ow' : Ow) (s : Shared) (v : Value) (s' : Shared) : Prop :=
  Same s s' ∧ ∃ a tb ctx h₀, v = .ref a ∧ Exc C.g h₀ s'.heap a cls tb ctx ∧ (c = true → A.handled = none → ctx = true) ∧ St C A g₀ V₀ h₀ env ρ' ow'
noncomputable def SxE (C : Cfg) (n : Nat) (sc : Scope) (ρ : Rho) (ow : Ow) (st : Stmt) (cls : String) (c : Bool) (ρ' : Rho) (ow' : Ow) : Prop :=
  ∀ A g₀ V₀ s env, env.scope = sc → AOK n A → Hd C A g₀ → St C A g₀ V₀ s.heap env ρ ow → wpAny C.M A (exec st env) (fun _ _ => False) (EPost C A g₀ V₀ env cls c ρ' ow' s) s
noncomputable def SxsE (C : Cfg) (n : Nat) (sc : Scope) (ρ : Rho) (ow : Ow) (st : List Stmt) (cls : String) (c : Bool) (ρ' : Rho) (ow' : Ow) : Prop :=
  ∀ A g₀ V₀ s env, env.scope = sc → AOK n A → Hd C A g₀ → St C A g₀ V₀ s.heap env ρ ow → wpAny C.M A (execs st env) (fun _ _ => False) (EPost C A g₀ V₀ env cls c ρ' ow' s) s
theorem EPost.from {A : Around} {g₀ : Heap} {V₀ : Addr → Prop} {env : Env} {s s₁ s' : Shared} {v : Value} (x : EPost C A g₀ V₀ env cls c ρ' ow' s₁ v s') (y : Same s s₁) : EPost C A g₀ V₀ env cls c ρ' ow' s v s' := ⟨y.trans x.1, x.2⟩
theorem SxsE.head {st : Stmt} {rest : List Stmt} (u : SxE C n sc ρ ow st cls c ρ' ow') : SxsE C n sc ρ ow (st :: rest) cls c ρ' ow' := by
  intro A g₀ V₀ s env he hA hh hs
  rw [execs_cons]
  exact wpAny_bind (wpAny_mono (u A g₀ V₀ s env he hA hh hs) (fun _ _ f => f.elim) fun _ _ q => q)
theorem SxsE.cons {ρ₁ : Rho} {ow₁ : Ow} {st : Stmt} {rest : List Stmt} (u : Sx C n sc ρ ow st (.next ρ₁ ow₁)) (v : SxsE C n sc ρ₁ ow₁ rest cls c ρ' ow') : SxsE C n sc ρ ow (st :: rest) cls c ρ' ow' := by
  intro A g₀ V₀ s env he hA hh hs
  rw [execs_cons]
  refine wpAny_bind (wpAny_mono (u A g₀ V₀ s env he hA hs) (fun fl s₁ h₁ => ?_) fun _ _ f => f.elim)
  obtain ⟨h1, rfl, h2⟩ := h₁
  exact wpAny_mono (v A g₀ V₀ s₁ env he hA hh h2) (fun _ _ f => f) fun _ _ q => q.from h1
theorem SxE.ifT {test : Expr} {body orelse : List Stmt} {pos : Pos} (t : Tr C n sc ρ test true) (u : SxsE C n sc ρ ow body cls c ρ' ow') : SxE C n sc ρ ow (.If test body orelse pos) cls c ρ' ow' := by
  rintro A g₀ V₀ s env he hA hh ⟨V, st⟩
  refine wpAny_If (wpAny_mono (t A s V env he hA st.rd) (fun b s₁ h₁ => ?_) fun _ _ f => f.elim)
  obtain ⟨k, rfl⟩ := h₁
  exact wpAny_mono (u A g₀ V₀ s₁ env he hA hh ⟨_, st.ke k.heap⟩) (fun _ _ f => f) fun _ _ q => q.from k.same
theorem SxE.ifF {test : Expr} {body orelse : List Stmt} {pos : Pos} (t : Tr C n sc ρ test false) (u : SxsE C n sc ρ ow orelse cls c ρ' ow') : SxE C n sc ρ ow (.If test body orelse pos) cls c ρ' ow' := by
  rintro A g₀ V₀ s env he hA hh ⟨V, st⟩
  refine wpAny_If (wpAny_mono (t A s V env he hA st.rd) (fun b s₁ h₁ => ?_) fun _ _ f => f.elim)
  obtain ⟨k, rfl⟩ := h₁
  exact wpAny_mono (u A g₀ V₀ s₁ env he hA hh ⟨_, st.ke k.heap⟩) (fun _ _ f => f) fun _ _ q => q.from k.same
theorem SxE.assign {e : Expr} {px pos : Pos} (v : EvE C n sc ρ e cls) (hs : ∀ env : Env, env.scope = sc → swapsWith e (some (.Name x px)) pos.line env = pure false) : SxE C n sc ρ ow (.Assign [.Name x px] e pos) cls true ρ ow := by
  rintro A g₀ V₀ s env he hA hh ⟨V, st⟩
  refine wpAny_Assign_Name (wpAny_mono (v A s V env he hA (hh.keeps st.keep) st.rd) (fun _ _ f => f.elim) fun _ s' q => ?_) (hs env he)
  obtain ⟨sm, a, ctx, h₀, e, k, y, hc⟩ := q
  exact ⟨sm, a, false, ctx, h₀, e, y, fun _ => hc, _, st.ke k⟩
theorem frOf_top {A : Around} {g₀ : Heap} {V₀ V : Addr → Prop} {h : Heap} {env : Env} (st : StV C A g₀ V₀ h V env ρ ow) : ∃ rest, A.frames = some (env :: rest) := st.top
theorem SxE.while_ {test : Expr} {body : List Stmt} {pos : Pos} (t : TrE C n sc ρ test cls) : SxE C n sc ρ ow (.While test body [] pos) cls true ρ ow := by
  rintro A g₀ V₀ s env he hA hh ⟨V, st⟩
  obtain ⟨rest, hA'⟩ := st.top
  refine wpAny_While (codeAny_of_tree ?_)
  rw [Around.under_of_weight (by rfl) (by rfl)]
  show wpAny _ A ((whileTurn test body [] env).onRaise (fun x => do noteFrame x env; theTreesLotGoes x)) _ _ s
  refine wpAny_noted ?_
  simp only [whileTurn]
  refine wpAny_bind (wpAny_mono (t A s V env he hA (hh.keeps st.keep) st.rd) (fun _ _ f => f.elim) fun _ s₁ q => ?_)
  obtain ⟨sm, a, ctx, h₀, rfl, k, y, hc⟩ := q
  have fr : FrOK C.g A h₀ := st.frames.keeps k
  refine wp_noted fr hA' st.frame y fun s₂ sm₂ y₂ => ?_
  refine wp_cameBack y₂ fun s₃ sm₃ y₃ => ?_
  exact ⟨(sm.trans sm₂).trans sm₃, a, true, ctx, h₀, rfl, y₃, fun _ => hc, _, st.ke k⟩
end
end Mine
end

section
open PySem PySem.W PySem.Calls PyProof.Rows
namespace Mine
section
variable {C : Cfg} {n : Nat} {sc : Scope} {ρ ρ' ρ₁ : Rho} {ow ow' r ow₁ : Ow} {out : Out} {x : Str} {xs : List D} {cls : String} {c : Bool}

theorem StV.toMark {A : Around} {g₀ : Heap} {V₀ V : Addr → Prop} {h : Heap} {env : Env} (v : Option Value) (st : StV C A g₀ V₀ h V env ρ ow) : StV C (A.mark v) g₀ V₀ h V env ρ ow :=
  ⟨st.bg, st.kind, st.globals, st.builtins, st.keep, st.vis, st.frame, st.top, st.ns, st.nsnew, st.cells, st.hasc, st.names, st.own, st.frames⟩
theorem StV.ofMark {A : Around} {g₀ : Heap} {V₀ V : Addr → Prop} {h : Heap} {env : Env} {v : Option Value} (st : StV C (A.mark v) g₀ V₀ h V env ρ ow) : StV C A g₀ V₀ h V env ρ ow :=
  ⟨st.bg, st.kind, st.globals, st.builtins, st.keep, st.vis, st.frame, st.top, st.ns, st.nsnew, st.cells, st.hasc, st.names, st.own, st.frames⟩
theorem AOK.toMark {A : Around} {v : Option Value} (h : AOK n A) : AOK 0 (A.mark v) := ⟨fun q => absurd q (by decide), by have := h.depth; show A.depth + 0 ≤ 900; omega, by have := h.units; show A.units + 10 * 0 ≤ 9000; omega⟩
theorem Post.ofMark {A : Around} {g₀ : Heap} {V₀ : Addr → Prop} {env : Env} {s s' : Shared} {fl : Flow} {v : Option Value} (p : Post C (A.mark v) g₀ V₀ env out s fl s') : Post C A g₀ V₀ env out s fl s' := by
  refine ⟨p.1, ?_⟩
  cases out with
  | next ρ ow => exact ⟨p.2.1, let ⟨V, q⟩ := p.2.2; ⟨V, q.ofMark⟩⟩
  | brk ρ ow => exact ⟨p.2.1, let ⟨V, q⟩ := p.2.2; ⟨V, q.ofMark⟩⟩
  | cont ρ ow => exact ⟨p.2.1, let ⟨V, q⟩ := p.2.2; ⟨V, q.ofMark⟩⟩
  | ret d => exact p.2

/-- try: .. except X: .. with the exception coming -/
theorem Sx.tryE {body : List Stmt} {b₀ : Stmt} {suite : List Stmt} {pos hp px : Pos} (u : SxsE C n sc ρ ow body cls c ρ₁ ow₁) (v : Sxs C 0 sc ρ₁ ow₁ (b₀ :: suite) out) (hn : 1 ≤ n)
    (hk : sc.names.lookup (Str.ofString cls) = some .globalImplicit) (hg : nsIn (hd.heap_39 C.w.params) mainGlobals (Str.ofString cls) = some none) (hb : bootBuiltins (Str.ofString cls) = some (.type cls))
    (hexc : isSubtype (.type cls) (.type "BaseException") = pure true) (hnt : isSubtype (.type ((Manifest.find? cls).elim "type" fun x => x.metatype)) (.type "tuple") = pure false) (hsub : isSubtype (.type cls) (.type cls) = pure true)
    (hne : (Str.ofString cls) ≠ "__name__" := by decide) (hdb : ((Str.ofString cls) == ("__debug__" : Str)) = false := by decide) :
    Sx C n sc ρ ow (.Try body [.ExceptHandler (some (.Name (Str.ofString cls) px)) none (b₀ :: suite) hp] [] [] pos) out := by
  rintro A g₀ V₀ s env he hA ⟨V, st⟩
  refine wpAny_Try_except (wpAny_mono (u A g₀ V₀ s env he hA (.inl (hA.handled hn)) ⟨V, st⟩) (fun _ _ f => f.elim) fun e s₁ q => ?_)
  obtain ⟨sm, a, tb, ctx, h₀, rfl, y, hc, V₁, st₁⟩ := q
  obtain ⟨rest, hfr⟩ := st₁.top
  refine wpAny_mono (wp_noteFrame st₁.frames hfr st₁.frame y) (fun _ s₂ ⟨sm₂, y₂⟩ => ?_) fun _ _ f => f
  refine wpAny_mono (wp_setFlight y₂) (fun _ s₃ ⟨sm₃, y₃⟩ => ?_) fun _ _ f => f
  have st₃ := (st₁.ke y₃.keep).toMark (some (.ref a))
  refine wpAny_handleBy_builtin hexc hnt hsub (builtin he st₃.rd hk hg hb ⟨rfl, ?_, ?_⟩ hne hdb)
  · obtain ⟨_, _, oe, vs, e, hcl, _⟩ := y₃
    exact ⟨oe, e, hcl⟩
  · simp only [if_true]
    refine wpAny_mono (wp_setFlight y₃) (fun _ s₄ ⟨sm₄, y₄⟩ => ?_) fun _ _ f => f
    refine wpAny_mono (v _ g₀ V₀ s₄ env he hA.toMark ⟨_, (st₁.ke y₄.keep).toMark (some (.ref a))⟩) (fun fl s₅ p => ?_) fun _ _ f => f.elim
    exact p.ofMark.from (((sm.trans sm₂).trans sm₃).trans sm₄)
/-- nothing comes -/
theorem Sx.tryN {body : List Stmt} {h₀ : ExceptHandler} {pos : Pos} (u : Sxs C n sc ρ ow body (.next ρ₁ ow₁)) : Sx C n sc ρ ow (.Try body [h₀] [] [] pos) (.next ρ₁ ow₁) := by
  rintro A g₀ V₀ s env he hA st
  refine wpAny_Try_except (wpAny_mono (u A g₀ V₀ s env he hA st) (fun fl s₁ p => ?_) fun _ _ f => f.elim)
  obtain ⟨sm, rfl, st₁⟩ := p
  exact wpAny_execs_nil ⟨sm, rfl, st₁⟩

/-! try: .. finally: .. -/
theorem try_finally {A : Around} {s : Shared} {env : Env} {body final : List Stmt} {pos : Pos} {f₀ : Stmt} {Q : Flow → Shared → Prop} {E : Value → Shared → Prop}
    (h : wpAny C.M A (execs body env) (fun f s₁ => f = .next ∧ wpAny C.M A (runOwn (.block (f₀ :: final) env) env) (fun f' s₂ => f' = .next ∧ Q .next s₂) E s₁)
      (fun e s₁ => wpAny C.M A (noteFrame e env) (fun _ s₂ => wpAny C.M A (noteFrame e env) (fun _ s₃ => wpAny C.M A (setFlight e none) (fun _ s₄ =>
        wpAny C.M A (runOwn (.block (f₀ :: final) env) env (some e)) (fun f' s₅ => f' = .next ∧ wpAny C.M A (passOn "try.finally" e env : Sem Flow) Q E s₅) E s₄) E s₃) E s₂) (fun _ _ => False) s₁) s) :
    wpAny C.M A (exec (.Try body [] [] (f₀ :: final) pos) env) Q E s := by
  rw [arm_exec_Try]
  refine wpAny_bind (wpAny_standAt ?_)
  unfold tryStmt
  simp only [List.isEmpty_nil, if_true, List.isEmpty_cons, Bool.false_and, Bool.false_eq_true, if_false]
  refine wpAny_bind (wpAny_attempt (wpAny_bind (wpAny_attempt (wpAny_mono h (fun f s₁ h₁ => ?_) fun e s₁ h₁ => ?_))))
  · obtain ⟨rfl, h₁⟩ := h₁
    refine wpAny_execs_nil ?_
    dsimp only
    refine wpAny_bind (wpAny_holding (wpAny_mono h₁ (fun f' s₂ h₂ => ?_) fun _ _ x => x))
    obtain ⟨rfl, h₂⟩ := h₂
    exact wpAny_pure h₂
  · refine wpAny_bind (wpAny_mono h₁ (fun _ s₂ h₂ => wpAny_throw ?_) fun _ _ x => x.elim)
    · dsimp only
      refine wpAny_bind (wpAny_mono h₂ (fun _ s₃ h₃ => wpAny_bind (wpAny_mono h₃ (fun _ s₄ h₄ => wpAny_bind (wpAny_holding (wpAny_mono h₄ (fun f' s₅ h₅ => ?_) fun _ _ x => x))) fun _ _ x => x)) fun _ _ x => x)
      obtain ⟨rfl, h₅⟩ := h₅
      exact h₅

/-- an exception moved behind what a block of the frame's own has done -/
theorem Exc.behind {g h₀ h g₁ h' : Heap} {e : Addr} {ctx : Bool} (y : Exc g h₀ h e cls true ctx)
    (gf : ∀ b o, h.get? b = some o → (∀ es k, o.data ≠ .dict es k) → (∀ v, o.data ≠ .cell v) → (∀ xs k, o.data ≠ .seq xs k) → g₁.get? b = some o) (k : KeU g g₁ h') :
    ∃ T, Exc g (hideAll h' [e, T]) h' e cls true ctx ∧ h₀.get? e = none ∧ h₀.get? T = none ∧ ∀ b ∈ [e, T], ∃ o, h'.get? b = some o ∧ ∃ fs, o.data = .fields fs := by
  obtain ⟨kp, new, oe, vs, he, hc, hd, hsz, hctx, htb, hnt⟩ := y
  obtain ⟨T, oT, ts, h1, hT0, hTe, hT, hdT, h3⟩ := htb rfl
  have up : ∀ {b o fs}, h.get? b = some o → o.data = .fields fs → h'.get? b = some o := fun e d => k.notFrame (gf _ _ e (by rw [d]; intro _ _ q; cases q) (by rw [d]; intro _ q; cases q) (by rw [d]; intro _ _ q; cases q)) (by rw [d]; intro _ _ q; cases q)
  refine ⟨T, ⟨.of fun b o e => of_hideAll _ e, hideAll_none _ (.head _), oe, vs, up he hd, hc, hd, hsz, hctx, fun _ => ⟨T, oT, ts, h1, hideAll_none _ (.tail _ (.head _)), hTe, up hT hdT, hdT, h3⟩, hnt⟩, new, hT0, fun b hb => ?_⟩
  rcases List.mem_cons.mp hb with rfl | hb
  · exact ⟨oe, up he hd, vs, hd⟩
  · rw [List.mem_singleton.mp hb]; exact ⟨oT, up hT hdT, ts, hdT⟩
theorem Exc.inEmpty {g h₀ h : Heap} {e : Addr} {tb ctx : Bool} (y : Exc g h₀ h e cls tb ctx) : Exc g {} h e cls tb ctx := by
  obtain ⟨kp, new, oe, vs, he, hc, hd, hsz, hctx, htb, hnt⟩ := y
  refine ⟨.of fun b o e => by simp [Heap.get?] at e, by simp [Heap.get?], oe, vs, he, hc, hd, hsz, hctx, fun q => ?_, hnt⟩
  obtain ⟨T, oT, ts, h1, hT0, hTe, hT, hdT, h3⟩ := htb q
  exact ⟨T, oT, ts, h1, by simp [Heap.get?], hTe, hT, hdT, h3⟩
/-- the objects of an exception stand in the part that a frame does not change -/
theorem Exc.part {g h₀ h g₁ : Heap} {e : Addr} {tb ctx : Bool} (y : Exc g h₀ h e cls tb ctx)
    (gf : ∀ b o, h.get? b = some o → (∀ es k, o.data ≠ .dict es k) → (∀ v, o.data ≠ .cell v) → (∀ xs k, o.data ≠ .seq xs k) → g₁.get? b = some o) : Exc g {} g₁ e cls tb ctx := by
  obtain ⟨kp, new, oe, vs, he, hc, hd, hsz, hctx, htb, hnt⟩ := y
  have up : ∀ {b o fs}, h.get? b = some o → o.data = .fields fs → g₁.get? b = some o := fun e d => gf _ _ e (by rw [d]; intro _ _ q; cases q) (by rw [d]; intro _ q; cases q) (by rw [d]; intro _ _ q; cases q)
  refine ⟨.of fun b o e => by simp [Heap.get?] at e, by simp [Heap.get?], oe, vs, up he hd, hc, hd, hsz, hctx, fun q => ?_, hnt⟩
  obtain ⟨T, oT, ts, h1, hT0, hTe, hT, hdT, h3⟩ := htb q
  exact ⟨T, oT, ts, h1, by simp [Heap.get?], hTe, up hT hdT, hdT, h3⟩

theorem SxE.finA {body final : List Stmt} {f₀ : Stmt} {pos : Pos} (u : SxsE C n sc ρ ow body cls true ρ₁ ow₁) (v : Sxs C 0 sc ρ₁ ow₁ (f₀ :: final) (.next ρ' ow')) (hn : 1 ≤ n) : SxE C n sc ρ ow (.Try body [] [] (f₀ :: final) pos) cls true ρ' ow' := by
  rintro A g₀ V₀ s env he hA hh ⟨V, st⟩
  have hn0 := hA.handled hn
  refine try_finally (wpAny_mono (u A g₀ V₀ s env he hA hh ⟨V, st⟩) (fun _ _ f => f.elim) fun e s₁ q => ?_)
  obtain ⟨sm, a, tb, ctx, h₀, rfl, y, hc, V₁, st₁⟩ := q
  obtain rfl : ctx = true := hc rfl hn0
  obtain ⟨rest, hfr⟩ := st₁.top
  refine wpAny_mono (wp_noteFrame st₁.frames hfr st₁.frame y) (fun _ s₂ ⟨sm₂, y₂⟩ => ?_) fun _ _ f => f
  refine wpAny_mono (wp_noteFrame st₁.frames hfr st₁.frame y₂) (fun _ s₃ ⟨sm₃, y₃⟩ => ?_) fun _ _ f => f
  refine wpAny_mono (wp_setFlight y₃) (fun _ s₄ ⟨sm₄, y₄⟩ => ?_) fun _ _ f => f
  obtain ⟨g₁, gk, sr, gf, _, back⟩ := (st₁.ke y₄.keep).rebase
  refine wpAny_runOwn (codeAny_block ?_)
  refine wpAny_mono (v (A.mark (some (.ref a))) g₁ _ s₄ env he hA.toMark ⟨_, sr.toMark _⟩) (fun fl s₅ p => ?_) fun _ _ f => f.elim
  obtain ⟨sm₅, rfl, V₅, st₅⟩ := p
  refine ⟨rfl, ?_⟩
  have st₅' := back _ _ _ _ st₅.ofMark
  obtain ⟨T, y₅, ne, nT, hf⟩ := y₄.behind gf st₅.keep
  have st₆ : StV C A g₀ V₀ (hideAll s₅.heap [a, T]) V₅ env ρ' ow' := st₅'.but (wr := [a, T]) (fun b o hb e => hideAll_get _ e hb) fun b hb => ⟨st₁.keep.none (by
    rcases List.mem_cons.mp hb with rfl | hb
    · exact ne
    · rw [List.mem_singleton.mp hb]; exact nT), hf b hb⟩
  unfold PySem.passOn
  obtain ⟨kp, new, oe, vs, he', hc', hd, hsz, hctx, htb, hnt⟩ := id y₅
  obtain ⟨T', oT, ts, h1, hT0, hTe, hT, hdT, h3⟩ := htb rfl
  refine wpAny_bind (wpAny_field he' hd h1 ?_)
  rw [if_neg (show ¬ (Value.ref T' == Value.none) = true from by simp)]
  refine wpAny_bind (wpAny_mono (wp_setFlight y₅) (fun _ s₇ ⟨sm₇, y₇⟩ => wpAny_throw ?_) fun _ _ f => f)
  exact ⟨((((sm.trans sm₂).trans sm₃).trans sm₄).trans sm₅).trans sm₇, a, true, true, _, rfl, y₇, fun _ _ => rfl, _, st₆⟩

theorem SxE.finB {cls₂ : String} {body final : List Stmt} {f₀ : Stmt} {pos : Pos} (u : SxsE C n sc ρ ow body cls true ρ₁ ow₁) (v : SxsE C 0 sc ρ₁ ow₁ (f₀ :: final) cls₂ c ρ' ow') (hn : 1 ≤ n) : SxE C n sc ρ ow (.Try body [] [] (f₀ :: final) pos) cls₂ false ρ' ow' := by
  rintro A g₀ V₀ s env he hA hh ⟨V, st⟩
  have hn0 := hA.handled hn
  refine try_finally (wpAny_mono (u A g₀ V₀ s env he hA hh ⟨V, st⟩) (fun _ _ f => f.elim) fun e s₁ q => ?_)
  obtain ⟨sm, a, tb, ctx, h₀, rfl, y, hc, V₁, st₁⟩ := q
  obtain rfl : ctx = true := hc rfl hn0
  obtain ⟨rest, hfr⟩ := st₁.top
  refine wpAny_mono (wp_noteFrame st₁.frames hfr st₁.frame y) (fun _ s₂ ⟨sm₂, y₂⟩ => ?_) fun _ _ f => f
  refine wpAny_mono (wp_noteFrame st₁.frames hfr st₁.frame y₂) (fun _ s₃ ⟨sm₃, y₃⟩ => ?_) fun _ _ f => f
  refine wpAny_mono (wp_setFlight y₃) (fun _ s₄ ⟨sm₄, y₄⟩ => ?_) fun _ _ f => f
  obtain ⟨g₁, gk, sr, gf, _, back⟩ := (st₁.ke y₄.keep).rebase
  have hd : Hd C (A.mark (some (.ref a))) g₁ := .inr ⟨a, cls, {}, true, rfl, y₄.part gf⟩
  refine wpAny_runOwn (codeAny_block (wpAny_mono (v (A.mark (some (.ref a))) g₁ _ s₄ env he hA.toMark hd ⟨_, sr.toMark _⟩) (fun _ _ f => f.elim) fun e₂ s₅ q => ?_))
  obtain ⟨sm₅, a₂, tb₂, ctx₂, h₂, rfl, z, _, V₂, st₂⟩ := q
  have st₂' := back _ _ _ _ st₂.ofMark
  refine wp_noted (A := A.mark (some (.ref a))) st₂.frames hfr st₂.frame z fun s₆ sm₆ z₆ => ?_
  refine wp_cameBack z₆ fun s₇ sm₇ z₇ => ?_
  exact ⟨(((((sm.trans sm₂).trans sm₃).trans sm₄).trans sm₅).trans sm₆).trans sm₇, a₂, true, ctx₂, h₂, rfl, z₇, (by intro q; cases q), _, st₂'⟩

theorem SxE.finC {body final : List Stmt} {f₀ : Stmt} {pos : Pos} (u : Sxs C n sc ρ ow body (.next ρ₁ ow₁)) (v : SxsE C n sc ρ₁ ow₁ (f₀ :: final) cls c ρ' ow') : SxE C n sc ρ ow (.Try body [] [] (f₀ :: final) pos) cls c ρ' ow' := by
  rintro A g₀ V₀ s env he hA hh hst
  refine try_finally (wpAny_mono (u A g₀ V₀ s env he hA hst) (fun fl s₁ p => ?_) fun _ _ f => f.elim)
  obtain ⟨sm, rfl, st₁⟩ := p
  refine ⟨rfl, wpAny_runOwn (codeAny_block (wpAny_mono (v A g₀ V₀ s₁ env he hA hh st₁) (fun _ _ f => f.elim) fun e₂ s₅ q => ?_))⟩
  obtain ⟨sm₅, a₂, tb₂, ctx₂, h₂, rfl, z, hc, V₂, st₂⟩ := q
  obtain ⟨rest, hfr⟩ := st₂.top
  refine wp_noted st₂.frames hfr st₂.frame z fun s₆ sm₆ z₆ => ?_
  refine wp_cameBack z₆ fun s₇ sm₇ z₇ => ?_
  exact ⟨((sm.trans sm₅).trans sm₆).trans sm₇, a₂, true, ctx₂, h₂, rfl, z₇, hc, _, st₂⟩
theorem Sx.finN {body final : List Stmt} {f₀ : Stmt} {pos : Pos} (u : Sxs C n sc ρ ow body (.next ρ₁ ow₁)) (v : Sxs C n sc ρ₁ ow₁ (f₀ :: final) (.next ρ' ow')) : Sx C n sc ρ ow (.Try body [] [] (f₀ :: final) pos) (.next ρ' ow') := by
  rintro A g₀ V₀ s env he hA hst
  refine try_finally (wpAny_mono (u A g₀ V₀ s env he hA hst) (fun fl s₁ p => ?_) fun _ _ f => f.elim)
  obtain ⟨sm, rfl, st₁⟩ := p
  refine ⟨rfl, wpAny_runOwn (codeAny_block (wpAny_mono (v A g₀ V₀ s₁ env he hA st₁) (fun fl s₂ p => ?_) fun _ _ f => f.elim))⟩
  obtain ⟨sm₂, rfl, st₂⟩ := p
  exact ⟨rfl, sm.trans sm₂, rfl, st₂⟩
end
end Mine
end

section
open PySem PySem.W PySem.Calls PyProof.Rows
namespace Mine
section
variable {C : Cfg} {n : Nat} {sc : Scope} {ρ ρ' ρ₁ ρ₂ : Rho} {ow ow' r ow₁ ow₂ : Ow} {out : Out} {x y : Str} {xs : List D} {cls : String} {c : Bool}

/-! tests -/
theorem Tr.bool {e : Expr} {b : Bool} (v : Ev C n sc ρ e (.bool b)) (he' : ∀ env whole, isTrue e env whole = (do let v ← whole; standAt e.pos; holding [v] (truthy v)) := by intro _ _; rfl) : Tr C n sc ρ e b := by
  intro A s V env he hA rd
  refine wpAny_isTrue_value (wpAny_mono (v A s V env he hA rd) (fun v s₁ h₁ => ?_) fun _ _ f => f) (he' _ _)
  obtain ⟨k, a⟩ := h₁
  cases a; exact wpAny_truthy_bool ⟨k, rfl⟩
theorem Tr.int {e : Expr} {i : Int} (v : Ev C n sc ρ e (.int i)) (he' : ∀ env whole, isTrue e env whole = (do let v ← whole; standAt e.pos; holding [v] (truthy v)) := by intro _ _; rfl) : Tr C n sc ρ e (i != 0) := by
  intro A s V env he hA rd
  refine wpAny_isTrue_value (wpAny_mono (v A s V env he hA rd) (fun v s₁ h₁ => ?_) fun _ _ f => f) (he' _ _)
  obtain ⟨k, a⟩ := h₁
  cases a; exact PyProof.Rows.truthy_int ⟨k, rfl⟩
theorem Tr.not {e : Expr} {b : Bool} {pos : Pos} (v : Tr C n sc ρ e b) : Tr C n sc ρ (.UnaryOp .Not e pos) (!b) := by
  intro A s V env he hA rd
  refine wpAny_isTrue_Not (wpAny_mono (v A s V env he hA rd) (fun b' s₁ h₁ => ?_) fun _ _ f => f)
  obtain ⟨k, rfl⟩ := h₁
  exact ⟨k, rfl⟩
theorem Tr.and1 {e : Expr} {es : List Expr} {pos : Pos} (v : Tr C n sc ρ e false) : Tr C n sc ρ (.BoolOp .And (e :: es) pos) false := by
  intro A s V env he hA rd
  refine wpAny_isTrue_BoolOp (wpAny_allTrue_And_cons (wpAny_mono (v A s V env he hA rd) (fun b' s₁ h₁ => ?_) fun _ _ f => f))
  obtain ⟨k, rfl⟩ := h₁
  exact ⟨k, rfl⟩
theorem Tr.and2 {e e₂ : Expr} {b : Bool} {pos : Pos} (v : Tr C n sc ρ e true) (u : Tr C n sc ρ e₂ b) : Tr C n sc ρ (.BoolOp .And [e, e₂] pos) b := by
  intro A s V env he hA rd
  refine wpAny_isTrue_BoolOp (wpAny_allTrue_And_cons (wpAny_mono (v A s V env he hA rd) (fun b' s₁ h₁ => ?_) fun _ _ f => f))
  obtain ⟨k, rfl⟩ := h₁
  simp only [if_true]
  have rd' := rd.keeps k.heap (V' := V) fun _ q => q
  refine wpAny_allTrue_And_cons (wpAny_mono (u A s₁ V env he hA rd') (fun b' s₂ h₂ => ?_) fun _ _ f => f)
  obtain ⟨k₂, rfl⟩ := h₂
  cases b'
  · exact ⟨k.trans k₂, rfl⟩
  · simp only [if_true]; exact wpAny_allTrue_And_nil ⟨k.trans k₂, rfl⟩

/-! the form of the state -/
theorem Out.le_aux {A : Around} {g₀ : Heap} {V₀ : Addr → Prop} {env : Env} {s s' : Shared} {fl : Flow} (hp : ∀ y d, ρ₂.lookup y = some d → ρ₁.lookup y = some d) (ho : ∀ p ∈ ow₂, p ∈ ow₁)
    (x : Post C A g₀ V₀ env (.next ρ₁ ow₁) s fl s') : Post C A g₀ V₀ env (.next ρ₂ ow₂) s fl s' := ⟨x.1, x.2.1, let ⟨V, q⟩ := x.2.2; ⟨V, (q.fewer hp).perm ho⟩⟩
theorem Sx.to {st : Stmt} (h : Sx C n sc ρ ow st (.next ρ₁ ow₁)) (hp : ∀ y d, ρ₂.lookup y = some d → ρ₁.lookup y = some d) (ho : ∀ p ∈ ow₂, p ∈ ow₁) : Sx C n sc ρ ow st (.next ρ₂ ow₂) := by
  intro A g₀ V₀ s env he hA st
  exact wpAny_mono (h A g₀ V₀ s env he hA st) (fun fl s' p => Out.le_aux hp ho p) fun _ _ f => f
theorem Sxs.to {st : List Stmt} (h : Sxs C n sc ρ ow st (.next ρ₁ ow₁)) (hp : ∀ y d, ρ₂.lookup y = some d → ρ₁.lookup y = some d) (ho : ∀ p ∈ ow₂, p ∈ ow₁) : Sxs C n sc ρ ow st (.next ρ₂ ow₂) := by
  intro A g₀ V₀ s env he hA st
  exact wpAny_mono (h A g₀ V₀ s env he hA st) (fun fl s' p => Out.le_aux hp ho p) fun _ _ f => f
theorem Sxs.toB {st : List Stmt} (h : Sxs C n sc ρ ow st (.brk ρ₁ ow₁)) (hp : ∀ y d, ρ₂.lookup y = some d → ρ₁.lookup y = some d) (ho : ∀ p ∈ ow₂, p ∈ ow₁) : Sxs C n sc ρ ow st (.brk ρ₂ ow₂) := by
  intro A g₀ V₀ s env he hA st
  exact wpAny_mono (h A g₀ V₀ s env he hA st) (fun fl s' x => ⟨x.1, x.2.1, let ⟨V, q⟩ := x.2.2; ⟨V, (q.fewer hp).perm ho⟩⟩) fun _ _ f => f
theorem Sx.perm {st : Stmt} (hp : ∀ p ∈ ow', p ∈ ow) (h : Sx C n sc ρ ow' st out) : Sx C n sc ρ ow st out := by
  rintro A g₀ V₀ s env he hA ⟨V, q⟩
  exact h A g₀ V₀ s env he hA ⟨V, q.perm hp⟩
theorem Wx.from {test : Expr} {body : List Stmt} (h : Wx C n sc ρ₁ ow₁ test body out) (hp : ∀ y d, ρ₁.lookup y = some d → ρ.lookup y = some d) (ho : ∀ p ∈ ow₁, p ∈ ow) : Wx C n sc ρ ow test body out := by
  rintro A g₀ V₀ s env he hA ⟨V, q⟩
  exact h A g₀ V₀ s env he hA ⟨V, (q.fewer hp).perm ho⟩

/-- i = j = e -/
theorem Sx.assign2 {e : Expr} {px py pos : Pos} {d : D} (v : Ev C n sc ρ e d) (hk : isLC (sc.names.lookup x) = true) (hk' : isLC (sc.names.lookup y) = true) (hx : ∀ xs, (x, xs) ∉ ow) (hy : ∀ xs, (y, xs) ∉ ow)
    (hw : ∀ env : Env, env.scope = sc → swappedStores [.Name x px, .Name y py] e env = pure none) : Sx C n sc ρ ow (.Assign [.Name x px, .Name y py] e pos) (.next ((y, d) :: (x, d) :: ρ) ow) := by
  rintro A g₀ V₀ s env he ha ⟨V, st⟩
  refine wpAny_Assign_two (wpAny_mono (v A s V env he ha st.rd) (fun v s₁ h₁ => ?_) fun _ _ f => f) rfl (hw env he)
  have st' := st.ke h₁.1.heap
  refine wpAny_assign_Name (wpAny_mono (wp_store st' ((isLC_iff hk).imp (kindOf_of he) (kindOf_of he))) (fun _ s₂ h₂ => ?_) fun _ _ f => f)
  have st₂ := h₂.2.val st' h₁.2 hx
  refine wpAny_assign_Name (wpAny_mono (wp_store st₂ ((isLC_iff hk').imp (kindOf_of he) (kindOf_of he))) (fun _ s₃ h₃ => ?_) fun _ _ f => f)
  exact ⟨(h₁.1.same.trans h₂.1).trans h₃.1, rfl, _, h₃.2.val st₂ (h₂.2.at st' h₁.2) hy⟩

/-- x.extend(e) -/
theorem Sx.extend {px ap p pos : Pos} {e : Expr} {ds : List D} (v : Ev C n sc ρ e (.list ds)) (hr : ∀ ys, (x, ys) ∉ r) (hlen : xs.length + ds.length ≤ 1000)
    (hl : (ap.endLine == p.line) = true := by rfl)
    (hs : ∀ env, starEach [e] env = [(false, eval e env)] := by intro _; rfl)
    (hsw : ∀ env : Env, swapsWith (.Call (.Attribute (.Name x px) (Str.ofString "extend") ap) [e] [] p) none pos.line env = pure false := by intro _; rfl)
    (hd : (x == ("__debug__" : Str)) = false := by decide) (hc : (x == ("__classdict__" : Str)) = false := by decide) :
    Sx C n sc ρ ((x, xs) :: r) (.Expr (.Call (.Attribute (.Name x px) (Str.ofString "extend") ap) [e] [] p) pos) (.next ρ ((x, xs ++ ds) :: r)) := by
  rintro A g₀ V₀ s env he hA ⟨V, st⟩
  refine wpAny_Expr_any ?_ (interactive_no st.kind) (hsw env)
  obtain ⟨a, vs, lk, hl', _⟩ := st.setOwn hr
  refine mcall (fun _ => rfl) (by rw [hs]; rfl) hl (lk_eval st.kind lk ?_ hd hc)
  refine getMethod_list_of F.slot_list_extend F.type_list_extend hl'.isList (noDict hl') ?_
  rw [hs env]
  refine P.extend_list ?_
  refine wpAny_mono (v A s V env he hA st.rd) (fun u s₁ h₁ => ?_) fun _ _ f => f.elim
  obtain ⟨k₁, a₁⟩ := h₁
  cases a₁ with
  | list hv hl₂ hs₂ =>
    rename_i b us
    have st₁ := st.ke k₁.heap
    obtain ⟨a', vs', lk', hl₁, hs', hV', _, set⟩ := st₁.setOwn hr
    have ea : a = a' := Value.ref.inj (lk_unique (lk.keeps k₁.heap) lk')
    subst ea
    obtain ⟨n1, e1⟩ := hl₁
    obtain ⟨n2, e2⟩ := hl₂
    have z1 : vs'.toArray.size ≤ 1000 := by rw [List.size_toArray, hs'.length]; omega
    refine ⟨_, vs'.toArray, _, n1, n2, ?_, ?_, ?_, rfl, e1, e2, ?_⟩
    · exact Nat.le_trans z1 (by decide)
    · rw [List.size_toArray, List.size_toArray, hs'.length, hs₂.length]; exact Nat.le_trans hlen (by decide)
    · rw [List.size_toArray, List.size_toArray, hs'.length, hs₂.length]
      unfold Builtin.List.listTooLong
      have : ¬ (xs.length + ds.length > sizeLine) := by have : (1000 : Nat) ≤ sizeLine := by decide
                                                        omega
      simp [this]
    · have q := IsL.update e1 (fun q => q ++ us.toArray)
      have e3 : vs'.toArray ++ us.toArray = (vs' ++ us).toArray := by simp
      rw [e3] at q
      exact ⟨k₁.same.trans ⟨_, s₁.toks, rfl⟩, rfl, _, set _ _ (xs ++ ds) (Heap.SameBut.update ..) ⟨_, q⟩ (hs'.append hs₂)⟩
end
end Mine
end

section
open PySem PySem.W PySem.Calls PyProof.Rows
namespace Mine
set_option maxRecDepth 100000

/-- what sorted_list_difference tells of two strictly rising lists -/
noncomputable def sdiff : List Int → List Int → List Int × List Int
  | [], ys => ([], ys)
  | xs, [] => (xs, [])
  | x :: xs, y :: ys => if x < y then let r := sdiff xs (y :: ys); (x :: r.1, r.2) else if y < x then let r := sdiff (x :: xs) ys; (r.1, y :: r.2) else sdiff xs ys
termination_by xs ys => xs.length + ys.length
theorem own2 {x y z : Str} {a b : List D} (h1 : x ≠ y) (h2 : x ≠ z) (ys : List D) : (x, ys) ∉ ([(y, a), (z, b)] : Ow) := by
  intro h
  rcases List.mem_cons.mp h with e | h
  · cases e; exact h1 rfl
  · rcases List.mem_cons.mp h with e | h
    · cases e; exact h2 rfl
    · cases h
theorem own1 {x y : Str} {a : List D} (h1 : x ≠ y) (ys : List D) : (x, ys) ∉ ([(y, a)] : Ow) := by
  intro h
  rcases List.mem_cons.mp h with e | h
  · cases e; exact h1 rfl
  · cases h
theorem swap2 {a b : Str × List D} : ∀ p ∈ [a, b], p ∈ [b, a] := by
  intro p h
  rcases List.mem_cons.mp h with e | h
  · rw [e]; exact .tail _ (.head _)
  · rw [List.mem_singleton.mp h]; exact .head _

theorem getD_drop {xs : List Int} {i : Nat} {e : Int} {r : List Int} (h : xs.drop i = e :: r) : (xs.map D.int)[i]? = some (.int e) ∧ xs.drop (i + 1) = r ∧ i < xs.length := by
  have h1 : xs[i]? = some e := by
    have := congrArg (fun l => l[0]?) h
    simpa using this
  refine ⟨by rw [List.getElem?_map, h1]; rfl, ?_, by have := List.getElem?_eq_some_iff.mp h1; exact this.1⟩
  have := congrArg List.tail h
  simpa using this
theorem cut_drop {xs : List Int} {i : Nat} (h : i ≤ xs.length) : cut (some (i : Int)) none (xs.map .int) = (xs.drop i).map .int := by
  unfold cut
  have : clipAt (xs.map D.int).length (i : Int) = i := by unfold clipAt; simp; omega
  simp only [Option.elim]
  rw [this]
  simp [List.take_of_length_le]

theorem Wx.loop {C : Cfg} {n : Nat} {sc : Scope} {test : Expr} {body : List Stmt} {σ : Type} (R : σ → Rho) (O : σ → Ow) (m : σ → Nat) {out : Out} (P : σ → Prop)
    (h : ∀ a, P a → (∀ b, P b → m b < m a → Wx C n sc (R b) (O b) test body out) → Wx C n sc (R a) (O a) test body out) (a : σ) (ha : P a) : Wx C n sc (R a) (O a) test body out := by
  have : ∀ k a, m a < k → P a → Wx C n sc (R a) (O a) test body out := by
    intro k
    induction k with
    | zero => intro a h; exact absurd h (Nat.not_lt_zero _)
    | succ k ih => intro a hk ha; exact h a ha fun b hb hm => ih b (by omega) hb
  exact this _ a (Nat.lt_succ_self _) ha

section
variable {C : Cfg} {n : Nat}
noncomputable abbrev sT : Str := Str.ofString "missing"
noncomputable abbrev sU : Str := Str.ofString "unexpected"
noncomputable abbrev sρ (xs ys : List Int) (i j : Nat) : Rho := [(Str.ofString "i", .int (i : Int)), (Str.ofString "j", .int (j : Int)), (Str.ofString "expected", .list (xs.map .int)), (Str.ofString "actual", .list (ys.map .int))]
noncomputable abbrev sw (ms us : List Int) : Ow := [(sT, ms.map .int), (sU, us.map .int)]

theorem sHand {sc : Scope} {ρ : Rho} {xs ys ms us : List Int} {i j : Nat} {p1 p2 p3 p4 p5 p6 p7 p8 q1 q2 q3 q4 q5 q6 q7 q8 q9 : Pos} (hi : ρ.lookup (Str.ofString "i") = some (.int (i : Int))) (hj : ρ.lookup (Str.ofString "j") = some (.int (j : Int)))
    (hx : ρ.lookup (Str.ofString "expected") = some (.list (xs.map .int))) (hy : ρ.lookup (Str.ofString "actual") = some (.list (ys.map .int))) (li : i ≤ xs.length) (lj : j ≤ ys.length)
    (z1 : ms.length + xs.length ≤ 1000) (z2 : us.length + ys.length ≤ 1000) (e1 : (p2.endLine == p7.line) = true) (e2 : (q2.endLine == q7.line) = true) {ms' us' : List Int} (hm : ms ++ xs.drop i = ms') (hu : us ++ ys.drop j = us') :
    Sxs C 0 sc ρ (sw ms us) [.Expr (.Call (.Attribute (.Name sT p1) (Str.ofString "extend") p2) [.Subscript (.Name (Str.ofString "expected") p3) (.Slice (some (.Name (Str.ofString "i") p4)) none none p5) p6] [] p7) p8,
      .Expr (.Call (.Attribute (.Name sU q1) (Str.ofString "extend") q2) [.Subscript (.Name (Str.ofString "actual") q3) (.Slice (some (.Name (Str.ofString "j") q4)) none none q5) q6] [] q7) q8, .Break q9] (.brk [] (sw ms' us')) := by
  subst hm; subst hu
  refine Sxs.cons (Sx.extend (Ev.cut (l := some (i : Int)) (h := none) (Ev.name hx) (Ev.name hi) trivial (by rw [List.length_map]; omega)) (own1 (by decide)) ?_ e1) ?_
  · rw [cut_drop li, List.length_map, List.length_map, List.length_drop]; omega
  rw [cut_drop li]
  refine Sxs.cons (Sx.perm swap2 (Sx.extend (Ev.cut (l := some (j : Int)) (h := none) (Ev.name hy) (Ev.name hj) trivial (by rw [List.length_map]; omega)) (own1 (by decide)) ?_ e2)) ?_
  · rw [cut_drop lj, List.length_map, List.length_map, List.length_drop]; omega
  rw [cut_drop lj, ← List.map_append, ← List.map_append]
  exact Sxs.toB (Sxs.single Sx.brk) (fun _ _ h => by simp at h) swap2

theorem Sx.append2 {sc : Scope} {ρ : Rho} {x y : Str} {xs ys : List D} {px ap p pos : Pos} {e : Expr} {d : D} (v : Ev C n sc ρ e d) (hne : x ≠ y) (hlen : xs.length ≤ 1000)
    (hl : (ap.endLine == p.line) = true := by rfl)
    (hs : ∀ env, starEach [e] env = [(false, eval e env)] := by intro _; rfl)
    (hsw : ∀ env : Env, swapsWith (.Call (.Attribute (.Name x px) (Str.ofString "append") ap) [e] [] p) none pos.line env = pure false := by intro _; rfl)
    (hd : (x == ("__debug__" : Str)) = false := by decide) (hc : (x == ("__classdict__" : Str)) = false := by decide) :
    Sx C n sc ρ [(y, ys), (x, xs)] (.Expr (.Call (.Attribute (.Name x px) (Str.ofString "append") ap) [e] [] p) pos) (.next ρ [(y, ys), (x, xs ++ [d])]) :=
  Sx.perm swap2 (Sx.to (Sx.append v (own1 hne) hlen hl hs hsw hd hc) (fun _ _ h => h) swap2)

theorem lk_cons {y0 : Str} {d0 : D} {ρ₁ ρ : Rho} (h0 : ρ.lookup y0 = some d0) (h : ∀ y d, ρ₁.lookup y = some d → ρ.lookup y = some d) : ∀ y d, List.lookup y ((y0, d0) :: ρ₁) = some d → ρ.lookup y = some d := by
  intro y d e
  by_cases hy : y = y0
  · subst hy; rw [lookup_cons_self] at e; cases e; exact h0
  · rw [lookup_cons_ne hy] at e; exact h y d e
theorem lk_nil {ρ : Rho} : ∀ y d, List.lookup y ([] : Rho) = some d → ρ.lookup y = some d := fun _ _ h => by simp at h
theorem sdiff_nil_l (ys : List Int) : sdiff [] ys = ([], ys) := by unfold sdiff; rfl
theorem sdiff_nil_r (xs : List Int) : sdiff xs [] = (xs, []) := by cases xs <;> unfold sdiff <;> rfl
theorem sdiff_cons (x y : Int) (xs ys : List Int) : sdiff (x :: xs) (y :: ys) = if x < y then (x :: (sdiff xs (y :: ys)).1, (sdiff xs (y :: ys)).2) else if y < x then ((sdiff (x :: xs) ys).1, y :: (sdiff (x :: xs) ys).2) else sdiff xs ys := by rw [sdiff]
theorem rising_drop {xs : List Int} (h : xs.Pairwise (· < ·)) {i : Nat} {e f : Int} {r : List Int} (he : xs.drop i = e :: f :: r) : e ≠ f := by
  have := (List.pairwise_cons.mp (he ▸ h.sublist (List.drop_sublist i xs))).1 f (.head _)
  omega

set_option maxHeartbeats 4000000 in
theorem fn_sdiff {xs ys : List Int} (hx : xs.Pairwise (· < ·)) (hy : ys.Pairwise (· < ·)) (lx : xs.length ≤ 400) (ly : ys.length ≤ 400) (hn : 1 ≤ n) :
    Fn C (n + 1) 143 [.list (xs.map .int), .list (ys.map .int)] (.tuple [.list ((sdiff xs ys).1.map .int), .list ((sdiff xs ys).2.map .int)]) := by
  refine' Fn.mk [(Str.ofString "expected", .list (xs.map .int)), (Str.ofString "actual", .list (ys.map .int))] [Str.ofString "expected", Str.ofString "actual"] ?h1 ?h2 ?h3 ?h4 ?h5 ?h6 ?h7 ?h8 ?h9 ?h10 ?h11 ?h12 ?h13 ?h14 ?h15
  case h1 => exact rfl
  case h2 => exact rfl
  case h3 => exact rfl
  case h4 => exact rfl
  case h5 => exact rfl
  case h6 => exact rfl
  case h7 => exact rfl
  case h8 => exact rfl
  case h9 => exact rfl
  case h10 => exact rfl
  case h11 => intro s V vs _ h; cases h with | cons a b => cases b with | cons b c => cases c; exact ⟨_, BindsTo.of_eq rfl, .cons a (.cons b .nil)⟩
  case h12 => exact rfl
  case h13 => decide
  case h14 => decide
  case h15 =>
    refine Sxs.cons (Sx.assign2 Ev.int rfl rfl (fun _ h => nomatch h) (fun _ h => nomatch h) (fun _ _ => rfl)) ?_
    refine Sxs.cons (Sx.newList rfl (fun _ h => nomatch h) rfl) ?_
    refine Sxs.cons (Sx.newList rfl (own1 (by decide)) rfl) ?_
    refine Sxs.cons (Sx.whileW (Wx.from (ρ₁ := sρ xs ys 0 0) (ow₁ := sw [] []) (ρ := _) (out := .next [] (sw (sdiff xs ys).1 (sdiff xs ys).2)) (Wx.loop (σ := Nat × Nat × List Int × List Int) (fun a => sρ xs ys a.1 a.2.1) (fun a => sw a.2.2.1 a.2.2.2) (fun a => (xs.length - a.1) + (ys.length - a.2.1))
      (fun a => a.1 ≤ xs.length ∧ a.2.1 ≤ ys.length ∧ a.2.2.1.length ≤ a.1 ∧ a.2.2.2.length ≤ a.2.1 ∧ a.2.2.1 ++ (sdiff (xs.drop a.1) (ys.drop a.2.1)).1 = (sdiff xs ys).1 ∧ a.2.2.2 ++ (sdiff (xs.drop a.1) (ys.drop a.2.1)).2 = (sdiff xs ys).2) ?step (0, 0, [], []) ?init) ?_ swap2)) ?_
    case init => exact ⟨Nat.zero_le _, Nat.zero_le _, Nat.zero_le _, Nat.zero_le _, rfl, rfl⟩
    case step =>
      rintro ⟨i, j, ms, us⟩ ⟨li, lj, lm, lu, hM, hU⟩ ih
      dsimp only at li lj lm lu hM hU ih ⊢
      cases hxs : xs.drop i with
      | nil =>
        have e0 : i = xs.length := by have := congrArg List.length hxs; rw [List.length_drop] at this; simp at this; omega
        rw [hxs, sdiff_nil_l] at hM hU
        refine Wx.brk (Tr.bool Ev.bool) (Sxs.single (Sx.tryE (SxsE.head (SxE.assign (EvE.item (Ev.name rfl) (Ev.name rfl) ?_ ?_) (fun _ _ => rfl))) (sHand rfl rfl rfl rfl li lj ?_ ?_ rfl rfl ?_ ?_) hn rfl rfl (by decide +kernel) F.isExc_IndexError F.notTuple_IndexError F.self_IndexError))
        · rw [List.length_map]; omega
        · omega
        · omega
        · omega
        · rw [hxs]; exact hM
        · exact hU
      | cons e xr =>
        obtain ⟨gx, dx, ix⟩ := getD_drop hxs
        cases hys : ys.drop j with
        | nil =>
          have e0 : j = ys.length := by have := congrArg List.length hys; rw [List.length_drop] at this; simp at this; omega
          rw [hys, sdiff_nil_r] at hM hU
          refine Wx.brk (Tr.bool Ev.bool) (Sxs.single (Sx.tryE (SxsE.cons (Sx.assign (Ev.sub (Ev.name rfl) (Ev.name rfl) (Su.list (by omega) (by omega) gx)) (.inl rfl) (own2 (by decide) (by decide)) (fun _ _ => rfl)) (SxsE.head (SxE.assign (EvE.item (Ev.name rfl) (Ev.name rfl) ?_ ?_) (fun _ _ => rfl)))) (sHand rfl rfl rfl rfl li lj ?_ ?_ rfl rfl ?_ ?_) hn rfl rfl (by decide +kernel) F.isExc_IndexError F.notTuple_IndexError F.self_IndexError))
          · rw [List.length_map]; omega
          · omega
          · omega
          · omega
          · exact hM
          · rw [hys]; exact hU
        | cons a yr =>
          obtain ⟨gy, dy, iy⟩ := getD_drop hys
          rw [hxs, hys, sdiff_cons] at hM hU
          by_cases hlt : e < a
          · rw [if_pos hlt] at hM hU
            cases xr with
            | nil =>
              refine Wx.brk (Tr.bool Ev.bool) (Sxs.single (Sx.tryE (SxsE.cons (Sx.assign (Ev.sub (Ev.name rfl) (Ev.name rfl) (Su.list (by omega) (by omega) gx)) (.inl rfl) (own2 (by decide) (by decide)) (fun _ _ => rfl))
                (SxsE.cons (Sx.assign (Ev.sub (Ev.name rfl) (Ev.name rfl) (Su.list (by omega) (by omega) gy)) (.inl rfl) (own2 (by decide) (by decide)) (fun _ _ => rfl))
                (SxsE.head (SxE.ifT (Tr.cmp (Ev.name rfl) (Ev.name rfl) (by rw [← decide_eq_true hlt]; exact Co.lt))
                  (SxsE.cons (Sx.append (Ev.name rfl) (own1 (by decide)) (by rw [List.length_map]; omega))
                  (SxsE.cons (Sx.aug rfl Ev.int rfl (own2 (by decide) (by decide)) iadd_ints)
                  (SxsE.head (SxE.while_ (TrE.cmp (EvE.item (Ev.name rfl) (Ev.name rfl) ?_ ?_)))))))))) ?hand hn rfl rfl (by decide +kernel) F.isExc_IndexError F.notTuple_IndexError F.self_IndexError))
              case hand =>
                refine Sxs.perm (ow' := sw (ms ++ [e]) us) (by rw [sw, List.map_append]; exact fun _ h => h) (sHand (i := i + 1) (j := j) rfl rfl rfl rfl ix lj ?_ ?_ rfl rfl ?_ ?_)
                · rw [List.length_append]; simp; omega
                · omega
                · rw [dx, ← hM, sdiff_nil_l]; simp
                · rw [← hU, hys, sdiff_nil_l]
              · rw [List.length_map]; have := congrArg List.length dx; rw [List.length_drop] at this; simp at this; omega
              · omega
            | cons f xr =>
              obtain ⟨gx', _, ix'⟩ := getD_drop dx
              have hne : (f == e) = false := by have := rising_drop hx hxs; simpa using fun h : f = e => this h.symm
              refine Wx.step (Tr.bool Ev.bool) (Sxs.single (Sx.tryN (Sxs.cons (Sx.assign (Ev.sub (Ev.name rfl) (Ev.name rfl) (Su.list (by omega) (by omega) gx)) (.inl rfl) (own2 (by decide) (by decide)) (fun _ _ => rfl)) (Sxs.cons (Sx.assign (Ev.sub (Ev.name rfl) (Ev.name rfl) (Su.list (by omega) (by omega) gy)) (.inl rfl) (own2 (by decide) (by decide)) (fun _ _ => rfl)) (Sxs.single (Sx.ifT (Tr.cmp (Ev.name rfl) (Ev.name rfl) (by rw [← decide_eq_true hlt]; exact Co.lt)) (Sxs.cons (Sx.append (Ev.name rfl) (own1 (by decide)) (by rw [List.length_map]; omega)) (Sxs.cons (Sx.aug rfl Ev.int rfl (own2 (by decide) (by decide)) iadd_ints) (Sxs.single (Sx.whileW (Wx.stop (Tr.cmp (Ev.sub (Ev.name rfl) (Ev.name rfl) (Su.list (by omega) (by omega) gx')) (Ev.name rfl) (by rw [← hne]; exact Co.eq)))))))))))))
                (Wx.from (ih (i + 1, j, ms ++ [e], us) ⟨ix, lj, by simp; omega, lu, ?_, ?_⟩ (by dsimp only; omega)) (lk_cons rfl (lk_cons rfl (lk_cons rfl (lk_cons rfl lk_nil)))) (by rw [sw, List.map_append]; exact fun _ h => h))
              · dsimp only; rw [dx, hys, ← hM]; simp
              · dsimp only; rw [dx, hys, ← hU]
          · rw [if_neg hlt] at hM hU
            by_cases hgt : a < e
            · rw [if_pos hgt] at hM hU
              cases yr with
              | nil =>
                refine Wx.brk (Tr.bool Ev.bool) (Sxs.single (Sx.tryE (SxsE.cons (Sx.assign (Ev.sub (Ev.name rfl) (Ev.name rfl) (Su.list (by omega) (by omega) gx)) (.inl rfl) (own2 (by decide) (by decide)) (fun _ _ => rfl)) (SxsE.cons (Sx.assign (Ev.sub (Ev.name rfl) (Ev.name rfl) (Su.list (by omega) (by omega) gy)) (.inl rfl) (own2 (by decide) (by decide)) (fun _ _ => rfl))
                  (SxsE.head (SxE.ifF (Tr.cmp (Ev.name rfl) (Ev.name rfl) (by rw [← decide_eq_false hlt]; exact Co.lt)) (SxsE.head (SxE.ifT (Tr.cmp (Ev.name rfl) (Ev.name rfl) (by rw [← decide_eq_true hgt]; exact Co.gt))
                    (SxsE.cons (Sx.append2 (Ev.name rfl) (by decide) (by rw [List.length_map]; omega)) (SxsE.cons (Sx.aug rfl Ev.int rfl (own2 (by decide) (by decide)) iadd_ints) (SxsE.head (SxE.while_ (TrE.cmp (EvE.item (Ev.name rfl) (Ev.name rfl) ?_ ?_)))))))))))) ?hand hn rfl rfl (by decide +kernel) F.isExc_IndexError F.notTuple_IndexError F.self_IndexError))
                case hand =>
                  refine Sxs.perm (ow' := sw ms (us ++ [a])) (by rw [sw, List.map_append]; exact fun _ h => h) (sHand (i := i) (j := j + 1) rfl rfl rfl rfl li iy ?_ ?_ rfl rfl ?_ ?_)
                  · omega
                  · rw [List.length_append]; simp; omega
                  · rw [← hM, hxs, sdiff_nil_r]
                  · rw [dy, ← hU, sdiff_nil_r]; simp
                · rw [List.length_map]; have := congrArg List.length dy; rw [List.length_drop] at this; simp at this; omega
                · omega
              | cons f yr =>
                obtain ⟨gy', _, iy'⟩ := getD_drop dy
                have hne : (f == a) = false := by have := rising_drop hy hys; simpa using fun h : f = a => this h.symm
                refine Wx.step (Tr.bool Ev.bool) (Sxs.single (Sx.tryN (Sxs.cons (Sx.assign (Ev.sub (Ev.name rfl) (Ev.name rfl) (Su.list (by omega) (by omega) gx)) (.inl rfl) (own2 (by decide) (by decide)) (fun _ _ => rfl)) (Sxs.cons (Sx.assign (Ev.sub (Ev.name rfl) (Ev.name rfl) (Su.list (by omega) (by omega) gy)) (.inl rfl) (own2 (by decide) (by decide)) (fun _ _ => rfl)) (Sxs.single (Sx.ifF (Tr.cmp (Ev.name rfl) (Ev.name rfl) (by rw [← decide_eq_false hlt]; exact Co.lt)) (Sxs.single (Sx.ifT (Tr.cmp (Ev.name rfl) (Ev.name rfl) (by rw [← decide_eq_true hgt]; exact Co.gt)) (Sxs.cons (Sx.append2 (Ev.name rfl) (by decide) (by rw [List.length_map]; omega)) (Sxs.cons (Sx.aug rfl Ev.int rfl (own2 (by decide) (by decide)) iadd_ints) (Sxs.single (Sx.whileW (Wx.stop (Tr.cmp (Ev.sub (Ev.name rfl) (Ev.name rfl) (Su.list (by omega) (by omega) gy')) (Ev.name rfl) (by rw [← hne]; exact Co.eq)))))))))))))))
                  (Wx.from (ih (i, j + 1, ms, us ++ [a]) ⟨li, iy, lm, by simp; omega, ?_, ?_⟩ (by dsimp only; omega)) (lk_cons rfl (lk_cons rfl (lk_cons rfl (lk_cons rfl lk_nil)))) (by rw [sw, List.map_append]; exact fun _ h => h))
                · dsimp only; rw [dy, hxs, ← hM]
                · dsimp only; rw [dy, hxs, ← hU]; simp
            · rw [if_neg hgt] at hM hU
              cases xr with
              | nil =>
                rw [sdiff_nil_l] at hM hU
                cases yr with
                | nil =>
                  refine Wx.brk (Tr.bool Ev.bool) (Sxs.single (Sx.tryE (c := _) (SxsE.cons (Sx.assign (Ev.sub (Ev.name rfl) (Ev.name rfl) (Su.list (by omega) (by omega) gx)) (.inl rfl) (own2 (by decide) (by decide)) (fun _ _ => rfl)) (SxsE.cons (Sx.assign (Ev.sub (Ev.name rfl) (Ev.name rfl) (Su.list (by omega) (by omega) gy)) (.inl rfl) (own2 (by decide) (by decide)) (fun _ _ => rfl))
                    (SxsE.head (SxE.ifF (Tr.cmp (Ev.name rfl) (Ev.name rfl) (by rw [← decide_eq_false hlt]; exact Co.lt)) (SxsE.head (SxE.ifF (Tr.cmp (Ev.name rfl) (Ev.name rfl) (by rw [← decide_eq_false hgt]; exact Co.gt))
                      (SxsE.cons (Sx.aug rfl Ev.int rfl (own2 (by decide) (by decide)) iadd_ints) (SxsE.head (SxE.finB (SxsE.head (SxE.while_ (TrE.cmp (EvE.item (Ev.name rfl) (Ev.name rfl) ?_ ?_)))) (SxsE.cons (Sx.aug rfl Ev.int rfl (own2 (by decide) (by decide)) iadd_ints) (SxsE.head (SxE.while_ (TrE.cmp (EvE.item (Ev.name rfl) (Ev.name rfl) ?_ ?_))))) hn))))))))) ?hand hn rfl rfl (by decide +kernel) F.isExc_IndexError F.notTuple_IndexError F.self_IndexError))
                  case hand =>
                    refine sHand (i := i + 1) (j := j + 1) rfl rfl rfl rfl ix iy ?_ ?_ rfl rfl ?_ ?_
                    · omega
                    · omega
                    · rw [dx, ← hM]
                    · rw [dy, ← hU]
                  · rw [List.length_map]; have := congrArg List.length dx; rw [List.length_drop] at this; simp at this; omega
                  · omega
                  · rw [List.length_map]; have := congrArg List.length dy; rw [List.length_drop] at this; simp at this; omega
                  · omega
                | cons g yr =>
                  obtain ⟨gy', _, iy'⟩ := getD_drop dy
                  have hne : (g == a) = false := by have := rising_drop hy hys; simpa using fun h : g = a => this h.symm
                  refine Wx.brk (Tr.bool Ev.bool) (Sxs.single (Sx.tryE (c := _) (SxsE.cons (Sx.assign (Ev.sub (Ev.name rfl) (Ev.name rfl) (Su.list (by omega) (by omega) gx)) (.inl rfl) (own2 (by decide) (by decide)) (fun _ _ => rfl)) (SxsE.cons (Sx.assign (Ev.sub (Ev.name rfl) (Ev.name rfl) (Su.list (by omega) (by omega) gy)) (.inl rfl) (own2 (by decide) (by decide)) (fun _ _ => rfl))
                    (SxsE.head (SxE.ifF (Tr.cmp (Ev.name rfl) (Ev.name rfl) (by rw [← decide_eq_false hlt]; exact Co.lt)) (SxsE.head (SxE.ifF (Tr.cmp (Ev.name rfl) (Ev.name rfl) (by rw [← decide_eq_false hgt]; exact Co.gt))
                      (SxsE.cons (Sx.aug rfl Ev.int rfl (own2 (by decide) (by decide)) iadd_ints) (SxsE.head (SxE.finA (SxsE.head (SxE.while_ (TrE.cmp (EvE.item (Ev.name rfl) (Ev.name rfl) ?_ ?_)))) (Sxs.cons (Sx.aug rfl Ev.int rfl (own2 (by decide) (by decide)) iadd_ints) (Sxs.single (Sx.whileW (Wx.stop (Tr.cmp (Ev.sub (Ev.name rfl) (Ev.name rfl) (Su.list (by omega) (by omega) gy')) (Ev.name rfl) (by rw [← hne]; exact Co.eq)))))) hn))))))))) ?hand hn rfl rfl (by decide +kernel) F.isExc_IndexError F.notTuple_IndexError F.self_IndexError))
                  case hand =>
                    refine sHand (i := i + 1) (j := j + 1) rfl rfl rfl rfl ix iy ?_ ?_ rfl rfl ?_ ?_
                    · omega
                    · omega
                    · rw [dx, ← hM]
                    · rw [dy, ← hU]
                  · rw [List.length_map]; have := congrArg List.length dx; rw [List.length_drop] at this; simp at this; omega
                  · omega
              | cons f xr =>
                obtain ⟨gx', _, ix'⟩ := getD_drop dx
                have hne' : (f == e) = false := by have := rising_drop hx hxs; simpa using fun h : f = e => this h.symm
                cases yr with
                | nil =>
                  rw [sdiff_nil_r] at hM hU
                  refine Wx.brk (Tr.bool Ev.bool) (Sxs.single (Sx.tryE (c := _) (SxsE.cons (Sx.assign (Ev.sub (Ev.name rfl) (Ev.name rfl) (Su.list (by omega) (by omega) gx)) (.inl rfl) (own2 (by decide) (by decide)) (fun _ _ => rfl)) (SxsE.cons (Sx.assign (Ev.sub (Ev.name rfl) (Ev.name rfl) (Su.list (by omega) (by omega) gy)) (.inl rfl) (own2 (by decide) (by decide)) (fun _ _ => rfl))
                    (SxsE.head (SxE.ifF (Tr.cmp (Ev.name rfl) (Ev.name rfl) (by rw [← decide_eq_false hlt]; exact Co.lt)) (SxsE.head (SxE.ifF (Tr.cmp (Ev.name rfl) (Ev.name rfl) (by rw [← decide_eq_false hgt]; exact Co.gt))
                      (SxsE.cons (Sx.aug rfl Ev.int rfl (own2 (by decide) (by decide)) iadd_ints) (SxsE.head (SxE.finC (Sxs.single (Sx.whileW (Wx.stop (Tr.cmp (Ev.sub (Ev.name rfl) (Ev.name rfl) (Su.list (by omega) (by omega) gx')) (Ev.name rfl) (by rw [← hne']; exact Co.eq))))) (SxsE.cons (Sx.aug rfl Ev.int rfl (own2 (by decide) (by decide)) iadd_ints) (SxsE.head (SxE.while_ (TrE.cmp (EvE.item (Ev.name rfl) (Ev.name rfl) ?_ ?_)))))))))))))) ?hand hn rfl rfl (by decide +kernel) F.isExc_IndexError F.notTuple_IndexError F.self_IndexError))
                  case hand =>
                    refine sHand (i := i + 1) (j := j + 1) rfl rfl rfl rfl ix iy ?_ ?_ rfl rfl ?_ ?_
                    · omega
                    · omega
                    · rw [dx, ← hM]
                    · rw [dy, ← hU]
                  · rw [List.length_map]; have := congrArg List.length dy; rw [List.length_drop] at this; simp at this; omega
                  · omega
                | cons g yr =>
                  obtain ⟨gy', _, iy'⟩ := getD_drop dy
                  have hne : (g == a) = false := by have := rising_drop hy hys; simpa using fun h : g = a => this h.symm
                  refine Wx.step (Tr.bool Ev.bool) (Sxs.single (Sx.tryN (Sxs.cons (Sx.assign (Ev.sub (Ev.name rfl) (Ev.name rfl) (Su.list (by omega) (by omega) gx)) (.inl rfl) (own2 (by decide) (by decide)) (fun _ _ => rfl)) (Sxs.cons (Sx.assign (Ev.sub (Ev.name rfl) (Ev.name rfl) (Su.list (by omega) (by omega) gy)) (.inl rfl) (own2 (by decide) (by decide)) (fun _ _ => rfl)) (Sxs.single (Sx.ifF (Tr.cmp (Ev.name rfl) (Ev.name rfl) (by rw [← decide_eq_false hlt]; exact Co.lt)) (Sxs.single (Sx.ifF (Tr.cmp (Ev.name rfl) (Ev.name rfl) (by rw [← decide_eq_false hgt]; exact Co.gt)) (Sxs.cons (Sx.aug rfl Ev.int rfl (own2 (by decide) (by decide)) iadd_ints) (Sxs.single (Sx.finN (Sxs.single (Sx.whileW (Wx.stop (Tr.cmp (Ev.sub (Ev.name rfl) (Ev.name rfl) (Su.list (by omega) (by omega) gx')) (Ev.name rfl) (by rw [← hne']; exact Co.eq))))) (Sxs.cons (Sx.aug rfl Ev.int rfl (own2 (by decide) (by decide)) iadd_ints) (Sxs.single (Sx.whileW (Wx.stop (Tr.cmp (Ev.sub (Ev.name rfl) (Ev.name rfl) (Su.list (by omega) (by omega) gy')) (Ev.name rfl) (by rw [← hne]; exact Co.eq)))))))))))))))))
                    (Wx.from (ih (i + 1, j + 1, ms, us) ⟨ix, iy, by dsimp only; omega, by dsimp only; omega, ?_, ?_⟩ (by dsimp only; omega)) (lk_cons rfl (lk_cons rfl (lk_cons rfl (lk_cons rfl lk_nil)))) (fun _ h => h))
                  · dsimp only; rw [dx, dy, ← hM]
                  · dsimp only; rw [dx, dy, ← hU]
    · exact (lk_cons rfl (lk_cons rfl (lk_cons rfl (lk_cons rfl lk_nil))))
    · refine Sxs.freeze (own1 (by decide)) (Sxs.freeze (fun _ h => nomatch h) ?_)
      exact Sxs.single (Sx.ret (Ev.tuple (Evs.cons (Ev.name rfl) (Evs.cons (Ev.name rfl) Evs.nil)) (by show 2 ≤ 1000; decide)))
end
end Mine
end

section
open PySem PySem.W PySem.Calls PyProof.Rows
namespace Mine
open Builtin._codecs in
theorem encNarrow4 {a b c d : Nat} (ha : a < 128) (hb : b < 128) (hc : c < 128) (hd : d < 128) (self : Value) :
    encodeNarrow "str.encode" asciiCodec none self ⟨#[a, b, c, d]⟩ = pure #[a.toUInt8, b.toUInt8, c.toUInt8, d.toUInt8] := by
  have a' : ¬ 128 ≤ a := by omega
  have b' : ¬ 128 ≤ b := by omega
  have c' : ¬ 128 ≤ c := by omega
  have d' : ¬ 128 ≤ d := by omega
  unfold encodeNarrow
  have hl : Str.length ⟨#[a, b, c, d]⟩ = 4 := rfl
  rw [hl]
  have eb : ∀ x, x < 128 → asciiCodec.bad x = false := fun x h => by simp [asciiCodec]; omega
  have ef : List.findIdx? asciiCodec.bad [a, b, c, d] = none := by
    simp [List.findIdx?_cons, eb _ ha, eb _ hb, eb _ hc, eb _ hd]
  have ey : ∀ x, asciiCodec.bytesOf x = [x.toUInt8] := fun _ => rfl
  simp [List.range'_succ, List.forIn_cons, eb _ ha, ef, sizeLine, ey]
end Mine
end

section
open PySem PySem.W PySem.Calls PyProof.Rows
namespace Mine
section
variable {C : Cfg} {n : Nat} {sc : Scope} {ρ ρ' ρ₁ ρ₂ : Rho} {ow ow' r ow₁ ow₂ : Ow} {out : Out} {x y : Str} {xs : List D} {cls : String} {c : Bool}

/-! a list of the frame's own as a test -/
theorem own_test {A : Around} {g₀ : Heap} {V₀ V : Addr → Prop} {s : Shared} {env : Env} {p : Pos} (st : StV C A g₀ V₀ s.heap V env ρ ((x, xs) :: r)) (hr : ∀ ys, (x, ys) ∉ r) (hlen : xs.length ≤ 1000)
    (hd : (x == ("__debug__" : Str)) = false := by decide) (hc : (x == ("__classdict__" : Str)) = false := by decide) :
    wpAny C.M A (isTrue (.Name x p) env (eval (.Name x p) env)) (fun v s' => Ke C.g s s' ∧ v = !xs.isEmpty) (fun _ _ => False) s := by
  obtain ⟨a, vs, lk, hl', hs, _⟩ := st.setOwn hr
  refine wpAny_isTrue_value (lk_eval st.kind lk ?_ hd hc)
  refine wpAny_truthy_list hl'.isList (by rw [List.size_toArray, hs.length]; omega) ⟨.toks, ?_⟩
  have := hs.length
  cases xs <;> cases vs <;> simp_all
theorem Wx.stopO {p : Pos} {body : List Stmt} (hr : ∀ ys, (x, ys) ∉ r) (hd : (x == ("__debug__" : Str)) = false := by decide) (hc : (x == ("__classdict__" : Str)) = false := by decide) :
    Wx C n sc ρ ((x, []) :: r) (.Name x p) body (.next ρ ((x, []) :: r)) := by
  rintro A g₀ V₀ s env he hA ⟨V, st⟩
  refine wx_turn (wpAny_mono (own_test st hr (by decide) hd hc) (fun b s₁ h₁ => ?_) fun _ _ f => f)
  obtain ⟨k, rfl⟩ := h₁
  exact ⟨_, rfl, k.same, rfl, _, st.ke k.heap⟩
theorem Wx.stepO {p : Pos} {body : List Stmt} (hr : ∀ ys, (x, ys) ∉ r) (hlen : xs.length ≤ 1000) (hne : xs ≠ []) (b : Sxs C n sc ρ ((x, xs) :: r) body (.next ρ' ow')) (w : Wx C n sc ρ' ow' (.Name x p) body out)
    (hd : (x == ("__debug__" : Str)) = false := by decide) (hc : (x == ("__classdict__" : Str)) = false := by decide) : Wx C n sc ρ ((x, xs) :: r) (.Name x p) body out := by
  rintro A g₀ V₀ s env he hA ⟨V, st⟩
  refine wx_turn (wpAny_mono (own_test st hr hlen hd hc) (fun b' s₁ h₁ => ?_) fun _ _ f => f)
  obtain ⟨k, rfl⟩ := h₁
  have : (!xs.isEmpty) = true := by cases xs with | nil => exact absurd rfl hne | cons => rfl
  rw [this]
  simp only [if_true]
  refine wpAny_mono (b A g₀ V₀ s₁ env he hA ⟨_, st.ke k.heap⟩) (fun fl s₂ h₂ => ?_) fun _ _ f => f
  obtain ⟨h1, rfl, h2⟩ := h₂
  refine codeAny_mono (w A g₀ V₀ s₂ env he hA h2) ?_
  rintro r s' ⟨fl, rfl, p⟩
  exact ⟨fl, rfl, p.from (k.same.trans h1)⟩

/-- y = x.pop() -/
theorem Sx.pop {px py ap p pos : Pos} {d : D} (hr : ∀ ys, (x, ys) ∉ r) (hlen : xs.length + 1 ≤ 1000) (hk : isLC (sc.names.lookup y) = true) (hyx : y ≠ x) (hyr : ∀ ys, (y, ys) ∉ r)
    (hl : (ap.endLine == p.line) = true := by rfl)
    (hsw : ∀ env : Env, env.scope = sc → swapsWith (.Call (.Attribute (.Name x px) (Str.ofString "pop") ap) [] [] p) (some (.Name y py)) pos.line env = pure false := by intro _ _; rfl)
    (hd : (x == ("__debug__" : Str)) = false := by decide) (hc : (x == ("__classdict__" : Str)) = false := by decide) :
    Sx C n sc ρ ((x, xs ++ [d]) :: r) (.Assign [.Name y py] (.Call (.Attribute (.Name x px) (Str.ofString "pop") ap) [] [] p) pos) (.next ((y, d) :: ρ) ((x, xs) :: r)) := by
  rintro A g₀ V₀ s env he hA ⟨V, st⟩
  refine wpAny_Assign_Name ?_ (hsw env he)
  obtain ⟨a, vs, lk, hl', hs, hV, hg, set⟩ := st.setOwn hr
  refine mcall (fun _ => rfl) rfl hl (lk_eval st.kind lk ?_ hd hc)
  refine getMethod_list_of F.slot_list_pop F.type_list_pop hl'.isList (noDict hl') ?_
  have hz : vs.length = xs.length + 1 := by rw [hs.length]; simp
  obtain ⟨v, hv, av⟩ := hs.get (i := xs.length) (d := d) (by simp)
  obtain ⟨n1, e1⟩ := id hl'
  refine P.pop_list e1 (y := v) ?_ ?_ (by rw [List.size_toArray, hz]; exact Nat.le_trans hlen (by decide))
  · rw [List.size_toArray, hz]; simpa using hv
  have q := IsL.update e1 (fun q => q.eraseIdxIfInBounds (vs.toArray.size - 1))
  have e3 : vs.toArray.eraseIdxIfInBounds (vs.toArray.size - 1) = (vs.take xs.length).toArray := by
    apply Array.ext'
    simp [hz]
    rw [List.eraseIdx_eq_take_drop_succ]
    simp [hz]
  simp only [e3] at q
  have st₁ := set _ _ xs (Heap.SameBut.update ..) ⟨_, q⟩ (by have := hs.take xs.length; simpa using this)
  have hyo : ∀ ys, (y, ys) ∉ (x, xs) :: r := fun ys h => by
    rcases List.mem_cons.mp h with e | h
    · cases e; exact hyx rfl
    · exact hyr ys h
  refine wpAny_mono (wp_store (s := { s with heap := _ }) st₁ ((isLC_iff hk).imp (kindOf_of he) (kindOf_of he))) (fun _ s₂ h₂ => ?_) fun _ _ f => f.elim
  refine ⟨(Same.trans ⟨_, s.toks, rfl⟩ h₂.1), rfl, _, h₂.2.val st₁ (av.mono fun b o hv' e _ => ⟨hv', ?_⟩) hyo⟩
  exact (Heap.SameBut.update ..).extBut b o (fun q => hV (q ▸ hv')) e

/-! x.remove(e) -/
noncomputable def isK (k : Int) : Value → Bool
  | .int a _ => a == k
  | _ => false
theorem isK_gives {vs : List Value} {ns : List Int} {h : Heap} {V : Addr → Prop} (hs : Ats h V vs (ns.map .int)) (k : Int) (t : Tok) : ∀ y, y ∈ vs.toArray → MeetsSeq.EqGives y (.int k t) (isK k y) := by
  intro y hy
  obtain ⟨i, hi⟩ := List.getElem?_of_mem (by simpa using hy)
  obtain ⟨d, e, a⟩ := hs.get' hi
  rw [List.getElem?_map] at e
  cases hn : ns[i]? with
  | none => rw [hn] at e; cases e
  | some m => rw [hn] at e; cases e; cases a; exact MeetsSeq.EqGives.int _ _ _ _
theorem isK_at {vs : List Value} {ns : List Int} {h : Heap} {V : Addr → Prop} (hs : Ats h V vs (ns.map .int)) {k : Int} {i : Nat} {v : Value} (hv : vs[i]? = some v) : ∃ m, ns[i]? = some m ∧ isK k v = (m == k) := by
  obtain ⟨d, e, a⟩ := hs.get' hv
  rw [List.getElem?_map] at e
  cases hn : ns[i]? with
  | none => rw [hn] at e; cases e
  | some m => rw [hn] at e; cases e; cases a; exact ⟨m, rfl, rfl⟩
theorem Sx.remove {px ap p pos : Pos} {e : Expr} {k : Int} {ns : List Int} {j : Nat} (v : Ev C n sc ρ e (.int k)) (hr : ∀ ys, (x, ys) ∉ r) (hlen : ns.length ≤ 1000) (hj : ns[j]? = some k) (hno : ∀ m, m < j → ns[m]? ≠ some k)
    (hl : (ap.endLine == p.line) = true := by rfl)
    (hs : ∀ env, starEach [e] env = [(false, eval e env)] := by intro _; rfl)
    (hsw : ∀ env : Env, swapsWith (.Call (.Attribute (.Name x px) (Str.ofString "remove") ap) [e] [] p) none pos.line env = pure false := by intro _; rfl)
    (hd : (x == ("__debug__" : Str)) = false := by decide) (hc : (x == ("__classdict__" : Str)) = false := by decide) :
    Sx C n sc ρ ((x, ns.map .int) :: r) (.Expr (.Call (.Attribute (.Name x px) (Str.ofString "remove") ap) [e] [] p) pos) (.next ρ ((x, (ns.eraseIdx j).map .int) :: r)) := by
  rintro A g₀ V₀ s env he hA ⟨V, st⟩
  refine wpAny_Expr_any ?_ (interactive_no st.kind) (hsw env)
  obtain ⟨a, vs, lk, hl', _⟩ := st.setOwn hr
  refine mcall (fun _ => rfl) (by rw [hs]; rfl) hl (lk_eval st.kind lk ?_ hd hc)
  refine getMethod_list_of F.slot_list_remove F.type_list_remove hl'.isList (noDict hl') ?_
  rw [hs env]
  refine seqMethod1_meets F.slot_list_remove F.entry_list_remove ?_
  refine wpAny_mono (v A s V env he hA st.rd) (fun u s₁ h₁ => ?_) fun _ _ f => f.elim
  obtain ⟨k₁, a₁⟩ := h₁
  cases a₁ with
  | int _ t =>
    have st₁ := st.ke k₁.heap
    obtain ⟨a', vs', lk', hl₁, hs', hV', _, set⟩ := st₁.setOwn hr
    have ea : a = a' := Value.ref.inj (lk_unique (lk.keeps k₁.heap) lk')
    subst ea
    obtain ⟨n1, e1⟩ := hl₁
    have hz : vs'.length = ns.length := by rw [hs'.length, List.length_map]
    have hj' : j < ns.length := (List.getElem?_eq_some_iff.mp hj).1
    refine ⟨⟨_, e1, rfl⟩, F.args_list_remove_2 _ _, _, MeetsSeq.list_remove a vs'.toArray n1 _ (isK k) (isK_gives hs' k t) j (by simp; omega) ?_ ?_ (by rw [List.size_toArray, hz]; exact Nat.le_trans hlen (by decide)), e1, ?_⟩
    · obtain ⟨m, hm, q⟩ := isK_at hs' (k := k) (i := j) (v := vs'[j]) (List.getElem?_eq_getElem (by omega))
      rw [hj] at hm; cases hm
      simpa using q
    · intro m hm hmj
      obtain ⟨m', hm', q⟩ := isK_at hs' (k := k) (i := m) (v := vs'[m]) (List.getElem?_eq_getElem (by simpa using hm))
      have : m' ≠ k := by rintro rfl; exact hno m hmj hm'
      rw [List.getElem_toArray, q]; simpa using this
    · have q := IsL.update e1 (fun q => q.eraseIdxIfInBounds j)
      have e3 : vs'.toArray.eraseIdxIfInBounds j = (vs'.take j ++ vs'.drop (j + 1)).toArray := by
        apply Array.ext'
        simp
        exact List.eraseIdx_eq_take_drop_succ ..
      simp only [e3] at q
      refine ⟨k₁.same.trans ⟨_, s₁.toks, rfl⟩, rfl, _, set _ _ _ (Heap.SameBut.update ..) ⟨_, q⟩ ?_⟩
      have := (hs'.take j).append (hs'.drop (j + 1))
      rw [List.eraseIdx_eq_take_drop_succ, List.map_append, List.map_take, List.map_drop]
      exact this
theorem SxE.remove {px ap p pos : Pos} {e : Expr} {k : Int} {ns : List Int} (v : Ev C n sc ρ e (.int k)) (hr : ∀ ys, (x, ys) ∉ r) (hlen : ns.length ≤ 1000) (hno : k ∉ ns) (hn : 1 ≤ n)
    (hl : (ap.endLine == p.line) = true := by rfl)
    (hs : ∀ env, starEach [e] env = [(false, eval e env)] := by intro _; rfl)
    (hsw : ∀ env : Env, swapsWith (.Call (.Attribute (.Name x px) (Str.ofString "remove") ap) [e] [] p) none pos.line env = pure false := by intro _; rfl)
    (hd : (x == ("__debug__" : Str)) = false := by decide) (hc : (x == ("__classdict__" : Str)) = false := by decide) :
    SxE C n sc ρ ((x, ns.map .int) :: r) (.Expr (.Call (.Attribute (.Name x px) (Str.ofString "remove") ap) [e] [] p) pos) "ValueError" true ρ ((x, ns.map .int) :: r) := by
  rintro A g₀ V₀ s env he hA hh ⟨V, st⟩
  refine wpAny_Expr_any ?_ (interactive_no st.kind) (hsw env)
  obtain ⟨a, vs, lk, hl', _⟩ := st.setOwn hr
  refine mcall (fun _ => rfl) (by rw [hs]; rfl) hl (lk_eval st.kind lk ?_ hd hc)
  refine getMethod_list_of F.slot_list_remove F.type_list_remove hl'.isList (noDict hl') ?_
  rw [hs env]
  refine seqMethod1_meets F.slot_list_remove F.entry_list_remove ?_
  refine wpAny_mono (v A s V env he hA st.rd) (fun u s₁ h₁ => ?_) fun _ _ f => f.elim
  obtain ⟨k₁, a₁⟩ := h₁
  cases a₁ with
  | int _ t =>
    have st₁ := st.ke k₁.heap
    obtain ⟨a', vs', lk', hl₁, hs', hV', _, set⟩ := st₁.setOwn hr
    have ea : a = a' := Value.ref.inj (lk_unique (lk.keeps k₁.heap) lk')
    subst ea
    obtain ⟨n1, e1⟩ := hl₁
    refine ⟨⟨_, e1, rfl⟩, F.args_list_remove_2 _ _, _, MeetsSeq.list_remove_none a vs'.toArray n1 _ (isK k) (isK_gives hs' k t) ?_, e1, hA.handled hn, fun h' tk e hm => ?_⟩
    · intro m hm
      obtain ⟨m', hm', q⟩ := isK_at hs' (k := k) (i := m) (v := vs'[m]) (List.getElem?_eq_getElem (by simpa using hm))
      have : m' ≠ k := by rintro rfl; exact hno (List.mem_of_getElem? hm')
      rw [List.getElem_toArray, q]; simpa using this
    · obtain ⟨ob, t, e1, c1, d1⟩ := hm.there
      exact ⟨k₁.same.trans ⟨h', tk, rfl⟩, e, false, true, s₁.heap, rfl, ⟨.of hm.keeps, hm.new, ob, _, e1, c1, d1, by simp, fun _ => rfl, (by intro q; cases q), fun _ => rfl⟩, fun _ _ => rfl, _, st₁⟩

/-! a def that changes its two lists -/
theorem FnU.intro {f : Addr} {a b : Addr} {us vs : List Value} {ds es : List D} {d : D} {fd : FuncData} {o : Obj} {body : List Stmt} {A : Around} {s : Shared} {x y : Str}
    (ha : AOK (n + 1) A) (base : ∀ b o, C.g.get? b = some o → s.heap.get? b = some o) (fr : FrOK C.g A s.heap)
    (ho : (hd.heap_39 C.w.params).lookup f = some o) (hdat : o.data = .func fd) (hbody : fd.body = .stmts body) (hclo : fd.closure = []) (hgl : fd.globals = mainGlobals) (hbl : fd.builtins = builtinsNs)
    (hcode : codeIn (hd.heap_39 C.w.params) fd.code fd.qualname = true) (hco : fd.scope.isCoroutine = false) (hgen : fd.scope.isGenerator = false) (hk : fd.scope.kind = .function)
    (hbind : BindsTo s fd ⟨[.ref a, .ref b], []⟩ [(x, .ref a), (y, .ref b)]) (hxy : x ≠ y) (hx : fd.scope.names.lookup x = some .local) (hy : fd.scope.names.lookup y = some .local)
    (hab : a ≠ b) (hga : C.g.get? a = none) (hgb : C.g.get? b = none) (hla : s.heap.PlainList a us.toArray) (hlb : s.heap.PlainList b vs.toArray) (hsa : Ats s.heap (fun _ => False) us ds) (hsb : Ats s.heap (fun _ => False) vs es)
    (hb : Sxs C n fd.scope [] [(x, ds), (y, es)] body (.ret d)) :
    codeAny C.M A (.call (.ref f) ⟨[.ref a, .ref b], []⟩) (fun r s' => ∃ v, r = .ok (.ret v) ∧ Same s s' ∧ KeU C.g (hideAll s.heap [a, b]) s'.heap ∧ At s'.heap (fun q => (hideAll s.heap [a, b]).get? q = none) v d) s := by
  have X : (hd.heap_39 C.w.params).In s.heap := fun a o e => base a o (C.X a o e)
  refine codeAny_call_function (by have := ha.depth; unfold recursionLimit; omega) (X _ _ ho) hdat hco hgen hbody (codeRec_of X hcode) (hbind _ _ _ _ ?_)
  rw [hclo, hgl, hbl]
  refine wpAny_newFunctionEnv_cells hk (fun z hz => ?_) fun env he s' x' => ?_
  · left
    rcases List.mem_cons.mp hz with rfl | hz
    · exact hx
    · rw [List.mem_singleton.mp hz]; exact hy
  have hlim : s'.heap.NoLimit := (C.T.nolimit.keeps base).keeps x'.toInCall.keep
  refine ⟨hlim, codeAny_func ?_⟩
  have hL : s.heap.get? s.heap.objs.size = none := Heap.get?_none_of_le (Nat.le_refl _)
  have hsc : env.scope = fd.scope := by rw [he]; rfl
  have hloc : env.locals = s.heap.objs.size := by rw [he]; rfl
  have hcl : env.cells = cellsFrom (s.heap.objs.size + 1) fd.scope.names [] := by rw [he]; rfl
  have hfr : env.frame = some env.locals := by rw [he]; rfl
  have hkf : env.scope.kind = .function := by rw [hsc]; exact hk
  have hn' : ∀ {q}, s.heap.get? q = none → (hideAll s.heap [a, b]).get? q = none := fun {q} e => by
    cases e' : (hideAll s.heap [a, b]).get? q with
    | none => rfl
    | some o => rw [of_hideAll _ e'] at e; cases e
  have hnd : ([(x, Value.ref a), (y, Value.ref b)].map (·.1)).Nodup := by simp [hxy]
  have st : StV C (A.deeper env) (hideAll s.heap [a, b]) (fun _ => False) s'.heap (fun _ => False) env [] [(x, ds), (y, es)] := by
    refine ⟨fun q o e => hideAll_get _ (base q o e) fun hq => ?_, hkf, by rw [he]; rfl, by rw [he]; rfl, .of fun q o e => x'.toInCall.keep q o (of_hideAll _ e), fun a q => .inl q, hfr, (by obtain ⟨outer, e, _⟩ := fr; exact ⟨outer, Around.frames_deeper e⟩), ⟨_, x'.toInCall.ns⟩, by rw [hloc]; exact hn' hL, fun y c hc => ?_, fun y hy => ?_, fun y dd e => ?_, ⟨fun z => if z = x then a else b, fun z zs hz => ?_⟩, ?_⟩
    · rcases List.mem_cons.mp hq with rfl | hq
      · rw [hga] at e; cases e
      · rw [List.mem_singleton.mp hq, hgb] at e; cases e
    · refine ⟨⟨_, x'.cell y c hc⟩, hn' (Heap.get?_none_of_le ?_), fun z hz => name_of_addr x'.apart (mem_of_lookup hz) (mem_of_lookup hc)⟩
      have := x'.above y c (mem_of_lookup hc)
      rw [hloc] at this; exact Nat.le_of_lt this
    · have : (env.cells.lookup y).isSome = true := by rw [hcl]; exact cellsFrom_some _ _ _ (.inl (by rw [← hsc]; exact hy))
      exact Option.isSome_iff_exists.mp this
    · simp at e
    · rcases List.mem_cons.mp hz with e | hz
      · cases e
        simp only [if_true]
        refine ⟨⟨us, .inl ⟨by unfold Env.kindOf; rw [hsc]; exact hx, _, x'.toInCall.ns, bindL_here _ _ _ (by unfold Env.kindOf; rw [hsc]; exact hx) _ _ hnd (.head _)⟩, (KeU.of (g := C.g) x'.toInCall.keep).plain hla, (KeU.of (g := C.g) x'.toInCall.keep).ats (fun _ q => q) hsa⟩, id, hideAll_none _ (.head _), fun z zs hz e => ?_⟩
        by_cases hzx : z = x
        · exact hzx
        · rw [if_neg hzx] at e; exact absurd e.symm hab
      · have e := List.mem_singleton.mp hz
        cases e
        simp only [if_neg (Ne.symm hxy)]
        refine ⟨⟨vs, .inl ⟨by unfold Env.kindOf; rw [hsc]; exact hy, _, x'.toInCall.ns, bindL_here _ _ _ (by unfold Env.kindOf; rw [hsc]; exact hy) _ _ hnd (.tail _ (.head _))⟩, (KeU.of (g := C.g) x'.toInCall.keep).plain hlb, (KeU.of (g := C.g) x'.toInCall.keep).ats (fun _ q => q) hsb⟩, id, hideAll_none _ (.tail _ (.head _)), fun z zs hz e => ?_⟩
        rcases List.mem_cons.mp hz with e' | hz
        · cases e'; rw [if_pos rfl] at e; exact absurd e hab
        · have e' := List.mem_singleton.mp hz; cases e'; rfl
    · obtain ⟨outer, e, H⟩ := fr
      refine ⟨env :: outer, Around.frames_deeper e, fun en hen => ?_⟩
      rcases List.mem_cons.mp hen with rfl | hen
      · obtain ⟨o', es, k, e', d', _⟩ := x'.toInCall.ns
        refine ⟨by rw [hkf]; decide, en.locals, o', hfr, ?_, e', es, k, d'⟩
        cases q : C.g.get? en.locals with
        | none => rfl
        | some o'' => have := base _ _ q; rw [hloc, hL] at this; cases this
      · obtain ⟨k1, L, o', k2, k3, k4, k5⟩ := H en hen
        exact ⟨k1, L, o', k2, k3, x'.toInCall.keep _ _ k4, k5⟩
  obtain ⟨h₁, tk, rfl⟩ := x'.toInCall.same
  refine wpAny_mono (hb _ (hideAll s.heap [a, b]) (fun _ => False) _ env hsc ha.deeper ⟨_, st⟩) (fun fl s₂ h₂ => ?_) fun _ _ q => q.elim
  obtain ⟨⟨h₂', t₂, rfl⟩, v, rfl, k, q⟩ := h₂
  exact ⟨v, rfl, ⟨h₂', t₂, rfl⟩, k, q.wider fun _ q => q.elim False.elim id⟩

/-- an expression that makes a new list of ints -/
noncomputable def EvF (C : Cfg) (n : Nat) (sc : Scope) (ρ : Rho) (e : Expr) (ns : List Int) : Prop :=
  ∀ A s V env, env.scope = sc → AOK n A → Rd C A s.heap V env ρ →
    wpAny C.M A (eval e env) (fun v s' => Ke C.g s s' ∧ ∃ a vs, v = .ref a ∧ s.heap.get? a = none ∧ s'.heap.PlainList a vs.toArray ∧ Ats s'.heap (fun _ => False) vs (ns.map .int)) (fun _ _ => False) s
/-- a def that changes its two lists gives this data -/
noncomputable def FnU (C : Cfg) (n : Nat) (f : Addr) (ns ms : List Int) (d : D) : Prop :=
  ∀ A s a b us vs, AOK n A → (∀ b o, C.g.get? b = some o → s.heap.get? b = some o) → FrOK C.g A s.heap → a ≠ b → C.g.get? a = none → C.g.get? b = none → s.heap.PlainList a us.toArray → s.heap.PlainList b vs.toArray →
    Ats s.heap (fun _ => False) us (ns.map .int) → Ats s.heap (fun _ => False) vs (ms.map .int) →
    wpAny C.M A (call (.ref f) [.ref a, .ref b]) (fun v s' => Same s s' ∧ KeU C.g (hideAll s.heap [a, b]) s'.heap ∧ At s'.heap (fun q => (hideAll s.heap [a, b]).get? q = none) v d) (fun _ _ => False) s
theorem Ev.callU {x : Str} {px pos : Pos} {f : Addr} {a e : Expr} {ns ms : List Int} {d : D} (hk : sc.names.lookup x = some .globalImplicit)
    (hg : nsIn (hd.heap_39 C.w.params) mainGlobals x = some (some (.ref f))) (hf : keepIn (hd.heap_39 C.w.params) (.ref f) = true)
    (u : EvF C n sc ρ a ns) (v : EvF C n sc ρ e ms) (hfn : FnU C n f ns ms d)
    (hs : ∀ env, starEach [a, e] env = [(false, eval a env), (false, eval e env)] := by intro _; rfl) (hs1 : ∀ env, starEach [a, e] env = (false, eval a env) :: starEach [e] env := by intro _; rfl)
    (hd : (x == ("__debug__" : Str)) = false := by decide) : Ev C n sc ρ (.Call (.Name x px) [a, e] [] pos) d := by
  intro A s V env he hA r
  rw [arm_eval_Call_Name']
  refine wpAny_bind (global he r hk hg ?_ hd)
  refine callWith_K (kIn r) hf ?_ (hs1 env) ?_
  · rw [hs env]
    refine Calls.spliced_cons (wpAny_mono (u A s V env he hA r) (fun v₁ s₁ h₁ => ?_) fun _ _ f => f)
    obtain ⟨k₁, a₁, us, rfl, n₁, l₁, t₁⟩ := h₁
    have r₁ := r.keeps k₁.heap (V' := V) fun _ q => q
    refine Calls.spliced_cons (wpAny_mono (v A s₁ V env he hA r₁) (fun v₂ s₂ h₂ => ?_) fun _ _ f => f)
    obtain ⟨k₂, a₂, ws, rfl, n₂, l₂, t₂⟩ := h₂
    have r₂ := r₁.keeps k₂.heap (V' := V) fun _ q => q
    refine Calls.spliced_nil ⟨kIn r₂, ?_⟩
    have ge : ∀ {q : Addr}, s.heap.get? q = Option.none → C.g.get? q = Option.none := fun {q} h => by
      cases e' : C.g.get? q with
      | none => rfl
      | some o => rw [r.base q o e'] at h; cases h
    have hn2 : s.heap.get? a₂ = Option.none := k₁.heap.none n₂
    have hne : a₁ ≠ a₂ := by rintro rfl; obtain ⟨_, e'⟩ := l₁; rw [n₂] at e'; cases e'
    refine wpAny_mono (hfn A s₂ a₁ a₂ us ws hA r₂.base r₂.frames hne (ge n₁) (ge hn2) (k₂.heap.plain l₁) l₂ (k₂.heap.ats (fun _ q => q) t₁) t₂) (fun v s₃ h₃ => ?_) fun _ _ f => f
    obtain ⟨⟨h₃, tk, rfl⟩, k₃, a₃⟩ := h₃
    have hid : ∀ {q o}, s.heap.get? q = some o → ∃ o', (hideAll s₂.heap [a₁, a₂]).get? q = some o' ∧ ObjLe C.g q o o' := fun {q o} e' => by
      obtain ⟨o', e'', le⟩ := (k₁.trans k₂).heap q o e'
      refine ⟨o', hideAll_get _ e'' fun hq => ?_, le⟩
      rcases List.mem_cons.mp hq with rfl | hq
      · rw [n₁] at e'; cases e'
      · rw [List.mem_singleton.mp hq, hn2] at e'; cases e'
    have k13 := k₁.trans k₂
    obtain ⟨h₂, t₂', rfl, _⟩ := k13
    refine ⟨⟨h₃, tk, rfl, fun q o e' => ?_⟩, a₃.wider fun q hq => .inr ?_⟩
    · obtain ⟨o', e'', le⟩ := hid e'
      obtain ⟨o3, e3, le3⟩ := k₃ q o' e''
      exact ⟨o3, e3, le.trans le3⟩
    · cases e' : s.heap.get? q with
      | none => rfl
      | some o => obtain ⟨o', e'', _⟩ := hid e'; rw [hq] at e''; cases e''
  · have := hs env
    rw [hs1 env] at this
    injection this with _ h2
    rw [h2]; rfl
theorem EvF.sorted {px pos : Pos} {e : Expr} {ns : List Int} (hk : sc.names.lookup (Str.ofString "sorted") = some .globalImplicit) (hg : nsIn (hd.heap_39 C.w.params) mainGlobals (Str.ofString "sorted") = some Option.none) (hv : bootBuiltins (Str.ofString "sorted") = some (.builtin "sorted"))
    (u : Ev C n sc ρ e (.list (ns.map .int))) (hlen : ns.length < 64) (hs : ∀ env, starEach [e] env = [(false, eval e env)] := by intro _; rfl) : EvF C n sc ρ (.Call (.Name (Str.ofString "sorted") px) [e] [] pos) (isort ns) := by
  intro A s V env he hA r
  rw [arm_eval_Call_Name']
  refine wpAny_bind (builtin he r hk hg hv ?_ (by decide) (by decide))
  rw [hs env]
  refine Calls.callWith_builtin rfl (evalArgs_plain (Calls.spliced_cons (wpAny_mono (u A s V env he hA r) (fun v s₁ h₁ => Calls.spliced_nil ?_) fun _ _ f => f)))
  obtain ⟨k, a⟩ := h₁
  cases a with
  | list hv hl hs =>
    have hi := hs.ints
    refine sorted_ints hl.isList hi (by rw [hi.length]; exact hlen) fun out ns' a1 a2 a3 => ?_
    have e : ns' = isort ns := sorted_unique (a2.trans (isort_perm ns).symm) a3 (isort_sorted ns)
    subst e
    obtain ⟨k', hk⟩ := sortedAll_at s₁.heap _ out
    exact ⟨k.trans (.mkh (.of fun _ _ => sortedAll_old)), _, out.toList, rfl, k.heap.none (Heap.get?_none_of_le (Nat.le_succ _)), ⟨k', hk⟩, Ats.of_ints a1⟩
theorem EvF.list {px pos : Pos} {e : Expr} {ns : List Int} (hk : sc.names.lookup (Str.ofString "list") = some .globalImplicit) (hg : nsIn (hd.heap_39 C.w.params) mainGlobals (Str.ofString "list") = some Option.none) (hv : bootBuiltins (Str.ofString "list") = some (.type "list"))
    (u : Ev C n sc ρ e (.list (ns.map .int))) (hlen : ns.length ≤ 1000) (hs : ∀ env, starEach [e] env = [(false, eval e env)] := by intro _; rfl) : EvF C n sc ρ (.Call (.Name (Str.ofString "list") px) [e] [] pos) ns := by
  intro A s V env he hA r
  rw [arm_eval_Call_Name']
  refine wpAny_bind (builtin he r hk hg hv ?_ (by decide) (by decide))
  rw [hs env]
  refine PySem.callWith_type rfl (evalArgs_plain (Calls.spliced_cons (wpAny_mono (u A s V env he hA r) (fun v s₁ h₁ => Calls.spliced_nil ?_) fun _ _ f => f)))
  obtain ⟨k, a⟩ := h₁
  cases a with
  | list hv hl hs =>
    obtain ⟨c, e⟩ := id hl
    have hi := hs.ints
    refine call_list_seq _ (.inl rfl) e rfl rfl (fun h' c' hk hD => ?_) (by rw [List.size_toArray, hi.length]; exact Nat.le_trans hlen (by decide))
    exact ⟨k.trans (.mkh (.of hk)), _, _, rfl, k.heap.none (Heap.get?_none_of_le (Nat.le_refl _)), ⟨c', hD⟩, Ats.of_ints hi⟩
end
end Mine
end

section
open PySem PySem.W PySem.Calls PyProof.Rows
namespace Mine
set_option maxRecDepth 100000
/-- what unorderable_list_difference does, its first list turned round -/
noncomputable def ud : List Int → List Int → List Int → List Int × List Int
  | [], ys, ms => (ms, ys)
  | k :: r, ys, ms => if k ∈ ys then ud r (ys.erase k) ms else ud r ys (ms ++ [k])
theorem erase_first {ys : List Int} {k : Int} (h : k ∈ ys) : ∃ j, ys[j]? = some k ∧ (∀ m, m < j → ys[m]? ≠ some k) ∧ ys.eraseIdx j = ys.erase k := by
  refine ⟨ys.idxOf k, ?_, fun m hm e => ?_, (List.erase_eq_eraseIdx_of_idxOf rfl).symm⟩
  · have := List.idxOf_lt_length_iff.mpr h
    rw [List.getElem?_eq_getElem this]; simp
  · have := List.not_of_lt_findIdx (p := fun x => x == k) (xs := ys) (i := m) (by simpa [List.idxOf] using hm)
    obtain ⟨hl, e⟩ := List.getElem?_eq_some_iff.mp e
    simp [e] at this
theorem own3p {a b c : Str × List D} : ∀ p ∈ [b, a, c], p ∈ [a, b, c] := by
  intro p hp
  rcases List.mem_cons.mp hp with rfl | hp
  · exact .tail _ (.head _)
  · rcases List.mem_cons.mp hp with rfl | hp
    · exact .head _
    · exact .tail _ (.tail _ hp)
theorem own3q {a b c : Str × List D} : ∀ p ∈ [c, a, b], p ∈ [a, b, c] := by
  intro p hp
  rcases List.mem_cons.mp hp with rfl | hp
  · exact .tail _ (.tail _ (.head _))
  · rcases List.mem_cons.mp hp with rfl | hp
    · exact .head _
    · rw [List.mem_singleton.mp hp]; exact .tail _ (.head _)
theorem own3r {a b c : Str × List D} : ∀ p ∈ [a, b, c], p ∈ [c, a, b] := by
  intro p hp
  rcases List.mem_cons.mp hp with rfl | hp
  · exact .tail _ (.head _)
  · rcases List.mem_cons.mp hp with rfl | hp
    · exact .tail _ (.tail _ (.head _))
    · rw [List.mem_singleton.mp hp]; exact .head _
noncomputable abbrev uE : Str := Str.ofString "expected"
noncomputable abbrev uA : Str := Str.ofString "actual"
noncomputable abbrev uw (r ys ms : List Int) : Ow := [(uE, r.reverse.map .int), (uA, ys.map .int), (sT, ms.map .int)]
variable {C : Cfg} {n : Nat}
theorem SxsE.perm {sc : Scope} {ρ ρ' : Rho} {ow ow' ow₁ : Ow} {cls : String} {c : Bool} {st : List Stmt} (hp : ∀ p ∈ ow', p ∈ ow) (h : SxsE C n sc ρ ow' st cls c ρ' ow₁) : SxsE C n sc ρ ow st cls c ρ' ow₁ := by
  rintro A g₀ V₀ s env he hA hh ⟨V, q⟩
  exact h A g₀ V₀ s env he hA hh ⟨V, q.perm hp⟩

set_option maxHeartbeats 4000000 in
theorem fn_udiff {xs ys : List Int} (lx : xs.length ≤ 400) (ly : ys.length ≤ 400) (hn : 1 ≤ n) : FnU C (n + 1) 150 xs ys (.tuple [.list ((ud xs.reverse ys []).1.map .int), .list ((ud xs.reverse ys []).2.map .int)]) := by
  intro A s a b us vs hA base fr hab ga gb la lb ta tb
  refine wpAny_call (codeAny_mono (FnU.intro (x := uE) (y := uA) hA base fr rfl rfl rfl rfl rfl rfl rfl rfl rfl rfl (BindsTo.of_eq rfl) (by decide) rfl rfl hab ga gb la lb ta tb (d := .tuple [.list ((ud xs.reverse ys []).1.map .int), .list ((ud xs.reverse ys []).2.map .int)]) ?_) ?_)
  · refine Sxs.cons (Sx.newList rfl (own2 (by decide) (by decide)) rfl) ?_
    refine Sxs.cons (Sx.whileW (Wx.from (ρ₁ := []) (ow₁ := uw xs.reverse ys []) (out := .next [] (uw [] (ud xs.reverse ys []).2 (ud xs.reverse ys []).1)) (Wx.loop (σ := List Int × List Int × List Int) (fun _ => []) (fun a => uw a.1 a.2.1 a.2.2) (fun a => a.1.length)
      (fun a => a.1.length + a.2.2.length ≤ 400 ∧ a.2.1.length ≤ 400 ∧ ud a.1 a.2.1 a.2.2 = ud xs.reverse ys []) ?step (xs.reverse, ys, []) ?init) lk_nil ?_)) ?_
    case init => exact ⟨by simpa using lx, ly, rfl⟩
    case step =>
      rintro ⟨r, zs, ms⟩ ⟨l1, l2, he⟩ ih
      dsimp only at l1 l2 he ih ⊢
      cases r with
      | nil =>
        rw [← he]
        exact Wx.stopO (own2 (by decide) (by decide))
      | cons k r =>
        have l1' : r.length + ms.length + 1 ≤ 400 := by simp at l1; omega
        have e0 : uw (k :: r) zs ms = [(uE, r.reverse.map .int ++ [.int k]), (uA, zs.map .int), (sT, ms.map .int)] := by simp [uw]
        rw [e0]
        by_cases hk : k ∈ zs
        · obtain ⟨j, h1, h2, h3⟩ := erase_first hk
          refine Wx.stepO (own2 (by decide) (by decide)) (by simp; omega) (by simp) (Sxs.cons (Sx.pop (own2 (by decide) (by decide)) (by simp; omega) rfl (by decide) (own2 (by decide) (by decide))) (Sxs.single (Sx.tryN (Sxs.single (Sx.perm own3p (Sx.remove (Ev.name rfl) (own2 (by decide) (by decide)) (by omega) h1 h2))))))
            (Wx.from (ih (r, zs.erase k, ms) ⟨by dsimp only; omega, ?_, ?_⟩ (by simp)) lk_nil ?_)
          · have := List.length_erase_le (a := k) (l := zs); dsimp only; omega
          · rw [← he]; simp [ud, hk]
          · rw [h3]; exact own3p
        · refine Wx.stepO (own2 (by decide) (by decide)) (by simp; omega) (by simp) (Sxs.cons (Sx.pop (own2 (by decide) (by decide)) (by simp; omega) rfl (by decide) (own2 (by decide) (by decide))) (Sxs.single (Sx.tryE (SxsE.perm own3p (SxsE.head (SxE.remove (Ev.name rfl) (own2 (by decide) (by decide)) (by omega) hk hn)))
              (Sxs.single (Sx.perm own3q (Sx.append (Ev.name rfl) (own2 (by decide) (by decide)) (by simp; omega)))) hn rfl rfl (by decide +kernel) F.isExc_ValueError F.notTuple_ValueError F.self_ValueError)))
            (Wx.from (ih (r, zs, ms ++ [k]) ⟨by simp; omega, l2, ?_⟩ (by simp)) lk_nil ?_)
          · rw [← he]; simp [ud, hk]
          · intro p hp
            rcases List.mem_cons.mp hp with rfl | hp
            · exact .tail _ (.tail _ (.head _))
            · rcases List.mem_cons.mp hp with rfl | hp
              · exact .tail _ (.head _)
              · rw [List.mem_singleton.mp hp]; simp
    · rw [uw, List.reverse_reverse]; exact own3r
    · refine Sxs.perm own3q (Sxs.freeze (own2 (by decide) (by decide)) (Sxs.perm (ow' := [(uA, (ud xs.reverse ys []).2.map .int)]) (fun p hp => .tail _ hp) (Sxs.freeze (fun _ h => nomatch h) ?_)))
      exact Sxs.single (Sx.ret (Ev.tuple (Evs.cons (Ev.name rfl) (Evs.cons (Ev.name rfl) Evs.nil)) (by show 2 ≤ 1000; decide)))
  · rintro r s' ⟨v, rfl, q⟩
    exact q
end Mine
end

section
open PySem PySem.W PySem.Calls PyProof.Rows
namespace Mine
set_option maxRecDepth 20000
section
variable {C : Cfg} {n : Nat} {sc : Scope} {ρ ρ' ρ₁ ρ₂ : Rho} {ow ow' r ow₁ ow₂ : Ow} {out : Out} {x y : Str} {xs : List D} {cls : String} {c : Bool}

/-- a class's name -/
theorem Ev.tname {x : Str} {px : Pos} {id : String} (hk : sc.names.lookup x = some .globalImplicit)
    (e : nsIn (hd.heap_39 C.w.params) mainGlobals x = some Option.none) (hv : bootBuiltins x = some (.type id))
    (hn : x ≠ "__name__" := by decide) (hd : (x == ("__debug__" : Str)) = false := by decide) : Ev C n sc ρ (.Name x px) (.type id) := by
  intro A s V env he hA r
  exact builtin he r hk e hv ⟨.refl, .type _⟩ hn hd
/-- bytes that a name of the module holds -/
theorem Ev.gbytes {x : Str} {px : Pos} {b : Array UInt8} {t : Tok} (hk : sc.names.lookup x = some .globalImplicit)
    (e : nsIn (hd.heap_39 C.w.params) mainGlobals x = some (some (.bytes b t))) (hd : (x == ("__debug__" : Str)) = false := by decide) : Ev C n sc ρ (.Name x px) (.bytes b) := by
  intro A s V env he hA r
  exact global he r hk e ⟨.refl, .bytes _ _⟩ hd
theorem Bf.isiStr {x : Str} : Bf C n (.builtin "isinstance") [.str x, .type "str"] (.bool true) := by
  intro A s V vs hA base q
  cases q with
  | cons a tl => cases tl with | cons b tl => cases tl; cases a; cases b; exact IsiPair.str_str ⟨.refl, .bool _⟩
theorem Bf.typeBytes {b : Array UInt8} : Bf C n (.type "type") [.bytes b] (.type "bytes") := by
  intro A s V vs hA base q
  cases q with
  | cons a tl => cases tl; cases a; exact call_type_of (typeIs_bytes s _ _) (by decide) ⟨.refl, .type _⟩
theorem Bf.typeBool {b : Bool} : Bf C n (.type "type") [.bool b] (.type "bool") := by
  intro A s V vs hA base q
  cases q with
  | cons a tl => cases tl; cases a; exact call_type_of (Tx := "bool") rfl (by decide) ⟨.refl, .type _⟩
theorem Co.isType {a b : String} : Co C n .Is (.type a) (.type b) (a == b) := by
  intro A s V v₁ v₂ hA _ x y; cases x; cases y
  refine wpAny_is_plain rfl ⟨.refl, ?_⟩
  congr 1
  rw [Bool.eq_iff_iff]; simp
theorem Co.isBN {a : Bool} : Co C n .Is (.bool a) .none false := by
  intro A s V v₁ v₂ hA _ x y; cases x; cases y
  exact wpAny_is_plain rfl ⟨.refl, rfl⟩
theorem Co.isNotN : Co C n .IsNot .none .none false := by
  intro A s V v₁ v₂ hA _ x y; cases x; cases y
  exact wpAny_isNot_plain rfl ⟨.refl, rfl⟩
theorem Tr.or1 {e : Expr} {es : List Expr} {pos : Pos} (v : Tr C n sc ρ e true) : Tr C n sc ρ (.BoolOp .Or (e :: es) pos) true := by
  intro A s V env he hA rd
  refine wpAny_isTrue_BoolOp (wpAny_allTrue_Or_cons (wpAny_mono (v A s V env he hA rd) (fun b' s₁ h₁ => ?_) fun _ _ f => f))
  obtain ⟨k, rfl⟩ := h₁
  exact ⟨k, rfl⟩
theorem Tr.or2 {e : Expr} {es : List Expr} {pos : Pos} {b : Bool} (v : Tr C n sc ρ e false) (u : Tr C n sc ρ (.BoolOp .Or es pos) b) : Tr C n sc ρ (.BoolOp .Or (e :: es) pos) b := by
  intro A s V env he hA rd
  refine wpAny_isTrue_BoolOp (wpAny_allTrue_Or_cons (wpAny_mono (v A s V env he hA rd) (fun b' s₁ h₁ => ?_) fun _ _ f => f))
  obtain ⟨k, rfl⟩ := h₁
  have rd' := rd.keeps k.heap (V' := V) fun _ q => q
  have := u A s₁ V env he hA rd'
  rw [arm_isTrue_BoolOp] at this
  exact wpAny_mono this (fun b s₂ h₂ => ⟨k.trans h₂.1, h₂.2⟩) fun _ _ f => f
theorem Tr.or0 {pos : Pos} : Tr C n sc ρ (.BoolOp .Or [] pos) false := by
  intro A s V env he hA rd
  exact wpAny_isTrue_BoolOp (wpAny_allTrue_Or_nil ⟨.refl, rfl⟩)
/-- a op b op c -/
theorem Tr.chain {l m r : Expr} {op₁ op₂ : CmpOp} {pos : Pos} {a b c : D} {t₁ t₂ : Bool} (x : Ev C n sc ρ l a) (y : Ev C n sc ρ m b) (z : Ev C n sc ρ r c) (h₁ : Co C n op₁ a b t₁) (h₂ : Co C n op₂ b c t₂)
    (hm : behindInMarks op₂ r = false := by with_unfolding_all rfl) : Tr C n sc ρ (.Compare l [op₁, op₂] [m, r] pos) (t₁ && t₂) := by
  intro A s V env he hA rd
  rw [arm_isTrue_Compare]
  show wpAny C.M A (do
    let left ← eval l env
    testChain pos left [op₁, op₂] [eval m env, markedBehindIn op₂ r (eval r env)]) _ _ s
  rw [markedBehindIn_of_false hm]
  refine wpAny_bind (wpAny_mono (x A s V env he hA rd) (fun v₁ s₁ q₁ => ?_) fun _ _ f => f)
  obtain ⟨k₁, a₁⟩ := q₁
  have r₁ := rd.keeps k₁.heap (V' := V) fun _ q => q
  show wpAny C.M A (do
    let rv ← holding [v₁] (eval m env)
    standAt pos
    let c ← holding [v₁, rv] (compareOp op₁ v₁ rv)
    release [v₁, rv] [c]
    if ← holding [c, rv] (truthy c) then (do
      let rv' ← holding [rv] (eval r env)
      standAt pos
      let c ← operate [rv, rv'] (compareOp op₂ rv rv')
      holding [c] (truthy c)) else pure false) _ _ s₁
  refine wpAny_bind (wpAny_holding (wpAny_mono (y A s₁ V env he hA r₁) (fun v₂ s₂ q₂ => ?_) fun _ _ f => f))
  obtain ⟨k₂, a₂⟩ := q₂
  have r₂ := r₁.keeps k₂.heap (V' := V) fun _ q => q
  have a₁' := (k₂.heap.at (fun _ q => q) a₁).wider (V' := fun _ => True) fun _ _ => trivial
  have a₂' := a₂.wider (V' := fun _ => True) fun _ _ => trivial
  refine wpAny_bind (wpAny_standAt (wpAny_bind (wpAny_holding (wpAny_mono (h₁ A s₂ _ v₁ v₂ hA r₂.base a₁' a₂') (fun v₃ s₃ q₃ => ?_) fun _ _ f => f))))
  obtain ⟨k₃, rfl⟩ := q₃
  have r₃ := r₂.keeps k₃.heap (V' := V) fun _ q => q
  refine wpAny_bind (wpAny_release (wpAny_bind (wpAny_holding (wpAny_truthy_bool ?_))))
  cases t₁ with
  | false => exact wpAny_pure ⟨(k₁.trans k₂).trans k₃, rfl⟩
  | true =>
    simp only [if_true]
    refine wpAny_bind (wpAny_holding (wpAny_mono (z A s₃ V env he hA r₃) (fun v₄ s₄ q₄ => ?_) fun _ _ f => f))
    obtain ⟨k₄, a₄⟩ := q₄
    have r₄ := r₃.keeps k₄.heap (V' := V) fun _ q => q
    have a₂'' := (k₃.trans k₄).heap.at (fun _ q => q) a₂'
    have a₄' := a₄.wider (V' := fun _ => True) fun _ _ => trivial
    refine wpAny_bind (wpAny_standAt (wpAny_bind (wpAny_operate' (wpAny_mono (h₂ A s₄ _ v₂ v₄ hA r₄.base a₂'' a₄') (fun v₅ s₅ q₅ => ?_) fun _ _ f => f))))
    obtain ⟨k₅, rfl⟩ := q₅
    exact wpAny_holding (wpAny_truthy_bool ⟨(((k₁.trans k₂).trans k₃).trans k₄).trans k₅, rfl⟩)

/-- a keyword to a def -/
noncomputable def FnK (C : Cfg) (n : Nat) (f : Addr) (args : List D) (kw : Str) (kd : D) (d : D) : Prop :=
  ∀ A s V vs kv, AOK n A → (∀ b o, C.g.get? b = some o → s.heap.get? b = some o) → FrOK C.g A s.heap → Ats s.heap V vs args → At s.heap V kv kd →
    wpAny C.M A (call (.ref f) vs [(kw, kv)]) (fun v s' => Ke C.g s s' ∧ At s'.heap (Fre V s.heap) v d) (fun _ _ => False) s
theorem Ev.callKw {x kw : Str} {px pos kp : Pos} {f : Addr} {a e : Expr} {da dk d : D} (hk : sc.names.lookup x = some .globalImplicit)
    (hg : nsIn (hd.heap_39 C.w.params) mainGlobals x = some (some (.ref f))) (hf : keepIn (hd.heap_39 C.w.params) (.ref f) = true)
    (ha : Ev C n sc ρ a da) (hkw : Ev C n sc ρ e dk) (hfn : FnK C n f [da] kw dk d)
    (hs : ∀ env, starEach [a] env = [(false, eval a env)] := by intro _; rfl) (hs' : ∀ env, backToKw pos (keywordEach [⟨some kw, e, kp⟩] env) = [(some kw, (do let v ← eval e env; standAt pos; pure v))] := by intro _; rfl)
    (hd : (x == ("__debug__" : Str)) = false := by decide) : Ev C n sc ρ (.Call (.Name x px) [a] [⟨some kw, e, kp⟩] pos) d := by
  intro A s V env he hA r
  rw [arm_eval_Call_Name']
  refine wpAny_bind (global he r hk hg ?_ hd)
  rw [hs env, hs' env]
  refine callWith_of (P := (Mine.hd.heap_39 C.w.params).In) rfl (keeps_K hf) (evalArgs_kw rfl (Calls.spliced_cons (wpAny_mono (ha A s V env he hA r) (fun v s₁ h₁ => Calls.spliced_nil ?_) fun _ _ f => f)))
  have r₁ := r.keeps h₁.1.heap (V' := V) fun _ q => q
  refine wpAny_evalAll_cons (wpAny_bind (wpAny_mono (hkw A s₁ V env he hA r₁) (fun u s₂ h₂ => wpAny_bind (wpAny_standAt (wpAny_pure (wpAny_evalAll_nil ?_)))) fun _ _ f => f))
  have r₂ := r₁.keeps h₂.1.heap (V' := V) fun _ q => q
  refine ⟨kIn r₂, ?_⟩
  refine wpAny_mono (hfn A s₂ (Fre V s.heap) [v] u hA r₂.base r₂.frames (.cons (h₂.1.heap.at (fun _ q => q) h₁.2) .nil) (h₂.2.wider (Fre.le h₁.1.heap))) (fun w s₃ h₃ => ?_) fun _ _ f => f
  exact ⟨(h₁.1.trans h₂.1).trans h₃.1, h₃.2.wider (Fre.le2 (h₁.1.trans h₂.1).heap)⟩

/-- a method of a str -/
theorem Ev.scall {o : Expr} {name : Str} {id : String} {ap pos : Pos} {a : Expr} {es : List Expr} {x₀ : Str} {ds : List D} {d : D} (v : Ev C n sc ρ o (.str x₀)) (u : Evs C n sc ρ (a :: es) ds) (hfn : Bf C n (.builtin id) (.str x₀ :: ds) d)
    (slot : Slot "str" name id) (hty : typeOf (.builtin id) = pure (.type "method_descriptor"))
    (hb : ∀ env t, attributeBase o name env t = t := by intro _ _; rfl) (hl : (ap.endLine == pos.line) = true := by rfl)
    (hform : ∀ env, methodCallForm (a :: es).length (backTo pos (starEach (a :: es) env)) [] = true := by intro _; rfl)
    (hs : ∀ env, starEach (a :: es) env = (false, eval a env) :: starEach es env := by intro _; rfl) (hp : ∀ env, (backTo pos (starEach es env)).any (·.1) = false := by intro _; rfl) :
    Ev C n sc ρ (.Call (.Attribute o name ap) (a :: es) [] pos) d := by
  intro A s V env he hA r
  refine mcall (hb env) (hform env) hl (wpAny_mono (v A s V env he hA r) (fun w s₁ h₁ => ?_) fun _ _ f => f)
  obtain ⟨k₁, a₁⟩ := h₁
  have r₁ := r.keeps k₁.heap (V' := V) fun _ q => q
  have e : ∃ t, w = .str x₀ t := by cases a₁; exact ⟨_, rfl⟩
  obtain ⟨t, rfl⟩ := e
  refine PySem.getMethod_builtin (v := .str x₀ t) (T := "str") (typeIs_str s₁ x₀ t) F.plainAttrs_str slot hty (fun _ q => by cases q) ?_
  show wpAny C.M A (callWith pos (.builtin id) [.str x₀ t] (backTo pos (starEach (a :: es) env)) []) _ _ s₁
  refine callWith_method1 (wpAny_mono (u A s₁ V env pos he hA r₁) (fun us s₂ h₂ => ?_) fun _ _ f => f) (hs env) (hp env)
  have r₂ := r₁.keeps h₂.1.heap (V' := V) fun _ q => q
  refine wpAny_mono (hfn A s₂ (Fre V s₁.heap) (.str x₀ t :: us) hA r₂.base (.cons (.str _ _) h₂.2)) (fun w s₃ h₃ => ?_) fun _ _ f => f
  exact ⟨(k₁.trans h₂.1).trans h₃.1, h₃.2.wider fun q hq => (Fre.le2 h₂.1.heap q hq).elim .inl fun e => .inr (k₁.heap.none e)⟩
end
end Mine
end

section
open PySem PySem.W PySem.Calls PyProof.Rows
namespace Mine
set_option maxRecDepth 100000
section
variable {C : Cfg} {n : Nat} {sc : Scope} {ρ : Rho} {ow : Ow}
theorem Sx.tryRet {body : List Stmt} {h₀ : ExceptHandler} {pos : Pos} {d : D} (u : Sxs C n sc ρ ow body (.ret d)) : Sx C n sc ρ ow (.Try body [h₀] [] [] pos) (.ret d) := by
  rintro A g₀ V₀ s env he hA st
  refine wpAny_Try_except (wpAny_mono (u A g₀ V₀ s env he hA st) (fun fl s₁ p => ?_) fun _ _ f => f.elim)
  obtain ⟨sm, v, rfl, q⟩ := p
  exact ⟨sm, v, rfl, q⟩
open Builtin._codecs in
theorem encodeRoad_ascii (self : Value) (x : Str) : encodeRoad "str.encode" self x (Str.ofString "ascii") none = (do mkBytes (← encodeNarrow "str.encode" asciiCodec none self x)) := by
  have e : (normalName (Str.ofString "ascii")).toString = "ascii" := by decide +kernel
  unfold encodeRoad
  rw [e]
  rfl
open Builtin Builtin.Str in
theorem codecArg_ascii (u : Tok) (i f w : String) : codecArg i f w (some (.str (Str.ofString "ascii") u)) = pure (some (Str.ofString "ascii")) := by
  have h1 : (Str.ofString "ascii").cps.any (fun x => decide (x ≥ 128)) = false := by decide +kernel
  have h2 : (Str.ofString "ascii").cps.contains 0 = false := by decide +kernel
  unfold codecArg
  show (do
    let n ← (pure (Str.ofString "ascii") : Sem Str)
    if n.cps.any (· ≥ 128) then unsupported s!"{i}:non-ascii-name"
    if n.cps.contains 0 then rule s!"{i}.nul-in-name"; raiseError "ValueError" "embedded null character"
    pure (some n)) = _
  rw [pure_bind, h1, h2]
  rfl
open Builtin Builtin.Str in
theorem encode_tree2 (x y : Str) (t u : Tok) : «str.encode» ⟨[.str x t, .str y u], []⟩ = (do
    let encoding := (← codecArg "str.encode" "encode" "'encoding'" (some (.str y u))).getD "utf-8"
    let errors ← codecArg "str.encode" "encode" "'errors'" none
    PySem.ret (← _codecs.encodeRoad "str.encode" (.str x t) x encoding errors)) := rfl
open Builtin Builtin.Str in
theorem encode_ascii4 {a b c d : Nat} (ha : a < 128) (hb : b < 128) (hc : c < 128) (hd : d < 128) (t u : Tok) : «str.encode» ⟨[.str ⟨#[a, b, c, d]⟩ t, .str (Str.ofString "ascii") u], []⟩ = (do
    PySem.ret (← mkBytes #[a.toUInt8, b.toUInt8, c.toUInt8, d.toUInt8])) := by
  rw [encode_tree2, codecArg_ascii, pure_bind]
  show (do
    let errors ← (pure none : Sem (Option Str))
    PySem.ret (← _codecs.encodeRoad "str.encode" (.str ⟨#[a, b, c, d]⟩ t) ⟨#[a, b, c, d]⟩ (Str.ofString "ascii") errors)) = _
  rw [pure_bind, encodeRoad_ascii, encNarrow4 ha hb hc hd, pure_bind]
theorem Bf.encode4 {a b c d : Nat} (ha : a < 128) (hb : b < 128) (hc : c < 128) (hd : d < 128) : Bf C n (.builtin "str.encode") [.str ⟨#[a, b, c, d]⟩, .str (Str.ofString "ascii")] (.bytes #[a.toUInt8, b.toUInt8, c.toUInt8, d.toUInt8]) := by
  intro A s V vs hA base q
  cases q with
  | cons x tl =>
    cases tl with
    | cons y tl =>
      cases tl; cases x; cases y
      rename_i t u
      refine wpAny_call_entry F.slot_str_encode (typeIs_str _ _ _) F.entry_str_encode ?_ (F.args_str_encode_2 _ _)
      rw [encode_ascii4 ha hb hc hd]
      exact wpAny_bind (wpAny_mkBytes (wpAny_pure ⟨_, rfl, .toks, .bytes _ _⟩) (by show 4 ≤ _; decide))
end
end Mine
end

section
open PySem PySem.W PySem.Calls PyProof.Rows
namespace Mine
set_option maxRecDepth 100000
set_option maxHeartbeats 1000000
section
variable {C : Cfg} {n : Nat}
theorem Su.bytes {value slice : Expr} {b : Array UInt8} {i : Int} {k : Int} (h0 : 0 ≤ i) (hi : i < b.size) (hz : b.size ≤ 1000) (hx : ((b.toList.getD i.toNat 0).toNat : Int) = k)
    (hs : ∀ o i, subscripted slice false o i = operate [o, i] (getItem o i) := by intro _ _; with_unfolding_all rfl) : Su C n value slice (.bytes b) (.int i) (.int k) := by
  intro A s V v₁ v₂ hA x y
  cases x; cases y
  rename_i t u
  have e : b = b.toList.toArray := by simp
  subst hx
  refine tail_any (typeIs_bytes s b t) FB.slot_bytes_getitem.lookup ?_ (hs _ _)
  have := fun Q h => getItem_bytes (prog := PySem.Challenge.rw_oy0148_01.row.prog) (w := C.w) (A := A) (E := fun _ _ => False) (s := s) (t := t) (u := u) (l := b.toList) (i := i) (Q := Q) (by rw [Array.length_toList]; omega) h0 (by rw [Array.length_toList]; exact hi) h
  rw [← e] at this
  exact this _ ⟨.toks, .int _ _⟩
theorem fn_bfd {a b c d : Nat} (ha : a < 128) (hb : b < 128) (hc : c < 128) (hd : d < 128) : Fn C (n + 1) 63 [.str ⟨#[a, b, c, d]⟩] (.bytes #[a.toUInt8, b.toUInt8, c.toUInt8, d.toUInt8]) := by
  refine' Fn.mk [(Str.ofString "s", .str ⟨#[a, b, c, d]⟩)] [Str.ofString "s"] ?h1 ?h2 ?h3 ?h4 ?h5 ?h6 ?h7 ?h8 ?h9 ?h10 ?h11 ?h12 ?h13 ?h14 ?h15
  case h1 => exact rfl
  case h2 => exact rfl
  case h3 => exact rfl
  case h4 => exact rfl
  case h5 => exact rfl
  case h6 => exact rfl
  case h7 => exact rfl
  case h8 => exact rfl
  case h9 => exact rfl
  case h10 => exact rfl
  case h11 => intro s V vs base h; cases h with | cons a b => cases b; exact ⟨_, BindsTo.of_eq rfl, .cons a .nil⟩
  case h12 => exact rfl
  case h13 => decide
  case h14 => decide
  case h15 =>
    exact Sxs.stop (Sx.ifT (Tr.bool (Ev.bcall rfl rfl (by decide +kernel) (Evs.cons (Ev.name rfl) (Evs.cons (Ev.tname (id := "str") rfl rfl (by decide +kernel)) Evs.nil)) Bf.isiStr)) (Sxs.stop (Sx.tryRet (Sxs.stop (Sx.ret
      (Ev.scall (Ev.name rfl) (Evs.cons Ev.str Evs.nil) (Bf.encode4 ha hb hc hd) F.slot_str_encode F.type_str_encode))))))
theorem fn_abuf {b : Array UInt8} : Fn C (n + 1) 83 [.bytes b] (.bytes b) := by
  refine' Fn.mk [(Str.ofString "data", .bytes b)] [Str.ofString "data"] ?h1 ?h2 ?h3 ?h4 ?h5 ?h6 ?h7 ?h8 ?h9 ?h10 ?h11 ?h12 ?h13 ?h14 ?h15
  case h1 => exact rfl
  case h2 => exact rfl
  case h3 => exact rfl
  case h4 => exact rfl
  case h5 => exact rfl
  case h6 => exact rfl
  case h7 => exact rfl
  case h8 => exact rfl
  case h9 => exact rfl
  case h10 => exact rfl
  case h11 => intro s V vs base h; cases h with | cons a b => cases b; exact ⟨_, BindsTo.of_eq rfl, .cons a .nil⟩
  case h12 => exact rfl
  case h13 => decide
  case h14 => decide
  case h15 =>
    refine Sxs.cons (Sx.assign (Ev.tcall rfl rfl (by decide +kernel) (Evs.cons (Ev.name rfl) Evs.nil) Bf.typeBytes) (.inl rfl) (fun _ h => nomatch h) (fun _ _ => rfl)) ?_
    refine Sxs.cons (Sx.ifF (Tr.cmp (Ev.name rfl) (Ev.tname (id := "str") rfl rfl (by decide +kernel)) Co.isType) Sxs.nil) ?_
    exact Sxs.stop (Sx.ifT (Tr.cmp (Ev.name rfl) (Ev.tname (id := "bytes") rfl rfl (by decide +kernel)) Co.isType) (Sxs.stop (Sx.ret (Ev.name rfl))))
theorem fn_buf {b : Array UInt8} : Fn C (n + 1) 90 [.bytes b] (.bytes b) := by
  refine' Fn.mk [(Str.ofString "data", .bytes b)] [Str.ofString "data"] ?h1 ?h2 ?h3 ?h4 ?h5 ?h6 ?h7 ?h8 ?h9 ?h10 ?h11 ?h12 ?h13 ?h14 ?h15
  case h1 => exact rfl
  case h2 => exact rfl
  case h3 => exact rfl
  case h4 => exact rfl
  case h5 => exact rfl
  case h6 => exact rfl
  case h7 => exact rfl
  case h8 => exact rfl
  case h9 => exact rfl
  case h10 => exact rfl
  case h11 => intro s V vs base h; cases h with | cons a b => cases b; exact ⟨_, BindsTo.of_eq rfl, .cons a .nil⟩
  case h12 => exact rfl
  case h13 => decide
  case h14 => decide
  case h15 =>
    refine Sxs.cons (Sx.assign (Ev.tcall rfl rfl (by decide +kernel) (Evs.cons (Ev.name rfl) Evs.nil) Bf.typeBytes) (.inl rfl) (fun _ h => nomatch h) (fun _ _ => rfl)) ?_
    exact Sxs.stop (Sx.ifT (Tr.cmp (Ev.name rfl) (Ev.tname (id := "bytes") rfl rfl (by decide +kernel)) Co.isType) (Sxs.stop (Sx.ret (Ev.name rfl))))
theorem fn_truth : Fn C (n + 1) 97 [.bool false] (.bool false) := by
  refine' Fn.mk [(Str.ofString "x", .bool false)] [Str.ofString "x"] ?h1 ?h2 ?h3 ?h4 ?h5 ?h6 ?h7 ?h8 ?h9 ?h10 ?h11 ?h12 ?h13 ?h14 ?h15
  case h1 => exact rfl
  case h2 => exact rfl
  case h3 => exact rfl
  case h4 => exact rfl
  case h5 => exact rfl
  case h6 => exact rfl
  case h7 => exact rfl
  case h8 => exact rfl
  case h9 => exact rfl
  case h10 => exact rfl
  case h11 => intro s V vs base h; cases h with | cons a b => cases b; exact ⟨_, BindsTo.of_eq rfl, .cons a .nil⟩
  case h12 => exact rfl
  case h13 => decide
  case h14 => decide
  case h15 =>
    refine Sxs.cons (Sx.assign (Ev.tcall rfl rfl (by decide +kernel) (Evs.cons (Ev.name rfl) Evs.nil) Bf.typeBool) (.inl rfl) (fun _ h => nomatch h) (fun _ _ => rfl)) ?_
    exact Sxs.stop (Sx.ifT (Tr.or2 (Tr.cmp (Ev.name rfl) Ev.none Co.isBN) (Tr.or1 (Tr.cmp (Ev.name rfl) (Ev.tname (id := "bool") rfl rfl (by decide +kernel)) Co.isType))) (Sxs.stop (Sx.ret (Ev.ifF (Tr.bool (Ev.name rfl)) Ev.bool))))
/-- the sign of a number below 64 -/
noncomputable def sgn (v : Int) : Int := if v < 26 then v + 65 else if v < 52 then v + 71 else if v < 62 then v - 4 else if v = 62 then 43 else 47
theorem sgn_range {v : Int} (h0 : 0 ≤ v) (h1 : v < 64) : 0 ≤ sgn v ∧ sgn v < 128 := by unfold sgn; split <;> (try split) <;> (try split) <;> (try split) <;> omega
theorem Tr.to {sc : Scope} {ρ : Rho} {e : Expr} {a b : Bool} (h : Tr C n sc ρ e a) (q : a = b) : Tr C n sc ρ e b := q ▸ h
theorem fn_b64v {v : Int} (h0 : 0 ≤ v) (h1 : v < 64) : Fn C (n + 1) 104 [.int (sgn v)] (.int v) := by
  refine' Fn.mk [(Str.ofString "c", .int (sgn v))] [Str.ofString "c"] ?h1 ?h2 ?h3 ?h4 ?h5 ?h6 ?h7 ?h8 ?h9 ?h10 ?h11 ?h12 ?h13 ?h14 ?h15
  case h1 => exact rfl
  case h2 => exact rfl
  case h3 => exact rfl
  case h4 => exact rfl
  case h5 => exact rfl
  case h6 => exact rfl
  case h7 => exact rfl
  case h8 => exact rfl
  case h9 => exact rfl
  case h10 => exact rfl
  case h11 => intro s V vs base h; cases h with | cons a b => cases b; exact ⟨_, BindsTo.of_eq rfl, .cons a .nil⟩
  case h12 => exact rfl
  case h13 => decide
  case h14 => decide
  case h15 =>
    have hs : sgn v = if v < 26 then v + 65 else if v < 52 then v + 71 else if v < 62 then v - 4 else if v = 62 then 43 else 47 := rfl
    have ch : ∀ (lo hi : Int), (decide (lo ≤ sgn v) && decide (sgn v ≤ hi)) = decide (lo ≤ sgn v ∧ sgn v ≤ hi) := fun _ _ => by simp
    have R : ∀ {sc : Scope} {ρ : Rho} {e : Expr} {a b : Int}, Ev C n sc ρ e (.int a) → a = b → Ev C n sc ρ e (.int b) := fun h q => q ▸ h
    by_cases c1 : v < 26
    · rw [if_pos c1] at hs
      exact Sxs.stop (Sx.ifT (Tr.to (Tr.chain Ev.int (Ev.name rfl) Ev.int Co.le Co.le) (by rw [ch]; exact decide_eq_true (by omega))) (Sxs.stop (Sx.ret (d := .int v) (R (Ev.binop (Ev.name rfl) Ev.int Bo.sub) (by omega)))))
    rw [if_neg c1] at hs
    by_cases c2 : v < 52
    · rw [if_pos c2] at hs
      refine Sxs.cons (Sx.ifF (Tr.to (Tr.chain Ev.int (Ev.name rfl) Ev.int Co.le Co.le) (by rw [ch]; exact decide_eq_false (by omega))) Sxs.nil) ?_
      exact Sxs.stop (Sx.ifT (Tr.to (Tr.chain Ev.int (Ev.name rfl) Ev.int Co.le Co.le) (by rw [ch]; exact decide_eq_true (by omega))) (Sxs.stop (Sx.ret (d := .int v) (R (Ev.binop (Ev.name rfl) Ev.int Bo.sub) (by omega)))))
    rw [if_neg c2] at hs
    by_cases c3 : v < 62
    · rw [if_pos c3] at hs
      refine Sxs.cons (Sx.ifF (Tr.to (Tr.chain Ev.int (Ev.name rfl) Ev.int Co.le Co.le) (by rw [ch]; exact decide_eq_false (by omega))) Sxs.nil) ?_
      refine Sxs.cons (Sx.ifF (Tr.to (Tr.chain Ev.int (Ev.name rfl) Ev.int Co.le Co.le) (by rw [ch]; exact decide_eq_false (by omega))) Sxs.nil) ?_
      exact Sxs.stop (Sx.ifT (Tr.to (Tr.chain Ev.int (Ev.name rfl) Ev.int Co.le Co.le) (by rw [ch]; exact decide_eq_true (by omega))) (Sxs.stop (Sx.ret (d := .int v) (R (Ev.binop (Ev.name rfl) Ev.int Bo.add) (by omega)))))
    rw [if_neg c3] at hs
    have v6 : v = 62 ∨ v = 63 := by omega
    rcases v6 with rfl | rfl
    · refine Sxs.cons (Sx.ifF (Tr.to (Tr.chain Ev.int (Ev.name rfl) Ev.int Co.le Co.le) (by decide)) Sxs.nil) ?_
      refine Sxs.cons (Sx.ifF (Tr.to (Tr.chain Ev.int (Ev.name rfl) Ev.int Co.le Co.le) (by decide)) Sxs.nil) ?_
      refine Sxs.cons (Sx.ifF (Tr.to (Tr.chain Ev.int (Ev.name rfl) Ev.int Co.le Co.le) (by decide)) Sxs.nil) ?_
      exact Sxs.stop (Sx.ifT (Tr.cmp (Ev.name rfl) Ev.int Co.eq) (Sxs.stop (Sx.ret Ev.int)))
    · refine Sxs.cons (Sx.ifF (Tr.to (Tr.chain Ev.int (Ev.name rfl) Ev.int Co.le Co.le) (by decide)) Sxs.nil) ?_
      refine Sxs.cons (Sx.ifF (Tr.to (Tr.chain Ev.int (Ev.name rfl) Ev.int Co.le Co.le) (by decide)) Sxs.nil) ?_
      refine Sxs.cons (Sx.ifF (Tr.to (Tr.chain Ev.int (Ev.name rfl) Ev.int Co.le Co.le) (by decide)) Sxs.nil) ?_
      refine Sxs.cons (Sx.ifF (Tr.cmp (Ev.name rfl) Ev.int Co.eq) Sxs.nil) ?_
      exact Sxs.stop (Sx.ifT (Tr.cmp (Ev.name rfl) Ev.int Co.eq) (Sxs.stop (Sx.ret Ev.int)))
end
end Mine
end

section
open PySem PySem.W PySem.Calls PyProof.Rows
namespace Mine
set_option maxRecDepth 100000
set_option maxHeartbeats 4000000
theorem and_hi_lo (x y k : Nat) (h : y < 2 ^ k) : (x * 2 ^ k) &&& y = 0 := by
  apply Nat.eq_of_testBit_eq
  intro i
  rw [Nat.testBit_and, Nat.zero_testBit]
  by_cases hi : i < k
  · rw [Nat.testBit_mul_two_pow]; simp [Nat.not_le.mpr hi]
  · rw [Nat.testBit_lt_two_pow (Nat.lt_of_lt_of_le h (Nat.pow_le_pow_right (by decide) (Nat.le_of_not_lt hi)))]; simp
theorem bor_add {x y : Int} {k : Nat} (hx : 0 ≤ x) (hy : 0 ≤ y) (h : y < 2 ^ k) : Builtin.bitOr (x * 2 ^ k) y = x * 2 ^ k + y := by
  obtain ⟨x, rfl⟩ := Int.eq_ofNat_of_zero_le hx
  obtain ⟨y, rfl⟩ := Int.eq_ofNat_of_zero_le hy
  have e : ((x : Int) * 2 ^ k) = ((x * 2 ^ k : Nat) : Int) := by push_cast; rfl
  have h' : y < 2 ^ k := by exact_mod_cast h
  rw [bitOr_and, e, bitAnd_pp (Int.natCast_nonneg _) (Int.natCast_nonneg _)]
  rw [Int.toNat_natCast, Int.toNat_natCast, and_hi_lo x y k h']
  simp
theorem band_mask {x : Int} {k : Nat} (hx : 0 ≤ x) : Builtin.bitAnd x (((2 ^ k - 1 : Nat)) : Int) = x % 2 ^ k := by
  obtain ⟨x, rfl⟩ := Int.eq_ofNat_of_zero_le hx
  rw [bitAnd_pp (Int.natCast_nonneg _) (Int.natCast_nonneg _), Int.toNat_natCast, Int.toNat_natCast, Nat.and_two_pow_sub_one_eq_mod]
  push_cast; rfl
section
variable {C : Cfg} {n : Nat}
theorem FnK.mk {f : Addr} {args : List D} {kw : Str} {kd d : D} {fd : FuncData} {o : Obj} {body : List Stmt} (ρ : Rho) (ps : List Str)
    (ho : (hd.heap_39 C.w.params).lookup f = some o) (hdat : o.data = .func fd) (hbody : fd.body = .stmts body) (hclo : fd.closure = []) (hgl : fd.globals = mainGlobals) (hbl : fd.builtins = builtinsNs)
    (hcode : codeIn (hd.heap_39 C.w.params) fd.code fd.qualname = true) (hco : fd.scope.isCoroutine = false) (hgen : fd.scope.isGenerator = false) (hk : fd.scope.kind = .function)
    (hbind : ∀ s V vs kv, (∀ b o, C.g.get? b = some o → s.heap.get? b = some o) → Ats s.heap V vs args → At s.heap V kv kd → ∃ binds, BindsTo s fd ⟨vs, [(kw, kv)]⟩ binds ∧ Bd s.heap V binds ρ)
    (hps : ρ.map (·.1) = ps) (hnd : ps.Nodup) (hkind : (ps.all fun x => isLC (fd.scope.names.lookup x)) = true)
    (hb : Sxs C n fd.scope ρ [] body (.ret d)) : FnK C (n + 1) f args kw kd d := by
  intro A s V vs kv ha base fr hvs hkv
  obtain ⟨binds, h1, h2⟩ := hbind s V vs kv base hvs hkv
  refine wpAny_call (codeAny_mono (Fn.intro' ha base fr ho hdat hbody hclo hgl hbl hcode hco hgen hk h1 h2 (hps ▸ hnd) (fun x hx => isLC_iff (List.all_eq_true.mp hkind x (hps ▸ hx))) hb) ?_)
  rintro r s' ⟨v, rfl, k, a⟩
  exact ⟨k, a⟩
theorem Ev.intTo {sc : Scope} {ρ : Rho} {e : Expr} {a b : Int} (h : Ev C n sc ρ e (.int a)) (q : a = b) : Ev C n sc ρ e (.int b) := q ▸ h
/-- the three octets that four numbers below 64 make -/
noncomputable def oct3 (v₀ v₁ v₂ v₃ : Int) : List Int := [v₀ * 4 + v₁ / 16, v₁ % 16 * 16 + v₂ / 4, v₂ % 4 * 64 + v₃]
noncomputable def aσ (b : Array UInt8) (v₀ v₁ v₂ v₃ : Int) : Nat → Rho × Ow
  | 0 => ([(Str.ofString "quad_pos", .int 0), (Str.ofString "leftchar", .int 0), (Str.ofString "pads", .int 0), (Str.ofString "i", .int 0), (Str.ofString "strict_mode", .bool false), (Str.ofString "ascii_data", .bytes b)], [(Str.ofString "out", [])])
  | 1 => ([(Str.ofString "quad_pos", .int 1), (Str.ofString "leftchar", .int v₀), (Str.ofString "pads", .int 0), (Str.ofString "i", .int 1), (Str.ofString "strict_mode", .bool false), (Str.ofString "ascii_data", .bytes b)], [(Str.ofString "out", [])])
  | 2 => ([(Str.ofString "quad_pos", .int 2), (Str.ofString "leftchar", .int (v₁ % 16)), (Str.ofString "pads", .int 0), (Str.ofString "i", .int 2), (Str.ofString "strict_mode", .bool false), (Str.ofString "ascii_data", .bytes b)], [(Str.ofString "out", [.int (v₀ * 4 + v₁ / 16)])])
  | 3 => ([(Str.ofString "quad_pos", .int 3), (Str.ofString "leftchar", .int (v₂ % 4)), (Str.ofString "pads", .int 0), (Str.ofString "i", .int 3), (Str.ofString "strict_mode", .bool false), (Str.ofString "ascii_data", .bytes b)], [(Str.ofString "out", [.int (v₀ * 4 + v₁ / 16), .int (v₁ % 16 * 16 + v₂ / 4)])])
  | _ => ([(Str.ofString "quad_pos", .int 0), (Str.ofString "leftchar", .int 0), (Str.ofString "pads", .int 0), (Str.ofString "i", .int 4), (Str.ofString "strict_mode", .bool false), (Str.ofString "ascii_data", .bytes b)], [(Str.ofString "out", [.int (v₀ * 4 + v₁ / 16), .int (v₁ % 16 * 16 + v₂ / 4), .int (v₂ % 4 * 64 + v₃)])])
theorem or1 {x y : Int} (hx : 0 ≤ x ∧ x < 64) (hy : 0 ≤ y ∧ y < 64) : Builtin.bitOr (x * 2 ^ (2 : Int).toNat) (y.fdiv (2 ^ (4 : Int).toNat)) = x * 4 + y / 16 := by
  have e : y.fdiv (2 ^ (4 : Int).toNat) = y / 16 := Int.fdiv_eq_ediv_of_nonneg _ (by decide)
  rw [e]
  exact bor_add (k := 2) hx.1 (by omega) (by omega)
theorem or2 {x y : Int} (hy : 0 ≤ y ∧ y < 64) : Builtin.bitOr (x % 16 * 2 ^ (4 : Int).toNat) (y.fdiv (2 ^ (2 : Int).toNat)) = x % 16 * 16 + y / 4 := by
  have e : y.fdiv (2 ^ (2 : Int).toNat) = y / 4 := Int.fdiv_eq_ediv_of_nonneg _ (by decide)
  rw [e]
  exact bor_add (k := 4) (by omega) (by omega) (by omega)
theorem or3 {x y : Int} (hy : 0 ≤ y ∧ y < 64) : Builtin.bitOr (x % 4 * 2 ^ (6 : Int).toNat) y = x % 4 * 64 + y :=
  bor_add (k := 6) (by omega) (by omega) (by omega)
theorem sgn61 {v : Int} (h0 : 0 ≤ v) (h1 : v < 64) : (sgn v == 61) = false := by
  have : sgn v ≠ 61 := by unfold sgn; split <;> (try split) <;> (try split) <;> (try split) <;> omega
  simpa using this
theorem fn_a2b {b : Array UInt8} {v₀ v₁ v₂ v₃ : Int} (hv : ∀ v ∈ [v₀, v₁, v₂, v₃], 0 ≤ v ∧ v < 64) (hb : b.toList.map (fun c => (c.toNat : Int)) = [sgn v₀, sgn v₁, sgn v₂, sgn v₃]) :
    FnK C (n + 2) 112 [.bytes b] (Str.ofString "strict_mode") (.bool false) (.bytes (byteArr (oct3 v₀ v₁ v₂ v₃))) := by
  have w0 := hv v₀ (by simp)
  have w1 := hv v₁ (by simp)
  have w2 := hv v₂ (by simp)
  have w3 := hv v₃ (by simp)
  refine' FnK.mk [(Str.ofString "data", .bytes b), (Str.ofString "strict_mode", .bool false)] [Str.ofString "data", Str.ofString "strict_mode"] rfl rfl rfl rfl rfl rfl rfl rfl rfl rfl ?h11 rfl (by decide) (by decide) ?h15
  case h11 => intro s V vs kv _ h hk; cases h with | cons a tl => cases tl; exact ⟨_, BindsTo.of_eq rfl, .cons a (.cons hk .nil)⟩
  case h15 =>
      refine Sxs.cons (Sx.assign (Ev.call rfl rfl rfl (Evs.cons (Ev.name rfl) Evs.nil) fn_abuf) (.inl rfl) (fun _ h => nomatch h) (fun _ _ => rfl)) ?_
      refine Sxs.cons (Sx.assign (Ev.call rfl rfl rfl (Evs.cons (Ev.name rfl) Evs.nil) fn_truth) (.inl rfl) (fun _ h => nomatch h) (fun _ _ => rfl)) ?_
      refine Sxs.cons (Sx.newList rfl (fun _ h => nomatch h) rfl) ?_
      refine Sxs.cons (Sx.assign Ev.int (.inl rfl) (own1 (by decide)) (fun _ _ => rfl)) ?_
      refine Sxs.cons (Sx.assign Ev.int (.inl rfl) (own1 (by decide)) (fun _ _ => rfl)) ?_
      refine Sxs.cons (Sx.assign Ev.int (.inl rfl) (own1 (by decide)) (fun _ _ => rfl)) ?_
      refine Sxs.cons (Sx.assign Ev.int (.inl rfl) (own1 (by decide)) (fun _ _ => rfl)) ?_
      refine Sxs.fewer (ρ' := (aσ b v₀ v₁ v₂ v₃ 0).1) (lk_cons rfl (lk_cons rfl (lk_cons rfl (lk_cons rfl (lk_cons rfl (lk_cons rfl lk_nil)))))) ?_
      refine Sxs.cons (Sx.forI (aσ b v₀ v₁ v₂ v₃) (ns := [sgn v₀, sgn v₁, sgn v₂, sgn v₃]) rfl ?hit rfl ?hxo ?hbody) ?_
      case hit =>
        rw [← hb, List.map_map]
        exact ItF.bytes (Ev.name rfl)
      case hxo =>
        intro i ys
        match i with
        | 0 => exact own1 (by decide) ys
        | 1 => exact own1 (by decide) ys
        | 2 => exact own1 (by decide) ys
        | 3 => exact own1 (by decide) ys
        | (_ + 4) => exact own1 (by decide) ys
      case hbody =>
        intro i k hk
        match i, hk with
        | 0, hk =>
          cases hk
          exact Sxs.to (Sxs.cons (Sx.ifF (Tr.to (Tr.cmp (Ev.name rfl) Ev.int Co.eq) (sgn61 w0.1 w0.2)) Sxs.nil) (Sxs.cons (Sx.assign (Ev.call rfl rfl rfl (Evs.cons (Ev.name rfl) Evs.nil) (fn_b64v w0.1 w0.2)) (.inl rfl) (own1 (by decide)) (fun _ _ => rfl)) (Sxs.cons (Sx.ifF (Tr.to (Tr.cmp (Ev.name rfl) Ev.int Co.ge) (decide_eq_false (by have := w0.2; omega))) Sxs.nil) (Sxs.cons (Sx.ifF (Tr.and1 (Tr.to (Tr.int (i := 0) (Ev.name rfl)) rfl)) Sxs.nil) (Sxs.cons (Sx.assign Ev.int (.inl rfl) (own1 (by decide)) (fun _ _ => rfl)) (Sxs.cons (Sx.ifT (Tr.cmp (Ev.name rfl) Ev.int Co.eq) (Sxs.cons (Sx.assign Ev.int (.inl rfl) (own1 (by decide)) (fun _ _ => rfl)) (Sxs.cons (Sx.assign (Ev.name rfl) (.inl rfl) (own1 (by decide)) (fun _ _ => rfl)) Sxs.nil))) (Sxs.cons (Sx.assign (Ev.binop (Ev.name rfl) Ev.int Bo.add) (.inl rfl) (own1 (by decide)) (fun _ _ => rfl)) Sxs.nil))))))) (lk_cons rfl (lk_cons rfl (lk_cons rfl (lk_cons rfl (lk_cons rfl (lk_cons rfl lk_nil)))))) (fun _ h => h)
        | 1, hk =>
          cases hk
          exact Sxs.to (Sxs.cons (Sx.ifF (Tr.to (Tr.cmp (Ev.name rfl) Ev.int Co.eq) (sgn61 w1.1 w1.2)) Sxs.nil) (Sxs.cons (Sx.assign (Ev.call rfl rfl rfl (Evs.cons (Ev.name rfl) Evs.nil) (fn_b64v w1.1 w1.2)) (.inl rfl) (own1 (by decide)) (fun _ _ => rfl)) (Sxs.cons (Sx.ifF (Tr.to (Tr.cmp (Ev.name rfl) Ev.int Co.ge) (decide_eq_false (by have := w1.2; omega))) Sxs.nil) (Sxs.cons (Sx.ifF (Tr.and1 (Tr.to (Tr.int (i := 0) (Ev.name rfl)) rfl)) Sxs.nil) (Sxs.cons (Sx.assign Ev.int (.inl rfl) (own1 (by decide)) (fun _ _ => rfl)) (Sxs.cons (Sx.ifF (Tr.cmp (Ev.name rfl) Ev.int Co.eq) (Sxs.single (Sx.ifT (Tr.cmp (Ev.name rfl) Ev.int Co.eq) (Sxs.cons (Sx.assign Ev.int (.inl rfl) (own1 (by decide)) (fun _ _ => rfl)) (Sxs.cons (Sx.append (Ev.intTo (Ev.binop (Ev.binop (Ev.name rfl) Ev.int (Bo.shl (b := 2) (by decide) (by decide) (by omega))) (Ev.binop (Ev.name rfl) Ev.int (Bo.shr (b := 4) (by decide))) Bo.bor) (or1 w0 w1)) (fun _ h => nomatch h) (by simp)) (Sxs.cons (Sx.assign (Ev.intTo (Ev.binop (Ev.name rfl) Ev.int Bo.band) (band_mask (k := 4) w1.1)) (.inl rfl) (own1 (by decide)) (fun _ _ => rfl)) Sxs.nil)))))) (Sxs.cons (Sx.assign (Ev.binop (Ev.name rfl) Ev.int Bo.add) (.inl rfl) (own1 (by decide)) (fun _ _ => rfl)) Sxs.nil))))))) (lk_cons rfl (lk_cons rfl (lk_cons rfl (lk_cons rfl (lk_cons rfl (lk_cons rfl lk_nil)))))) (fun _ h => h)
        | 2, hk =>
          cases hk
          exact Sxs.to (Sxs.cons (Sx.ifF (Tr.to (Tr.cmp (Ev.name rfl) Ev.int Co.eq) (sgn61 w2.1 w2.2)) Sxs.nil) (Sxs.cons (Sx.assign (Ev.call rfl rfl rfl (Evs.cons (Ev.name rfl) Evs.nil) (fn_b64v w2.1 w2.2)) (.inl rfl) (own1 (by decide)) (fun _ _ => rfl)) (Sxs.cons (Sx.ifF (Tr.to (Tr.cmp (Ev.name rfl) Ev.int Co.ge) (decide_eq_false (by have := w2.2; omega))) Sxs.nil) (Sxs.cons (Sx.ifF (Tr.and1 (Tr.to (Tr.int (i := 0) (Ev.name rfl)) rfl)) Sxs.nil) (Sxs.cons (Sx.assign Ev.int (.inl rfl) (own1 (by decide)) (fun _ _ => rfl)) (Sxs.cons (Sx.ifF (Tr.cmp (Ev.name rfl) Ev.int Co.eq) (Sxs.single (Sx.ifF (Tr.cmp (Ev.name rfl) Ev.int Co.eq) (Sxs.single (Sx.ifT (Tr.cmp (Ev.name rfl) Ev.int Co.eq) (Sxs.cons (Sx.assign Ev.int (.inl rfl) (own1 (by decide)) (fun _ _ => rfl)) (Sxs.cons (Sx.append (Ev.intTo (Ev.binop (Ev.binop (Ev.name rfl) Ev.int (Bo.shl (b := 4) (by decide) (by decide) (by omega))) (Ev.binop (Ev.name rfl) Ev.int (Bo.shr (b := 2) (by decide))) Bo.bor) (or2 (x := v₁) w2)) (fun _ h => nomatch h) (by simp)) (Sxs.cons (Sx.assign (Ev.intTo (Ev.binop (Ev.name rfl) Ev.int Bo.band) (band_mask (k := 2) w2.1)) (.inl rfl) (own1 (by decide)) (fun _ _ => rfl)) Sxs.nil)))))))) (Sxs.cons (Sx.assign (Ev.binop (Ev.name rfl) Ev.int Bo.add) (.inl rfl) (own1 (by decide)) (fun _ _ => rfl)) Sxs.nil))))))) (lk_cons rfl (lk_cons rfl (lk_cons rfl (lk_cons rfl (lk_cons rfl (lk_cons rfl lk_nil)))))) (fun _ h => h)
        | 3, hk =>
          cases hk
          exact Sxs.to (Sxs.cons (Sx.ifF (Tr.to (Tr.cmp (Ev.name rfl) Ev.int Co.eq) (sgn61 w3.1 w3.2)) Sxs.nil) (Sxs.cons (Sx.assign (Ev.call rfl rfl rfl (Evs.cons (Ev.name rfl) Evs.nil) (fn_b64v w3.1 w3.2)) (.inl rfl) (own1 (by decide)) (fun _ _ => rfl)) (Sxs.cons (Sx.ifF (Tr.to (Tr.cmp (Ev.name rfl) Ev.int Co.ge) (decide_eq_false (by have := w3.2; omega))) Sxs.nil) (Sxs.cons (Sx.ifF (Tr.and1 (Tr.to (Tr.int (i := 0) (Ev.name rfl)) rfl)) Sxs.nil) (Sxs.cons (Sx.assign Ev.int (.inl rfl) (own1 (by decide)) (fun _ _ => rfl)) (Sxs.cons (Sx.ifF (Tr.cmp (Ev.name rfl) Ev.int Co.eq) (Sxs.single (Sx.ifF (Tr.cmp (Ev.name rfl) Ev.int Co.eq) (Sxs.single (Sx.ifF (Tr.cmp (Ev.name rfl) Ev.int Co.eq) (Sxs.cons (Sx.assign Ev.int (.inl rfl) (own1 (by decide)) (fun _ _ => rfl)) (Sxs.cons (Sx.append (Ev.intTo (Ev.binop (Ev.binop (Ev.name rfl) Ev.int (Bo.shl (b := 6) (by decide) (by decide) (by omega))) (Ev.name rfl) Bo.bor) (or3 (x := v₂) w3)) (fun _ h => nomatch h) (by simp)) (Sxs.cons (Sx.assign Ev.int (.inl rfl) (own1 (by decide)) (fun _ _ => rfl)) Sxs.nil)))))))) (Sxs.cons (Sx.assign (Ev.binop (Ev.name rfl) Ev.int Bo.add) (.inl rfl) (own1 (by decide)) (fun _ _ => rfl)) Sxs.nil))))))) (lk_cons rfl (lk_cons rfl (lk_cons rfl (lk_cons rfl (lk_cons rfl (lk_cons rfl lk_nil)))))) (fun _ h => h)
        | (j + 4), hk => simp at hk
      have r0 : ∀ k ∈ oct3 v₀ v₁ v₂ v₃, 0 ≤ k ∧ k < 256 := by
        intro k hk
        unfold oct3 at hk
        rcases List.mem_cons.mp hk with rfl | hk
        · omega
        · rcases List.mem_cons.mp hk with rfl | hk
          · omega
          · rw [List.mem_singleton.mp hk]; omega
      refine Sxs.cons (Sx.ifF (Tr.cmp (Ev.name rfl) Ev.int Co.eq) Sxs.nil) ?_
      refine Sxs.cons (Sx.ifF (Tr.and1 (Tr.cmp (Ev.name rfl) Ev.int Co.ne)) Sxs.nil) ?_
      refine Sxs.freeze (fun _ h => nomatch h) ?_
      exact Sxs.single (Sx.ret (Ev.tcall rfl rfl (by decide +kernel) (Evs.cons (Ev.name rfl) Evs.nil) (Bf.bytes (ns := oct3 v₀ v₁ v₂ v₃) r0 (by show 3 ≤ 1000; decide))))
end
end Mine
end

section
open PySem PySem.W PySem.Calls PyProof.Rows
namespace Mine
set_option maxRecDepth 100000
set_option maxHeartbeats 4000000
noncomputable def b64arr : Array UInt8 := #[65, 66, 67, 68, 69, 70, 71, 72, 73, 74, 75, 76, 77, 78, 79, 80, 81, 82, 83, 84, 85, 86, 87, 88, 89, 90, 97, 98, 99, 100, 101, 102, 103, 104, 105, 106, 107, 108, 109, 110, 111, 112, 113, 114, 115, 116, 117, 118, 119, 120, 121, 122, 48, 49, 50, 51, 52, 53, 54, 55, 56, 57, 43, 47]
theorem b64arr_at {v : Int} (h0 : 0 ≤ v) (h1 : v < 64) : ((b64arr.toList.getD v.toNat 0).toNat : Int) = sgn v := by
  have : ∀ k : Fin 64, ((b64arr.toList.getD k.val 0).toNat : Int) = sgn (k.val : Int) := by decide +kernel
  have := this ⟨v.toNat, by omega⟩
  simp only at this
  rw [this]; congr 1; omega
theorem lc8 {x y z : Int} (hx : 0 ≤ x) (hy : 0 ≤ y ∧ y < 256) (h : (x * 256 + y) % 65536 = z) : Builtin.bitAnd (Builtin.bitOr (x * 2 ^ (8 : Int).toNat) y) 65535 = z := by
  have e := bor_add (k := 8) hx hy.1 (by omega)
  have e' : Builtin.bitOr (x * 2 ^ (8 : Int).toNat) y = x * 256 + y := e
  rw [e', ← h]
  exact band_mask (k := 16) (by omega)
theorem em63 {x z : Int} {k : Int} (hx : 0 ≤ x) (h : (x / (2 ^ k.toNat)) % 64 = z) : Builtin.bitAnd (x.fdiv (2 ^ k.toNat)) 63 = z := by
  have p : (0 : Int) < 2 ^ k.toNat := by exact_mod_cast Nat.two_pow_pos _
  rw [Int.fdiv_eq_ediv_of_nonneg _ (Int.le_of_lt p), ← h]
  exact band_mask (k := 6) (Int.ediv_nonneg hx (Int.le_of_lt p))
section
variable {C : Cfg} {n : Nat}
theorem Ev.b64 {sc : Scope} {ρ : Rho} {e : Expr} {px pos : Pos} {v : Int} (hk : sc.names.lookup (Str.ofString "_B64") = some .globalImplicit) (x : Ev C n sc ρ e (.int v)) (h : 0 ≤ v ∧ v < 64)
    (hs : ∀ o i, subscripted e false o i = operate [o, i] (getItem o i) := by intro _ _; with_unfolding_all rfl) : Ev C n sc ρ (.Subscript (.Name (Str.ofString "_B64") px) e pos) (.int (sgn v)) :=
  Ev.sub (Ev.gbytes (b := b64arr) hk rfl) x (Su.bytes h.1 (by show _ < 64; exact h.2) (by decide) (b64arr_at h.1 h.2) hs)
noncomputable def sext3 (o₀ o₁ o₂ : Int) : List Int := [o₀ / 4, o₀ % 4 * 16 + o₁ / 16, o₁ % 16 * 4 + o₂ / 64, o₂ % 64]
noncomputable def sext2 (o₀ o₁ : Int) : List Int := [o₀ / 4, o₀ % 4 * 16 + o₁ / 16, o₁ % 16 * 4]
noncomputable def bσ (b : Array UInt8) (o₀ o₁ o₂ : Int) : Nat → Rho × Ow
  | 0 => ([(Str.ofString "leftbits", .int 0), (Str.ofString "leftchar", .int 0), (Str.ofString "newline", .bool false), (Str.ofString "bin_data", .bytes b)], [(Str.ofString "out", [])])
  | 1 => ([(Str.ofString "leftbits", .int 2), (Str.ofString "leftchar", .int o₀), (Str.ofString "newline", .bool false), (Str.ofString "bin_data", .bytes b)], [(Str.ofString "out", [.int (sgn (o₀ / 4))])])
  | 2 => ([(Str.ofString "leftbits", .int 4), (Str.ofString "leftchar", .int (o₀ * 256 + o₁)), (Str.ofString "newline", .bool false), (Str.ofString "bin_data", .bytes b)], [(Str.ofString "out", [.int (sgn (o₀ / 4)), .int (sgn (o₀ % 4 * 16 + o₁ / 16))])])
  | _ => ([(Str.ofString "leftbits", .int 0), (Str.ofString "leftchar", .int (o₁ * 256 + o₂)), (Str.ofString "newline", .bool false), (Str.ofString "bin_data", .bytes b)], [(Str.ofString "out", [.int (sgn (o₀ / 4)), .int (sgn (o₀ % 4 * 16 + o₁ / 16)), .int (sgn (o₁ % 16 * 4 + o₂ / 64)), .int (sgn (o₂ % 64))])])
theorem fn_b2a3 {b : Array UInt8} {o₀ o₁ o₂ : Int} (hv : ∀ v ∈ [o₀, o₁, o₂], 0 ≤ v ∧ v < 256) (hb : b.toList.map (fun c => (c.toNat : Int)) = [o₀, o₁, o₂]) :
    FnK C (n + 2) 120 [.bytes b] (Str.ofString "newline") (.bool false) (.bytes (byteArr ((sext3 o₀ o₁ o₂).map sgn))) := by
  have w0 := hv o₀ (by simp)
  have w1 := hv o₁ (by simp)
  have w2 := hv o₂ (by simp)
  refine' FnK.mk [(Str.ofString "data", .bytes b), (Str.ofString "newline", .bool false)] [Str.ofString "data", Str.ofString "newline"] rfl rfl rfl rfl rfl rfl rfl rfl rfl rfl ?h11 rfl (by decide) (by decide) ?h15
  case h11 => intro s V vs kv _ h hk; cases h with | cons a tl => cases tl; exact ⟨_, BindsTo.of_eq rfl, .cons a (.cons hk .nil)⟩
  case h15 =>
    refine Sxs.cons (Sx.assign (Ev.call rfl rfl rfl (Evs.cons (Ev.name rfl) Evs.nil) fn_buf) (.inl rfl) (fun _ h => nomatch h) (fun _ _ => rfl)) ?_
    refine Sxs.cons (Sx.assign (Ev.call rfl rfl rfl (Evs.cons (Ev.name rfl) Evs.nil) fn_truth) (.inl rfl) (fun _ h => nomatch h) (fun _ _ => rfl)) ?_
    refine Sxs.cons (Sx.newList rfl (fun _ h => nomatch h) rfl) ?_
    refine Sxs.cons (Sx.assign Ev.int (.inl rfl) (own1 (by decide)) (fun _ _ => rfl)) ?_
    refine Sxs.cons (Sx.assign Ev.int (.inl rfl) (own1 (by decide)) (fun _ _ => rfl)) ?_
    refine Sxs.fewer (ρ' := (bσ b o₀ o₁ o₂ 0).1) (lk_cons rfl (lk_cons rfl (lk_cons rfl (lk_cons rfl lk_nil)))) ?_
    refine Sxs.cons (Sx.forI (bσ b o₀ o₁ o₂) (ns := [o₀, o₁, o₂]) rfl ?hit rfl ?hxo ?hbody) ?_
    case hit =>
      rw [← hb, List.map_map]
      exact ItF.bytes (Ev.name rfl)
    case hxo =>
      intro i ys
      match i with
      | 0 => exact own1 (by decide) ys
      | 1 => exact own1 (by decide) ys
      | 2 => exact own1 (by decide) ys
      | (_ + 3) => exact own1 (by decide) ys
    case hbody =>
      intro i k hk
      match i, hk with
      | 0, hk =>
        cases hk
        exact Sxs.to (Sxs.cons (Sx.assign (Ev.intTo (b := o₀) (Ev.binop (Ev.binop (Ev.binop (Ev.name rfl) Ev.int (Bo.shl (b := 8) (by decide) (by decide) (by omega))) (Ev.name rfl) Bo.bor) Ev.int Bo.band) (lc8 (by omega) w0 (by omega))) (.inl rfl) (own1 (by decide)) (fun _ _ => rfl)) (Sxs.cons (Sx.assign (Ev.intTo (b := 8) (Ev.binop (Ev.name rfl) Ev.int Bo.add) rfl) (.inl rfl) (own1 (by decide)) (fun _ _ => rfl)) (Sxs.cons (Sx.whileW (Wx.step (Tr.cmp (Ev.name rfl) Ev.int Co.ge) (Sxs.cons (Sx.append (Ev.b64 rfl (Ev.intTo (b := o₀ / 4) (Ev.binop (Ev.binop (Ev.name rfl) (Ev.intTo (b := 2) (Ev.binop (Ev.name rfl) Ev.int Bo.sub) rfl) (Bo.shr (b := 2) (by decide))) Ev.int Bo.band) (em63 (k := 2) (by omega) (by show (o₀) / 4 % 64 = _; omega))) (by omega)) (fun _ h => nomatch h) (by simp)) (Sxs.cons (Sx.assign (Ev.intTo (b := 2) (Ev.binop (Ev.name rfl) Ev.int Bo.sub) rfl) (.inl rfl) (own1 (by decide)) (fun _ _ => rfl)) Sxs.nil)) (Wx.stop (Tr.cmp (Ev.name rfl) Ev.int Co.ge)))) Sxs.nil))) (lk_cons rfl (lk_cons rfl (lk_cons rfl (lk_cons rfl lk_nil)))) (fun _ h => h)
      | 1, hk =>
        cases hk
        exact Sxs.to (Sxs.cons (Sx.assign (Ev.intTo (b := o₀ * 256 + o₁) (Ev.binop (Ev.binop (Ev.binop (Ev.name rfl) Ev.int (Bo.shl (b := 8) (by decide) (by decide) (by omega))) (Ev.name rfl) Bo.bor) Ev.int Bo.band) (lc8 (by omega) w1 (by omega))) (.inl rfl) (own1 (by decide)) (fun _ _ => rfl)) (Sxs.cons (Sx.assign (Ev.intTo (b := 10) (Ev.binop (Ev.name rfl) Ev.int Bo.add) rfl) (.inl rfl) (own1 (by decide)) (fun _ _ => rfl)) (Sxs.cons (Sx.whileW (Wx.step (Tr.cmp (Ev.name rfl) Ev.int Co.ge) (Sxs.cons (Sx.append (Ev.b64 rfl (Ev.intTo (b := o₀ % 4 * 16 + o₁ / 16) (Ev.binop (Ev.binop (Ev.name rfl) (Ev.intTo (b := 4) (Ev.binop (Ev.name rfl) Ev.int Bo.sub) rfl) (Bo.shr (b := 4) (by decide))) Ev.int Bo.band) (em63 (k := 4) (by omega) (by show (o₀ * 256 + o₁) / 16 % 64 = _; omega))) (by omega)) (fun _ h => nomatch h) (by simp)) (Sxs.cons (Sx.assign (Ev.intTo (b := 4) (Ev.binop (Ev.name rfl) Ev.int Bo.sub) rfl) (.inl rfl) (own1 (by decide)) (fun _ _ => rfl)) Sxs.nil)) (Wx.stop (Tr.cmp (Ev.name rfl) Ev.int Co.ge)))) Sxs.nil))) (lk_cons rfl (lk_cons rfl (lk_cons rfl (lk_cons rfl lk_nil)))) (fun _ h => h)
      | 2, hk =>
        cases hk
        exact Sxs.to (Sxs.cons (Sx.assign (Ev.intTo (b := o₁ * 256 + o₂) (Ev.binop (Ev.binop (Ev.binop (Ev.name rfl) Ev.int (Bo.shl (b := 8) (by decide) (by decide) (by omega))) (Ev.name rfl) Bo.bor) Ev.int Bo.band) (lc8 (by omega) w2 (by omega))) (.inl rfl) (own1 (by decide)) (fun _ _ => rfl)) (Sxs.cons (Sx.assign (Ev.intTo (b := 12) (Ev.binop (Ev.name rfl) Ev.int Bo.add) rfl) (.inl rfl) (own1 (by decide)) (fun _ _ => rfl)) (Sxs.cons (Sx.whileW (Wx.step (Tr.cmp (Ev.name rfl) Ev.int Co.ge) (Sxs.cons (Sx.append (Ev.b64 rfl (Ev.intTo (b := o₁ % 16 * 4 + o₂ / 64) (Ev.binop (Ev.binop (Ev.name rfl) (Ev.intTo (b := 6) (Ev.binop (Ev.name rfl) Ev.int Bo.sub) rfl) (Bo.shr (b := 6) (by decide))) Ev.int Bo.band) (em63 (k := 6) (by omega) (by show (o₁ * 256 + o₂) / 64 % 64 = _; omega))) (by omega)) (fun _ h => nomatch h) (by simp)) (Sxs.cons (Sx.assign (Ev.intTo (b := 6) (Ev.binop (Ev.name rfl) Ev.int Bo.sub) rfl) (.inl rfl) (own1 (by decide)) (fun _ _ => rfl)) Sxs.nil)) (Wx.step (Tr.cmp (Ev.name rfl) Ev.int Co.ge) (Sxs.cons (Sx.append (Ev.b64 rfl (Ev.intTo (b := o₂ % 64) (Ev.binop (Ev.binop (Ev.name rfl) (Ev.intTo (b := 0) (Ev.binop (Ev.name rfl) Ev.int Bo.sub) rfl) (Bo.shr (b := 0) (by decide))) Ev.int Bo.band) (em63 (k := 0) (by omega) (by show (o₁ * 256 + o₂) / 1 % 64 = _; omega))) (by omega)) (fun _ h => nomatch h) (by simp)) (Sxs.cons (Sx.assign (Ev.intTo (b := 0) (Ev.binop (Ev.name rfl) Ev.int Bo.sub) rfl) (.inl rfl) (own1 (by decide)) (fun _ _ => rfl)) Sxs.nil)) (Wx.stop (Tr.cmp (Ev.name rfl) Ev.int Co.ge))))) Sxs.nil))) (lk_cons rfl (lk_cons rfl (lk_cons rfl (lk_cons rfl lk_nil)))) (fun _ h => h)
      | (j + 3), hk => simp at hk
    have r0 : ∀ k ∈ (sext3 o₀ o₁ o₂).map sgn, 0 ≤ k ∧ k < 256 := by
      intro k hk
      obtain ⟨v, hv', rfl⟩ := List.mem_map.mp hk
      have : 0 ≤ v ∧ v < 64 := by
        unfold sext3 at hv'
        simp only [List.mem_cons, List.not_mem_nil, or_false] at hv'
        rcases hv' with rfl | rfl | rfl | rfl <;> omega
      have := sgn_range this.1 this.2
      omega
    refine Sxs.cons (Sx.ifF (Tr.cmp (Ev.name rfl) Ev.int Co.eq) (Sxs.single (Sx.ifF (Tr.cmp (Ev.name rfl) Ev.int Co.eq) Sxs.nil))) ?_
    refine Sxs.cons (Sx.ifF (Tr.bool (Ev.name rfl)) Sxs.nil) ?_
    refine Sxs.freeze (fun _ h => nomatch h) ?_
    exact Sxs.single (Sx.ret (Ev.tcall rfl rfl (by decide +kernel) (Evs.cons (Ev.name rfl) Evs.nil) (Bf.bytes (ns := (sext3 o₀ o₁ o₂).map sgn) r0 (by show 4 ≤ 1000; decide))))
theorem fn_b2a2 {b : Array UInt8} {o₀ o₁ : Int} (hv : ∀ v ∈ [o₀, o₁], 0 ≤ v ∧ v < 256) (hb : b.toList.map (fun c => (c.toNat : Int)) = [o₀, o₁]) :
    FnK C (n + 2) 120 [.bytes b] (Str.ofString "newline") (.bool false) (.bytes (byteArr ((sext2 o₀ o₁).map sgn ++ [61]))) := by
  have w0 := hv o₀ (by simp)
  have w1 := hv o₁ (by simp)
  refine' FnK.mk [(Str.ofString "data", .bytes b), (Str.ofString "newline", .bool false)] [Str.ofString "data", Str.ofString "newline"] rfl rfl rfl rfl rfl rfl rfl rfl rfl rfl ?h11 rfl (by decide) (by decide) ?h15
  case h11 => intro s V vs kv _ h hk; cases h with | cons a tl => cases tl; exact ⟨_, BindsTo.of_eq rfl, .cons a (.cons hk .nil)⟩
  case h15 =>
    refine Sxs.cons (Sx.assign (Ev.call rfl rfl rfl (Evs.cons (Ev.name rfl) Evs.nil) fn_buf) (.inl rfl) (fun _ h => nomatch h) (fun _ _ => rfl)) ?_
    refine Sxs.cons (Sx.assign (Ev.call rfl rfl rfl (Evs.cons (Ev.name rfl) Evs.nil) fn_truth) (.inl rfl) (fun _ h => nomatch h) (fun _ _ => rfl)) ?_
    refine Sxs.cons (Sx.newList rfl (fun _ h => nomatch h) rfl) ?_
    refine Sxs.cons (Sx.assign Ev.int (.inl rfl) (own1 (by decide)) (fun _ _ => rfl)) ?_
    refine Sxs.cons (Sx.assign Ev.int (.inl rfl) (own1 (by decide)) (fun _ _ => rfl)) ?_
    refine Sxs.fewer (ρ' := (bσ b o₀ o₁ 0 0).1) (lk_cons rfl (lk_cons rfl (lk_cons rfl (lk_cons rfl lk_nil)))) ?_
    refine Sxs.cons (Sx.forI (bσ b o₀ o₁ 0) (ns := [o₀, o₁]) rfl ?hit rfl ?hxo ?hbody) ?_
    case hit =>
      rw [← hb, List.map_map]
      exact ItF.bytes (Ev.name rfl)
    case hxo =>
      intro i ys
      match i with
      | 0 => exact own1 (by decide) ys
      | 1 => exact own1 (by decide) ys
      | 2 => exact own1 (by decide) ys
      | (_ + 3) => exact own1 (by decide) ys
    case hbody =>
      intro i k hk
      match i, hk with
      | 0, hk =>
        cases hk
        exact Sxs.to (Sxs.cons (Sx.assign (Ev.intTo (b := o₀) (Ev.binop (Ev.binop (Ev.binop (Ev.name rfl) Ev.int (Bo.shl (b := 8) (by decide) (by decide) (by omega))) (Ev.name rfl) Bo.bor) Ev.int Bo.band) (lc8 (by omega) w0 (by omega))) (.inl rfl) (own1 (by decide)) (fun _ _ => rfl)) (Sxs.cons (Sx.assign (Ev.intTo (b := 8) (Ev.binop (Ev.name rfl) Ev.int Bo.add) rfl) (.inl rfl) (own1 (by decide)) (fun _ _ => rfl)) (Sxs.cons (Sx.whileW (Wx.step (Tr.cmp (Ev.name rfl) Ev.int Co.ge) (Sxs.cons (Sx.append (Ev.b64 rfl (Ev.intTo (b := o₀ / 4) (Ev.binop (Ev.binop (Ev.name rfl) (Ev.intTo (b := 2) (Ev.binop (Ev.name rfl) Ev.int Bo.sub) rfl) (Bo.shr (b := 2) (by decide))) Ev.int Bo.band) (em63 (k := 2) (by omega) (by show (o₀) / 4 % 64 = _; omega))) (by omega)) (fun _ h => nomatch h) (by simp)) (Sxs.cons (Sx.assign (Ev.intTo (b := 2) (Ev.binop (Ev.name rfl) Ev.int Bo.sub) rfl) (.inl rfl) (own1 (by decide)) (fun _ _ => rfl)) Sxs.nil)) (Wx.stop (Tr.cmp (Ev.name rfl) Ev.int Co.ge)))) Sxs.nil))) (lk_cons rfl (lk_cons rfl (lk_cons rfl (lk_cons rfl lk_nil)))) (fun _ h => h)
      | 1, hk =>
        cases hk
        exact Sxs.to (Sxs.cons (Sx.assign (Ev.intTo (b := o₀ * 256 + o₁) (Ev.binop (Ev.binop (Ev.binop (Ev.name rfl) Ev.int (Bo.shl (b := 8) (by decide) (by decide) (by omega))) (Ev.name rfl) Bo.bor) Ev.int Bo.band) (lc8 (by omega) w1 (by omega))) (.inl rfl) (own1 (by decide)) (fun _ _ => rfl)) (Sxs.cons (Sx.assign (Ev.intTo (b := 10) (Ev.binop (Ev.name rfl) Ev.int Bo.add) rfl) (.inl rfl) (own1 (by decide)) (fun _ _ => rfl)) (Sxs.cons (Sx.whileW (Wx.step (Tr.cmp (Ev.name rfl) Ev.int Co.ge) (Sxs.cons (Sx.append (Ev.b64 rfl (Ev.intTo (b := o₀ % 4 * 16 + o₁ / 16) (Ev.binop (Ev.binop (Ev.name rfl) (Ev.intTo (b := 4) (Ev.binop (Ev.name rfl) Ev.int Bo.sub) rfl) (Bo.shr (b := 4) (by decide))) Ev.int Bo.band) (em63 (k := 4) (by omega) (by show (o₀ * 256 + o₁) / 16 % 64 = _; omega))) (by omega)) (fun _ h => nomatch h) (by simp)) (Sxs.cons (Sx.assign (Ev.intTo (b := 4) (Ev.binop (Ev.name rfl) Ev.int Bo.sub) rfl) (.inl rfl) (own1 (by decide)) (fun _ _ => rfl)) Sxs.nil)) (Wx.stop (Tr.cmp (Ev.name rfl) Ev.int Co.ge)))) Sxs.nil))) (lk_cons rfl (lk_cons rfl (lk_cons rfl (lk_cons rfl lk_nil)))) (fun _ h => h)
      | (j + 2), hk => simp at hk
    have r0 : ∀ k ∈ (sext2 o₀ o₁).map sgn ++ [61], 0 ≤ k ∧ k < 256 := by
      intro k hk
      rcases List.mem_append.mp hk with hk | hk
      · obtain ⟨v, hv', rfl⟩ := List.mem_map.mp hk
        have : 0 ≤ v ∧ v < 64 := by
          unfold sext2 at hv'
          simp only [List.mem_cons, List.not_mem_nil, or_false] at hv'
          rcases hv' with rfl | rfl | rfl <;> omega
        have := sgn_range this.1 this.2
        omega
      · rw [List.mem_singleton.mp hk]; decide
    refine Sxs.cons (Sx.ifF (Tr.cmp (Ev.name rfl) Ev.int Co.eq) (Sxs.single (Sx.ifT (Tr.cmp (Ev.name rfl) Ev.int Co.eq) (Sxs.cons (Sx.append (Ev.b64 rfl (Ev.intTo (b := o₁ % 16 * 4) (Ev.binop (Ev.intTo (b := o₁ % 16) (Ev.binop (Ev.name rfl) Ev.int Bo.band) (by have := band_mask (x := o₀ * 256 + o₁) (k := 4) (by omega); refine Eq.trans this ?_; show (o₀ * 256 + o₁) % 16 = _; omega)) Ev.int (Bo.shl (b := 2) (by decide) (by decide) (by omega))) rfl) (by omega)) (fun _ h => nomatch h) (by simp)) (Sxs.cons (Sx.append Ev.int (fun _ h => nomatch h) (by simp)) Sxs.nil))))) ?_
    refine Sxs.cons (Sx.ifF (Tr.bool (Ev.name rfl)) Sxs.nil) ?_
    refine Sxs.freeze (fun _ h => nomatch h) ?_
    exact Sxs.single (Sx.ret (Ev.tcall rfl rfl (by decide +kernel) (Evs.cons (Ev.name rfl) Evs.nil) (Bf.bytes (ns := (sext2 o₀ o₁).map sgn ++ [61]) r0 (by show 4 ≤ 1000; decide))))
end
end Mine
end

section
open PySem PySem.W PySem.Calls PyProof.Rows
namespace Mine
set_option maxRecDepth 100000
set_option maxHeartbeats 4000000
section
variable {C : Cfg} {n : Nat}
theorem fn_b64e {b e : Array UInt8} (h : FnK C (n + 1) 120 [.bytes b] (Str.ofString "newline") (.bool false) (.bytes e)) : Fn C (n + 2) 128 [.bytes b] (.bytes e) := by
  refine' Fn.mk [(Str.ofString "s", .bytes b), (Str.ofString "altchars", .none)] [Str.ofString "s", Str.ofString "altchars"] ?h1 ?h2 ?h3 ?h4 ?h5 ?h6 ?h7 ?h8 ?h9 ?h10 ?h11 ?h12 ?h13 ?h14 ?h15
  case h1 => exact rfl
  case h2 => exact rfl
  case h3 => exact rfl
  case h4 => exact rfl
  case h5 => exact rfl
  case h6 => exact rfl
  case h7 => exact rfl
  case h8 => exact rfl
  case h9 => exact rfl
  case h10 => exact rfl
  case h11 => intro s V vs base h; cases h with | cons a tl => cases tl; exact ⟨_, binds_K (K := hd.heap_39 C.w.params) (fun a o e => base a o (C.X a o e)) rfl rfl rfl rfl rfl, .cons a (.cons .none .nil)⟩
  case h12 => exact rfl
  case h13 => decide
  case h14 => decide
  case h15 =>
    refine Sxs.cons (Sx.assign (Ev.callKw rfl rfl rfl (Ev.name rfl) Ev.bool h) (.inl rfl) (fun _ h => nomatch h) (fun _ _ => rfl)) ?_
    refine Sxs.cons (Sx.ifF (Tr.cmp (Ev.name rfl) Ev.none Co.isNotN) Sxs.nil) ?_
    exact Sxs.single (Sx.ret (Ev.name rfl))
theorem fn_b64d {x : Str} {b e : Array UInt8} (h₀ : Fn C (n + 1) 63 [.str x] (.bytes b)) (h : FnK C (n + 1) 112 [.bytes b] (Str.ofString "strict_mode") (.bool false) (.bytes e)) : Fn C (n + 2) 136 [.str x] (.bytes e) := by
  refine' Fn.mk [(Str.ofString "s", .str x), (Str.ofString "altchars", .none), (Str.ofString "validate", .bool false)] [Str.ofString "s", Str.ofString "altchars", Str.ofString "validate"] ?h1 ?h2 ?h3 ?h4 ?h5 ?h6 ?h7 ?h8 ?h9 ?h10 ?h11 ?h12 ?h13 ?h14 ?h15
  case h1 => exact rfl
  case h2 => exact rfl
  case h3 => exact rfl
  case h4 => exact rfl
  case h5 => exact rfl
  case h6 => exact rfl
  case h7 => exact rfl
  case h8 => exact rfl
  case h9 => exact rfl
  case h10 => exact rfl
  case h11 => intro s V vs base h; cases h with | cons a tl => cases tl; exact ⟨_, binds_K (K := hd.heap_39 C.w.params) (fun a o e => base a o (C.X a o e)) rfl rfl rfl rfl rfl, .cons a (.cons .none (.cons (.bool _) .nil))⟩
  case h12 => exact rfl
  case h13 => decide
  case h14 => decide
  case h15 =>
    refine Sxs.cons (Sx.assign (Ev.call rfl rfl rfl (Evs.cons (Ev.name rfl) Evs.nil) h₀) (.inl rfl) (fun _ h => nomatch h) (fun _ _ => rfl)) ?_
    refine Sxs.cons (Sx.ifF (Tr.cmp (Ev.name rfl) Ev.none Co.isNotN) Sxs.nil) ?_
    exact Sxs.single (Sx.ret (Ev.callKw rfl rfl rfl (Ev.name rfl) (Ev.name rfl) h))
end
end Mine
end

section
open PySem PySem.W PySem.Calls PyProof.Rows
namespace Mine
set_option maxRecDepth 20000
section
variable {C : Cfg} {n : Nat} {sc : Scope} {ρ : Rho}
theorem Ev.to {e : Expr} {a b : D} (h : Ev C n sc ρ e a) (q : a = b) : Ev C n sc ρ e b := q ▸ h
theorem Su.str {value slice : Expr} {x : Str} {i : Int} {c : Nat} (h0 : 0 ≤ i) (hi : i < 2 ^ 63) (hx : x.cps[i.toNat]? = some c)
    (hs : ∀ o i, subscripted slice false o i = operate [o, i] (getItem o i) := by intro _ _; with_unfolding_all rfl) : Su C n value slice (.str x) (.int i) (.str ⟨#[c]⟩) := by
  intro A s V v₁ v₂ hA a b
  cases a; cases b
  rename_i t u
  refine tail_any (typeIs_str s x t) F.slot_str_getitem.lookup (P.getItem_str ?_ (c := c) ?_ ⟨.toks, .str _ _⟩) (hs _ _)
  · simp; omega
  · have hl : i.toNat < x.length := (Array.getElem?_eq_some_iff.mp hx).1
    have : seqIndex? i x.length = some i.toNat := by
      unfold seqIndex?
      have h1 : ¬ i < 0 := by omega
      simp [h1]; omega
    rw [this]; exact hx
theorem Bo.adds {x y : Str} (h : x.length + y.length ≤ 1000) : Bo C n .Add (.str x) (.str y) (.str (x ++ y)) := by
  intro A s V v₁ v₂ hA _ a b; cases a; cases b
  exact SB.add (fun t' k => ⟨.toks, .str _ _⟩) (Nat.le_trans h (by decide))
theorem Bo.muls {x : Str} {k : Int} (h : MulOk x k) : Bo C n .Mult (.str x) (.int k) (.str (Txt.mul x k)) := by
  intro A s V v₁ v₂ hA _ a b; cases a; cases b
  exact SB.mul h (fun t' k => ⟨.toks, .str _ _⟩)
theorem Ats.strs {h : Heap} {V : Addr → Prop} : ∀ {vs : List Value} {ys : List Str}, Ats h V vs (ys.map D.str) → StrsAre vs ys
  | _, [], .nil => .nil
  | _, _ :: _, .cons a t => by cases a; exact .cons _ _ (Ats.strs t)
theorem Bf.join {x : Str} {ys : List Str} (h : (ys.map (·.length)).sum + ys.length * x.length ≤ 16777216) : Bf C n (.builtin "str.join") [.str x, .list (ys.map .str)] (.str (Txt.join x ys)) := by
  intro A s V vs hA base q
  cases q with
  | cons a tl =>
    cases tl with
    | cons b tl =>
      cases tl; cases a
      cases b with
      | list hv hl hs => exact PyProof.Rows.join_list hl.isList hs.strs h fun t' k => ⟨.toks, .str _ _⟩
theorem Ev.cutX {value : Expr} {lo hi : Option Expr} {p pos : Pos} {l h : Option Int} {ds : List D} (x : Ev C n sc ρ value (.xlist ds)) (y : Pt C n sc ρ lo l) (z : Pt C n sc ρ hi h) (hlen : ds.length ≤ 1000) :
    Ev C n sc ρ (.Subscript value (.Slice lo hi Option.none p) pos) (.list (Mine.cut l h ds)) := by
  intro A s V env he hA rd
  refine Subscript_ (wpAny_mono (x A s V env he hA rd) (fun v s₁ h₁ => ?_) fun _ _ f => f)
  obtain ⟨k₁, a₁⟩ := h₁
  have r₁ := rd.keeps k₁.heap (V' := V) fun _ q => q
  show wpAny C.M A (do
    let l ← valueOrNone (evalOpt lo env)
    let u ← holding [l] (valueOrNone (evalOpt hi env))
    let s ← holding [l, u] (valueOrNone (evalOpt Option.none env))
    newFields "slice" [l, u, s]) _ _ s₁
  refine wpAny_bind (wpAny_mono (evalPart y he hA r₁) (fun vl s₂ h₂ => ?_) fun _ _ f => f)
  have r₂ := r₁.keeps h₂.1.heap (V' := V) fun _ q => q
  refine wpAny_bind (wpAny_holding (wpAny_mono (evalPart z he hA r₂) (fun vu s₃ h₃ => ?_) fun _ _ f => f))
  refine wpAny_bind (wpAny_holding (wpAny_pure ?_))
  have k₁₃ : Ke C.g s₁ s₃ := h₂.1.trans h₃.1
  have a₃ := k₁₃.heap.at (fun _ q => q) a₁
  refine wpAny_newObj_type ?_ (by show (3 : Nat) ≤ _; decide)
  cases a₃ with
  | xlist hv hl hs =>
    rename_i a vs
    refine tail_any (T := "list") (Heap.IsList.typeIs (s := { s₃ with heap := s₃.heap.push { cls := .type "slice", data := .fields #[vl, vu, .none] } }) (hl.push _)) list_getitem_lookup
      (wpAny_getItem_list_slice (hl.push _) (Heap.IsSliceOf.new ..) h₂.2 h₃.2 .none (by simp) ?_ (by rw [List.size_toArray, hs.length]; unfold sizeLine; omega)) (by with_unfolding_all rfl)
    refine ⟨(k₁.trans k₁₃).trans (.mkh ((KeU.push _).trans (.push _))), ?_⟩
    rw [slicePick_plain]
    have e : vs.toArray.size = ds.length := by rw [List.size_toArray, hs.length]
    rw [e]
    refine .list (.inr ((k₁.trans k₁₃).heap.none (Heap.get?_none_of_le (by rw [Heap.size_push]; exact Nat.le_succ _)))) ⟨0, Heap.get?_push_size _ rfl⟩ (((KeU.push (g := C.g) _).trans (.push _)).ats (fun _ q => q) ?_)
    exact (hs.drop _).take _
end
end Mine
end

section
open PySem PySem.W PySem.Calls PyProof.Rows
namespace Mine
set_option maxRecDepth 100000
set_option maxHeartbeats 4000000
section
variable {C : Cfg} {n : Nat}
noncomputable def dInt : D → Int
  | .int k => k
  | _ => 0
theorem Bo.powc {a b : Int} (h : 0 ≤ b) (h2 : (Builtin.Int.intBits a : Int) * b ≤ 2 ^ 27) {c : Int} (hc : a ^ b.toNat = c) : Bo C n .Pow (.int a) (.int b) (.int c) := hc ▸ Bo.pow h h2
theorem range3 {d : D} (h : d ∈ (List.range (3 : Int).toNat).map fun (i : Nat) => D.int (i : Int)) : d = .int 0 ∨ d = .int 1 ∨ d = .int 2 := by
  obtain ⟨i, hi, rfl⟩ := List.mem_map.mp h
  have : i < 3 := by simpa using hi
  match i, this with
  | 0, _ => exact .inl rfl
  | 1, _ => exact .inr (.inl rfl)
  | 2, _ => exact .inr (.inr rfl)
theorem range2 {d : D} (h : d ∈ (List.range (2 : Int).toNat).map fun (i : Nat) => D.int (i : Int)) : d = .int 0 ∨ d = .int 1 := by
  obtain ⟨i, hi, rfl⟩ := List.mem_map.mp h
  have : i < 2 := by simpa using hi
  match i, this with
  | 0, _ => exact .inl rfl
  | 1, _ => exact .inr rfl
theorem range4 {d : D} (h : d ∈ (List.range (4 : Int).toNat).map fun (i : Nat) => D.int (i : Int)) : d = .int 0 ∨ d = .int 1 ∨ d = .int 2 ∨ d = .int 3 := by
  obtain ⟨i, hi, rfl⟩ := List.mem_map.mp h
  have : i < 4 := by simpa using hi
  match i, this with
  | 0, _ => exact .inl rfl
  | 1, _ => exact .inr (.inl rfl)
  | 2, _ => exact .inr (.inr (.inl rfl))
  | 3, _ => exact .inr (.inr (.inr rfl))
theorem fn_nums3 {o₀ o₁ o₂ : Int} (hv : ∀ v ∈ [o₀, o₁, o₂], 0 ≤ v ∧ v < 256) : Fn C (n + 2) 167 [.list [.int o₀, .int o₁, .int o₂]] (.list ((sext3 o₀ o₁ o₂).map .int)) := by
  have w0 := hv o₀ (by simp)
  have w1 := hv o₁ (by simp)
  have w2 := hv o₂ (by simp)
  refine' Fn.mk [(Str.ofString "octets", .list [.int o₀, .int o₁, .int o₂])] [Str.ofString "octets"] ?h1 ?h2 ?h3 ?h4 ?h5 ?h6 ?h7 ?h8 ?h9 ?h10 ?h11 ?h12 ?h13 ?h14 ?h15
  case h1 => exact rfl
  case h2 => exact rfl
  case h3 => exact rfl
  case h4 => exact rfl
  case h5 => exact rfl
  case h6 => exact rfl
  case h7 => exact rfl
  case h8 => exact rfl
  case h9 => exact rfl
  case h10 => exact rfl
  case h11 => intro s V vs base h; cases h with | cons a b => cases b; exact ⟨_, BindsTo.of_eq rfl, .cons a .nil⟩
  case h12 => exact rfl
  case h13 => decide
  case h14 => decide
  case h15 =>
    refine Sxs.cons (Sx.assign (Ev.intTo (b := o₀ * 65536 + o₁ * 256 + o₂ * 1) (Ev.bcall rfl rfl (by decide +kernel) (Evs.cons (Ev.to (b := .list (([o₀ * 65536, o₁ * 256, o₂ * 1] : List Int).map .int)) (Ev.lm [Str.ofString "octets"] (fun d => .int (([o₀, o₁, o₂] : List Int).getD (dInt d).toNat 0 * 256 ^ (2 - dInt d).toNat)) (It.range rfl (Ev.intTo (b := 3) (Ev.bcall rfl rfl (by decide +kernel) (Evs.cons (Ev.name rfl) Evs.nil) (Bf.len (by show 3 ≤ 1000; decide))) rfl) (by decide) (by decide)) (by decide) rfl ?elt (by decide)) rfl) Evs.nil) (Bf.sum)) ?sum) (.inr rfl) (fun _ h => nomatch h) (fun _ _ => rfl)) ?_
    case elt =>
      intro d hd
      rcases range3 hd with rfl | rfl | rfl
      · exact Ev.binop (Ev.sub (Ev.name rfl) (Ev.name rfl) (Su.list (by decide) (by decide) rfl)) (Ev.binop Ev.int (Ev.binop Ev.int (Ev.name rfl) Bo.sub) (Bo.pow (by decide) (by decide +kernel))) (Bo.mul' (by have := w0.2; have := w0.1; omega))
      · exact Ev.binop (Ev.sub (Ev.name rfl) (Ev.name rfl) (Su.list (by decide) (by decide) rfl)) (Ev.binop Ev.int (Ev.binop Ev.int (Ev.name rfl) Bo.sub) (Bo.pow (by decide) (by decide +kernel))) (Bo.mul' (by have := w1.2; have := w1.1; omega))
      · exact Ev.binop (Ev.sub (Ev.name rfl) (Ev.name rfl) (Su.list (by decide) (by decide) rfl)) (Ev.binop Ev.int (Ev.binop Ev.int (Ev.name rfl) Bo.sub) (Bo.pow (by decide) (by decide +kernel))) (Bo.mul' (by have := w2.2; have := w2.1; omega))
    case sum => simp only [List.sum_cons, List.sum_nil]; omega
    refine Sxs.single (Sx.ret (Ev.to (Ev.lm [Str.ofString "whole"] (fun d => .int ((o₀ * 65536 + o₁ * 256 + o₂ * 1) / 64 ^ (3 - dInt d).toNat % 64)) (It.range rfl (Ev.intTo (b := 4) (Ev.binop (Ev.intTo (b := 3) (Ev.bcall rfl rfl (by decide +kernel) (Evs.cons (Ev.name rfl) Evs.nil) (Bf.len (by show 3 ≤ 1000; decide))) rfl) Ev.int Bo.add) rfl) (by decide) (by decide)) (by decide) rfl (by
      intro d hd
      rcases range4 hd with rfl | rfl | rfl | rfl
      · exact Ev.intTo (Ev.binop (Ev.binop (Ev.name rfl) (Ev.binop Ev.int (Ev.binop Ev.int (Ev.name rfl) Bo.sub) (Bo.powc (c := 262144) (by decide) (by decide +kernel) rfl)) (Bo.fdiv' (by decide) (by decide))) Ev.int (Bo.fmod (by decide))) (by rw [Int.fmod_eq_emod_of_nonneg _ (by decide), Int.fdiv_eq_ediv_of_nonneg _ (by decide)]; rfl)
      · exact Ev.intTo (Ev.binop (Ev.binop (Ev.name rfl) (Ev.binop Ev.int (Ev.binop Ev.int (Ev.name rfl) Bo.sub) (Bo.powc (c := 4096) (by decide) (by decide +kernel) rfl)) (Bo.fdiv' (by decide) (by decide))) Ev.int (Bo.fmod (by decide))) (by rw [Int.fmod_eq_emod_of_nonneg _ (by decide), Int.fdiv_eq_ediv_of_nonneg _ (by decide)]; rfl)
      · exact Ev.intTo (Ev.binop (Ev.binop (Ev.name rfl) (Ev.binop Ev.int (Ev.binop Ev.int (Ev.name rfl) Bo.sub) (Bo.powc (c := 64) (by decide) (by decide +kernel) rfl)) (Bo.fdiv' (by decide) (by decide))) Ev.int (Bo.fmod (by decide))) (by rw [Int.fmod_eq_emod_of_nonneg _ (by decide), Int.fdiv_eq_ediv_of_nonneg _ (by decide)]; rfl)
      · exact Ev.intTo (Ev.binop (Ev.binop (Ev.name rfl) (Ev.binop Ev.int (Ev.binop Ev.int (Ev.name rfl) Bo.sub) (Bo.powc (c := 1) (by decide) (by decide +kernel) rfl)) (Bo.fdiv' (by decide) (by decide))) Ev.int (Bo.fmod (by decide))) (by rw [Int.fmod_eq_emod_of_nonneg _ (by decide), Int.fdiv_eq_ediv_of_nonneg _ (by decide)]; rfl)) (by decide)) ?fin))
    case fin =>
      have e0 : (o₀ * 65536 + o₁ * 256 + o₂ * 1) / 262144 % 64 = o₀ / 4 := by omega
      have e1 : (o₀ * 65536 + o₁ * 256 + o₂ * 1) / 4096 % 64 = o₀ % 4 * 16 + o₁ / 16 := by omega
      have e2 : (o₀ * 65536 + o₁ * 256 + o₂ * 1) / 64 % 64 = o₁ % 16 * 4 + o₂ / 64 := by omega
      have e3 : (o₀ * 65536 + o₁ * 256 + o₂ * 1) / 1 % 64 = o₂ % 64 := by omega
      show D.list [.int ((o₀ * 65536 + o₁ * 256 + o₂ * 1) / 262144 % 64), .int ((o₀ * 65536 + o₁ * 256 + o₂ * 1) / 4096 % 64), .int ((o₀ * 65536 + o₁ * 256 + o₂ * 1) / 64 % 64), .int ((o₀ * 65536 + o₁ * 256 + o₂ * 1) / 1 % 64)] = D.list [.int (o₀ / 4), .int (o₀ % 4 * 16 + o₁ / 16), .int (o₁ % 16 * 4 + o₂ / 64), .int (o₂ % 64)]
      rw [e0, e1, e2, e3]
theorem fn_nums2 {o₀ o₁ : Int} (hv : ∀ v ∈ [o₀, o₁], 0 ≤ v ∧ v < 256) : Fn C (n + 2) 167 [.list [.int o₀, .int o₁]] (.list ((sext2 o₀ o₁).map .int)) := by
  have w0 := hv o₀ (by simp)
  have w1 := hv o₁ (by simp)
  refine' Fn.mk [(Str.ofString "octets", .list [.int o₀, .int o₁])] [Str.ofString "octets"] ?h1 ?h2 ?h3 ?h4 ?h5 ?h6 ?h7 ?h8 ?h9 ?h10 ?h11 ?h12 ?h13 ?h14 ?h15
  case h1 => exact rfl
  case h2 => exact rfl
  case h3 => exact rfl
  case h4 => exact rfl
  case h5 => exact rfl
  case h6 => exact rfl
  case h7 => exact rfl
  case h8 => exact rfl
  case h9 => exact rfl
  case h10 => exact rfl
  case h11 => intro s V vs base h; cases h with | cons a b => cases b; exact ⟨_, BindsTo.of_eq rfl, .cons a .nil⟩
  case h12 => exact rfl
  case h13 => decide
  case h14 => decide
  case h15 =>
    refine Sxs.cons (Sx.assign (Ev.intTo (b := o₀ * 65536 + o₁ * 256) (Ev.bcall rfl rfl (by decide +kernel) (Evs.cons (Ev.to (b := .list (([o₀ * 65536, o₁ * 256] : List Int).map .int)) (Ev.lm [Str.ofString "octets"] (fun d => .int (([o₀, o₁] : List Int).getD (dInt d).toNat 0 * 256 ^ (2 - dInt d).toNat)) (It.range rfl (Ev.intTo (b := 2) (Ev.bcall rfl rfl (by decide +kernel) (Evs.cons (Ev.name rfl) Evs.nil) (Bf.len (by show 2 ≤ 1000; decide))) rfl) (by decide) (by decide)) (by decide) rfl ?elt (by decide)) rfl) Evs.nil) (Bf.sum)) ?sum) (.inr rfl) (fun _ h => nomatch h) (fun _ _ => rfl)) ?_
    case elt =>
      intro d hd
      rcases range2 hd with rfl | rfl
      · exact Ev.binop (Ev.sub (Ev.name rfl) (Ev.name rfl) (Su.list (by decide) (by decide) rfl)) (Ev.binop Ev.int (Ev.binop Ev.int (Ev.name rfl) Bo.sub) (Bo.pow (by decide) (by decide +kernel))) (Bo.mul' (by have := w0.2; have := w0.1; omega))
      · exact Ev.binop (Ev.sub (Ev.name rfl) (Ev.name rfl) (Su.list (by decide) (by decide) rfl)) (Ev.binop Ev.int (Ev.binop Ev.int (Ev.name rfl) Bo.sub) (Bo.pow (by decide) (by decide +kernel))) (Bo.mul' (by have := w1.2; have := w1.1; omega))
    case sum => simp only [List.sum_cons, List.sum_nil]; omega
    refine Sxs.single (Sx.ret (Ev.to (Ev.lm [Str.ofString "whole"] (fun d => .int ((o₀ * 65536 + o₁ * 256) / 64 ^ (3 - dInt d).toNat % 64)) (It.range rfl (Ev.intTo (b := 3) (Ev.binop (Ev.intTo (b := 2) (Ev.bcall rfl rfl (by decide +kernel) (Evs.cons (Ev.name rfl) Evs.nil) (Bf.len (by show 2 ≤ 1000; decide))) rfl) Ev.int Bo.add) rfl) (by decide) (by decide)) (by decide) rfl (by
      intro d hd
      rcases range3 hd with rfl | rfl | rfl
      · exact Ev.intTo (Ev.binop (Ev.binop (Ev.name rfl) (Ev.binop Ev.int (Ev.binop Ev.int (Ev.name rfl) Bo.sub) (Bo.powc (c := 262144) (by decide) (by decide +kernel) rfl)) (Bo.fdiv' (by decide) (by decide))) Ev.int (Bo.fmod (by decide))) (by rw [Int.fmod_eq_emod_of_nonneg _ (by decide), Int.fdiv_eq_ediv_of_nonneg _ (by decide)]; rfl)
      · exact Ev.intTo (Ev.binop (Ev.binop (Ev.name rfl) (Ev.binop Ev.int (Ev.binop Ev.int (Ev.name rfl) Bo.sub) (Bo.powc (c := 4096) (by decide) (by decide +kernel) rfl)) (Bo.fdiv' (by decide) (by decide))) Ev.int (Bo.fmod (by decide))) (by rw [Int.fmod_eq_emod_of_nonneg _ (by decide), Int.fdiv_eq_ediv_of_nonneg _ (by decide)]; rfl)
      · exact Ev.intTo (Ev.binop (Ev.binop (Ev.name rfl) (Ev.binop Ev.int (Ev.binop Ev.int (Ev.name rfl) Bo.sub) (Bo.powc (c := 64) (by decide) (by decide +kernel) rfl)) (Bo.fdiv' (by decide) (by decide))) Ev.int (Bo.fmod (by decide))) (by rw [Int.fmod_eq_emod_of_nonneg _ (by decide), Int.fdiv_eq_ediv_of_nonneg _ (by decide)]; rfl)) (by decide)) ?fin))
    case fin =>
      have e0 : (o₀ * 65536 + o₁ * 256) / 262144 % 64 = o₀ / 4 := by omega
      have e1 : (o₀ * 65536 + o₁ * 256) / 4096 % 64 = o₀ % 4 * 16 + o₁ / 16 := by omega
      have e2 : (o₀ * 65536 + o₁ * 256) / 64 % 64 = o₁ % 16 * 4 := by omega
      show D.list [.int ((o₀ * 65536 + o₁ * 256) / 262144 % 64), .int ((o₀ * 65536 + o₁ * 256) / 4096 % 64), .int ((o₀ * 65536 + o₁ * 256) / 64 % 64)] = D.list [.int (o₀ / 4), .int (o₀ % 4 * 16 + o₁ / 16), .int (o₁ % 16 * 4)]
      rw [e0, e1, e2]
end
end Mine
end

section
open PySem PySem.W PySem.Calls PyProof.Rows
namespace Mine
set_option maxRecDepth 100000
set_option maxHeartbeats 4000000
theorem swaps_t {elt : Expr} {gens : List Comprehension} {scope sc : Scope} {pos pz : Pos} {z : Str} {line : Nat} {env : Env} (he : env.scope = sc) (hk : sc.kind = .function)
    (h : (sc.names.lookup z == some .local && pz.line == pos.line && !(scope.names.any fun (n, k) => n == z && (k == .local || k == .cell))) = true) :
    swapsWith (.ListComp elt gens scope pos) (some (.Name z pz)) line env = pure true := by
  unfold swapsWith
  have h' : (env.blockKind == .function && env.kindOf z == some .local && pz.line == pos.line && !(scope.names.any fun (n, k) => n == z && (k == .local || k == .cell))) = true := by
    unfold Env.kindOf Env.blockKind
    rw [he, hk]
    simpa using h
  show (pure (env.blockKind == .function && env.kindOf z == some .local && pz.line == pos.line && !(scope.names.any fun (n, k) => n == z && (k == .local || k == .cell))) : Sem Bool) = _
  rw [h']
theorem swaps_f {elt : Expr} {gens : List Comprehension} {scope sc : Scope} {pos pz : Pos} {z : Str} {line : Nat} {env : Env} (he : env.scope = sc) (hk : sc.kind = .function)
    (h : (sc.names.lookup z == some .local && pz.line == pos.line && !(scope.names.any fun (n, k) => n == z && (k == .local || k == .cell))) = false) :
    swapsWith (.ListComp elt gens scope pos) (some (.Name z pz)) line env = pure false := by
  unfold swapsWith
  have h' : (env.blockKind == .function && env.kindOf z == some .local && pz.line == pos.line && !(scope.names.any fun (n, k) => n == z && (k == .local || k == .cell))) = false := by
    unfold Env.kindOf Env.blockKind
    rw [he, hk]
    simpa using h
  show (pure (env.blockKind == .function && env.kindOf z == some .local && pz.line == pos.line && !(scope.names.any fun (n, k) => n == z && (k == .local || k == .cell))) : Sem Bool) = _
  rw [h']
section
variable {C : Cfg} {n : Nat}
theorem clipAt_nat (l k : Nat) : clipAt l (k : Int) = min k l := by unfold clipAt; omega
theorem cut_take {ks : List Int} (k : Nat) : cut none (some (k : Int)) (ks.map .int) = (ks.take k).map .int := by
  unfold cut
  simp only [Option.elim, clipAt_nat, List.drop_zero, Nat.sub_zero, List.length_map]
  rw [← List.map_take]
  congr 1
  rw [List.take_eq_take_iff]; omega
theorem cut_mid {ks : List Int} (i k : Nat) : cut (some (i : Int)) (some (k : Int)) (ks.map .int) = ((ks.drop i).take (k - i)).map .int := by
  unfold cut
  simp only [Option.elim, clipAt_nat, List.length_map]
  rw [← List.map_drop, ← List.map_take]
  congr 1
  by_cases h : i ≤ ks.length
  · rw [Nat.min_eq_left h, List.take_eq_take_iff, List.length_drop]; omega
  · have h1 : min i ks.length = ks.length := by omega
    rw [h1, List.drop_of_length_le (Nat.le_refl _), List.drop_of_length_le (by omega)]; simp
noncomputable def oct (a d : List Int) : List Int := (a ++ d.drop a.length).map (· % 256)
theorem oct_three (a : List Int) (ha : a.length ≤ 3) (x y z : Int) : ∃ o₀ o₁ o₂, oct a [x, y, z] = [o₀, o₁, o₂] ∧ ∀ v ∈ [o₀, o₁, o₂], 0 ≤ v ∧ v < 256 := by
  have hl : (oct a [x, y, z]).length = 3 := by unfold oct; simp; omega
  have hr : ∀ v ∈ oct a [x, y, z], 0 ≤ v ∧ v < 256 := by
    intro v hv
    obtain ⟨u, _, rfl⟩ := List.mem_map.mp hv
    omega
  match oct a [x, y, z], hl, hr with
  | [o₀, o₁, o₂], _, hr => exact ⟨o₀, o₁, o₂, rfl, hr⟩
theorem fn_octets {ks : List Int} (hk : ks.length ≤ 63) : Fn C (n + 2) 155 [.xlist (ks.map .int)] (.list [.list ((oct (ks.take 3) [157, 90, 201]).map .int), .list ((oct ((ks.drop 3).take 3) [36, 144, 66]).map .int)]) := by
  refine' Fn.mk [(Str.ofString "script", .xlist (ks.map .int))] [Str.ofString "script"] ?h1 ?h2 ?h3 ?h4 ?h5 ?h6 ?h7 ?h8 ?h9 ?h10 ?h11 ?h12 ?h13 ?h14 ?h15
  case h1 => exact rfl
  case h2 => exact rfl
  case h3 => exact rfl
  case h4 => exact rfl
  case h5 => exact rfl
  case h6 => exact rfl
  case h7 => exact rfl
  case h8 => exact rfl
  case h9 => exact rfl
  case h10 => exact rfl
  case h11 => intro s V vs base h; cases h with | cons a b => cases b; exact ⟨_, BindsTo.of_eq rfl, .cons a .nil⟩
  case h12 => exact rfl
  case h13 => decide
  case h14 => decide
  case h15 =>
    have hl1 : (ks.take 3).length ≤ 3 := by simp; omega
    have hl2 : ((ks.drop 3).take 3).length ≤ 3 := by simp; omega
    refine Sxs.cons (Sx.to (ρ₂ := [(Str.ofString "first", .list ((oct (ks.take 3) [157, 90, 201]).map .int)), (Str.ofString "script", .xlist (ks.map .int))]) (Sx.lm [] (fun d => .int (dInt d % 256)) (It.list (Ev.to (b := .list (((ks.take 3) ++ ([157, 90, 201] : List Int).drop ((ks.take 3)).length).map .int)) (Ev.binop (Ev.to (b := .list ((ks.take 3).map .int)) (Ev.cutX (l := none) (h := some (3 : Int)) (Ev.name rfl) trivial Ev.int (by rw [List.length_map]; omega)) (by rw [← cut_take]; rfl)) (Ev.to (b := .list ((([157, 90, 201] : List Int).drop ((ks.take 3)).length).map .int)) (Ev.cut (l := some (((ks.take 3)).length : Int)) (h := none) (Ev.list (ds := ([157, 90, 201] : List Int).map .int) (Evs.cons Ev.int (Evs.cons Ev.int (Evs.cons Ev.int Evs.nil)))) (Ev.intTo (Ev.bcall rfl rfl (by decide +kernel) (Evs.cons (Ev.to (b := .list ((ks.take 3).map .int)) (Ev.cutX (l := none) (h := some (3 : Int)) (Ev.name rfl) trivial Ev.int (by rw [List.length_map]; omega)) (by rw [← cut_take]; rfl)) Evs.nil) (Bf.len (by rw [List.length_map]; omega))) (by rw [List.length_map])) trivial (by decide)) (by rw [cut_drop hl1])) (Bo.addl (by simp; omega))) (by rw [List.map_append]))) (by decide) rfl (by
      intro d hd
      obtain ⟨k, _, rfl⟩ := List.mem_map.mp hd
      exact Ev.intTo (Ev.binop (Ev.name rfl) Ev.int (Bo.fmod (by decide))) (Int.fmod_eq_emod_of_nonneg _ (by decide))) (by simp; omega) rfl (fun _ h => nomatch h) (fun _ he => swaps_t he rfl (by decide))) (lk_cons (by rw [lookup_cons_self]; unfold oct; simp only [List.map_map]; rfl) (lk_cons rfl lk_nil)) (fun _ h => h)) ?_
    exact Sxs.single (Sx.ret (Ev.list (Evs.cons (Ev.name rfl) (Evs.cons (Ev.to (Ev.lm [] (fun d => .int (dInt d % 256)) (It.list (Ev.to (b := .list ((((ks.drop 3).take 3) ++ ([36, 144, 66] : List Int).drop (((ks.drop 3).take 3)).length).map .int)) (Ev.binop (Ev.to (b := .list (((ks.drop 3).take 3).map .int)) (Ev.cutX (l := some (3 : Int)) (h := some (6 : Int)) (Ev.name rfl) Ev.int Ev.int (by rw [List.length_map]; omega)) (by rw [← cut_mid 3 6]; rfl)) (Ev.to (b := .list ((([36, 144, 66] : List Int).drop (((ks.drop 3).take 3)).length).map .int)) (Ev.cut (l := some ((((ks.drop 3).take 3)).length : Int)) (h := none) (Ev.list (ds := ([36, 144, 66] : List Int).map .int) (Evs.cons Ev.int (Evs.cons Ev.int (Evs.cons Ev.int Evs.nil)))) (Ev.intTo (Ev.bcall rfl rfl (by decide +kernel) (Evs.cons (Ev.to (b := .list (((ks.drop 3).take 3).map .int)) (Ev.cutX (l := some (3 : Int)) (h := some (6 : Int)) (Ev.name rfl) Ev.int Ev.int (by rw [List.length_map]; omega)) (by rw [← cut_mid 3 6]; rfl)) Evs.nil) (Bf.len (by rw [List.length_map]; omega))) (by rw [List.length_map])) trivial (by decide)) (by rw [cut_drop hl2])) (Bo.addl (by simp; omega))) (by rw [List.map_append]))) (by decide) rfl (by
      intro d hd
      obtain ⟨k, _, rfl⟩ := List.mem_map.mp hd
      exact Ev.intTo (Ev.binop (Ev.name rfl) Ev.int (Bo.fmod (by decide))) (Int.fmod_eq_emod_of_nonneg _ (by decide))) (by simp; omega)) (by unfold oct; simp only [List.map_map]; rfl)) Evs.nil)) (by show 2 ≤ 1000; decide)))
end
end Mine
end

section
open PySem PySem.W PySem.Calls PyProof.Rows
namespace Mine
set_option maxRecDepth 100000
set_option maxHeartbeats 4000000
section
variable {C : Cfg} {n : Nat}
noncomputable def alpha : Str := Str.ofString "ABCDEFGHIJKLMNOPQRSTUVWXYZabcdefghijklmnopqrstuvwxyz0123456789+/"
theorem alpha_at {v : Int} (h0 : 0 ≤ v) (h1 : v < 64) : alpha.cps[v.toNat]? = some (sgn v).toNat := by
  have : ∀ k : Fin 64, alpha.cps[k.val]? = some (sgn (k.val : Int)).toNat := by decide +kernel
  have := this ⟨v.toNat, by omega⟩
  simp only at this
  rw [this]; congr 3; omega
theorem sext3_lt {o₀ o₁ o₂ : Int} (hv : ∀ v ∈ [o₀, o₁, o₂], 0 ≤ v ∧ v < 256) : ∀ v ∈ sext3 o₀ o₁ o₂, 0 ≤ v ∧ v < 64 := by
  have w0 := hv o₀ (by simp)
  have w1 := hv o₁ (by simp)
  have w2 := hv o₂ (by simp)
  intro v hv'
  unfold sext3 at hv'
  simp only [List.mem_cons, List.not_mem_nil, or_false] at hv'
  rcases hv' with rfl | rfl | rfl | rfl <;> omega
theorem sext2_lt {o₀ o₁ : Int} (hv : ∀ v ∈ [o₀, o₁], 0 ≤ v ∧ v < 256) : ∀ v ∈ sext2 o₀ o₁, 0 ≤ v ∧ v < 64 := by
  have w0 := hv o₀ (by simp)
  have w1 := hv o₁ (by simp)
  intro v hv'
  unfold sext2 at hv'
  simp only [List.mem_cons, List.not_mem_nil, or_false] at hv'
  rcases hv' with rfl | rfl | rfl <;> omega
noncomputable def sg (v : Int) : Nat := (sgn v).toNat
theorem mulOk_eq {k : Int} (h : k = 0 ∨ k = 1) : MulOk (Str.ofString "=") k := by
  unfold MulOk
  rcases h with rfl | rfl
  · exact ⟨by decide, fun h => absurd (by decide) h, fun h => absurd (by decide) h⟩
  · exact ⟨by decide, fun _ h => absurd h (by decide), fun _ h => absurd h (by decide)⟩
theorem fn_text3 {o₀ o₁ o₂ : Int} (hv : ∀ v ∈ [o₀, o₁, o₂], 0 ≤ v ∧ v < 256) : Fn C (n + 3) 172 [.list [.int o₀, .int o₁, .int o₂]] (.str ⟨#[sg (o₀ / 4), sg (o₀ % 4 * 16 + o₁ / 16), sg (o₁ % 16 * 4 + o₂ / 64), sg (o₂ % 64)]⟩) := by
  refine' Fn.mk [(Str.ofString "octets", .list [.int o₀, .int o₁, .int o₂])] [Str.ofString "octets"] ?h1 ?h2 ?h3 ?h4 ?h5 ?h6 ?h7 ?h8 ?h9 ?h10 ?h11 ?h12 ?h13 ?h14 ?h15
  case h1 => exact rfl
  case h2 => exact rfl
  case h3 => exact rfl
  case h4 => exact rfl
  case h5 => exact rfl
  case h6 => exact rfl
  case h7 => exact rfl
  case h8 => exact rfl
  case h9 => exact rfl
  case h10 => exact rfl
  case h11 => intro s V vs base h; cases h with | cons a b => cases b; exact ⟨_, BindsTo.of_eq rfl, .cons a .nil⟩
  case h12 => exact rfl
  case h13 => decide
  case h14 => decide
  case h15 =>
    refine Sxs.single (Sx.ret (Ev.to (Ev.binop (Ev.scall Ev.str (Evs.cons (Ev.to (b := .list (((sext3 o₀ o₁ o₂).map fun v => (⟨#[sg v]⟩ : Str)).map .str)) (Ev.lm [] (fun d => .str ⟨#[sg (dInt d)]⟩) (It.list (Ev.call rfl rfl rfl (Evs.cons (Ev.name rfl) Evs.nil) (fn_nums3 hv))) (by decide) rfl ?elt ?len) ?eq) Evs.nil) (Bf.join ?jl) F.slot_str_join F.type_str_join) (Ev.binop Ev.str (Ev.intTo (b := 0) (Ev.binop Ev.int (Ev.intTo (b := 3) (Ev.bcall rfl rfl (by decide +kernel) (Evs.cons (Ev.name rfl) Evs.nil) (Bf.len (by show 3 ≤ 1000; decide))) rfl) Bo.sub) rfl) (Bo.muls (mulOk_eq (by decide)))) (Bo.adds ?al)) ?fin))
    case elt =>
      intro d hd
      obtain ⟨v, hv', rfl⟩ := List.mem_map.mp hd
      have := sext3_lt hv v hv'
      exact Ev.sub (Ev.call0 rfl rfl rfl fn_signs) (Ev.name rfl) (Su.str (x := alpha) this.1 (by omega) (alpha_at this.1 this.2))
    case len => show 4 ≤ 1000; decide
    case eq => rw [List.map_map, List.map_map]; rfl
    case jl => show _ ≤ 16777216; simp [sext3, Str.length]; try decide
    case al => show 4 ≤ 1000; decide
    case fin => rfl
theorem fn_text2 {o₀ o₁ : Int} (hv : ∀ v ∈ [o₀, o₁], 0 ≤ v ∧ v < 256) : Fn C (n + 3) 172 [.list [.int o₀, .int o₁]] (.str ⟨#[sg (o₀ / 4), sg (o₀ % 4 * 16 + o₁ / 16), sg (o₁ % 16 * 4), 61]⟩) := by
  refine' Fn.mk [(Str.ofString "octets", .list [.int o₀, .int o₁])] [Str.ofString "octets"] ?h1 ?h2 ?h3 ?h4 ?h5 ?h6 ?h7 ?h8 ?h9 ?h10 ?h11 ?h12 ?h13 ?h14 ?h15
  case h1 => exact rfl
  case h2 => exact rfl
  case h3 => exact rfl
  case h4 => exact rfl
  case h5 => exact rfl
  case h6 => exact rfl
  case h7 => exact rfl
  case h8 => exact rfl
  case h9 => exact rfl
  case h10 => exact rfl
  case h11 => intro s V vs base h; cases h with | cons a b => cases b; exact ⟨_, BindsTo.of_eq rfl, .cons a .nil⟩
  case h12 => exact rfl
  case h13 => decide
  case h14 => decide
  case h15 =>
    refine Sxs.single (Sx.ret (Ev.to (Ev.binop (Ev.scall Ev.str (Evs.cons (Ev.to (b := .list (((sext2 o₀ o₁).map fun v => (⟨#[sg v]⟩ : Str)).map .str)) (Ev.lm [] (fun d => .str ⟨#[sg (dInt d)]⟩) (It.list (Ev.call rfl rfl rfl (Evs.cons (Ev.name rfl) Evs.nil) (fn_nums2 hv))) (by decide) rfl ?elt ?len) ?eq) Evs.nil) (Bf.join ?jl) F.slot_str_join F.type_str_join) (Ev.binop Ev.str (Ev.intTo (b := 1) (Ev.binop Ev.int (Ev.intTo (b := 2) (Ev.bcall rfl rfl (by decide +kernel) (Evs.cons (Ev.name rfl) Evs.nil) (Bf.len (by show 2 ≤ 1000; decide))) rfl) Bo.sub) rfl) (Bo.muls (mulOk_eq (by decide)))) (Bo.adds ?al)) ?fin))
    case elt =>
      intro d hd
      obtain ⟨v, hv', rfl⟩ := List.mem_map.mp hd
      have := sext2_lt hv v hv'
      exact Ev.sub (Ev.call0 rfl rfl rfl fn_signs) (Ev.name rfl) (Su.str (x := alpha) this.1 (by omega) (alpha_at this.1 this.2))
    case len => show 3 ≤ 1000; decide
    case eq => rw [List.map_map, List.map_map]; rfl
    case jl => show _ ≤ 16777216; simp [sext2, Str.length]; try decide
    case al => show 4 ≤ 1000; decide
    case fin => rfl
end
end Mine
end

section
open PySem PySem.W PySem.Calls PyProof.Rows
namespace Mine
set_option maxRecDepth 20000
section
variable {C : Cfg} {n : Nat} {sc : Scope} {ρ : Rho} {ow r : Ow} {x y : Str} {xs : List D}
theorem Fre.ext {h h' : Heap} (e : Heap.ExtBut h.objs.size h h') : KeU C.g h h' := .of fun b o q => e b o (Nat.ne_of_lt (Heap.lt_size q)) q

/-- y, z = e, where e gives a list of two -/
theorem Sx.unpack2 {e : Expr} {x y : Str} {px py pos tpos : Pos} {k : Nat} {a b : D} (v : Ev C n sc ρ e (.list [a, b])) (hkx : isLC (sc.names.lookup x) = true) (hky : isLC (sc.names.lookup y) = true) (hx : ∀ xs, (x, xs) ∉ ow) (hy : ∀ xs, (y, xs) ∉ ow) (hn : 1 ≤ n)
    (hsw : ∀ env : Env, env.scope = sc → swapsWithSole [.Tuple [.Name x px, .Name y py] k tpos] e pos.line env = pure false := by intro _ _; rfl)
    (hst : ∀ env : Env, env.scope = sc → swappedStores [.Tuple [.Name x px, .Name y py] k tpos] e env = pure none := by intro _ _; rfl) :
    Sx C n sc ρ ow (.Assign [.Tuple [.Name x px, .Name y py] k tpos] e pos) (.next ((y, b) :: (x, a) :: ρ) ow) := by
  rintro A g₀ V₀ s env he ha ⟨V, st⟩
  refine wpAny_Assign_stores (wpAny_mono (v A s V env he ha st.rd) (fun v s₁ h₁ => ?_) fun _ _ f => f) (hsw env he) (hst env he)
  obtain ⟨k₁, a₁⟩ := h₁
  have st₁ := st.ke k₁.heap
  cases a₁ with
  | list hv hl hs =>
    cases hs with
    | cons qa tl =>
      cases tl with
      | cons qb tl =>
        cases tl
        rename_i l va vb
        show wpAny C.M A (assignAll (.ref l) [PySem.assign (.Tuple [.Name x px, .Name y py] k tpos) env]) _ _ s₁
        refine wpAny_mono (Q := fun _ s' => Post C A g₀ V₀ env (.next ((y, b) :: (x, a) :: ρ) ow) s .next s') (?_ : wpAny C.M A (PySem.assign (.Tuple [.Name x px, .Name y py] k tpos) env (.ref l)) _ _ s₁) (fun _ _ q => q) fun _ _ f => f
        rw [assign_Tuple]
        refine wpAny_bind (wpAny_standAt ?_)
        show wpAny C.M A (do
          let items ← holding [.ref l] (unpackItems (.ref l) 2 none)
          assignInOrder [PySem.assign (.Name x px) env, PySem.assign (.Name y py) env] items) _ _ s₁
        refine wpAny_bind (wpAny_holding (kun_itemsOf (items := #[va, vb]) (ha.handled hn) hl.isList fun h' ext => ?_))
        have kx : KeU C.g s₁.heap h' := Fre.ext ext
        have st₂ := st₁.ke kx
        have qa' := kx.at (V' := Fre (Fre V s.heap) s₁.heap) Fre.sub qa
        have qb' := kx.at (V' := Fre (Fre V s.heap) s₁.heap) Fre.sub qb
        show wpAny C.M A (do
          holding [vb] (PySem.assign (.Name x px) env va)
          (do holding [] (PySem.assign (.Name y py) env vb); pure ())) _ _ _
        refine wpAny_bind (wpAny_holding (wpAny_assign_Name (wpAny_mono (wp_store (s := { s₁ with heap := h' }) st₂ ((isLC_iff hkx).imp (kindOf_of he) (kindOf_of he))) (fun _ s₃ h₃ => ?_) fun _ _ f => f)))
        have st₃ := h₃.2.val st₂ qa' hx
        refine wpAny_bind (wpAny_holding (wpAny_assign_Name (wpAny_mono (wp_store st₃ ((isLC_iff hky).imp (kindOf_of he) (kindOf_of he))) (fun _ s₄ h₄ => ?_) fun _ _ f => f)))
        exact wpAny_pure ⟨((k₁.same.trans ⟨h', s₁.toks, rfl⟩).trans h₃.1).trans h₄.1, rfl, _, h₄.2.val st₃ (h₃.2.at st₂ qb') hy⟩
/-- x, y, z = e, where e gives a list of three -/
theorem Sx.unpack3 {e : Expr} {x y z : Str} {px py pz pos tpos : Pos} {k : Nat} {a b c : D} (v : Ev C n sc ρ e (.list [a, b, c])) (hkx : isLC (sc.names.lookup x) = true) (hky : isLC (sc.names.lookup y) = true) (hkz : isLC (sc.names.lookup z) = true)
    (hx : ∀ xs, (x, xs) ∉ ow) (hy : ∀ xs, (y, xs) ∉ ow) (hz : ∀ xs, (z, xs) ∉ ow) (hn : 1 ≤ n)
    (hsw : ∀ env : Env, env.scope = sc → swapsWithSole [.Tuple [.Name x px, .Name y py, .Name z pz] k tpos] e pos.line env = pure false := by intro _ _; rfl)
    (hst : ∀ env : Env, env.scope = sc → swappedStores [.Tuple [.Name x px, .Name y py, .Name z pz] k tpos] e env = pure none := by intro _ _; rfl) :
    Sx C n sc ρ ow (.Assign [.Tuple [.Name x px, .Name y py, .Name z pz] k tpos] e pos) (.next ((z, c) :: (y, b) :: (x, a) :: ρ) ow) := by
  rintro A g₀ V₀ s env he ha ⟨V, st⟩
  refine wpAny_Assign_stores (wpAny_mono (v A s V env he ha st.rd) (fun v s₁ h₁ => ?_) fun _ _ f => f) (hsw env he) (hst env he)
  obtain ⟨k₁, a₁⟩ := h₁
  have st₁ := st.ke k₁.heap
  cases a₁ with
  | list hv hl hs =>
    cases hs with
    | cons qa tl =>
      cases tl with
      | cons qb tl =>
        cases tl with
        | cons qc tl =>
          cases tl
          rename_i l va vb vc
          refine wpAny_mono (Q := fun _ s' => Post C A g₀ V₀ env (.next ((z, c) :: (y, b) :: (x, a) :: ρ) ow) s .next s') (?_ : wpAny C.M A (PySem.assign (.Tuple [.Name x px, .Name y py, .Name z pz] k tpos) env (.ref l)) _ _ s₁) (fun _ _ q => q) fun _ _ f => f
          rw [assign_Tuple]
          refine wpAny_bind (wpAny_standAt ?_)
          show wpAny C.M A (do
            let items ← holding [.ref l] (unpackItems (.ref l) 3 none)
            assignInOrder [PySem.assign (.Name x px) env, PySem.assign (.Name y py) env, PySem.assign (.Name z pz) env] items) _ _ s₁
          refine wpAny_bind (wpAny_holding (kun_itemsOf (items := #[va, vb, vc]) (ha.handled hn) hl.isList fun h' ext => ?_))
          have kx : KeU C.g s₁.heap h' := Fre.ext ext
          have st₂ := st₁.ke kx
          have qa' := kx.at (V' := Fre (Fre V s.heap) s₁.heap) Fre.sub qa
          have qb' := kx.at (V' := Fre (Fre V s.heap) s₁.heap) Fre.sub qb
          have qc' := kx.at (V' := Fre (Fre V s.heap) s₁.heap) Fre.sub qc
          show wpAny C.M A (do
            holding [vb, vc] (PySem.assign (.Name x px) env va)
            (do holding [vc] (PySem.assign (.Name y py) env vb); (do holding [] (PySem.assign (.Name z pz) env vc); pure ()))) _ _ _
          refine wpAny_bind (wpAny_holding (wpAny_assign_Name (wpAny_mono (wp_store (s := { s₁ with heap := h' }) st₂ ((isLC_iff hkx).imp (kindOf_of he) (kindOf_of he))) (fun _ s₃ h₃ => ?_) fun _ _ f => f)))
          have st₃ := h₃.2.val st₂ qa' hx
          refine wpAny_bind (wpAny_holding (wpAny_assign_Name (wpAny_mono (wp_store st₃ ((isLC_iff hky).imp (kindOf_of he) (kindOf_of he))) (fun _ s₄ h₄ => ?_) fun _ _ f => f)))
          have st₄ := h₄.2.val st₃ (h₃.2.at st₂ qb') hy
          refine wpAny_bind (wpAny_holding (wpAny_assign_Name (wpAny_mono (wp_store st₄ ((isLC_iff hkz).imp (kindOf_of he) (kindOf_of he))) (fun _ s₅ h₅ => ?_) fun _ _ f => f)))
          exact wpAny_pure ⟨(((k₁.same.trans ⟨h', s₁.toks, rfl⟩).trans h₃.1).trans h₄.1).trans h₅.1, rfl, _, h₅.2.val st₄ (h₄.2.at st₃ (h₃.2.at st₂ qc')) hz⟩

/-! x += list -/
theorem fillsI_list : fillsInplaceSlot (.type "list") "add" (Operator.Add == .Add) = pure false := by
  unfold fillsInplaceSlot
  show (typeLookup (.type "list") (dunderI "add") >>= fun fi => pure (fi.isSome && !isSeqSlot fi)) = pure false
  rw [F.slot_list_iadd.lookup, pure_bind]
  have : isSeqSlot (some (.builtin "list.__iadd__")) = true := by decide +kernel
  rw [this]; rfl
theorem seqI_list : seqSlot? (.type "list") (dunderI "add") = pure (some (.builtin "list.__iadd__")) := by
  unfold seqSlot?
  rw [F.slot_list_iadd.lookup, pure_bind]
  have : isSeqSlot (some (.builtin "list.__iadd__")) = true := by decide +kernel
  simp only [this]; rfl
theorem iadd_lists {A : Around} {s : Shared} {a b : Addr} {us vs : List Value} {Q : Value → Shared → Prop} {E : Value → Shared → Prop} (la : s.heap.PlainList a us.toArray) (lb : s.heap.PlainList b vs.toArray) (hz : us.length + vs.length ≤ 1000)
    (h : ∀ h', Heap.SameBut a s.heap h' → h'.PlainList a (us ++ vs).toArray → Q (.ref a) { s with heap := h' }) : wpAny C.M A (inplaceOp .Add (.ref a) (.ref b)) Q E s := by
  unfold inplaceOp
  refine wpAny_holding ?_
  obtain ⟨n1, e1⟩ := la
  obtain ⟨n2, e2⟩ := lb
  have ta : s.TypeIs (.ref a) "list" := ⟨_, e1, rfl⟩
  have tb : s.TypeIs (.ref b) "list" := ⟨_, e2, rfl⟩
  refine wpAny_bind (wpAny_typeOf ta (wpAny_bind (wpAny_of_eq fillsI_list ?_)))
  rw [if_neg Bool.false_ne_true]
  refine wpAny_bind (wpAny_binaryOp1_none (nm := "add") ta tb noFill_list_add ?_)
  refine wpAny_bind (wpAny_of_eq seqI_list ?_)
  refine wpAny_bind (wpAny_rule ?_)
  refine call_meets F.slot_list_iadd ta F.entry_list_iadd (F.args_list_iadd_2 _ _) (AutoSeq1.list___iadd___list_list_0 a us.toArray n1 b vs.toArray n2 ?_ ?_ ?_) ⟨e1, e2, ?_⟩
  · unfold Builtin.List.listTooLong
    rw [List.size_toArray, List.size_toArray]
    have : ¬ (us.length + vs.length > sizeLine) := by have : (1000 : Nat) ≤ sizeLine := by decide
                                                      omega
    simp [this]
  · rw [List.size_toArray]; exact Nat.le_trans (by omega) (by decide : (1000 : Nat) ≤ sizeLine)
  · rw [List.size_toArray, List.size_toArray]; exact Nat.le_trans hz (by decide)
  · have q := IsL.update e1 (fun q => q ++ vs.toArray)
    have e3 : us.toArray ++ vs.toArray = (us ++ vs).toArray := by simp
    rw [e3] at q
    exact h _ (Heap.SameBut.update ..) ⟨_, q⟩
theorem Sx.iaddl {px pos : Pos} {e : Expr} {ds : List D} (v : Ev C n sc ρ e (.list ds)) (hr : ∀ ys, (x, ys) ∉ r) (hlen : xs.length + ds.length ≤ 1000) (hk : isLC (sc.names.lookup x) = true) (hρ : ρ.lookup x = none)
    (hc : (x == ("__classdict__" : Str)) = false := by decide) : Sx C n sc ρ ((x, xs) :: r) (.AugAssign (.Name x px) .Add e pos) (.next ρ ((x, xs ++ ds) :: r)) := by
  rintro A g₀ V₀ s env he hA ⟨V, st⟩
  refine wpAny_AugAssign_Name ?_
  obtain ⟨a, vs, lk, hl', _⟩ := st.setOwn hr
  have ld : ∀ {Q : Value → Shared → Prop}, Q (.ref a) s → wpAny C.M A (loadName env x) Q (fun _ _ => False) s := fun q => by
    rcases lk with ⟨hk', m, hm, hv⟩ | ⟨hk' | hk', c, hc1, hv⟩
    · exact wpAny_loadName_local st.kind hk' hm hv q
    · exact wpAny_loadName_cell st.kind hk' hc1 hv q
    · exact wpAny_loadName_free st.kind hk' hc1 hv q hc
  refine ld (wpAny_mono (v A s V env he hA st.rd) (fun v₂ s₁ h₁ => ?_) fun _ _ f => f)
  obtain ⟨k₁, a₁⟩ := h₁
  cases a₁ with
  | list hv hl₂ hs₂ =>
    rename_i b us
    have st₁ := st.ke k₁.heap
    obtain ⟨a', vs', lk', hl₁, hs', hV', hg', set⟩ := st₁.setOwn hr
    have ea : a = a' := Value.ref.inj (lk_unique (lk.keeps k₁.heap) lk')
    subst ea
    refine iadd_lists hl₁ hl₂ (by rw [hs'.length, hs₂.length]; exact hlen) fun h' sb hl₃ => ?_
    have st₂ := set h' (vs' ++ us) (xs ++ ds) sb hl₃ (hs'.append hs₂)
    have hxr := (st₂.perm (ow' := r) fun p hp => .tail _ hp)
    refine wpAny_mono (wp_store (s := { s₁ with heap := h' }) st₂ ((isLC_iff hk).imp (kindOf_of he) (kindOf_of he))) (fun _ s₃ h₃ => ?_) fun _ _ f => f
    refine ⟨(k₁.same.trans ⟨h', s₁.toks, rfl⟩).trans h₃.1, rfl, _, h₃.2.owned hxr hl₃ ?_ hV' hg' ?_ hr hρ⟩
    · exact (hs'.append hs₂).mono fun b o hv e _ => ⟨hv, sb.extBut b o (fun q => hV' (q ▸ hv)) e⟩
    · intro y ys us' hy lky _
      have hL : a ≠ env.locals := st₁.notL hl₁.choose_spec (by intro _ _ q; cases q)
      have hC : ∀ y c, env.cells.lookup y = some c → a ≠ c := st₁.notC hl₁.choose_spec (by intro _ q; cases q)
      have lkx : Lk h' env x (.ref a) := by
        rcases lk' with ⟨a1, m, b1, c1⟩ | ⟨a1, c, b1, d1⟩
        · exact .inl ⟨a1, m, b1.sameBut sb (Ne.symm hL), c1⟩
        · exact .inr ⟨a1, c, b1, d1.sameBut sb (Ne.symm (hC _ c b1))⟩
      obtain ⟨ad, H⟩ := st₂.own
      obtain ⟨⟨_, lx, _⟩, _, _, hu⟩ := H x _ (.head _)
      obtain ⟨⟨_, ly, _⟩, _⟩ := H y ys (.tail _ hy)
      have e1 : ad x = a := Value.ref.inj (lk_unique lx lkx)
      have e2 : ad y = a := Value.ref.inj (lk_unique ly lky)
      have : y = x := hu y ys (.tail _ hy) (e2.trans e1.symm)
      exact hr ys (this ▸ hy)
end
end Mine
end

section
open PySem PySem.W PySem.Calls PyProof.Rows
namespace Mine
set_option maxRecDepth 100000
set_option maxHeartbeats 4000000
section
variable {C : Cfg} {n : Nat} {sc : Scope} {ρ : Rho}
theorem isTup_isTuple {h : Heap} {a : Addr} {its : Array Value} (l : IsTup h a its) : h.IsTuple a its := l
theorem It.tuple {e : Expr} {items : List D} (x : Ev C n sc ρ e (.tuple items)) (hn : 1 ≤ n := by omega) : It C n sc ρ e items := by
  intro A s V env he hA rd
  refine wpAny_mono (x A s V env he hA rd) (fun v s₁ h₁ => ?_) fun _ _ f => f
  obtain ⟨k₁, a⟩ := h₁
  cases a with
  | tuple hv hl hs =>
    rename_i a vs
    have hlt : a ≠ s₁.heap.objs.size := by obtain ⟨o, e, _⟩ := hl; exact Nat.ne_of_lt (Heap.lt_size e)
    refine iter_tuple hl ⟨k₁.trans (.mkh (.push _)), s₁.heap.objs.size, [s₁.heap.objs.size, a], [s₁.heap.objs.size], fun i v => vs.toArray[i]? = some v, fun i h => h.IsTupleIter s₁.heap.objs.size a i ∧ h.IsTuple a vs.toArray, rfl, ?_, ?_, ?_, ?_, ?_, ?_⟩
    · have W := Walks.tuple (prog := PySem.Challenge.rw_oy0148_01.row.prog) (w := C.w) (hA.handled hn) s₁.heap.objs.size a hlt vs.toArray
      have e : vs.toArray.size = items.length := by rw [List.size_toArray]; exact hs.length
      rw [← e]; exact W
    · exact ⟨⟨_, Heap.get?_push_size _ rfl, rfl, rfl⟩, (by obtain ⟨o, e, c⟩ := hl; exact ⟨o, Heap.get?_push_of_some _ e, c⟩)⟩
    · rintro i h b ⟨⟨o, e, _, d⟩, o', e', _, _, d'⟩ hb
      rcases List.mem_cons.mp hb with rfl | hb
      · exact ⟨o, e, by rw [d]; intro _ _ q; cases q⟩
      · rw [List.mem_singleton.mp hb]; exact ⟨o', e', by rw [d']; intro _ _ q; cases q⟩
    · rintro i h b ⟨⟨o, e, _, d⟩, _⟩ hb
      rw [List.mem_singleton.mp hb]; exact ⟨o, e, _, d⟩
    · intro b hb
      rw [List.mem_singleton.mp hb]; exact k₁.heap.none (Heap.get?_none_of_le (Nat.le_refl _))
    · intro i v hv
      obtain ⟨d, e, a⟩ := hs.get' (by simpa using hv)
      exact ⟨d, e, (KeU.push (g := C.g) _).at (fun _ q => q) a⟩
theorem alpha_occ {v : Int} (h0 : 0 ≤ v) (h1 : v < 64) : Builtin.Str.occurrences alpha ⟨#[sg v]⟩ 0 alpha.length 1 = [v.toNat] := by
  have : ∀ k : Fin 64, Builtin.Str.occurrences alpha ⟨#[sg (k.val : Int)]⟩ 0 alpha.length 1 = [k.val] := by decide +kernel
  have := this ⟨v.toNat, by omega⟩
  simp only at this
  have e : ((v.toNat : Nat) : Int) = v := by omega
  rw [e] at this; exact this
theorem Bf.index {v : Int} (h0 : 0 ≤ v) (h1 : v < 64) : Bf C n (.builtin "str.index") [.str alpha, .str ⟨#[sg v]⟩] (.int v) := by
  intro A s V vs hA base q
  cases q with
  | cons a tl =>
    cases tl with
    | cons b tl =>
      cases tl; cases a; cases b
      refine SC.index (alpha_occ h0 h1) ⟨.toks, ?_⟩
      have e : ((v.toNat : Nat) : Int) = v := by omega
      rw [e]; exact .int _ _
end
end Mine
end

section
open PySem PySem.W PySem.Calls PyProof.Rows
namespace Mine
set_option maxRecDepth 100000
set_option maxHeartbeats 4000000
/-- the number of a sign -/
noncomputable def usg (c : Int) : Int := if 97 ≤ c then c - 71 else if 65 ≤ c then c - 65 else if c = 43 then 62 else if c = 47 then 63 else c + 4
theorem usg_sgn {v : Int} (h0 : 0 ≤ v) (h1 : v < 64) : usg (sgn v) = v := by
  unfold sgn usg
  split
  · rw [if_neg (by omega), if_pos (by omega)]; omega
  · split
    · rw [if_pos (by omega)]; omega
    · split
      · rw [if_neg (by omega), if_neg (by omega), if_neg (by omega), if_neg (by omega)]; omega
      · split
        · rename_i h; rw [h]; decide
        · have : v = 63 := by omega
          rw [this]; decide
/-- the rows that two numbers lay -/
noncomputable def rowsOf (m y : Int) : List (List Int) := (placesN y).map fun (j : Nat) => (placesN m).map fun (i : Nat) => (i : Int) + (j : Int)
noncomputable def lay (p q : Nat → Int) : Nat → List (List Int)
  | 0 => []
  | k + 1 => lay p q k ++ rowsOf (p k) (q k)
noncomputable def dRows (l : List (List Int)) : List D := l.map fun r => .list (r.map .int)
theorem placesN_len (m : Int) : (placesN m).length ≤ 14 := by
  unfold placesN
  exact Nat.le_trans (List.length_filter_le _ _) (by simp)
theorem lay_len (p q : Nat → Int) : ∀ k, (lay p q k).length ≤ 14 * k
  | 0 => by simp [lay]
  | k + 1 => by
    have := lay_len p q k
    have := placesN_len (q k)
    unfold lay rowsOf
    simp only [List.length_append, List.length_map]; omega
noncomputable def laidOut (k : Nat) : D → D
  | .bytes b => .list (placesD (usg ((b.toList.getD k 0).toNat : Int)))
  | _ => .none
section
variable {C : Cfg} {n : Nat}
noncomputable def lσ (b₁ b₂ : Array UInt8) (p q : Nat → Int) (k : Nat) : Rho × Ow := ([(Str.ofString "one", .bytes b₁), (Str.ofString "two", .bytes b₂)], [(Str.ofString "rows", dRows (lay p q k))])
theorem range4i {i : Nat} {k : Int} (h : ([0, 1, 2, 3] : List Int)[i]? = some k) : i < 4 ∧ k = (i : Int) := by
  match i, h with
  | 0, h => cases h; exact ⟨by decide, rfl⟩
  | 1, h => cases h; exact ⟨by decide, rfl⟩
  | 2, h => cases h; exact ⟨by decide, rfl⟩
  | 3, h => cases h; exact ⟨by decide, rfl⟩
  | (j + 4), h => simp at h
theorem fn_laid {b₁ b₂ : Array UInt8} {p q : Nat → Int} (hp : ∀ k, k < 4 → 0 ≤ p k ∧ p k < 64 ∧ ((b₁.toList.getD k 0).toNat : Int) = sgn (p k)) (hq : ∀ k, k < 4 → 0 ≤ q k ∧ q k < 64 ∧ ((b₂.toList.getD k 0).toNat : Int) = sgn (q k)) (z₁ : b₁.size = 4) (z₂ : b₂.size = 4) :
    Fn C (n + 3) 182 [.bytes b₁, .bytes b₂] (.list (dRows (lay p q 4))) := by
  refine' Fn.mk [(Str.ofString "one", .bytes b₁), (Str.ofString "two", .bytes b₂)] [Str.ofString "one", Str.ofString "two"] ?h1 ?h2 ?h3 ?h4 ?h5 ?h6 ?h7 ?h8 ?h9 ?h10 ?h11 ?h12 ?h13 ?h14 ?h15
  case h1 => exact rfl
  case h2 => exact rfl
  case h3 => exact rfl
  case h4 => exact rfl
  case h5 => exact rfl
  case h6 => exact rfl
  case h7 => exact rfl
  case h8 => exact rfl
  case h9 => exact rfl
  case h10 => exact rfl
  case h11 => intro s V vs base h; cases h with | cons a b => cases b with | cons b c => cases c; exact ⟨_, BindsTo.of_eq rfl, .cons a (.cons b .nil)⟩
  case h12 => exact rfl
  case h13 => decide
  case h14 => decide
  case h15 =>
    refine Sxs.cons (Sx.newList rfl (fun _ h => nomatch h) rfl) ?_
    refine Sxs.cons (Sx.forI (lσ b₁ b₂ p q) (ns := [0, 1, 2, 3]) rfl (ItF.range rfl Ev.int (by decide) (by decide)) rfl ?hxo ?hbody) ?_
    case hxo => exact fun i ys => own1 (by decide) ys
    case hbody =>
      intro i k hk
      obtain ⟨hi, rfl⟩ := range4i hk
      obtain ⟨p0, p1, p2⟩ := hp i hi
      obtain ⟨q0, q1, q2⟩ := hq i hi
      refine Sxs.cons (Sx.unpack2 (a := .list (placesD (p i))) (b := .list (placesD (q i))) (Ev.to (Ev.lm [Str.ofString "k"] (laidOut i) (It.tuple (Ev.tuple (Evs.cons (Ev.name rfl) (Evs.cons (Ev.name rfl) Evs.nil)) (by show 2 ≤ 1000; decide))) (by decide) rfl ?elt (by show 2 ≤ 1000; decide)) ?eq) rfl rfl (own1 (by decide)) (own1 (by decide)) (by omega)) ?_
      case elt =>
        intro d hd
        obtain ⟨b, v, v0, v1, z, e, rfl⟩ : ∃ (b : Array UInt8) (v : Int), 0 ≤ v ∧ v < 64 ∧ b.size = 4 ∧ ((b.toList.getD i 0).toNat : Int) = sgn v ∧ d = D.bytes b := by
          rcases List.mem_cons.mp hd with hd | hd
          · exact ⟨b₁, p i, p0, p1, z₁, p2, hd⟩
          · exact ⟨b₂, q i, q0, q1, z₂, q2, List.mem_singleton.mp hd⟩
        have s := sgn_range v0 v1
        show Ev _ _ _ _ _ (.list (placesD (usg ((b.toList.getD i 0).toNat : Int))))
        rw [e, usg_sgn v0 v1]
        exact Ev.call rfl rfl rfl (Evs.cons (Ev.scall (x₀ := alpha) (Ev.call0 rfl rfl rfl fn_signs) (Evs.cons (Ev.bcall rfl rfl (by decide +kernel) (Evs.cons (Ev.sub (Ev.name rfl) (Ev.name rfl) (Su.bytes (k := sgn v) (by omega) (by omega) (by omega) e)) Evs.nil) (Bf.chr s.1 s.2)) Evs.nil) (Bf.index v0 v1) F.slot_str_index F.type_str_index) Evs.nil) fn_places
      case eq =>
        show D.list [.list (placesD (usg ((b₁.toList.getD i 0).toNat : Int))), .list (placesD (usg ((b₂.toList.getD i 0).toNat : Int)))] = _
        rw [p2, q2, usg_sgn p0 p1, usg_sgn q0 q1]
      have hl := placesN_len (q i)
      have hm := placesN_len (p i)
      have hl2 := lay_len p q i
      refine Sxs.to (Sxs.single (Sx.iaddl (Ev.to (b := .list (dRows (rowsOf (p i) (q i)))) (Ev.lm [Str.ofString "mine"] (fun j => .list ((placesD (p i)).map fun d => .int (dInt d + dInt j))) (It.list (Ev.name rfl)) (by decide) rfl ?elt2 ?len2) ?eq2) (fun _ h => nomatch h) ?len3 rfl rfl)) (lk_cons rfl (lk_cons rfl lk_nil)) ?own
      case elt2 =>
        intro d hd
        obtain ⟨j, _, rfl⟩ := List.mem_map.mp hd
        refine Ev.lm [Str.ofString "j"] (fun d => .int (dInt d + (j : Int))) (It.list (Ev.name rfl)) (by decide) rfl ?_ ?_
        · intro d hd
          obtain ⟨m, _, rfl⟩ := List.mem_map.mp hd
          exact Ev.binop (Ev.name rfl) (Ev.name rfl) Bo.add
        · unfold placesD; rw [List.length_map]; omega
      case len2 => unfold placesD; rw [List.length_map]; omega
      case eq2 => unfold dRows rowsOf placesD; simp only [List.map_map]; congr 1; apply List.map_congr_left; intro j _; show D.list _ = D.list (List.map _ (List.map _ _)); rw [List.map_map]; rfl
      case len3 => unfold dRows rowsOf; simp only [List.length_map]; omega
      case own =>
        show ∀ p' ∈ [(Str.ofString "rows", dRows (lay p q i ++ rowsOf (p i) (q i)))], _
        unfold dRows; rw [List.map_append]; exact fun _ h => h
    refine Sxs.freeze (fun _ h => nomatch h) ?_
    exact Sxs.single (Sx.ret (Ev.name rfl))
end
end Mine
end

section
open PySem PySem.W PySem.Calls PyProof.Rows
namespace Mine
set_option maxRecDepth 20000
section
variable {C : Cfg} {n : Nat} {sc : Scope} {ρ : Rho}
theorem Ev.neg {e : Expr} {pos : Pos} {a : Int} (x : Ev C n sc ρ e (.int a)) : Ev C n sc ρ (.UnaryOp .USub e pos) (.int (-a)) := by
  intro A s V env he hA rd
  refine wpAny_UnaryOp (wpAny_mono (x A s V env he hA rd) (fun v s₁ h₁ => ?_) fun _ _ f => f)
  obtain ⟨k, a⟩ := h₁
  cases a
  exact PyProof.Rows.neg_int ⟨k.trans .toks, .int _ _⟩
theorem Co.neI {ns ms : List Int} : Co C n .NotEq (.list (ns.map .int)) (.list (ms.map .int)) (!decide (ns = ms)) := by
  intro A s V v₁ v₂ hA _ x y
  cases x with
  | list hv hl hs =>
    cases y with
    | list hv' hl' hs' => exact ke_ne_ints hl.isList hl'.isList hs.ints hs'.ints (by have := hA.units; unfold cLine; omega) ⟨.refl, rfl⟩
theorem Ats.replicate {h : Heap} {V : Addr → Prop} {v : Value} {d : D} (q : At h V v d) : ∀ k, Ats h V (List.replicate k v) (List.replicate k d)
  | 0 => .nil
  | k + 1 => .cons q (Ats.replicate q k)
theorem rep_arr {v : Value} {k : Nat} (hk : k ≤ 2) : List.foldl (fun x1 x2 => x1 ++ x2) #[] (List.replicate (if ([v].toArray).isEmpty = true then 0 else ((k : Int)).toNat) [v].toArray) = (List.replicate k v).toArray := by
  match k, hk with
  | 0, _ => rfl
  | 1, _ => rfl
  | 2, _ => rfl
/-- a list times a number: the whole heap is kept below -/
theorem mulL {A : Around} {s : Shared} {E : Value → Shared → Prop} {a : Addr} {items : Array Value} {c : Nat} {x : Int} {u : Tok} {Q : Value → Shared → Prop}
    (e : s.heap.get? a = some { cls := .type "list", data := .seq items c }) (h1 : 0 ≤ x) (h2 : x < 1000) (hz : items.size * x.toNat ≤ 1000)
    (h : Q (.ref s.heap.objs.size) { s with heap := s.heap.push { cls := .type "list", data := .seq (List.foldl (fun x1 x2 => x1 ++ x2) #[] (List.replicate (if items.isEmpty = true then 0 else x.toNat) items)) } }) :
    wpAny C.M A (binaryOp .Mult (.ref a) (.int x u)) Q E s := by
  have z1 : ¬(!Builtin.List.listFitsIndex x) = true := by simp [Builtin.List.listFitsIndex]; omega
  have z2 : ¬items.size * x.toNat > (2 ^ 63 - 1) / 8 := Nat.not_lt.mpr (Nat.le_trans hz (by decide))
  have z3 : ¬Builtin.List.listTooLong (items.size * x.toNat) = true := by
    have : (1000 : Nat) ≤ sizeLine := by decide
    simp [Builtin.List.listTooLong]; omega
  exact wpAny_binaryOp_repeat_ref (T := "list") (U := "int") (by decide) ⟨_, e, rfl⟩ (fun s' => typeIs_int s' x u) noFill_list_mul F.fills_int_mul F.slot_int_rmul repeat_list F.slot_int_index.lookup
    (call_meets F.slot_int_rmul (typeIs_int s x u) F.entry_int_rmul (F.args_int_rmul_2 _ _) (int___rmul___int_list x u a items c)
      ⟨e, rfl, ⟨_, e, rfl⟩, call_meets F.slot_list_mul ⟨_, e, rfl⟩ F.entry_list_mul (F.args_list_mul_2 _ _) (AutoListH.list___mul___list_int_3 a items c x u z1 z2 z3) ⟨e, h⟩⟩)
theorem Bo.mul1 {d : D} {k : Nat} (hk : k ≤ 2) : Bo C n .Mult (.list [d]) (.int (k : Int)) (.list (List.replicate k d)) := by
  intro A s V v₁ v₂ hA base x y
  cases x with
  | list hv hl hs =>
    cases hs with
    | cons qa tl =>
      cases tl
      rename_i a v
      cases y with
      | int _ u =>
        obtain ⟨c, e⟩ := id hl
        have q : wpAny C.M A (binaryOp .Mult (.ref a) (.int (k : Int) u)) (fun w s' => Ke C.g s s' ∧ w = .ref s.heap.objs.size ∧ s'.heap.PlainList s.heap.objs.size (List.replicate k v).toArray) (fun _ _ => False) s := by
          refine mulL e (by omega) (by omega) (by simp; omega) ?_
          refine ⟨⟨_, _, rfl, .of fun _ _ e => Heap.get?_push_of_some _ e⟩, rfl, 0, ?_⟩
          rw [← rep_arr hk]
          exact Heap.get?_push_size _ rfl
        refine wpAny_mono q (fun w s' ⟨k', e', l⟩ => ⟨k', ?_⟩) fun _ _ f => f
        subst e'
        refine .list (.inr (Heap.get?_none_of_le (Nat.le_refl _))) l ?_
        have qa' := k'.heap.at (V' := Fre V s.heap) Fre.sub qa
        exact Ats.replicate qa' k
end
end Mine
end

section
namespace Mine
/-! sorted_list_difference and unorderable_list_difference, of rising lists -/
theorem rising_nodup {l : List Int} (h : l.Pairwise (· < ·)) : l.Nodup := h.imp fun {a b} q e => by omega
theorem isort_eq {l m : List Int} (hm : m.Pairwise (· < ·)) (nd : l.Nodup) (mem : ∀ a, a ∈ l ↔ a ∈ m) : isort l = m := by
  refine sorted_unique ((isort_perm l).trans ?_) (isort_sorted l) (hm.imp fun {a b} q => by omega)
  exact (List.perm_ext_iff_of_nodup nd (rising_nodup hm)).mpr mem
theorem sdiff_mem : ∀ (k : Nat) (xs ys : List Int), xs.length + ys.length ≤ k → xs.Pairwise (· < ·) → ys.Pairwise (· < ·) → (sdiff xs ys).1 = xs.filter (fun a => !ys.contains a) ∧ (sdiff xs ys).2 = ys.filter (fun a => !xs.contains a)
  | 0, [], [], _, _, _ => by rw [sdiff_nil_l]; simp
  | 0, x :: xs, _, h, _, _ => by simp at h
  | 0, [], y :: ys, h, _, _ => by simp at h
  | k + 1, [], ys, _, _, _ => by
    rw [sdiff_nil_l]
    refine ⟨rfl, ?_⟩
    rw [List.filter_eq_self.mpr]
    intro a _; simp
  | k + 1, x :: xs, [], _, _, _ => by
    rw [sdiff_nil_r]
    refine ⟨?_, rfl⟩
    rw [List.filter_eq_self.mpr]
    intro a _; simp
  | k + 1, x :: xs, y :: ys, h, hx, hy => by
    have hx' := List.pairwise_cons.mp hx
    have hy' := List.pairwise_cons.mp hy
    simp only [List.length_cons] at h
    rw [sdiff_cons]
    by_cases c1 : x < y
    · rw [if_pos c1]
      obtain ⟨e1, e2⟩ := sdiff_mem k xs (y :: ys) (by simp only [List.length_cons]; omega) hx'.2 hy
      have nx : (y :: ys).contains x = false := by
        rw [List.contains_eq_mem, decide_eq_false_iff_not]
        intro q
        rcases List.mem_cons.mp q with q | q
        · omega
        · have := hy'.1 x q; omega
      dsimp only
      rw [e1, e2]
      refine ⟨by rw [List.filter_cons, nx]; simp, ?_⟩
      apply List.filter_congr
      intro a ha
      have : a ≠ x := by
        rintro rfl
        rw [List.contains_eq_mem, decide_eq_false_iff_not] at nx
        exact nx ha
      simp [this]
    · rw [if_neg c1]
      by_cases c2 : y < x
      · rw [if_pos c2]
        obtain ⟨e1, e2⟩ := sdiff_mem k (x :: xs) ys (by simp only [List.length_cons]; omega) hx hy'.2
        have ny : (x :: xs).contains y = false := by
          rw [List.contains_eq_mem, decide_eq_false_iff_not]
          intro q
          rcases List.mem_cons.mp q with q | q
          · omega
          · have := hx'.1 y q; omega
        dsimp only
        rw [e1, e2]
        refine ⟨?_, by rw [List.filter_cons, ny]; simp⟩
        apply List.filter_congr
        intro a ha
        have : a ≠ y := by
          rintro rfl
          rw [List.contains_eq_mem, decide_eq_false_iff_not] at ny
          exact ny ha
        simp [this]
      · rw [if_neg c2]
        have e : x = y := by omega
        subst e
        obtain ⟨e1, e2⟩ := sdiff_mem k xs ys (by omega) hx'.2 hy'.2
        rw [e1, e2]
        constructor
        · rw [List.filter_cons]
          simp only [List.contains_cons, BEq.rfl, Bool.true_or, Bool.not_true, Bool.false_eq_true, if_false]
          apply List.filter_congr
          intro a ha
          have : a ≠ x := by have := hx'.1 a ha; omega
          simp [this]
        · rw [List.filter_cons]
          simp only [List.contains_cons, BEq.rfl, Bool.true_or, Bool.not_true, Bool.false_eq_true, if_false]
          apply List.filter_congr
          intro a ha
          have : a ≠ x := by have := hy'.1 a ha; omega
          simp [this]
theorem ud_mem : ∀ (r ys ms : List Int), r.Nodup → ys.Nodup → (ud r ys ms).1 = ms ++ r.filter (fun a => !ys.contains a) ∧ (ud r ys ms).2 = ys.filter (fun a => !r.contains a)
  | [], ys, ms, _, _ => by
    refine ⟨by simp [ud], ?_⟩
    show ys = _
    rw [List.filter_eq_self.mpr]
    intro a _; simp
  | k :: r, ys, ms, hr, hy => by
    obtain ⟨hk, hr'⟩ := List.nodup_cons.mp hr
    unfold ud
    by_cases hm : k ∈ ys
    · rw [if_pos hm]
      obtain ⟨e1, e2⟩ := ud_mem r (ys.erase k) ms hr' (hy.erase k)
      rw [e1, e2]
      constructor
      · congr 1
        rw [List.filter_cons]
        simp only [List.contains_eq_mem, hm, decide_true, Bool.not_true, Bool.false_eq_true, if_false]
        apply List.filter_congr
        intro a ha
        have : a ≠ k := by rintro rfl; exact hk ha
        simp [hy.mem_erase_iff, this]
      · rw [hy.erase_eq_filter, List.filter_filter]
        apply List.filter_congr
        intro a _
        by_cases c : a = k <;> simp [c]
    · rw [if_neg hm]
      obtain ⟨e1, e2⟩ := ud_mem r ys (ms ++ [k]) hr' hy
      rw [e1, e2]
      constructor
      · rw [List.filter_cons]
        simp [List.contains_eq_mem, hm]
      · apply List.filter_congr
        intro a ha
        have : a ≠ k := by rintro rfl; exact hm ha
        simp [this]
end Mine
end

section
namespace Mine
noncomputable def bitsN (m : Nat) : List Nat := (List.range 14).filter m.testBit
noncomputable def P (m : Nat) : List Int := (bitsN m).map fun (i : Nat) => (i : Int)
theorem placesN_bits (m : Nat) : placesN (m : Int) = bitsN m := by
  unfold placesN bitsN
  apply List.filter_congr
  intro k _
  have e1 : Int.fdiv (m : Int) (2 ^ k) = ((m / 2 ^ k : Nat) : Int) := by
    rw [Int.fdiv_eq_ediv_of_nonneg _ (by exact_mod_cast Nat.zero_le (2 ^ k))]; push_cast; rfl
  have e2 : Int.fmod ((m / 2 ^ k : Nat) : Int) 2 = ((m / 2 ^ k % 2 : Nat) : Int) := by
    rw [Int.fmod_eq_emod_of_nonneg _ (by decide)]; push_cast; rfl
  rw [e1, e2, Nat.testBit_eq_decide_div_mod_eq]
  by_cases h : m / 2 ^ k % 2 = 1
  · rw [h]; simp
  · have h0 : m / 2 ^ k % 2 = 0 := by omega
    rw [h0]; rfl
theorem placesD_P (m : Nat) : placesD (m : Int) = (P m).map .int := by
  unfold placesD P
  rw [placesN_bits, List.map_map]; rfl
theorem bitsN_rising (m : Nat) : (bitsN m).Pairwise (· < ·) := (List.pairwise_lt_range (n := 14)).filter _
theorem P_rising (m : Nat) : (P m).Pairwise (· < ·) := List.pairwise_map.mpr ((bitsN_rising m).imp fun {a b} h => by omega)
theorem P_len (m : Nat) : (P m).length ≤ 14 := by
  unfold P bitsN
  rw [List.length_map]
  exact Nat.le_trans (List.length_filter_le _ _) (by simp)
theorem mem_P {m : Nat} {a : Int} : a ∈ P m ↔ ∃ i : Nat, a = (i : Int) ∧ i < 14 ∧ m.testBit i = true := by
  unfold P bitsN
  simp only [List.mem_map, List.mem_filter, List.mem_range]
  constructor
  · rintro ⟨i, ⟨h1, h2⟩, rfl⟩; exact ⟨i, rfl, h1, h2⟩
  · rintro ⟨i, rfl, h1, h2⟩; exact ⟨i, ⟨h1, h2⟩, rfl⟩
theorem mem_Pn {m i : Nat} (hi : i < 14) : ((i : Int) ∈ P m) ↔ m.testBit i = true := by
  rw [mem_P]
  constructor
  · rintro ⟨j, e, _, h⟩
    have : i = j := by omega
    rw [this]; exact h
  · exact fun h => ⟨i, rfl, hi, h⟩
theorem xor_mem {x y : Nat} {a : Int} : (a ∈ P x ∧ a ∉ P y ∨ a ∈ P y ∧ a ∉ P x) ↔ a ∈ P (x ^^^ y) := by
  constructor
  · rintro (⟨h1, h2⟩ | ⟨h1, h2⟩)
    · obtain ⟨i, rfl, hi, ht⟩ := mem_P.mp h1
      rw [mem_Pn hi] at h2 ⊢
      rw [Nat.testBit_xor, ht]; simp at h2; simp [h2]
    · obtain ⟨i, rfl, hi, ht⟩ := mem_P.mp h1
      rw [mem_Pn hi] at h2 ⊢
      rw [Nat.testBit_xor, ht]; simp at h2; simp [h2]
  · intro h
    obtain ⟨i, rfl, hi, ht⟩ := mem_P.mp h
    rw [mem_Pn hi, mem_Pn hi]
    rw [Nat.testBit_xor] at ht
    revert ht
    generalize x.testBit i = p
    generalize y.testBit i = q
    cases p <;> cases q <;> decide
theorem apart_xor (x y : Nat) : isort ((sdiff (P x) (P y)).1 ++ (sdiff (P x) (P y)).2) = P (x ^^^ y) := by
  obtain ⟨e1, e2⟩ := sdiff_mem _ (P x) (P y) (Nat.le_refl _) (P_rising x) (P_rising y)
  rw [e1, e2]
  refine isort_eq (P_rising _) ?_ fun a => ?_
  · refine List.nodup_append.mpr ⟨(rising_nodup (P_rising x)).filter _, (rising_nodup (P_rising y)).filter _, ?_⟩
    intro a ha b hb e
    subst e
    simp at ha hb
    exact hb.2 ha.1
  · rw [← xor_mem]; simp
theorem odd_xor (s z : Nat) : isort ((ud (P s).reverse (P z) []).1 ++ (ud (P s).reverse (P z) []).2) = P (s ^^^ z) := by
  have ns := rising_nodup (P_rising s)
  have nz := rising_nodup (P_rising z)
  obtain ⟨e1, e2⟩ := ud_mem (P s).reverse (P z) [] (List.pairwise_reverse.mpr (ns.imp fun h => Ne.symm h)) nz
  rw [e1, e2]
  refine isort_eq (P_rising _) ?_ fun a => ?_
  · rw [List.nil_append]
    refine List.nodup_append.mpr ⟨(List.pairwise_reverse.mpr (ns.imp fun h => Ne.symm h)).filter _, nz.filter _, ?_⟩
    intro a ha b hb e
    subst e
    simp at ha hb
    exact hb.2 ha.1
  · rw [← xor_mem]; simp
theorem bits_lt {m n i : Nat} (h : m < 2 ^ n) (hi : n ≤ i) : m.testBit i = false := Nat.testBit_lt_two_pow (Nat.lt_of_lt_of_le h (Nat.pow_le_pow_right (by decide) hi))
theorem shift_P {m : Nat} (h : m < 2 ^ 13) : (bitsN m).map (fun (i : Nat) => (i : Int) + 1) = P (2 * m) := by
  have e1 : bitsN m = (List.range 13).filter m.testBit := by
    unfold bitsN
    rw [List.range_succ, List.filter_append]
    have : m.testBit 13 = false := bits_lt h (Nat.le_refl _)
    simp [this]
  have e2 : bitsN (2 * m) = ((List.range 13).filter m.testBit).map (· + 1) := by
    unfold bitsN
    rw [List.range_succ_eq_map, List.filter_cons]
    have h0 : (2 * m).testBit 0 = false := by simp [Nat.testBit_zero]
    rw [h0]
    simp only [Bool.false_eq_true, if_false]
    rw [List.filter_map]
    congr 1
    apply List.filter_congr
    intro k _
    show (2 * m).testBit (k + 1) = m.testBit k
    rw [Nat.testBit_succ]
    congr 1; omega
  unfold P
  rw [e1, e2, List.map_map]
  apply List.map_congr_left
  intro a _
  show (a : Int) + 1 = ((a + 1 : Nat) : Int)
  omega
theorem sum_bits (m : Nat) : ∀ n, (((List.range n).filter m.testBit).map fun k => 2 ^ k).sum = m % 2 ^ n
  | 0 => by simp [Nat.mod_one]
  | n + 1 => by
    rw [List.range_succ, List.filter_append, List.map_append, List.sum_append, sum_bits m n]
    have e : m % 2 ^ (n + 1) = m % 2 ^ n + 2 ^ n * (m / 2 ^ n % 2) := by rw [Nat.pow_succ]; exact Nat.mod_mul
    rw [e]
    cases h : m.testBit n with
    | false =>
      rw [Nat.testBit_eq_decide_div_mod_eq] at h
      have : m / 2 ^ n % 2 = 0 := by have := of_decide_eq_false h; omega
      have h' : m.testBit n = false := by rw [Nat.testBit_eq_decide_div_mod_eq]; exact h
      simp [h', this]
    | true =>
      have h' := h
      rw [Nat.testBit_eq_decide_div_mod_eq] at h
      have : m / 2 ^ n % 2 = 1 := of_decide_eq_true h
      simp [h', this]
theorem sum_P {m : Nat} (h : m < 2 ^ 14) : ((P m).map fun k => (2 : Int) ^ k.toNat).sum = (m : Int) := by
  have e := sum_bits m 14
  rw [Nat.mod_eq_of_lt h] at e
  have : ∀ l : List Nat, ((l.map fun (i : Nat) => (i : Int)).map fun k => (2 : Int) ^ k.toNat).sum = ((l.map fun k => 2 ^ k).sum : Nat) := by
    intro l
    induction l with
    | nil => rfl
    | cons a r ih => simp only [List.map_cons, List.sum_cons, ih]; push_cast; simp
  unfold P bitsN
  rw [this, e]
end Mine
end

section
open PySem PySem.W PySem.Calls PyProof.Rows
namespace Mine
set_option maxRecDepth 100000
set_option maxHeartbeats 4000000
noncomputable def mj (x y z : Nat) : Nat := (x &&& y) ||| (x &&& z) ||| (y &&& z)
noncomputable def dP (ms : List Nat) : List D := ms.map fun m => .list ((P m).map .int)
noncomputable def csa : List Nat → List (List Nat) × List Nat
  | x :: y :: z :: r => let q := csa (r ++ [x ^^^ y ^^^ z, 2 * mj x y z]); ([x ^^^ y ^^^ z, 2 * mj x y z] :: q.1, q.2)
  | ms => ([], ms)
termination_by ms => ms.length
decreasing_by simp
theorem csa_cons (x y z : Nat) (r : List Nat) : csa (x :: y :: z :: r) = ([x ^^^ y ^^^ z, 2 * mj x y z] :: (csa (r ++ [x ^^^ y ^^^ z, 2 * mj x y z])).1, (csa (r ++ [x ^^^ y ^^^ z, 2 * mj x y z])).2) := by rw [csa]
theorem csa_short {ms : List Nat} (h : ms.length ≤ 2) : csa ms = ([], ms) := by
  match ms, h with
  | [], _ => rw [csa]; simp
  | [_], _ => rw [csa]; simp
  | [_, _], _ => rw [csa]; simp
noncomputable def dSteps (l : List (List Nat)) : List D := l.map fun s => .list (dP s)
noncomputable def b01 (b : Bool) : Int := if b then 1 else 0
section
variable {C : Cfg} {n : Nat}
theorem cut3 (a b c : D) (r : List D) : cut none (some 3) (a :: b :: c :: r) = [a, b, c] := by
  unfold cut
  simp only [Option.elim, List.drop_zero, Nat.sub_zero]
  have : clipAt (a :: b :: c :: r).length 3 = 3 := by unfold clipAt; simp; omega
  rw [this]; rfl
theorem cut3' (a b c : D) (r : List D) : cut (some 3) none (a :: b :: c :: r) = r := by
  unfold cut
  simp only [Option.elim]
  have : clipAt (a :: b :: c :: r).length 3 = 3 := by unfold clipAt; simp; omega
  rw [this]; simp
theorem cutM2 (r : List D) (a b : D) : cut (some (-2)) none (r ++ [a, b]) = [a, b] := by
  unfold cut
  simp only [Option.elim]
  have : clipAt (r ++ [a, b]).length (-2) = r.length := by unfold clipAt; simp; omega
  rw [this]; simp
theorem mem_any {m : Nat} {k : Nat} (hk : k < 14) : ((P m).any fun x => x == (k : Int)) = m.testBit k := by
  have := mem_Pn (m := m) hk
  rw [Bool.eq_iff_iff, ← this]
  simp
/-- 1 if k in row else 0 -/
theorem Ev.b01 {sc : Scope} {ρ : Rho} {p1 p2 p3 p4 p5 p6 : Pos} {k₁ k₂ : Nat} {m k : Nat} (hk : k < 14) (hr : ρ.lookup (Str.ofString "row") = some (.list ((P m).map .int))) (hkk : ρ.lookup (Str.ofString "k") = some (.int (k : Int))) :
    Ev C n sc ρ (.IfExp (.Compare (.Name (Str.ofString "k") p1) [.In] [.Name (Str.ofString "row") p2] p3) (.Constant (.int 1) k₁ p4) (.Constant (.int 0) k₂ p5) p6) (.int (Mine.b01 (m.testBit k))) := by
  have t : Tr C n sc ρ (.Compare (.Name (Str.ofString "k") p1) [.In] [.Name (Str.ofString "row") p2] p3) (m.testBit k) := Tr.to (Tr.cmp (Ev.name hkk) (Ev.name hr) Co.mem) (mem_any hk)
  cases h : m.testBit k with
  | true => rw [h] at t; exact Ev.ifT t Ev.int
  | false => rw [h] at t; exact Ev.ifF t Ev.int
end
end Mine
end

section
namespace Mine
theorem add_xor : ∀ (k x y : Nat), x ≤ k → x + y = (x ^^^ y) + 2 * (x &&& y)
  | 0, x, y, h => by
    have : x = 0 := by omega
    subst this; simp
  | k + 1, x, y, h => by
    have ih := add_xor k (x / 2) (y / 2)
    by_cases h0 : x = 0
    · subst h0; simp
    have ih := ih (by omega)
    have e1 : (x ^^^ y) / 2 = x / 2 ^^^ y / 2 := Nat.xor_div_two
    have e2 : (x &&& y) / 2 = x / 2 &&& y / 2 := Nat.and_div_two
    have hx : x % 2 = 0 ∨ x % 2 = 1 := by omega
    have hy : y % 2 = 0 ∨ y % 2 = 1 := by omega
    have bx := Nat.testBit_xor x y 0
    have ba := Nat.testBit_and x y 0
    simp only [Nat.testBit_zero] at bx ba
    rcases hx with hx | hx <;> rcases hy with hy | hy <;> rw [hx, hy] at bx ba
    · have q1 : ¬ (x ^^^ y) % 2 = 1 := of_decide_eq_false (bx.trans (by decide))
      have q2 : ¬ (x &&& y) % 2 = 1 := of_decide_eq_false (ba.trans (by decide))
      omega
    · have q1 : (x ^^^ y) % 2 = 1 := of_decide_eq_true (bx.trans (by decide))
      have q2 : ¬ (x &&& y) % 2 = 1 := of_decide_eq_false (ba.trans (by decide))
      omega
    · have q1 : (x ^^^ y) % 2 = 1 := of_decide_eq_true (bx.trans (by decide))
      have q2 : ¬ (x &&& y) % 2 = 1 := of_decide_eq_false (ba.trans (by decide))
      omega
    · have q1 : ¬ (x ^^^ y) % 2 = 1 := of_decide_eq_false (bx.trans (by decide))
      have q2 : (x &&& y) % 2 = 1 := of_decide_eq_true (ba.trans (by decide))
      omega
theorem or_add {a b : Nat} (h : a &&& b = 0) : a ||| b = a + b := by
  rw [add_xor a a b (Nat.le_refl _), h]
  simp only [Nat.mul_zero, Nat.add_zero]
  apply Nat.eq_of_testBit_eq
  intro i
  have := congrArg (fun m => m.testBit i) h
  simp only [Nat.testBit_and, Nat.zero_testBit] at this
  rw [Nat.testBit_or, Nat.testBit_xor]
  revert this
  generalize a.testBit i = p
  generalize b.testBit i = q
  cases p <;> cases q <;> decide
theorem csa_sum (x y z : Nat) : (x ^^^ y ^^^ z) + 2 * mj x y z = x + y + z := by
  have e : mj x y z = (x &&& y) ||| ((x ^^^ y) &&& z) := by
    apply Nat.eq_of_testBit_eq
    intro i
    unfold mj
    simp only [Nat.testBit_or, Nat.testBit_and, Nat.testBit_xor]
    generalize x.testBit i = p
    generalize y.testBit i = q
    generalize z.testBit i = r
    cases p <;> cases q <;> cases r <;> rfl
  have d : (x &&& y) &&& ((x ^^^ y) &&& z) = 0 := by
    apply Nat.eq_of_testBit_eq
    intro i
    simp only [Nat.testBit_and, Nat.testBit_xor, Nat.zero_testBit]
    generalize x.testBit i = p
    generalize y.testBit i = q
    generalize z.testBit i = r
    cases p <;> cases q <;> cases r <;> rfl
  rw [e, or_add d]
  have h1 := add_xor _ x y (Nat.le_refl _)
  have h2 := add_xor _ (x ^^^ y) z (Nat.le_refl _)
  omega
end Mine
end

section
open PySem PySem.W PySem.Calls PyProof.Rows
namespace Mine
set_option maxRecDepth 100000
set_option maxHeartbeats 4000000
section
variable {C : Cfg} {n : Nat}
noncomputable def dList : D → List Int
  | .list ds => ds.map dInt
  | _ => []
theorem dList_P (m : Nat) : dList (.list ((P m).map .int)) = P m := by
  show ((P m).map D.int).map dInt = P m
  rw [List.map_map]; exact List.map_id _
theorem EvF.to {sc : Scope} {ρ : Rho} {e : Expr} {a b : List Int} (h : EvF C n sc ρ e a) (q : a = b) : EvF C n sc ρ e b := q ▸ h
theorem maj_med : ∀ a b c : Bool, (isort [b01 a, b01 b, b01 c])[1]? = some (b01 (a && b || a && c || b && c)) := by decide
theorem mj_bit (x y z k : Nat) : (mj x y z).testBit k = (x.testBit k && y.testBit k || x.testBit k && z.testBit k || y.testBit k && z.testBit k) := by
  unfold mj; simp [Nat.testBit_or, Nat.testBit_and]
theorem b01_eq (b : Bool) : (b01 b == 1) = b := by cases b <;> decide
noncomputable def rowHas (k : Nat) (d : D) : D := .int (b01 ((dList d).any fun x => x == (k : Int)))
theorem voted_eq {m : Nat} (h : m < 2 ^ 13) : (((List.range (14 : Int).toNat).map fun (i : Nat) => D.int (i : Int)).filter fun d => m.testBit (dInt d).toNat).map (fun d => D.int (dInt d + 1)) = (P (2 * m)).map .int := by
  rw [← shift_P h, List.filter_map, List.map_map, List.map_map]
  rfl
/-- the places of a word, out of all places -/
theorem all_eq (m : Nat) : (((List.range (14 : Int).toNat).map fun (i : Nat) => D.int (i : Int)).filter fun d => m.testBit (dInt d).toNat).map (fun d => d) = (P m).map .int := by
  rw [List.filter_map, List.map_map]
  unfold P bitsN
  rw [List.map_map]
  rfl
theorem P_nil {m : Nat} (h : m < 2 ^ 14) : P m = [] ↔ m = 0 := by
  constructor
  · intro e
    have := sum_P h
    rw [e] at this
    simp at this; omega
  · rintro rfl; decide
noncomputable def pairAt (a b k : Nat) : D := .list [.int (b01 (a.testBit k)), .int (b01 (b.testBit k))]
noncomputable def pairsD (a b : Nat) : List D := (List.range 14).map fun k => pairAt a b k
theorem pairsD_at {a b k : Nat} (h : k < 14) : (pairsD a b)[((k : Nat) : Int).toNat]? = some (pairAt a b k) := by
  unfold pairsD
  simp [h]
theorem low_and : ∀ a b : Bool, (isort [b01 a, b01 b])[0]? = some (b01 (a && b)) := by decide
theorem high_or : ∀ a b : Bool, (isort [b01 a, b01 b])[1]? = some (b01 (a || b)) := by decide
theorem half_inf : ∀ a b : Bool, ¬Float64.isInf (Float64.ofFrac (decide (b01 (a && b) + b01 (a || b) < 0) != decide ((2 : Int) < 0)) (b01 (a && b) + b01 (a || b)).natAbs (2 : Int).natAbs) = true := by decide +kernel
theorem half_eq : ∀ a b : Bool, (Float64.cmp (Float64.ofFrac (decide (b01 (a && b) + b01 (a || b) < 0) != decide ((2 : Int) < 0)) (b01 (a && b) + b01 (a || b)).natAbs (2 : Int).natAbs) 0x3fe0000000000000 == some Ordering.eq) = (a ^^ b) := by decide +kernel
noncomputable def rOk (ms : List Nat) : Prop := ms.sum < 2 ^ 14
theorem sd_len (x y : Nat) : (sdiff (P x) (P y)).1.length + (sdiff (P x) (P y)).2.length ≤ 28 := by
  obtain ⟨e1, e2⟩ := sdiff_mem _ (P x) (P y) (Nat.le_refl _) (P_rising x) (P_rising y)
  rw [e1, e2]
  have := List.length_filter_le (fun a => !(P y).contains a) (P x)
  have := List.length_filter_le (fun a => !(P x).contains a) (P y)
  have := P_len x
  have := P_len y
  omega
theorem ud_len (s z : Nat) : (ud (P s).reverse (P z) []).1.length + (ud (P s).reverse (P z) []).2.length ≤ 28 := by
  have ns := rising_nodup (P_rising s)
  have nz := rising_nodup (P_rising z)
  obtain ⟨e1, e2⟩ := ud_mem (P s).reverse (P z) [] (List.pairwise_reverse.mpr (ns.imp fun h => Ne.symm h)) nz
  rw [e1, e2, List.nil_append]
  have := List.length_filter_le (fun a => !(P z).contains a) (P s).reverse
  have := List.length_filter_le (fun a => !(P s).reverse.contains a) (P z)
  rw [List.length_reverse] at *
  have := P_len s
  have := P_len z
  omega
noncomputable def pad2 : List Nat → Nat × Nat
  | [] => (0, 0)
  | [a] => (a, 0)
  | a :: b :: _ => (a, b)
/-- the half-adder turns -/
noncomputable def hc (p : Nat × Nat) : Nat → (Nat × Nat) × List (List Nat)
  | 0 => (p, [])
  | i + 1 => let q := hc p i
    if q.1.2 = 0 then q else ((q.1.1 ^^^ q.1.2, 2 * (q.1.1 &&& q.1.2)), q.2 ++ [[q.1.1 &&& q.1.2, q.1.1 ||| q.1.2, q.1.1 ^^^ q.1.2, q.1.1 ^^^ q.1.2]])
theorem csa_end : ∀ (k : Nat) (ms : List Nat), ms.length ≤ k → (csa ms).2.length ≤ 2 ∧ (csa ms).2.sum = ms.sum ∧ (csa ms).1.length ≤ ms.length
  | 0, ms, h => by
    rw [csa_short (by omega)]; exact ⟨by dsimp only; omega, rfl, by simp⟩
  | k + 1, ms, h => by
    by_cases h2 : ms.length ≤ 2
    · rw [csa_short h2]; exact ⟨by dsimp only; omega, rfl, by simp⟩
    · obtain ⟨x, y, z, r, rfl⟩ : ∃ x y z r, ms = x :: y :: z :: r := by
        match ms, h2 with
        | x :: y :: z :: r, _ => exact ⟨x, y, z, r, rfl⟩
        | [_, _], h2 => exact absurd (by simp) h2
        | [_], h2 => exact absurd (by simp) h2
        | [], h2 => exact absurd (by simp) h2
      · rw [csa_cons]
        have ih := csa_end k (r ++ [x ^^^ y ^^^ z, 2 * mj x y z]) (by simp at h ⊢; omega)
        have := csa_sum x y z
        refine ⟨ih.1, ih.2.1.trans (by simp; omega), ?_⟩
        have := ih.2.2
        simp at this ⊢; omega
theorem pad2_sum {e : List Nat} (h : e.length ≤ 2) : (pad2 e).1 + (pad2 e).2 = e.sum := by
  match e, h with
  | [], _ => rfl
  | [a], _ => simp [pad2]
  | [a, b], _ => simp [pad2]
theorem hc_sum (p : Nat × Nat) : ∀ i, (hc p i).1.1 + (hc p i).1.2 = p.1 + p.2
  | 0 => rfl
  | i + 1 => by
    have ih := hc_sum p i
    unfold hc
    dsimp only
    split
    · exact ih
    · show ((hc p i).1.1 ^^^ (hc p i).1.2) + 2 * ((hc p i).1.1 &&& (hc p i).1.2) = _
      rw [← add_xor _ _ _ (Nat.le_refl _)]; exact ih
theorem hc_len (p : Nat × Nat) : ∀ i, (hc p i).2.length ≤ i
  | 0 => Nat.le_refl _
  | i + 1 => by
    have ih := hc_len p i
    unfold hc
    dsimp only
    split
    · omega
    · rw [List.length_append]; show _ + 1 ≤ _; omega
theorem hc_lt (ms : List Nat) (hs : rOk ms) (i : Nat) : (hc (pad2 (csa ms).2) i).1.1 < 2 ^ 14 := by
  obtain ⟨el, es, _⟩ := csa_end _ ms (Nat.le_refl _)
  have := hc_sum (pad2 (csa ms).2) i
  rw [pad2_sum el, es] at this
  unfold rOk at hs
  omega
theorem dP_pad {e : List Nat} (h : e.length ≤ 2) : dP e ++ List.replicate (2 - e.length) (.list []) = dP [(pad2 e).1, (pad2 e).2] := by
  have p0 : P 0 = [] := by decide
  match e, h with
  | [], _ => simp [dP, pad2, p0, List.replicate]
  | [a], _ => simp [dP, pad2, p0, List.replicate]
  | [a, b], _ => simp [dP, pad2, List.replicate]
noncomputable def runD (ms : List Nat) : D := .tuple [.list (dSteps ((csa ms).1 ++ (hc (pad2 (csa ms).2) 14).2)), .int ((hc (pad2 (csa ms).2) 14).1.1 : Int)]
theorem mj_lt {x y z : Nat} {r : List Nat} (h : rOk (x :: y :: z :: r)) : mj x y z < 2 ^ 13 := by
  unfold rOk at h
  have := csa_sum x y z
  simp at h; omega
theorem rOk_next {x y z : Nat} {r : List Nat} (h : rOk (x :: y :: z :: r)) : rOk (r ++ [x ^^^ y ^^^ z, 2 * mj x y z]) := by
  unfold rOk at *
  have := csa_sum x y z
  simp at h ⊢; omega
theorem fn_run {ms : List Nat} (hlen : ms.length ≤ 60) (hs : rOk ms) : Fn C (n + 3) 187 [.list (dP ms)] (runD ms) := by
  refine' Fn.mk [(Str.ofString "rows", .list (dP ms))] [Str.ofString "rows"] ?h1 ?h2 ?h3 ?h4 ?h5 ?h6 ?h7 ?h8 ?h9 ?h10 ?h11 ?h12 ?h13 ?h14 ?h15
  case h1 => exact rfl
  case h2 => exact rfl
  case h3 => exact rfl
  case h4 => exact rfl
  case h5 => exact rfl
  case h6 => exact rfl
  case h7 => exact rfl
  case h8 => exact rfl
  case h9 => exact rfl
  case h10 => exact rfl
  case h11 => intro s V vs base h; cases h with | cons a b => cases b; exact ⟨_, BindsTo.of_eq rfl, .cons a .nil⟩
  case h12 => exact rfl
  case h13 => decide
  case h14 => decide
  case h15 =>
    refine Sxs.cons (Sx.newList rfl (fun _ h => nomatch h) rfl) ?_
    refine Sxs.cons (Sx.whileW (out := .next [(Str.ofString "rows", .list (dP (csa ms).2))] [(Str.ofString "steps", dSteps (csa ms).1)]) (Wx.loop (σ := List Nat × List (List Nat)) (fun a => [(Str.ofString "rows", .list (dP a.1))]) (fun a => [(Str.ofString "steps", dSteps a.2)]) (fun a => a.1.length)
      (fun a => a.1.length ≤ 60 ∧ a.1.length + a.2.length ≤ 60 ∧ rOk a.1 ∧ a.2 ++ (csa a.1).1 = (csa ms).1 ∧ (csa a.1).2 = (csa ms).2) ?step (ms, []) ?init)) ?_
    case init => exact ⟨hlen, by simpa using hlen, hs, rfl, rfl⟩
    case step =>
      rintro ⟨ns, acc⟩ ⟨l1, l2, ok, hc1, hc2⟩ ih
      dsimp only at l1 l2 ok hc1 hc2 ih ⊢
      have hdl : (dP ns).length = ns.length := by unfold dP; rw [List.length_map]
      have tst : ∀ (sc : Scope) (p1 p2 p3 p4 p5 : Pos) (k : Nat) (h1 : sc.names.lookup (Str.ofString "len") = some .globalImplicit), Tr C (n + 2) sc [(Str.ofString "rows", .list (dP ns))] (.Compare (.Call (.Name (Str.ofString "len") p1) [.Name (Str.ofString "rows") p2] [] p3) [.Gt] [.Constant (.int 2) k p4] p5) (decide (2 < ns.length)) := fun sc p1 p2 p3 p4 p5 k h1 =>
        Tr.to (Tr.cmp (Ev.bcall h1 rfl (by decide +kernel) (Evs.cons (Ev.name rfl) Evs.nil) (Bf.len (by omega))) Ev.int Co.gt) (by rw [hdl]; congr 1; apply propext; omega)
      by_cases h3 : 2 < ns.length
      · obtain ⟨x, y, z, r, rfl⟩ : ∃ x y z r, ns = x :: y :: z :: r := by
          match ns, h3 with
          | x :: y :: z :: r, _ => exact ⟨x, y, z, r, rfl⟩
        have hmj : mj x y z < 2 ^ 13 := mj_lt ok
        rw [csa_cons] at hc1 hc2
        have px := P_len x
        have py := P_len y
        have pz := P_len z
        have pxy := P_len (x ^^^ y)
        have pv := P_len (2 * mj x y z)
        have sl := sd_len x y
        have ul := ud_len (x ^^^ y) z
        simp only [List.length_cons] at l1 l2
        have hrl : (dP r).length = r.length := by unfold dP; rw [List.length_map]
        refine Wx.step (ρ' := [(Str.ofString "rows", .list (dP (r ++ [x ^^^ y ^^^ z, 2 * mj x y z])))]) (ow' := [(Str.ofString "steps", dSteps (acc ++ [[x ^^^ y ^^^ z, 2 * mj x y z]]))]) (Tr.to (tst _ _ _ _ _ _ _ rfl) (decide_eq_true h3)) ?body (ih (r ++ [x ^^^ y ^^^ z, 2 * mj x y z], acc ++ [[x ^^^ y ^^^ z, 2 * mj x y z]]) ⟨by simp; omega, by simp; omega, rOk_next ok, ?eqs, hc2⟩ (by simp))
        case eqs => rw [← hc1]; simp
        case body =>
          refine Sxs.cons (Sx.assign (Ev.call rfl rfl rfl (Evs.cons (Ev.sub (Ev.name rfl) Ev.int (Su.list (by decide) (by decide) rfl)) (Evs.cons (Ev.sub (Ev.name rfl) Ev.int (Su.list (by decide) (by decide) rfl)) Evs.nil)) (fn_sdiff (P_rising x) (P_rising y) (by omega) (by omega) (by omega))) (.inl rfl) (own1 (by decide)) (fun _ _ => rfl)) ?_
          refine Sxs.cons (Sx.assign (Ev.callU rfl rfl rfl (EvF.to (EvF.sorted rfl rfl (by decide +kernel) (Ev.to (b := .list (((sdiff (P x) (P y)).1 ++ (sdiff (P x) (P y)).2).map .int)) (Ev.binop (Ev.sub (Ev.name rfl) Ev.int (Su.tuple (by decide) (by decide) rfl)) (Ev.sub (Ev.name rfl) Ev.int (Su.tuple (by decide) (by decide) rfl)) (Bo.addl (by simp only [List.length_map]; omega))) (by rw [List.map_append])) (by rw [List.length_append]; omega)) (apart_xor x y)) (EvF.list rfl rfl (by decide +kernel) (Ev.sub (Ev.name rfl) Ev.int (Su.list (by decide) (by decide) rfl)) (by omega)) (fn_udiff (by omega) (by omega) (by omega))) (.inl rfl) (own1 (by decide)) (fun _ _ => rfl)) ?_
          refine Sxs.cons (Sx.lc [Str.ofString "rows"] (fun d => (mj x y z).testBit (dInt d).toNat) (fun d => .int (dInt d + 1)) (It.range rfl Ev.int (by decide) (by decide)) (by decide) rfl ?vt ?ve (by decide) rfl (own1 (by decide)) (fun _ he => swaps_t he rfl (by decide))) ?_
          case ve =>
            intro d hd _
            obtain ⟨i, hi, rfl⟩ := List.mem_map.mp hd
            exact Ev.binop (Ev.name rfl) Ev.int Bo.add
          case vt =>
            intro d hd
            obtain ⟨i, hi, rfl⟩ := List.mem_map.mp hd
            have hi' : i < 14 := by simpa using hi
            refine Trs.one (Tr.to (Tr.cmp (Ev.call rfl rfl rfl (Evs.cons (Ev.to (b := .list (([b01 (x.testBit i), b01 (y.testBit i), b01 (z.testBit i)] : List Int).map .int)) (Ev.lm [Str.ofString "k"] (rowHas i) (It.list (Ev.to (b := .list (dP [x, y, z])) (Ev.cut (l := none) (h := some 3) (Ev.name rfl) trivial Ev.int (by rw [hdl]; simp; omega)) (congrArg D.list (cut3 _ _ _ _)))) (by decide) rfl ?rh (by show 3 ≤ 1000; decide)) ?re) Evs.nil) (fn_median3 rfl (maj_med _ _ _))) Ev.int Co.eq) (by rw [b01_eq]; exact (mj_bit x y z i).symm))
            case rh =>
              intro d hd
              obtain ⟨m, _, rfl⟩ := List.mem_map.mp hd
              show Ev _ _ _ _ _ (.int (b01 ((dList (.list ((P m).map .int))).any fun x => x == (i : Int))))
              rw [dList_P, mem_any hi']
              exact Ev.b01 hi' rfl rfl
            case re =>
              show D.list [rowHas i (.list ((P x).map .int)), rowHas i (.list ((P y).map .int)), rowHas i (.list ((P z).map .int))] = _
              unfold rowHas
              rw [dList_P, dList_P, dList_P, mem_any hi', mem_any hi', mem_any hi']; rfl
          rw [voted_eq hmj]
          refine Sxs.cons (Sx.assign (Ev.to (b := .list (dP (r ++ [x ^^^ y ^^^ z, 2 * mj x y z]))) (Ev.binop (Ev.to (b := .list (dP r)) (Ev.cut (l := some 3) (h := none) (Ev.name rfl) Ev.int trivial (by rw [hdl]; simp; omega)) (congrArg D.list (cut3' _ _ _ _))) (Ev.list (Evs.cons (Ev.to (b := .list ((P (x ^^^ y ^^^ z)).map .int)) (Ev.bcall rfl rfl (by decide +kernel) (Evs.cons (Ev.to (b := .list (((ud (P (x ^^^ y)).reverse (P z) []).1 ++ (ud (P (x ^^^ y)).reverse (P z) []).2).map .int)) (Ev.binop (Ev.sub (Ev.name rfl) Ev.int (Su.tuple (by decide) (by decide) rfl)) (Ev.sub (Ev.name rfl) Ev.int (Su.tuple (by decide) (by decide) rfl)) (Bo.addl (by simp only [List.length_map]; omega))) (by rw [List.map_append])) Evs.nil) (Bf.sorted (by rw [List.length_append]; omega))) (by rw [odd_xor])) (Evs.cons (Ev.name rfl) Evs.nil)) (by show 2 ≤ 1000; decide)) (Bo.addl (by rw [hrl]; show _ + 2 ≤ 1000; omega))) (by unfold dP; rw [List.map_append]; rfl)) (.inr rfl) (own1 (by decide)) (fun _ _ => rfl)) ?_
          refine Sxs.to (Sxs.single (Sx.append (Ev.to (b := .list (dP [x ^^^ y ^^^ z, 2 * mj x y z])) (Ev.cut (l := some (-2)) (h := none) (Ev.name rfl) (Ev.neg Ev.int) trivial (by unfold dP; rw [List.length_map]; simp; omega)) (by unfold dP; rw [List.map_append]; exact congrArg D.list (cutM2 _ _ _))) (fun _ h => nomatch h) (by unfold dSteps; rw [List.length_map]; omega))) (lk_cons rfl lk_nil) (by unfold dSteps; rw [List.map_append]; exact fun _ h => h)
      · rw [csa_short (by omega)] at hc1 hc2
        dsimp only at hc1 hc2
        rw [← hc1, ← hc2, List.append_nil]
        exact Wx.stop (Tr.to (tst _ _ _ _ _ _ _ rfl) (decide_eq_false h3))
    obtain ⟨el, es, ec⟩ := csa_end _ ms (Nat.le_refl _)
    have edl : (dP (csa ms).2).length = (csa ms).2.length := by unfold dP; rw [List.length_map]
    refine Sxs.cons (Sx.assign (Ev.to (b := .list (dP [(pad2 (csa ms).2).1, (pad2 (csa ms).2).2])) (Ev.binop (Ev.name rfl) (Ev.binop (Ev.list (Evs.cons (Ev.list Evs.nil) Evs.nil) (by show 1 ≤ 1000; decide)) (Ev.intTo (b := ((2 - (csa ms).2.length : Nat) : Int)) (Ev.binop Ev.int (Ev.bcall rfl rfl (by decide +kernel) (Evs.cons (Ev.name rfl) Evs.nil) (Bf.len (by omega))) Bo.sub) (by rw [edl]; omega)) (Bo.mul1 (by omega))) (Bo.addl (by rw [edl, List.length_replicate]; omega))) (by rw [dP_pad el])) (.inr rfl) (own1 (by decide)) (fun _ _ => rfl)) ?_
    refine Sxs.fewer (ρ' := [(Str.ofString "rows", .list (dP [(pad2 (csa ms).2).1, (pad2 (csa ms).2).2]))]) (lk_cons rfl lk_nil) ?_
    refine Sxs.cons (Sx.forI (fun i => ([(Str.ofString "rows", .list (dP [(hc (pad2 (csa ms).2) i).1.1, (hc (pad2 (csa ms).2) i).1.2]))], [(Str.ofString "steps", dSteps ((csa ms).1 ++ (hc (pad2 (csa ms).2) i).2))])) (ns := (List.range 14).map fun (i : Nat) => (i : Int)) ?h0 (ItF.range rfl Ev.int (by decide) (by decide)) rfl ?hxo ?hbody) ?_
    case h0 => rw [show (hc (pad2 (csa ms).2) 0).2 = [] from rfl, List.append_nil]; rfl
    case hxo => exact fun i ys => own1 (by decide) ys
    case hbody =>
      intro i k hk
      have hsum := hc_sum (pad2 (csa ms).2) i
      rw [pad2_sum el, es] at hsum
      unfold rOk at hs
      generalize hh : hc (pad2 (csa ms).2) i = q at hsum
      obtain ⟨⟨a, b⟩, st⟩ := q
      dsimp only at hsum
      have hstep : hc (pad2 (csa ms).2) (i + 1) = if b = 0 then ((a, b), st) else ((a ^^^ b, 2 * (a &&& b)), st ++ [[a &&& b, a ||| b, a ^^^ b, a ^^^ b]]) := by
        show (let q := hc (pad2 (csa ms).2) i; if q.1.2 = 0 then q else ((q.1.1 ^^^ q.1.2, 2 * (q.1.1 &&& q.1.2)), q.2 ++ [[q.1.1 &&& q.1.2, q.1.1 ||| q.1.2, q.1.1 ^^^ q.1.2, q.1.1 ^^^ q.1.2]])) = _
        rw [hh]
      rw [hstep]
      dsimp only
      have hb14 : b < 2 ^ 14 := by omega
      have hst : st.length ≤ i := by have := hc_len (pad2 (csa ms).2) i; rw [hh] at this; exact this
      have hi14 : i < 14 := by
        rw [List.getElem?_map] at hk
        cases hr : (List.range 14)[i]? with
        | none => rw [hr] at hk; cases hk
        | some j => have := (List.getElem?_eq_some_iff.mp hr).1; simpa using this
      have hT : ∀ (sc : Scope) (p1 p2 p3 p4 p5 : Pos) (k' : Nat), Tr C (n + 2) sc ((Str.ofString "turn", D.int k) :: [(Str.ofString "rows", D.list (dP [a, b]))]) (.Compare (.Subscript (.Name (Str.ofString "rows") p1) (.Constant (.int 1) k' p2) p3) [.NotEq] [.List [] p4] p5) (!decide (P b = [])) := fun sc p1 p2 p3 p4 p5 k' =>
        Tr.cmp (Ev.sub (Ev.name rfl) Ev.int (Su.list (by decide) (by decide) rfl)) (Ev.to (b := .list (([] : List Int).map .int)) (Ev.list Evs.nil) rfl) Co.neI
      by_cases hb0 : b = 0
      · subst hb0
        rw [if_pos rfl]
        exact Sxs.to (Sxs.single (Sx.ifF (Tr.to (hT _ _ _ _ _ _ _) (by decide)) Sxs.nil)) (lk_cons rfl lk_nil) (fun _ h => h)
      · rw [if_neg hb0]
        dsimp only
        have hne : (!decide (P b = [])) = true := by
          have : P b ≠ [] := fun e => hb0 ((P_nil hb14).mp e)
          simp [this]
        have had := add_xor _ a b (Nat.le_refl _)
        have hand : a &&& b < 2 ^ 13 := by omega
        have pa := P_len a
        have pb := P_len b
        have pand := P_len (a &&& b)
        have sl := sd_len a b
        refine Sxs.single (Sx.ifT (Tr.to (hT _ _ _ _ _ _ _) hne) ?_)
        refine Sxs.cons (Sx.assign (Ev.to (b := .list (pairsD a b)) (Ev.lm [Str.ofString "rows"] (fun d => pairAt a b (dInt d).toNat) (It.range rfl Ev.int (by decide) (by decide)) (by decide) rfl ?pe (by decide)) ?pq) (.inr rfl) (own1 (by decide)) (fun _ he => swaps_f he rfl (by decide))) ?_
        case pe =>
          intro d hd
          obtain ⟨j, hj, rfl⟩ := List.mem_map.mp hd
          have hj' : j < 14 := by simpa using hj
          refine Ev.to (Ev.lm [Str.ofString "k"] (rowHas j) (It.list (Ev.name rfl)) (by decide) rfl ?_ (by show 2 ≤ 1000; decide)) ?_
          · intro d hd
            obtain ⟨m, _, rfl⟩ := List.mem_map.mp hd
            show Ev _ _ _ _ _ (.int (b01 ((dList (.list ((P m).map .int))).any fun x => x == (j : Int))))
            rw [dList_P, mem_any hj']
            exact Ev.b01 hj' rfl rfl
          · show D.list [rowHas j (.list ((P a).map .int)), rowHas j (.list ((P b).map .int))] = _
            unfold rowHas
            rw [dList_P, dList_P, mem_any hj', mem_any hj']; rfl
        case pq => unfold pairsD; rw [List.map_map]; rfl
        refine Sxs.cons (Sx.lc [Str.ofString "pairs"] (fun d => (a &&& b).testBit (dInt d).toNat) (fun d => d) (It.range rfl Ev.int (by decide) (by decide)) (by decide) rfl ?bt ?be (by decide) rfl (own1 (by decide)) (fun _ he => swaps_t he rfl (by decide))) ?_
        case be => exact fun d hd _ => Ev.name rfl
        case bt =>
          intro d hd
          obtain ⟨j, hj, rfl⟩ := List.mem_map.mp hd
          have hj' : j < 14 := by simpa using hj
          exact Trs.one (Tr.to (Tr.cmp (Ev.call rfl rfl rfl (Evs.cons (Ev.sub (Ev.name rfl) (Ev.name rfl) (Su.list (by omega) (by omega) (pairsD_at hj'))) Evs.nil) (fn_low2 (ns := [b01 (a.testBit j), b01 (b.testBit j)]) rfl (low_and _ _))) Ev.int Co.eq) (by rw [b01_eq]; exact (Nat.testBit_and a b j).symm))
        rw [all_eq]
        refine Sxs.cons (Sx.lc [Str.ofString "pairs"] (fun d => (a ||| b).testBit (dInt d).toNat) (fun d => d) (It.range rfl Ev.int (by decide) (by decide)) (by decide) rfl ?et ?ee (by decide) rfl (own1 (by decide)) (fun _ he => swaps_t he rfl (by decide))) ?_
        case ee => exact fun d hd _ => Ev.name rfl
        case et =>
          intro d hd
          obtain ⟨j, hj, rfl⟩ := List.mem_map.mp hd
          have hj' : j < 14 := by simpa using hj
          exact Trs.one (Tr.to (Tr.cmp (Ev.call rfl rfl rfl (Evs.cons (Ev.sub (Ev.name rfl) (Ev.name rfl) (Su.list (by omega) (by omega) (pairsD_at hj'))) Evs.nil) (fn_high2 (ns := [b01 (a.testBit j), b01 (b.testBit j)]) rfl (high_or _ _))) Ev.int Co.eq) (by rw [b01_eq]; exact (Nat.testBit_or a b j).symm))
        rw [all_eq]
        refine Sxs.cons (Sx.lc [Str.ofString "pairs"] (fun d => (a ^^^ b).testBit (dInt d).toNat) (fun d => d) (It.range rfl Ev.int (by decide) (by decide)) (by decide) rfl ?ht ?he (by decide) rfl (own1 (by decide)) (fun _ he => swaps_t he rfl (by decide))) ?_
        case he => exact fun d hd _ => Ev.name rfl
        case ht =>
          intro d hd
          obtain ⟨j, hj, rfl⟩ := List.mem_map.mp hd
          have hj' : j < 14 := by simpa using hj
          exact Trs.one (Tr.to (Tr.cmp (Ev.call rfl rfl rfl (Evs.cons (Ev.sub (Ev.name rfl) (Ev.name rfl) (Su.list (by omega) (by omega) (pairsD_at hj'))) Evs.nil) (fn_median2 (ns := [b01 (a.testBit j), b01 (b.testBit j)]) rfl (low_and _ _) (high_or _ _) (half_inf _ _))) Ev.float Co.eqf) (by rw [half_eq]; exact (Nat.testBit_xor a b j).symm))
        rw [all_eq]
        refine Sxs.cons (Sx.assign (Ev.call rfl rfl rfl (Evs.cons (Ev.sub (Ev.name rfl) Ev.int (Su.list (by decide) (by decide) rfl)) (Evs.cons (Ev.sub (Ev.name rfl) Ev.int (Su.list (by decide) (by decide) rfl)) Evs.nil)) (fn_sdiff (P_rising a) (P_rising b) (by omega) (by omega) (by omega))) (.inl rfl) (own1 (by decide)) (fun _ _ => rfl)) ?_
        refine Sxs.cons (Sx.append (Ev.to (b := .list (dP [a &&& b, a ||| b, a ^^^ b, a ^^^ b])) (Ev.list (Evs.cons (Ev.name rfl) (Evs.cons (Ev.name rfl) (Evs.cons (Ev.name rfl) (Evs.cons (Ev.to (b := .list ((P (a ^^^ b)).map .int)) (Ev.bcall rfl rfl (by decide +kernel) (Evs.cons (Ev.to (b := .list (((sdiff (P a) (P b)).1 ++ (sdiff (P a) (P b)).2).map .int)) (Ev.binop (Ev.sub (Ev.name rfl) Ev.int (Su.tuple (by decide) (by decide) rfl)) (Ev.sub (Ev.name rfl) Ev.int (Su.tuple (by decide) (by decide) rfl)) (Bo.addl (by simp only [List.length_map]; omega))) (by rw [List.map_append])) Evs.nil) (Bf.sorted (by rw [List.length_append]; omega))) (by rw [apart_xor])) Evs.nil)))) (by show 4 ≤ 1000; decide)) rfl) (fun _ h => nomatch h) (by unfold dSteps; rw [List.length_map, List.length_append]; omega)) ?_
        refine Sxs.to (Sxs.single (Sx.assign (Ev.to (b := .list (dP [a ^^^ b, 2 * (a &&& b)])) (Ev.list (Evs.cons (Ev.name rfl) (Evs.cons (Ev.to (b := .list ((P (2 * (a &&& b))).map .int)) (Ev.lm [] (fun d => .int (dInt d + 1)) (It.list (Ev.name rfl)) (by decide) rfl ?ke (by rw [List.length_map]; omega)) ?kq) Evs.nil)) (by show 2 ≤ 1000; decide)) rfl) (.inr rfl) (own1 (by decide)) (fun _ _ => rfl))) (lk_cons rfl lk_nil) ?own
        case ke =>
          intro d hd
          obtain ⟨m, _, rfl⟩ := List.mem_map.mp hd
          exact Ev.binop (Ev.name rfl) Ev.int Bo.add
        case kq => rw [← shift_P hand]; unfold P; simp only [List.map_map]; rfl
        case own => unfold dSteps; simp only [List.map_append]; rw [List.append_assoc]; exact fun _ h => h
    rw [show ((List.range 14).map fun (i : Nat) => (i : Int)).length = 14 from rfl]
    dsimp only
    refine Sxs.freeze (fun _ h => nomatch h) ?_
    have hx := hc_lt ms hs 14
    have hl14 := P_len (hc (pad2 (csa ms).2) 14).1.1
    unfold runD
    generalize hc (pad2 (csa ms).2) 14 = q at hx hl14 ⊢
    exact Sxs.single (Sx.ret (Ev.tuple (Evs.cons (Ev.name rfl) (Evs.cons (Ev.intTo (Ev.bcall rfl rfl (by decide +kernel) (Evs.cons (Ev.to (b := .list (((P q.1.1).map fun k => (2 : Int) ^ k.toNat).map .int)) (Ev.lm [] (fun d => .int (2 ^ (dInt d).toNat)) (It.list (Ev.sub (Ev.name rfl) Ev.int (Su.list (by decide) (by decide) rfl))) (by decide) rfl (by
      intro d hd
      obtain ⟨k, hk, rfl⟩ := List.mem_map.mp hd
      obtain ⟨i, rfl, hi, _⟩ := mem_P.mp hk
      exact Ev.binop Ev.int (Ev.name rfl) (Bo.pow2 (by omega) (by omega))) (by rw [List.length_map]; omega)) (by rw [List.map_map, List.map_map]; rfl)) Evs.nil) Bf.sum) (sum_P hx)) Evs.nil)) (by show 2 ≤ 1000; decide)))
end
end Mine
end

section
open PySem PySem.W PySem.Calls PyProof.Rows
namespace Mine
set_option maxRecDepth 20000

/-- what a piece of a comprehension keeps -/
noncomputable def Kb (g : Heap) (X : List Addr) (h h' : Heap) : Prop := ∀ b o, b ∉ X → h.get? b = some o → ∃ o', h'.get? b = some o' ∧ ObjLe g b o o'
theorem Kb.refl {g h : Heap} {X : List Addr} : Kb g X h h := fun _ o _ e => ⟨o, e, .inl rfl⟩
theorem Kb.trans {g h h' h'' : Heap} {X : List Addr} (x : Kb g X h h') (y : Kb g X h' h'') : Kb g X h h'' := fun b o hb e =>
  let ⟨o₁, e₁, l₁⟩ := x b o hb e
  let ⟨o₂, e₂, l₂⟩ := y b o₁ hb e₁
  ⟨o₂, e₂, l₁.trans l₂⟩
theorem Kb.of {g h h' : Heap} {X : List Addr} (k : KeU g h h') : Kb g X h h' := fun b o _ e => k b o e
theorem Kb.wider {g h h' : Heap} {X Y : List Addr} (k : Kb g X h h') (s : ∀ b ∈ X, b ∈ Y) : Kb g Y h h' := fun b o hb e => k b o (fun q => hb (s b q)) e
theorem Kb.exact {g h h' : Heap} {X : List Addr} (k : Kb g X h h') {b : Addr} {o : Obj} (hb : b ∉ X) (e : h.get? b = some o) (nd : ∀ es n, o.data ≠ .dict es n) : h'.get? b = some o := by
  obtain ⟨o', e', l⟩ := k b o hb e
  rcases l with rfl | ⟨_, ⟨es, n, q⟩, _⟩
  · exact e'
  · exact absurd q (nd es n)

/-- the frame that a comprehension's names would have -/
noncomputable def gh (e : Env) : Env := { e with frame := some e.locals }

/-- the state of a comprehension: its names, and its list so far -/
structure CS (C : Cfg) (A : Around) (cenv : Env) (g₀ : Heap) (V₀ : Addr → Prop) (DA : Addr) (h : Heap) (V : Addr → Prop) (ρ : Rho) (ds : List D) : Prop where
  st : StV C (A.deeper (gh cenv)) g₀ V₀ h V (gh cenv) ρ []
  acc : ∃ ys : Array Value, h.PlainList DA ys ∧ Ats h V ys.toList ds
  nV : ¬ V DA
  n0 : g₀.get? DA = none
  top : ∃ outer, A.frames = some outer

section
variable {C : Cfg} {A : Around} {cenv : Env} {g₀ : Heap} {V₀ V : Addr → Prop} {DA : Addr} {h h' : Heap} {ρ ρ' : Rho} {ds : List D} {n : Nat} {sc : Scope}

theorem CS.rd (q : CS C A cenv g₀ V₀ DA h V ρ ds) : Rd C A h V cenv ρ := by
  refine ⟨q.st.base, q.st.kind, q.st.globals, q.st.builtins, q.st.names, ?_⟩
  obtain ⟨outer, e⟩ := q.top
  obtain ⟨outer', e', H⟩ := q.st.frames
  rw [Around.frames_deeper e] at e'
  cases e'
  exact ⟨outer, e, fun en hen => H en (.tail _ hen)⟩
theorem CS.ke (q : CS C A cenv g₀ V₀ DA h V ρ ds) (k : KeU C.g h h') : CS C A cenv g₀ V₀ DA h' (Fre V h) ρ ds := by
  obtain ⟨ys, hl, hs⟩ := q.acc
  refine ⟨q.st.ke k, ⟨ys, k.plain hl, k.ats Fre.sub hs⟩, fun r => ?_, q.n0, q.top⟩
  rcases r with r | r
  · exact q.nV r
  · obtain ⟨_, e⟩ := hl; rw [r] at e; cases e
theorem CS.fewer (q : CS C A cenv g₀ V₀ DA h V ρ ds) (hp : ∀ y d, ρ'.lookup y = some d → ρ.lookup y = some d) : CS C A cenv g₀ V₀ DA h V ρ' ds :=
  ⟨q.st.fewer hp, q.acc, q.nV, q.n0, q.top⟩
theorem CS.notL (q : CS C A cenv g₀ V₀ DA h V ρ ds) {a : Addr} {o : Obj} (e : h.get? a = some o) (nd : ∀ es k, o.data ≠ .dict es k) : a ≠ cenv.locals := q.st.notL e nd
theorem CS.notD (q : CS C A cenv g₀ V₀ DA h V ρ ds) {a : Addr} {o : Obj} (e : h.get? a = some o) (nd : ∀ xs k, o.data ≠ .seq xs k) : a ≠ DA := by
  rintro rfl
  obtain ⟨_, ⟨_, e'⟩, _⟩ := q.acc
  rw [e] at e'; cases e'; exact nd _ _ rfl
theorem CS.but (q : CS C A cenv g₀ V₀ DA h V ρ ds) {wr : List Addr} (hk : ∀ b o, b ∉ wr → h.get? b = some o → h'.get? b = some o)
    (hw : ∀ b ∈ wr, g₀.get? b = none ∧ ∃ o, h.get? b = some o ∧ ∃ fs, o.data = .fields fs) : CS C A cenv g₀ V₀ DA h' V ρ ds := by
  obtain ⟨ys, ⟨k, e⟩, hs⟩ := q.acc
  have nf : ∀ {b o}, h.get? b = some o → (∀ fs, o.data ≠ .fields fs) → b ∉ wr := fun e n hb => by
    obtain ⟨_, o', e', fs, d⟩ := hw _ hb
    rw [e] at e'; cases e'; exact n fs d
  refine ⟨q.st.but hk hw, ⟨ys, ⟨k, hk _ _ (nf e (by intro _ q; cases q)) e⟩, hs.mono fun b o hv e hsq => ⟨hv, hk b o (nf e ?_) e⟩⟩, q.nV, q.n0, q.top⟩
  obtain ⟨_, _, d⟩ := hsq; rw [d]; intro _ q; cases q

theorem storedOf {env : Env} {ow : Ow} {x : Str} {v : Value} {m : Str → Option Value} (st : StV C A g₀ V₀ h V env ρ ow) (hk : env.kindOf x = some .local) (hm : h.Ns env.locals m)
    (hn : h'.Ns env.locals (fun y => if y = x then some v else m y)) (hs : Heap.SameBut env.locals h h') : Stored h h' env x v := by
  refine ⟨.inl ⟨hk, _, hn, by simp⟩, fun y u hy q => ?_, ⟨_, hn⟩, fun y c hc => ?_, fun b o hb _ e => (hs.2 b hb).trans e⟩
  · rcases q with ⟨a, m', b, c⟩ | ⟨a, c, b, d⟩
    · refine .inl ⟨a, _, hn, ?_⟩
      have e : m' y = m y := by
        obtain ⟨o1, es1, n1, g1, d1, _, f1⟩ := b
        obtain ⟨o2, es2, n2, g2, d2, _, f2⟩ := hm
        rw [g1] at g2; cases g2; rw [d1] at d2; cases d2
        rw [← f1, ← f2]
      simp only [hy, if_false]; rw [← e]; exact c
    · refine .inr ⟨a, c, b, d.sameBut hs ?_⟩
      obtain ⟨o, e, hd⟩ := d
      exact st.notL e (by rw [hd]; intro _ _ q; cases q)
  · obtain ⟨⟨u, hu⟩, _⟩ := st.cells y c hc
    refine ⟨u, hu.sameBut hs ?_⟩
    obtain ⟨o, e, hd⟩ := hu
    exact st.notL e (by rw [hd]; intro _ _ q; cases q)

/-- behind a piece of a comprehension -/
noncomputable def CPost (C : Cfg) (A : Around) (cenv : Env) (g₀ : Heap) (V₀ : Addr → Prop) (DA : Addr) (s : Shared) (V : Addr → Prop) (ρ : Rho) (ds : List D) (s' : Shared) : Prop :=
  Same s s' ∧ Kb C.g [cenv.locals, DA] s.heap s'.heap ∧ ∃ V', (∀ a, V a → V' a) ∧ CS C A cenv g₀ V₀ DA s'.heap V' ρ ds
theorem CPost.from {s s₁ s' : Shared} {V₁ : Addr → Prop} (x : CPost C A cenv g₀ V₀ DA s₁ V₁ ρ ds s') (sm : Same s s₁) (k : Kb C.g [cenv.locals, DA] s.heap s₁.heap) (hV : ∀ a, V a → V₁ a) :
    CPost C A cenv g₀ V₀ DA s V ρ ds s' :=
  let ⟨a, b, V', c, d⟩ := x
  ⟨sm.trans a, k.trans b, V', fun e q => c e (hV e q), d⟩

/-- a name stored -/
theorem CS.store {s : Shared} {x : Str} {v : Value} {d : D} (q : CS C A cenv g₀ V₀ DA s.heap V ρ ds) (hk : cenv.kindOf x = some .local) (hv : At s.heap V v d) :
    wpAny C.M A (storeName cenv x v) (fun _ s' => Same s s' ∧ Kb C.g [cenv.locals, DA] s.heap s'.heap ∧ CS C A cenv g₀ V₀ DA s'.heap V ((x, d) :: ρ) ds ∧ ∀ w e, At s.heap V w e → At s'.heap V w e) (fun _ _ => False) s := by
  obtain ⟨m, hm⟩ := q.st.ns
  refine wpAny_storeName_local hk hm (fun h' hn hs => ?_) (by have := q.st.kind; rw [show cenv.scope.kind = .function from this]; rfl)
  have sto : Stored s.heap h' (gh cenv) x v := storedOf q.st hk hm hn hs
  have ex : ∀ b o, b ≠ cenv.locals → s.heap.get? b = some o → h'.get? b = some o := fun b o hb e => (hs.2 b hb).trans e
  obtain ⟨ys, ⟨k, e⟩, hys⟩ := q.acc
  refine ⟨⟨_, _, rfl⟩, fun b o hb e => ⟨o, ex b o (fun r => hb (r ▸ .head _)) e, .inl rfl⟩, ⟨sto.val q.st hv (fun _ r => nomatch r), ⟨ys, ⟨k, ex _ _ (q.notL e (by intro _ _ q; cases q)) e⟩, sto.ats q.st hys⟩, q.nV, q.n0, q.top⟩, fun w e a => sto.at q.st a⟩

/-- one more of the list -/
theorem CS.app {v : Value} {d : D} {ys : Array Value} (q : CS C A cenv g₀ V₀ DA h V ρ ds) (hv : At h V v d) (hl : h.PlainList DA ys) (hys : Ats h V ys.toList ds) (hs : Heap.SameBut DA h h') (hl' : h'.PlainList DA (ys.push v)) : CS C A cenv g₀ V₀ DA h' V ρ (ds ++ [d]) := by
  have ex : ∀ {b o}, b ≠ DA → h.get? b = some o → h'.get? b = some o := fun hb e => hs.extBut _ _ hb e
  have nD : ∀ {a o}, h.get? a = some o → (∀ xs k, o.data ≠ .seq xs k) → a ≠ DA := fun e n => q.notD e n
  have upA : ∀ {v d}, At h V v d → At h' V v d := fun r => r.mono fun a o hv e _ => ⟨hv, ex (fun z => q.nV (z ▸ hv)) e⟩
  have upAs : ∀ {v d}, Ats h V v d → Ats h' V v d := fun r => r.mono fun a o hv e _ => ⟨hv, ex (fun z => q.nV (z ▸ hv)) e⟩
  have upC : ∀ {c v}, h.IsCell c v → h'.IsCell c v := fun ⟨o, e, d⟩ => ⟨o, ex (nD e (by rw [d]; intro _ _ q; cases q)) e, d⟩
  have upN : ∀ {a m}, h.Ns a m → h'.Ns a m := fun ⟨o, es, k, e, d, r⟩ => ⟨o, es, k, ex (nD e (by rw [d]; intro _ _ q; cases q)) e, d, r⟩
  have upK : ∀ {y v}, Lk h (gh cenv) y v → Lk h' (gh cenv) y v := fun r => by
    rcases r with ⟨a, m, b, c⟩ | ⟨a, c, b, d⟩
    · exact .inl ⟨a, m, upN b, c⟩
    · exact .inr ⟨a, c, b, upC d⟩
  refine ⟨{ q.st with keep := fun b o e => ?_, ns := ?_, cells := fun y c e => ?_, names := fun y d e => ?_, own := ⟨fun _ => 0, fun _ _ r => nomatch r⟩, frames := ?_ }, ⟨_, hl', ?_⟩, q.nV, q.n0, q.top⟩
  · obtain ⟨o', e', l⟩ := q.st.keep b o e
    exact ⟨o', ex (by rintro rfl; rw [q.n0] at e; cases e) e', l⟩
  · obtain ⟨m, hm⟩ := q.st.ns; exact ⟨m, upN hm⟩
  · obtain ⟨⟨v, a1⟩, a2⟩ := q.st.cells y c e; exact ⟨⟨v, upC a1⟩, a2⟩
  · obtain ⟨v, a1, a2⟩ := q.st.names y d e; exact ⟨v, upA a1, upK a2⟩
  · obtain ⟨outer, e, H⟩ := q.st.frames
    refine ⟨outer, e, fun en hen => ?_⟩
    obtain ⟨q1, L, o, q2, q3, q4, es, k, q5⟩ := H en hen
    exact ⟨q1, L, o, q2, q3, ex (nD q4 (by rw [q5]; intro _ _ q; cases q)) q4, es, k, q5⟩
  · rw [Array.toList_push]; exact (upAs hys).append (.cons (upA hv) .nil)

/-- a piece of a comprehension puts these behind its list -/
noncomputable def Cb (C : Cfg) (n : Nat) (sc : Scope) (ρ : Rho) (t : Value → Env → Sem Unit) (es : List D) : Prop :=
  ∀ A g₀ V₀ DA s V cenv ds, cenv.scope = sc → AOK n A → CS C A cenv g₀ V₀ DA s.heap V ρ ds → ds.length + es.length ≤ 1000 →
    wpAny C.M A (t (.ref DA) cenv) (fun _ s' => CPost C A cenv g₀ V₀ DA s V ρ (ds ++ es) s') (fun _ _ => False) s
/-- a target takes this -/
noncomputable def Tg (C : Cfg) (n : Nat) (sc : Scope) (target : Expr) (d : D) (β : Rho) : Prop :=
  ∀ A g₀ V₀ DA s V cenv ρ ds v, cenv.scope = sc → AOK n A → CS C A cenv g₀ V₀ DA s.heap V ρ ds → At s.heap V v d →
    wpAny C.M A (assign target cenv v) (fun _ s' => CPost C A cenv g₀ V₀ DA s V (β ++ ρ) ds s') (fun _ _ => False) s
/-- nothing is let go ahead of a target, at a list -/
noncomputable def Go (C : Cfg) (target : Expr) : Prop :=
  ∀ A I l i v s (Q : Unit → Shared → Prop) (E : Value → Shared → Prop), s.heap.IsListIter I l i → Q () s → wpAny C.M A (letOwnedTupleGo target (.ref I) v) Q E s
theorem Go.name {x : Str} {px : Pos} : Go C (.Name x px) := fun _ _ _ _ _ _ _ _ _ h => wpAny_of_eq (a := ()) rfl h
theorem Go.tuple {es : List Expr} {k : Nat} {px : Pos} : Go C (.Tuple es k px) := fun A I l i v s Q E hit h => by
  cases v with
  | ref T => exact wpAny_letOwnedTupleGo_listiter hit h
  | _ => exact wpAny_of_eq (a := ()) rfl h

theorem Tg.name {x : Str} {px : Pos} {d : D} (hk : sc.names.lookup x = some .local) : Tg C n sc (.Name x px) d [(x, d)] := by
  intro A g₀ V₀ DA s V cenv ρ ds v he hA q hv
  refine wpAny_assign_Name (wpAny_mono (q.store (kindOf_of he hk) hv) (fun _ s' h => ?_) fun _ _ f => f)
  exact ⟨h.1, h.2.1, V, fun _ r => r, h.2.2.1⟩
theorem Tg.pair {x y : Str} {px py tp : Pos} {k : Nat} {a b : D} (hx : sc.names.lookup x = some .local) (hy : sc.names.lookup y = some .local) (hn : 1 ≤ n) :
    Tg C n sc (.Tuple [.Name x px, .Name y py] k tp) (.tuple [a, b]) [(y, b), (x, a)] := by
  intro A g₀ V₀ DA s V cenv ρ ds v he hA q hv
  cases hv with
  | tuple hV hl hs =>
    cases hs with
    | cons qa tl =>
      cases tl with
      | cons qb tl =>
        cases tl
        rename_i l va vb
        rw [assign_Tuple]
        refine wpAny_bind (wpAny_standAt ?_)
        show wpAny C.M A (do
          let items ← holding [.ref l] (unpackItems (.ref l) 2 none)
          assignInOrder [PySem.assign (.Name x px) cenv, PySem.assign (.Name y py) cenv] items) _ _ s
        refine wpAny_bind (wpAny_holding (unpackItems_tuple (items := #[va, vb]) (hA.handled hn) hl fun h' ext => ?_))
        have kx : KeU C.g s.heap h' := Fre.ext ext
        have q₂ := q.ke kx
        have qa' := kx.at (V' := Fre V s.heap) Fre.sub qa
        have qb' := kx.at (V' := Fre V s.heap) Fre.sub qb
        show wpAny C.M A (do
          holding [vb] (PySem.assign (.Name x px) cenv va)
          (do holding [] (PySem.assign (.Name y py) cenv vb); pure ())) _ _ _
        refine wpAny_bind (wpAny_holding (wpAny_assign_Name (wpAny_mono (CS.store (s := { s with heap := h' }) q₂ (kindOf_of he hx) qa') (fun _ s₃ h₃ => ?_) fun _ _ f => f)))
        obtain ⟨sm₃, k₃, q₃, up₃⟩ := h₃
        refine wpAny_bind (wpAny_holding (wpAny_assign_Name (wpAny_mono (q₃.store (kindOf_of he hy) (up₃ _ _ qb')) (fun _ s₄ h₄ => ?_) fun _ _ f => f)))
        obtain ⟨sm₄, k₄, q₄, _⟩ := h₄
        exact wpAny_pure ⟨(Same.trans ⟨h', s.toks, rfl⟩ sm₃).trans sm₄, ((Kb.of kx).trans k₃).trans k₄, Fre V s.heap, Fre.sub, q₄⟩

theorem Cb.emit {elt : Expr} {d : D} (v : Ev C n sc ρ elt d) : Cb C n sc ρ (fun acc env => do let _ ← PySem.call (.builtin "list.append") [acc, ← eval elt env]) [d] := by
  intro A g₀ V₀ DA s V cenv ds he hA q hlen
  refine wpAny_bind (wpAny_mono (v A s V cenv he hA q.rd) (fun y s₁ h₁ => ?_) fun _ _ f => f)
  obtain ⟨k₁, hy⟩ := h₁
  have q₁ := q.ke k₁.heap
  obtain ⟨ys, hl, hys⟩ := q₁.acc
  have hz : ys.size ≤ sizeLine := by
    have e := hys.length
    rw [Array.length_toList] at e
    rw [e]
    have : (1000 : Nat) ≤ sizeLine := by decide
    simp at hlen; omega
  refine wpAny_bind (wpAny_list_append_plain hl (fun h₂ hl₂ hs₂ => wpAny_pure ?_) hz)
  refine ⟨k₁.same.trans ⟨h₂, s₁.toks, rfl⟩, (Kb.of k₁.heap).trans fun b o hb e => ⟨o, hs₂.extBut b o (fun r => hb (r ▸ .tail _ (.head _))) e, .inl rfl⟩, _, Fre.sub, q₁.app hy hl hys hs₂ hl₂⟩

theorem flatMap_take {items : List D} {out : D → List D} {i : Nat} {d : D} (h : items[i]? = some d) : (items.take (i + 1)).flatMap out = (items.take i).flatMap out ++ out d := by
  rw [List.take_add_one, h, List.flatMap_append]
  simp
theorem flatMap_le {items : List D} {out : D → List D} (i : Nat) : ((items.take i).flatMap out).length ≤ (items.flatMap out).length := by
  have e : items = items.take i ++ items.drop i := (List.take_append_drop i items).symm
  have : (items.flatMap out).length = ((items.take i).flatMap out).length + ((items.drop i).flatMap out).length := by
    rw [← List.length_append, ← List.flatMap_append, ← e]
  omega

/-- the loop of a comprehension, at any depth -/
theorem loopC {elt target : Expr} {gens : List Comprehension} {scope : Scope} {pos p : Pos} {dep : Nat} (rest : Value → Env → Sem Unit) {items : List D} {β : D → Rho} {out : D → List D}
    (hturn : ∀ it acc env, compTurn (.ListComp elt gens scope pos) dep it acc env = (standAt p >>= fun _ => pyNext it >>= fun r => match r with
      | none => pure (.done .next)
      | some v => letOwnedTupleGo target it v >>= fun _ => PySem.assign target env v >>= fun _ => rest acc env >>= fun _ => again (.compLoop (.ListComp elt gens scope pos) dep it acc env)))
    (hgo : Go C target) (htg : ∀ d ∈ items, Tg C n sc target d (β d)) (hb : ∀ d ∈ items, Cb C n sc (β d ++ ρ) rest (out d))
    (hβ : ∀ d ∈ items, ∀ y e, ρ.lookup y = some e → (β d ++ ρ).lookup y = some e)
    {s : Shared} {l I : Addr} {vs : List Value} (he : cenv.scope = sc) (hA : AOK n A) (hn : 1 ≤ n) (q : CS C A cenv g₀ V₀ DA s.heap V ρ ds) (hVl : V l) (hl : s.heap.IsList l vs.toArray) (hs : Ats s.heap V vs items)
    (hit : s.heap.IsListIter I l 0) (hI : g₀.get? I = none) (hlen : ds.length + (items.flatMap out).length ≤ 1000) :
    codeAny C.M A (.compLoop (.ListComp elt gens scope pos) dep (.ref I) (.ref DA) cenv) (fun r s' => r = .ok .next ∧ Same s s' ∧ Kb C.g [cenv.locals, DA, I] s.heap s'.heap ∧ ∃ V', (∀ a, V a → V' a) ∧ CS C A cenv g₀ V₀ DA s'.heap V' ρ (ds ++ items.flatMap out)) s := by
  have hll : vs.length = items.length := hs.length
  refine codeAny_loop rfl (fun k s' => ∃ h tk i V', s' = { s with heap := h, toks := tk } ∧ h.IsListIter I l i ∧ i ≤ items.length ∧ k = items.length + 1 - i ∧ Kb C.g [cenv.locals, DA, I] s.heap h ∧ (∀ a, V a → V' a) ∧
    CS C A cenv g₀ V₀ DA h V' ρ (ds ++ (items.take i).flatMap out)) ?_ (items.length + 1) ⟨s.heap, s.toks, 0, V, rfl, hit, Nat.zero_le _, rfl, .refl, fun _ r => r, by simpa using q⟩
  rintro k s' ⟨h, tk, i, V', rfl, hit, hi, rfl, kb, hV, q'⟩
  show wpAny _ A ((compTurn (.ListComp elt gens scope pos) dep (.ref I) (.ref DA) cenv).onRaise (fun x => do noteFrame x cenv; theTreesLotGoes x)) _ _ _
  refine wpAny_noted ?_
  rw [hturn]
  refine wpAny_bind (wpAny_standAt (wpAny_bind ?_))
  have up : ∀ {b o}, s.heap.get? b = some o → IsSeq o → V b → h.get? b = some o := fun {b o} e hsq hv => by
    refine kb.exact (fun hm => ?_) e (by obtain ⟨_, _, d⟩ := hsq; rw [d]; intro _ _ q; cases q)
    obtain ⟨xs, k, d⟩ := hsq
    rcases List.mem_cons.mp hm with r | hm
    · exact q.notL e (by rw [d]; intro _ _ q; cases q) r
    · rcases List.mem_cons.mp hm with r | hm
      · exact q.nV (r ▸ hv)
      · obtain ⟨oI, eI, _, dI⟩ := id ‹s.heap.IsListIter I l 0›
        rw [List.mem_singleton.mp hm, eI] at e
        cases e; rw [d] at dI; cases dI
  have hl' : h.IsList l vs.toArray := by
    obtain ⟨o, e, c, k, d⟩ := hl
    exact ⟨o, up e ⟨_, _, d⟩ hVl, c, k, d⟩
  have hs' : Ats h V' vs items := hs.mono fun b o hv e hsq => ⟨hV b hv, up e hsq hv⟩
  have hIf : ∃ o, h.get? I = some o ∧ ∃ fs, o.data = .fields fs := by obtain ⟨o, e, _, d⟩ := hit; exact ⟨o, e, _, d⟩
  by_cases hlt : i < items.length
  · have hv : vs[i]? = some vs[i] := List.getElem?_eq_getElem (by omega)
    obtain ⟨d, hd, had⟩ := hs'.get' hv
    have hdm : d ∈ items := List.mem_of_getElem? hd
    refine wpAny_pyNext_list_item hit hl' (x := vs[i]) (by simpa using hv) fun h₁ hit₁ sb₁ => ?_
    dsimp only
    refine wpAny_bind (hgo A I l (i + 1) _ _ _ _ hit₁ ?_)
    have kI : ∀ b o, b ∉ [I] → h.get? b = some o → h₁.get? b = some o := fun b o hb e => sb₁.extBut b o (fun r => hb (r ▸ .head _)) e
    have q₁ : CS C A cenv g₀ V₀ DA h₁ V' ρ (ds ++ (items.take i).flatMap out) := q'.but (wr := [I]) kI fun b hb => by rw [List.mem_singleton.mp hb]; exact ⟨hI, hIf⟩
    have had₁ : At h₁ V' vs[i] d := had.mono fun b o hv e hsq => ⟨hv, kI b o (fun hb => by
      obtain ⟨o', e', fs, df⟩ := hIf
      rw [List.mem_singleton.mp hb, e'] at e; cases e
      obtain ⟨_, _, dd⟩ := hsq; rw [dd] at df; cases df) e⟩
    have step : ∀ {ha hb : Heap}, Kb C.g [cenv.locals, DA] ha hb → ha.IsListIter I l (i + 1) → (∃ Va ρa da, CS C A cenv g₀ V₀ DA ha Va ρa da) → hb.IsListIter I l (i + 1) := by
      rintro ha hb kab ⟨o, e, c, dd⟩ ⟨Va, ρa, da, qa⟩
      refine ⟨o, kab.exact (fun hm => ?_) e (by rw [dd]; intro _ _ q; cases q), c, dd⟩
      rcases List.mem_cons.mp hm with r | hm
      · exact qa.notL e (by rw [dd]; intro _ _ q; cases q) r
      · exact qa.notD e (by rw [dd]; intro _ _ q; cases q) (List.mem_singleton.mp hm)
    refine wpAny_bind (wpAny_mono (htg d hdm A g₀ V₀ DA { s with heap := h₁, toks := tk } V' cenv ρ _ _ he hA q₁ had₁) (fun _ s₂ h₂ => ?_) fun _ _ f => f.elim)
    obtain ⟨sm₂, k₂, V₂, hV₂, q₂⟩ := h₂
    have hlen' : (ds ++ (items.take i).flatMap out).length + (out d).length ≤ 1000 := by
      have e1 := flatMap_take (out := out) hd
      have e2 := flatMap_le (items := items) (out := out) (i + 1)
      rw [e1, List.length_append] at e2
      rw [List.length_append]; omega
    refine wpAny_bind (wpAny_mono (hb d hdm A g₀ V₀ DA s₂ V₂ cenv _ he hA q₂ hlen') (fun _ s₃ h₃ => ?_) fun _ _ f => f.elim)
    obtain ⟨sm₃, k₃, V₃, hV₃, q₃⟩ := h₃
    obtain ⟨h₂, t₂, rfl⟩ := sm₂
    obtain ⟨h₃, t₃, rfl⟩ := sm₃
    dsimp only at k₂ k₃ q₂ q₃
    refine wpAny_pure ⟨rfl, items.length + 1 - (i + 1), by omega, h₃, t₃, i + 1, V₃, rfl, step k₃ (step k₂ hit₁ ⟨_, _, _, q₁⟩) ⟨_, _, _, q₂⟩, by omega, rfl, ?_, fun a r => hV₃ a (hV₂ a (hV a r)), ?_⟩
    · refine kb.trans (Kb.trans (fun b o hb e => ⟨o, kI b o (fun r => hb ?_) e, .inl rfl⟩) ((k₂.wider ?_).trans (k₃.wider ?_)))
      · rw [List.mem_singleton.mp r]; exact .tail _ (.tail _ (.head _))
      · intro b hb
        rcases List.mem_cons.mp hb with r | hb
        · exact r ▸ .head _
        · exact List.mem_singleton.mp hb ▸ .tail _ (.head _)
      · intro b hb
        rcases List.mem_cons.mp hb with r | hb
        · exact r ▸ .head _
        · exact List.mem_singleton.mp hb ▸ .tail _ (.head _)
    · rw [flatMap_take hd, ← List.append_assoc]
      exact q₃.fewer (hβ d hdm)
  · have hin : i = items.length := by omega
    subst hin
    have hend : vs.toArray[items.length]? = none := by simp; omega
    refine wpAny_pyNext_list_end (hA.handled hn) hit hl' hend fun h₁ ex₁ => ?_
    have kI : ∀ b o, b ∉ [I] → h.get? b = some o → h₁.get? b = some o := fun b o hb e => ex₁ b o (fun r => hb (r ▸ .head _)) e
    refine wpAny_pure ⟨rfl, ⟨h₁, tk, rfl⟩, kb.trans fun b o hb e => ⟨o, kI b o (fun r => hb ?_) e, .inl rfl⟩, V', hV, ?_⟩
    · rw [List.mem_singleton.mp r]; exact .tail _ (.tail _ (.head _))
    · have q₁ := q'.but (wr := [I]) kI fun b hb => by rw [List.mem_singleton.mp hb]; exact ⟨hI, hIf⟩
      rw [List.take_length] at q₁
      exact q₁
end
end Mine
end

section
open PySem PySem.W PySem.Calls PyProof.Rows
namespace Mine
set_option maxRecDepth 20000
section
variable {C : Cfg} {A : Around} {cenv : Env} {g₀ : Heap} {V₀ V : Addr → Prop} {DA : Addr} {h h' : Heap} {ρ ρ' : Rho} {ds : List D} {n : Nat} {sc : Scope}

theorem flatMap_one {f : D → D} : ∀ l : List D, l.flatMap (fun d => [f d]) = l.map f
  | [] => rfl
  | a :: r => by rw [List.flatMap_cons, List.map_cons, flatMap_one r]; rfl
theorem compStart1 {elt t0 t1 i0 i1 : Expr} {scope : Scope} {pos : Pos} {it acc : Value} {env : Env} {R : Result → Shared → Prop} {s : Shared}
    (h0 : codeAny C.M A (.compLoop (.ListComp elt [⟨t0, i0, [], 0⟩, ⟨t1, i1, [], 0⟩] scope pos) 1 it acc env) R s)
    (h : wpAny C.M A (pyIter it) (fun it' s' => codeAny C.M A (.compLoop (.ListComp elt [⟨t0, i0, [], 0⟩, ⟨t1, i1, [], 0⟩] scope pos) 1 it' acc env) R s')
      (notedBy C.M A env fun x s' => R (.error x) s') s) :
    codeAny C.M A (.compStart (.ListComp elt [⟨t0, i0, [], 0⟩, ⟨t1, i1, [], 0⟩] scope pos) 1 it acc env) R s := by
  refine codeAny_of_tree ?_
  show wpAny _ _ ((compStart (.ListComp elt [⟨t0, i0, [], 0⟩, ⟨t1, i1, [], 0⟩] scope pos) 1 it acc env).onRaise (fun x => do noteFrame x env; standAt theWindowsPlace)) _ _ s
  refine wpAny_notedAt ?_
  unfold compStart
  show wpAny _ _ (ask >>= _) _ _ s
  refine wpAny_bind (wpAny_askSetting (wpAny_ite ?_))
  split
  · first
      | exact wpAny_bind (wpAny_pure (wpAny_pure (And.intro rfl h0)))
      | exact wpAny_pure (And.intro rfl h0)
  · refine wpAny_bind (wpAny_rule ?_); show wpAny _ _ (standAt i1.pos >>= _) _ _ s; exact wpAny_bind (wpAny_standAt (wpAny_bind (wpAny_mono h (fun it' s' h' => wpAny_pure (And.intro rfl h')) fun _ _ x => x)))

/-- the second loop of a comprehension -/
theorem Cb.inner {elt t0 t1 i0 i1 : Expr} {scope : Scope} {pos : Pos} {items : List D} {β : D → Rho} {out : D → D}
    (hit : Ev C n sc ρ i1 (.list items)) (hgo : Go C t1) (htg : ∀ d ∈ items, Tg C n sc t1 d (β d)) (helt : ∀ d ∈ items, Ev C n sc (β d ++ ρ) elt (out d))
    (hβ : ∀ d ∈ items, ∀ y e, ρ.lookup y = some e → (β d ++ ρ).lookup y = some e) (hn : 1 ≤ n) (hs : ∀ env x, foldedSetIterable i1 env x = pure x := by intro _ _; rfl) :
    Cb C n sc ρ (fun acc env => do
        let x ← eval i1 env
        standAt i1.pos
        let x ← foldedSetIterable i1 env x
        let _ ← runOwn (.compStart (.ListComp elt [⟨t0, i0, [], 0⟩, ⟨t1, i1, [], 0⟩] scope pos) 1 (← holding [x] (pyIter x)) acc env) env) (items.map out) := by
  intro A g₀ V₀ DA s V cenv ds he hA q hlen
  refine wpAny_bind (wpAny_mono (hit A s V cenv he hA q.rd) (fun x s₁ h₁ => ?_) fun _ _ f => f)
  obtain ⟨k₁, hx⟩ := h₁
  have q₁ := q.ke k₁.heap
  refine wpAny_bind (wpAny_standAt (wpAny_bind (wpAny_of_eq (hs cenv x) ?_)))
  cases hx with
  | list hv hl hys =>
    rename_i l vs
    refine wpAny_bind (wpAny_holding (wpAny_pyIter_list hl.isList ?_))
    generalize hI : s₁.heap.objs.size = I
    have nI : s₁.heap.get? I = none := Heap.get?_none_of_le (by rw [hI]; exact Nat.le_refl _)
    have kp : KeU C.g s₁.heap (s₁.heap.push { cls := .type "list_iterator", data := .fields #[.ref l, .int 0 0] }) := .push _
    have q₂ := q₁.ke kp
    have hit₂ : (s₁.heap.push { cls := .type "list_iterator", data := .fields #[.ref l, .int 0 0] }).IsListIter I l 0 := by rw [← hI]; exact ⟨_, Heap.get?_push_size _ rfl, rfl, rfl⟩
    have gI : g₀.get? I = none := q₁.st.keep.none nI
    have L := loopC (s := { s₁ with heap := s₁.heap.push { cls := .type "list_iterator", data := .fields #[.ref l, .int 0 0] } }) (elt := elt) (target := t1) (gens := [⟨t0, i0, [], 0⟩, ⟨t1, i1, [], 0⟩]) (scope := scope) (pos := pos) (p := i1.pos) (dep := 1)
      (fun acc env => do let _ ← PySem.call (.builtin "list.append") [acc, ← eval elt env]) (items := items) (β := β) (out := fun d => [out d])
      (fun _ _ _ => rfl) hgo htg (fun d hd => Cb.emit (helt d hd)) hβ he hA hn q₂ (.inl hv) (hl.isList.push _) (kp.ats Fre.sub hys) hit₂ gI (by rw [flatMap_one]; exact hlen)
    refine wpAny_bind (wpAny_runOwn ?_)
    rw [Around.mark_none]
    have fin : codeAny C.M A (.compLoop (.ListComp elt [⟨t0, i0, [], 0⟩, ⟨t1, i1, [], 0⟩] scope pos) 1 (.ref I) (.ref DA) cenv) (fun r s' => match r with
        | .ok f => wpAny C.M A (pure ()) (fun _ s' => CPost C A cenv g₀ V₀ DA s V ρ (ds ++ items.map out) s') (fun _ _ => False) s'
        | .error e => cameBackBy C.M A cenv (fun _ _ => False) e s') { s₁ with heap := s₁.heap.push { cls := .type "list_iterator", data := .fields #[.ref l, .int 0 0] } } := by
      refine codeAny_mono L ?_
      rintro r s' ⟨rfl, sm, kb, V', hV', q'⟩
      refine wpAny_pure ⟨(k₁.same.trans ⟨_, s₁.toks, rfl⟩).trans sm, (Kb.of k₁.heap).trans fun b o hb e => ?_, V', fun a r => hV' a (.inl (.inl r)), ?_⟩
      · refine kb b o (fun hm => ?_) (Heap.get?_push_of_some _ e)
        rcases List.mem_cons.mp hm with r | hm
        · exact hb (r ▸ .head _)
        · rcases List.mem_cons.mp hm with r | hm
          · exact hb (r ▸ .tail _ (.head _))
          · rw [List.mem_singleton.mp hm, nI] at e; cases e
      · have e : items.flatMap (fun d => [out d]) = items.map out := flatMap_one items
        rw [e] at q'; exact q'
    exact compStart1 fin (wpAny_pyIter_listiter hit₂ fin)

noncomputable def noCells (sc : Scope) : Bool := sc.names.all fun p => p.2 != .cell
theorem noCells_lookup {sc : Scope} (h : noCells sc = true) {x : Str} (e : sc.names.lookup x = some .cell) : False := by
  have := List.all_eq_true.mp h (x, .cell) (mem_of_lookup e)
  simp at this

/-- a comprehension whose names are its own alone -/
theorem gen_core {elt t0 i0 : Expr} {rest : List Comprehension} {scope : Scope} {pos p0 : Pos} {items : List D} {β : D → Rho} {out : D → List D} (body : Value → Env → Sem Unit) {use : Option (Value → Sem Unit)} {Q : Value → Shared → Prop}
    {s : Shared} {env : Env} (he : env.scope = sc) (hA : AOK n A) (hn : 1 ≤ n) (rd : Rd C A s.heap V env ρ)
    (hturn : ∀ it acc env, compTurn (.ListComp elt (⟨t0, i0, [], 0⟩ :: rest) scope pos) 0 it acc env = (standAt i0.pos >>= fun _ => pyNext it >>= fun r => match r with
      | none => pure (.done .next)
      | some v => letOwnedTupleGo t0 it v >>= fun _ => PySem.assign t0 env v >>= fun _ => body acc env >>= fun _ => again (.compLoop (.ListComp elt (⟨t0, i0, [], 0⟩ :: rest) scope pos) 0 it acc env)))
    (hit : Ev C n sc ρ i0 (.list items)) (hgo : Go C t0) (htg : ∀ d ∈ items, Tg C n (rel scope sc) t0 d (β d)) (hb : ∀ d ∈ items, Cb C n (rel scope sc) (β d ++ []) body (out d))
    (hcl : ∀ env, closureFor scope env = pure []) (hcf : ∀ k, cellsFrom k scope.names [] = []) (hnc : noCells (rel scope sc) = true) (hkind : scope.kind = .function)
    (hnames : ∀ y ∈ scope.names, y.2 = .local → scope.names.lookup y.1 = some .local) (hlen : (items.flatMap out).length ≤ 1000) (hs : ∀ env x, foldedSetIterable i0 env x = pure x)
    (hpost : ∀ DA CA h' tk m, KeU C.g s.heap h' → At h' (Fre V s.heap) (.ref DA) (.list (items.flatMap out)) → h'.Ns CA m → s.heap.get? CA = none →
      compPost C.M A (fun _ _ => False) use Q (.ref DA) CA (.ok .next) { s with heap := h', toks := tk }) :
    wpAny C.M A (comprehension (.ListComp elt (⟨t0, i0, [], 0⟩ :: rest) scope pos) scope env p0 (newList []) false (eval i0 env) use) Q (fun _ _ => False) s := by
  refine wpAny_comprehension_free rfl (hs env) (hcl env) hkind hnames ?_
  refine wpAny_mono (hit A s V env he hA rd) (fun xv s₁ h₁ => ?_) fun _ _ f => f
  obtain ⟨k₁, hx⟩ := h₁
  cases hx with
  | list hv hl hys =>
    rename_i l vs
    refine wpAny_pyIter_list hl.isList ?_
    refine wpAny_newObj_type (wp_compEnv ?_)
    dsimp only
    generalize hI : s₁.heap.objs.size = I
    generalize hH2 : s₁.heap.push { cls := .type "list_iterator", data := .fields #[.ref l, .int 0 0] } = h₂
    have hsz2 : h₂.objs.size = I + 1 := by rw [← hH2, Heap.size_push, hI]
    generalize hDA : h₂.objs.size = DA
    generalize hH3 : h₂.push { cls := .type "list", dict := none, data := .seq ([] : List Value).toArray } = h₃
    have hsz3 : h₃.objs.size = DA + 1 := by rw [← hH3, Heap.size_push, hDA]
    rw [hsz3]
    generalize hCA : DA + 1 = CA
    generalize hH4 : pushCells (h₃.push { cls := .type "dict", data := .dict #[] }) scope.names = h₄
    rw [hcf, relabel_eq he]
    have k34 : ∀ b o, h₃.get? b = some o → h₄.get? b = some o := fun b o e => by
      rw [← hH4]; exact pushCells_keeps _ _ _ _ (Heap.get?_push_of_some _ e)
    have k23 : ∀ b o, h₂.get? b = some o → h₃.get? b = some o := fun b o e => by rw [← hH3]; exact Heap.get?_push_of_some _ e
    have k12 : ∀ b o, s₁.heap.get? b = some o → h₂.get? b = some o := fun b o e => by rw [← hH2]; exact Heap.get?_push_of_some _ e
    have k14 : KeU C.g s₁.heap h₄ := .of fun b o e => k34 b o (k23 b o (k12 b o e))
    have k04 : KeU C.g s.heap h₄ := k₁.heap.trans k14
    have n₁ : ∀ a, I ≤ a → s₁.heap.get? a = none := fun a ha => Heap.get?_none_of_le (by rw [hI]; exact ha)
    have n₀ : ∀ a, I ≤ a → s.heap.get? a = none := fun a ha => k₁.heap.none (n₁ a ha)
    have hID : I + 1 = DA := by rw [← hDA, hsz2]
    have hns4 : h₄.Ns CA (fun _ => none) := by
      rw [← hH4, ← hCA, ← hsz3]; exact (Heap.Ns.new h₃ (.type "dict")).keeps (pushCells_keeps _ _)
    have hacc4 : h₄.PlainList DA #[] := ⟨0, k34 _ _ (by rw [← hH3, ← hDA]; exact Heap.get?_push_size _ rfl)⟩
    have hit2 : h₂.IsListIter I l 0 := by
      rw [← hH2, ← hI]; exact ⟨_, Heap.get?_push_size _ rfl, rfl, rfl⟩
    have hit4 : h₄.IsListIter I l 0 := hit2.at fun o e => k34 _ _ (k23 _ _ e)
    generalize hce : ({ scope := rel scope sc, locals := CA, globals := env.globals, cells := [], qual := env.qual, func := none, code := env.code, frame := env.frame, builtins := env.builtins } : Env) = cenv
    have hcs : cenv.scope = rel scope sc := by rw [← hce]
    have hcL : cenv.locals = CA := by rw [← hce]
    have hcc : cenv.cells = [] := by rw [← hce]
    obtain ⟨outer, hout, HF⟩ := rd.frames
    have gCA : C.g.get? CA = none := by
      cases e : C.g.get? CA with
      | none => rfl
      | some o => have := rd.base _ _ e; rw [n₀ CA (by omega)] at this; cases this
    have st : StV C (A.deeper (gh cenv)) s.heap V h₄ (fun a => Fre V s.heap a ∧ a ≠ DA) (gh cenv) [] [] := by
      refine ⟨rd.base, ?_, ?_, ?_, k04, fun a r => r.1, rfl, ⟨outer, Around.frames_deeper hout⟩, ⟨fun _ => Option.none, ?_⟩, ?_, fun y c e => ?_, fun y hy => ?_, fun y d e => ?_, ⟨fun _ => 0, fun _ _ r => nomatch r⟩, ?_⟩
      · show cenv.scope.kind = .function
        rw [hcs]; exact hkind
      · rw [← hce]; exact rd.globals
      · rw [← hce]; exact rd.builtins
      · show h₄.Ns cenv.locals _
        rw [hcL]; exact hns4
      · show s.heap.get? cenv.locals = none
        rw [hcL]; exact n₀ CA (by omega)
      · have e' : cenv.cells.lookup y = some c := e
        rw [hcc] at e'; simp at e'
      · have hy' : cenv.scope.names.lookup y = some .cell := hy
        rw [hcs] at hy'; exact (noCells_lookup hnc hy').elim
      · simp at e
      · refine ⟨gh cenv :: outer, Around.frames_deeper hout, fun en hen => ?_⟩
        rcases List.mem_cons.mp hen with rfl | hen
        · obtain ⟨o', es, k, e', d', _⟩ := hns4
          refine ⟨?_, CA, o', ?_, gCA, e', es, k, d'⟩
          · show cenv.scope.kind ≠ .module
            rw [hcs, show (rel scope sc).kind = .function from hkind]; decide
          · show some cenv.locals = some CA
            rw [hcL]
        · obtain ⟨q1, L, o, q2, q3, q4, es, k, q5⟩ := HF en hen
          obtain ⟨o', e', l'⟩ := k04 L o q4
          exact ⟨q1, L, o', q2, q3, e', es, k, l'.data.trans q5⟩
    have q : CS C A cenv s.heap V DA h₄ (fun a => Fre V s.heap a ∧ a ≠ DA) [] [] := ⟨st, ⟨#[], hacc4, .nil⟩, fun r => r.2 rfl, n₀ DA (by omega), outer, hout⟩
    have lD : ∀ b o, s₁.heap.get? b = some o → b ≠ DA := fun b o e => by rintro rfl; have := Heap.lt_size e; rw [hI, ← hID] at this; exact absurd this (Nat.not_lt.mpr (Nat.le_succ I))
    have hys4 : Ats h₄ (fun a => Fre V s.heap a ∧ a ≠ DA) vs items := hys.mono fun b o hv e _ => ⟨⟨hv, lD b o e⟩, k34 b o (k23 b o (k12 b o e))⟩
    have hl4 : h₄.IsList l vs.toArray := k14.isList hl.isList
    have hlD : l ≠ DA := by obtain ⟨_, e⟩ := hl; exact lD l _ e
    have fin : ∀ tk, codeAny C.M A (.compLoop (.ListComp elt (⟨t0, i0, [], 0⟩ :: rest) scope pos) 0 (.ref I) (.ref DA) cenv) (compPost C.M A (fun _ _ => False) use Q (.ref DA) CA) { s₁ with heap := h₄, toks := tk } := by
      intro tk
      have L := loopC (s := { s₁ with heap := h₄, toks := tk }) body (elt := elt) (β := β) (out := out) hturn hgo htg hb (fun _ _ _ _ e => by simp at e) hcs hA hn q ⟨hv, hlD⟩ hl4 hys4 hit4 (n₀ I (Nat.le_refl _)) (by simpa using hlen)
      refine codeAny_mono L ?_
      rintro r s' ⟨rfl, sm, kb, V', hV', q'⟩
      obtain ⟨h', t', rfl⟩ := sm
      dsimp only at q'
      obtain ⟨h₁, t₁, rfl, _⟩ := k₁
      obtain ⟨m, hm⟩ := q'.st.ns
      have hm' : h'.Ns CA m := by rw [← hcL]; exact hm
      refine hpost DA CA h' t' m q'.st.keep ?_ hm' (n₀ CA (by omega))
      obtain ⟨ys, hl', hs'⟩ := q'.acc
      obtain ⟨yl⟩ := ys
      rw [List.nil_append] at hs'
      exact .list (.inr (n₀ DA (by omega))) hl' (hs'.wider fun a r => q'.st.vis a r)
    exact codeAny_compStart_list (fin _) (wpAny_pyIter_listiter hit4 (fin _))
/-- the same, as a value -/
theorem Ev.gen {elt t0 i0 : Expr} {rest : List Comprehension} {scope : Scope} {pos : Pos} {items : List D} {β : D → Rho} {out : D → List D} (body : Value → Env → Sem Unit) (hn : 1 ≤ n)
    (hturn : ∀ it acc env, compTurn (.ListComp elt (⟨t0, i0, [], 0⟩ :: rest) scope pos) 0 it acc env = (standAt i0.pos >>= fun _ => pyNext it >>= fun r => match r with
      | Option.none => pure (.done .next)
      | some v => letOwnedTupleGo t0 it v >>= fun _ => PySem.assign t0 env v >>= fun _ => body acc env >>= fun _ => again (.compLoop (.ListComp elt (⟨t0, i0, [], 0⟩ :: rest) scope pos) 0 it acc env)))
    (hit : Ev C n sc ρ i0 (.list items)) (hgo : Go C t0) (htg : ∀ d ∈ items, Tg C n (rel scope sc) t0 d (β d)) (hb : ∀ d ∈ items, Cb C n (rel scope sc) (β d ++ []) body (out d))
    (hcl : ∀ env, closureFor scope env = pure []) (hcf : ∀ k, cellsFrom k scope.names [] = []) (hnc : noCells (rel scope sc) = true) (hkind : scope.kind = .function)
    (hnames : ∀ y ∈ scope.names, y.2 = .local → scope.names.lookup y.1 = some .local) (hlen : (items.flatMap out).length ≤ 1000) (hs : ∀ env x, foldedSetIterable i0 env x = pure x := by intro _ _; rfl) :
    Ev C n sc ρ (.ListComp elt (⟨t0, i0, [], 0⟩ :: rest) scope pos) (.list (items.flatMap out)) := by
  intro A s V env he hA rd
  rw [eval_ListComp]
  refine gen_core body he hA hn rd hturn hit hgo htg hb hcl hcf hnc hkind hnames hlen hs ?_
  intro DA CA h' tk m k a hn hc
  exact ⟨m, hn, fun h'' hs' => ⟨⟨h'', tk, rfl, SameBut.keU hc k hs'⟩, SameBut.atD hn hs' a⟩⟩

/-- the same, stored -/
theorem Sx.gen {ow : Ow} {z : Str} {pz spos : Pos} {elt t0 i0 : Expr} {rest : List Comprehension} {scope : Scope} {pos : Pos} {items : List D} {β : D → Rho} {out : D → List D} (body : Value → Env → Sem Unit) (hn : 1 ≤ n)
    (hturn : ∀ it acc env, compTurn (.ListComp elt (⟨t0, i0, [], 0⟩ :: rest) scope pos) 0 it acc env = (standAt i0.pos >>= fun _ => pyNext it >>= fun r => match r with
      | Option.none => pure (.done .next)
      | some v => letOwnedTupleGo t0 it v >>= fun _ => PySem.assign t0 env v >>= fun _ => body acc env >>= fun _ => again (.compLoop (.ListComp elt (⟨t0, i0, [], 0⟩ :: rest) scope pos) 0 it acc env)))
    (hit : Ev C n sc ρ i0 (.list items)) (hgo : Go C t0) (htg : ∀ d ∈ items, Tg C n (rel scope sc) t0 d (β d)) (hb : ∀ d ∈ items, Cb C n (rel scope sc) (β d ++ []) body (out d))
    (hcl : ∀ env, closureFor scope env = pure []) (hcf : ∀ k, cellsFrom k scope.names [] = []) (hnc : noCells (rel scope sc) = true) (hkind : scope.kind = .function)
    (hnames : ∀ y ∈ scope.names, y.2 = .local → scope.names.lookup y.1 = some .local) (hlen : (items.flatMap out).length ≤ 1000)
    (hz : sc.names.lookup z = some .local) (hzo : ∀ xs, (z, xs) ∉ ow)
    (hsw : ∀ env : Env, env.scope = sc → swapsWith (.ListComp elt (⟨t0, i0, [], 0⟩ :: rest) scope pos) (some (.Name z pz)) spos.line env = pure true)
    (hs : ∀ env x, foldedSetIterable i0 env x = pure x := by intro _ _; rfl) :
    Sx C n sc ρ ow (.Assign [.Name z pz] (.ListComp elt (⟨t0, i0, [], 0⟩ :: rest) scope pos) spos) (.next ((z, .list (items.flatMap out)) :: ρ) ow) := by
  rintro A g₀ V₀ s env he hA ⟨V, st⟩
  rw [exec_Assign_Name_used _ _ _ _ (hsw env he)]
  refine wpAny_bind (wpAny_standAt (wpAny_bind ?_))
  show wpAny _ A (do let _ ← comprehension (.ListComp elt (⟨t0, i0, [], 0⟩ :: rest) scope pos) scope env _ (PySem.newList []) false (eval i0 env) (some (PySem.assign (.Name z pz) env))) _ _ s
  refine wpAny_bind (wpAny_mono (gen_core (Q := fun _ s' => Post C A g₀ V₀ env (.next ((z, .list (items.flatMap out)) :: ρ) ow) s .next s') body he hA hn st.rd hturn hit hgo htg hb hcl hcf hnc hkind hnames hlen hs ?_) (fun _ s' hq => wpAny_pure (wpAny_pure hq)) fun _ _ f => f)
  intro DA CA h' tk m k a hn hc
  show wpAny _ A (PySem.assign (.Name z pz) env (.ref DA)) _ _ _
  have st' : StV C A g₀ V₀ h' (Fre V s.heap) env ρ ow := st.ke k
  refine wpAny_assign_Name (wpAny_mono (wp_store (s := { s with heap := h', toks := tk }) st' (.inl (kindOf_of he hz))) (fun _ s₂ h₂ => ?_) fun _ _ f => f)
  obtain ⟨⟨h₂, t₂, rfl⟩, sto⟩ := h₂
  dsimp only at sto
  have st2 := sto.val st' a hzo
  have hCL : CA ≠ env.locals := by
    rintro rfl
    obtain ⟨_, o, _, _, e, _⟩ := st.ns; rw [hc] at e; cases e
  have hCc : ∀ y c, env.cells.lookup y = some c → CA ≠ c := by
    rintro y c hyc rfl
    obtain ⟨⟨_, o, e, _⟩, _⟩ := st.cells y _ hyc; rw [hc] at e; cases e
  have hn₂ : h₂.Ns CA m := hn.at' fun o e => sto.keep CA o hCL hCc e
  refine ⟨m, hn₂, fun h₃ hs₃ => ⟨⟨h₃, t₂, rfl⟩, rfl, Fre V s.heap, ?_⟩⟩
  have ex : ∀ b o, h₂.get? b = some o → b ≠ CA → h₃.get? b = some o := fun b o e hb => hs₃.extBut b o hb e
  have nCA : ∀ {b o}, h₂.get? b = some o → (∀ es k, o.data ≠ .dict es k) → b ≠ CA := by
    rintro b o e nd rfl
    obtain ⟨o', es, k, e', d', _⟩ := hn₂; rw [e] at e'; cases e'; exact nd _ _ d'
  have upA : ∀ {v d}, At h₂ (Fre V s.heap) v d → At h₃ (Fre V s.heap) v d := fun q => SameBut.atD hn₂ hs₃ q
  have upL : ∀ {b its}, h₂.PlainList b its → h₃.PlainList b its := fun l => by
    obtain ⟨k2, e2⟩ := l
    exact ⟨k2, ex _ _ e2 (nCA e2 (by intro _ _ q; cases q))⟩
  have upC : ∀ {c v}, h₂.IsCell c v → h₃.IsCell c v := fun l => by
    obtain ⟨o2, e2, d2⟩ := l
    exact ⟨o2, ex _ o2 e2 (nCA e2 (by rw [d2]; intro _ _ q; cases q)), d2⟩
  have upK : ∀ {y v}, Lk h₂ env y v → Lk h₃ env y v := fun l => by
    rcases l with ⟨a, m', b, c⟩ | ⟨a, c, b, d⟩
    · exact .inl ⟨a, m', b.sameBut hs₃ (Ne.symm hCL), c⟩
    · exact .inr ⟨a, c, b, upC d⟩
  have gCA : g₀.get? CA = none := st.keep.none hc
  refine ⟨st2.bg, st2.kind, st2.globals, st2.builtins, SameBut.keU gCA st2.keep hs₃, st2.vis, st2.frame, st2.top, ?_, st2.nsnew, fun y c hyc => ?_, st2.hasc, fun y d e => ?_, ?_, ?_⟩
  · obtain ⟨m', hm'⟩ := st2.ns; exact ⟨m', hm'.sameBut hs₃ (Ne.symm hCL)⟩
  · obtain ⟨⟨v, a1⟩, a2⟩ := st2.cells y c hyc; exact ⟨⟨v, upC a1⟩, a2⟩
  · obtain ⟨v, a1, a2⟩ := st2.names y d e; exact ⟨v, upA a1, upK a2⟩
  · obtain ⟨ad, H⟩ := st2.own
    refine ⟨ad, fun y ys hy => ?_⟩
    obtain ⟨⟨vs, a1, a2, a3⟩, b⟩ := H y ys hy
    exact ⟨⟨vs, upK a1, upL a2, a3.mono fun a o hv e hsq => ⟨hv, ex a o e (nCA e (by obtain ⟨_, _, d2⟩ := hsq; rw [d2]; intro _ _ q; cases q))⟩⟩, b⟩
  · obtain ⟨outer, e, H⟩ := st2.frames
    refine ⟨outer, e, fun en hen => ?_⟩
    obtain ⟨q1, L, o, q2, q3, q4, q5⟩ := H en hen
    refine ⟨q1, L, o, q2, q3, ex L o q4 ?_, q5⟩
    obtain ⟨outer', e', H'⟩ := st.frames
    rw [e] at e'; cases e'
    obtain ⟨_, L', o', r2, _, r4, _⟩ := H' en hen
    rw [q2] at r2; cases r2
    rintro rfl; rw [hc] at r4; cases r4
theorem turn2 {elt t0 i0 t1 i1 : Expr} {scope : Scope} {pos : Pos} (it acc : Value) (env : Env) :
    compTurn (.ListComp elt [⟨t0, i0, [], 0⟩, ⟨t1, i1, [], 0⟩] scope pos) 0 it acc env = (standAt i0.pos >>= fun _ => pyNext it >>= fun r => match r with
      | none => pure (.done .next)
      | some v => letOwnedTupleGo t0 it v >>= fun _ => PySem.assign t0 env v >>= fun _ => ((do
        let x ← eval i1 env
        standAt i1.pos
        let x ← foldedSetIterable i1 env x
        let _ ← runOwn (.compStart (.ListComp elt [⟨t0, i0, [], 0⟩, ⟨t1, i1, [], 0⟩] scope pos) 1 (← holding [x] (pyIter x)) acc env) env) : Sem Unit) >>= fun _ => again (.compLoop (.ListComp elt [⟨t0, i0, [], 0⟩, ⟨t1, i1, [], 0⟩] scope pos) 0 it acc env)) := by
  refine Eq.trans (b := (standAt i0.pos >>= fun _ => pyNext it >>= fun r => match r with
      | none => pure (.done .next)
      | some v => letOwnedTupleGo t0 it v >>= fun _ => PySem.assign t0 env v >>= fun _ => eval i1 env >>= fun x => standAt i1.pos >>= fun _ => foldedSetIterable i1 env x >>= fun x => holding [x] (pyIter x) >>= fun y =>
        runOwn (.compStart (.ListComp elt [⟨t0, i0, [], 0⟩, ⟨t1, i1, [], 0⟩] scope pos) 1 y acc env) env >>= fun _ => again (.compLoop (.ListComp elt [⟨t0, i0, [], 0⟩, ⟨t1, i1, [], 0⟩] scope pos) 0 it acc env))) rfl ?_
  congr 1; funext _; congr 1; funext r
  cases r with
  | none => rfl
  | some v => simp only [bind_assoc, pure_bind]
/-- two generators, stored -/
theorem Sx.gen2 {ow : Ow} {z : Str} {pz spos : Pos} {elt t0 i0 t1 i1 : Expr} {scope : Scope} {pos : Pos} {items : List D} {β : D → Rho} {out : D → List D} (hn : 1 ≤ n)
    (hit : Ev C n sc ρ i0 (.list items)) (hgo : Go C t0) (htg : ∀ d ∈ items, Tg C n (rel scope sc) t0 d (β d))
    (hb : ∀ d ∈ items, Cb C n (rel scope sc) (β d ++ []) (fun acc env => do
        let x ← eval i1 env
        standAt i1.pos
        let x ← foldedSetIterable i1 env x
        let _ ← runOwn (.compStart (.ListComp elt [⟨t0, i0, [], 0⟩, ⟨t1, i1, [], 0⟩] scope pos) 1 (← holding [x] (pyIter x)) acc env) env) (out d))
    (hcl : ∀ env, closureFor scope env = pure []) (hcf : ∀ k, cellsFrom k scope.names [] = []) (hnc : noCells (rel scope sc) = true) (hkind : scope.kind = .function)
    (hnames : ∀ y ∈ scope.names, y.2 = .local → scope.names.lookup y.1 = some .local) (hlen : (items.flatMap out).length ≤ 1000)
    (hz : sc.names.lookup z = some .local) (hzo : ∀ xs, (z, xs) ∉ ow)
    (hsw : ∀ env : Env, env.scope = sc → swapsWith (.ListComp elt [⟨t0, i0, [], 0⟩, ⟨t1, i1, [], 0⟩] scope pos) (some (.Name z pz)) spos.line env = pure true)
    (hs : ∀ env x, foldedSetIterable i0 env x = pure x := by intro _ _; rfl) :
    Sx C n sc ρ ow (.Assign [.Name z pz] (.ListComp elt [⟨t0, i0, [], 0⟩, ⟨t1, i1, [], 0⟩] scope pos) spos) (.next ((z, .list (items.flatMap out)) :: ρ) ow) :=
  Sx.gen (rest := [⟨t1, i1, [], 0⟩]) (elt := elt) (fun acc env => do
        let x ← eval i1 env
        standAt i1.pos
        let x ← foldedSetIterable i1 env x
        let _ ← runOwn (.compStart (.ListComp elt [⟨t0, i0, [], 0⟩, ⟨t1, i1, [], 0⟩] scope pos) 1 (← holding [x] (pyIter x)) acc env) env) hn turn2 hit hgo htg hb hcl hcf hnc hkind hnames hlen hz hzo hsw hs
/-- one generator, any target -/
theorem Ev.gen1 {elt t0 i0 : Expr} {scope : Scope} {pos : Pos} {items : List D} {β : D → Rho} {out : D → D} (hn : 1 ≤ n)
    (hit : Ev C n sc ρ i0 (.list items)) (hgo : Go C t0) (htg : ∀ d ∈ items, Tg C n (rel scope sc) t0 d (β d)) (helt : ∀ d ∈ items, Ev C n (rel scope sc) (β d ++ []) elt (out d))
    (hcl : ∀ env, closureFor scope env = pure []) (hcf : ∀ k, cellsFrom k scope.names [] = []) (hnc : noCells (rel scope sc) = true) (hkind : scope.kind = .function)
    (hnames : ∀ y ∈ scope.names, y.2 = .local → scope.names.lookup y.1 = some .local) (hlen : items.length ≤ 1000) (hs : ∀ env x, foldedSetIterable i0 env x = pure x := by intro _ _; rfl) :
    Ev C n sc ρ (.ListComp elt [⟨t0, i0, [], 0⟩] scope pos) (.list (items.map out)) := by
  have := Ev.gen (rest := []) (elt := elt) (pos := pos) (out := fun d => [out d]) (fun acc env => do let _ ← PySem.call (.builtin "list.append") [acc, ← eval elt env]) hn (fun _ _ _ => rfl) hit hgo htg (fun d hd => Cb.emit (helt d hd)) hcl hcf hnc hkind hnames (by rw [flatMap_one, List.length_map]; exact hlen) hs
  rw [flatMap_one] at this
  exact this
end
end Mine
end

section
open PySem PySem.W PySem.Calls PyProof.Rows
namespace Mine
set_option maxRecDepth 100000
set_option maxHeartbeats 4000000
theorem bitAnd_nat (x y : Nat) : Builtin.bitAnd (x : Int) (y : Int) = ((x &&& y : Nat) : Int) := by
  unfold Builtin.bitAnd
  have h1 : decide (0 ≤ (x : Int)) = true := by simp
  have h2 : decide (0 ≤ (y : Int)) = true := by simp
  rw [h1, h2]; simp
theorem bitOr_nat (x y : Nat) : Builtin.bitOr (x : Int) (y : Int) = ((x ||| y : Nat) : Int) := by
  have e : ∀ k : Nat, Builtin.bitNot (k : Int) = -(k : Int) - 1 := fun k => by unfold Builtin.bitNot; omega
  have e2 : ∀ k : Nat, Builtin.bitNot (Builtin.bitNot (k : Int)) = (k : Int) := fun k => by unfold Builtin.bitNot; omega
  have n : ∀ k : Nat, decide (0 ≤ Builtin.bitNot (k : Int)) = false := fun k => by rw [e]; simp; omega
  unfold Builtin.bitOr Builtin.bitAnd
  rw [n x, n y]
  dsimp only
  rw [e2, e2, e2]
  simp
theorem and_or (x y : Nat) : (x ||| y) + (x &&& y) = x + y := by
  have e : x ||| y = (x ^^^ y) ||| (x &&& y) := by
    apply Nat.eq_of_testBit_eq
    intro i
    simp only [Nat.testBit_or, Nat.testBit_and, Nat.testBit_xor]
    generalize x.testBit i = p
    generalize y.testBit i = q
    cases p <;> cases q <;> rfl
  have d : (x ^^^ y) &&& (x &&& y) = 0 := by
    apply Nat.eq_of_testBit_eq
    intro i
    simp only [Nat.testBit_and, Nat.testBit_xor, Nat.zero_testBit]
    generalize x.testBit i = p
    generalize y.testBit i = q
    cases p <;> cases q <;> rfl
  rw [e, or_add d]
  have := add_xor _ x y (Nat.le_refl _)
  omega
theorem bitXor_nat (x y : Nat) : Builtin.bitXor (x : Int) (y : Int) = ((x ^^^ y : Nat) : Int) := by
  unfold Builtin.bitXor
  rw [bitOr_nat, bitAnd_nat]
  have := add_xor _ x y (Nat.le_refl _)
  have := and_or x y
  omega
/-- the products, bit by bit -/
noncomputable def valsOf (ps : List (Nat × Nat)) : List Nat := ps.flatMap fun p => (bitsN p.2).map fun j => p.1 * 2 ^ j
noncomputable def dPairs (ps : List (Nat × Nat)) : List D := ps.map fun p => .tuple [.int (p.1 : Int), .int (p.2 : Int)]
noncomputable def dV (vs : List Nat) : List D := vs.map fun (v : Nat) => .int (v : Int)
noncomputable def tβ : D → Rho
  | .tuple [a, b] => [(Str.ofString "two", b), (Str.ofString "one", a)]
  | _ => []
noncomputable def tOut : D → List D
  | .tuple [.int x, .int y] => (placesD y).map fun j => .int (x * 2 ^ (dInt j).toNat)
  | _ => []
theorem tOut_eq (ps : List (Nat × Nat)) : (dPairs ps).flatMap tOut = dV (valsOf ps) := by
  induction ps with
  | nil => rfl
  | cons p r ih =>
    obtain ⟨x, y⟩ := p
    have e1 : dPairs ((x, y) :: r) = .tuple [.int (x : Int), .int (y : Int)] :: dPairs r := rfl
    have e2 : valsOf ((x, y) :: r) = ((bitsN y).map fun j => x * 2 ^ j) ++ valsOf r := rfl
    rw [e1, e2, List.flatMap_cons, ih]
    unfold dV
    rw [List.map_append]
    congr 1
    show (placesD (y : Int)).map _ = _
    rw [placesD_P]
    unfold P
    simp only [List.map_map]
    apply List.map_congr_left
    intro j _
    show D.int ((x : Int) * 2 ^ ((j : Int)).toNat) = D.int ((x * 2 ^ j : Nat) : Int)
    push_cast
    rfl
theorem bitsN_len (m : Nat) : (bitsN m).length ≤ 14 := by
  unfold bitsN
  exact Nat.le_trans (List.length_filter_le _ _) (by simp)
theorem valsOf_len : ∀ ps : List (Nat × Nat), (valsOf ps).length ≤ 14 * ps.length
  | [] => by simp [valsOf]
  | p :: r => by
    have e2 : valsOf (p :: r) = ((bitsN p.2).map fun j => p.1 * 2 ^ j) ++ valsOf r := rfl
    have := valsOf_len r
    have := bitsN_len p.2
    rw [e2, List.length_append, List.length_map, List.length_cons]; omega
theorem dV_len (vs : List Nat) : (dV vs).length = vs.length := List.length_map _
theorem dV_app (vs us : List Nat) : dV (vs ++ us) = dV vs ++ dV us := List.map_append

theorem hc_dvd (p : Nat × Nat) : ∀ i, 2 ^ i ∣ (hc p i).1.2
  | 0 => by simp
  | i + 1 => by
    have ih := hc_dvd p i
    show 2 ^ (i + 1) ∣ (if (hc p i).1.2 = 0 then hc p i else (((hc p i).1.1 ^^^ (hc p i).1.2, 2 * ((hc p i).1.1 &&& (hc p i).1.2)), _)).1.2
    split
    · rename_i h; rw [h]; exact Nat.dvd_zero _
    · show 2 ^ (i + 1) ∣ 2 * ((hc p i).1.1 &&& (hc p i).1.2)
      rw [Nat.pow_succ, Nat.mul_comm]
      refine Nat.mul_dvd_mul_left 2 ?_
      obtain ⟨k, hk⟩ := ih
      have : (hc p i).1.1 &&& (hc p i).1.2 = 2 ^ i * (((hc p i).1.1 / 2 ^ i) &&& k) := by
        apply Nat.eq_of_testBit_eq
        intro j
        rw [hk, Nat.testBit_and, Nat.testBit_two_pow_mul, Nat.testBit_two_pow_mul, Nat.testBit_and, Nat.testBit_div_two_pow]
        by_cases h : i ≤ j
        · simp only [ge_iff_le, h, decide_true, Bool.true_and]
          congr 2
          omega
        · simp [h]
      rw [this]; exact Nat.dvd_mul_right _ _
theorem hc_done (p : Nat × Nat) (h : p.1 + p.2 < 2 ^ 14) : (hc p 14).1.2 = 0 := by
  have d := hc_dvd p 14
  have s := hc_sum p 14
  by_cases h0 : (hc p 14).1.2 = 0
  · exact h0
  · have := Nat.le_of_dvd (by omega) d
    omega
theorem hc_stay (p : Nat × Nat) {i : Nat} (h : (hc p i).1.2 = 0) : ∀ k, hc p (i + k) = hc p i
  | 0 => rfl
  | k + 1 => by
    have ih := hc_stay p h k
    show (if (hc p (i + k)).1.2 = 0 then hc p (i + k) else _) = _
    rw [ih, if_pos h]
theorem hc_step (p : Nat × Nat) {i : Nat} (h : (hc p i).1.2 ≠ 0) : hc p (i + 1) = (((hc p i).1.1 ^^^ (hc p i).1.2, 2 * ((hc p i).1.1 &&& (hc p i).1.2)), (hc p i).2 ++ [[(hc p i).1.1 &&& (hc p i).1.2, (hc p i).1.1 ||| (hc p i).1.2, (hc p i).1.1 ^^^ (hc p i).1.2, (hc p i).1.1 ^^^ (hc p i).1.2]]) := by
  show (if (hc p i).1.2 = 0 then hc p i else _) = _
  rw [if_neg h]
theorem dV_pad {e : List Nat} (h : e.length ≤ 2) : dV e ++ List.replicate (2 - e.length) (.int 0) = dV [(pad2 e).1, (pad2 e).2] := by
  match e, h with
  | [], _ => rfl
  | [a], _ => rfl
  | [a, b], _ => simp [dV, pad2]
noncomputable def toldSteps (ms : List Nat) : List (List Nat) := (csa ms).1 ++ (hc (pad2 (csa ms).2) 14).2
section
variable {C : Cfg} {n : Nat}
theorem Ev.xor {sc : Scope} {ρ : Rho} {l r : Expr} {pos : Pos} {x y : Nat} (a : Ev C n sc ρ l (.int (x : Int))) (b : Ev C n sc ρ r (.int (y : Int))) : Ev C n sc ρ (.BinOp l .BitXor r pos) (.int ((x ^^^ y : Nat) : Int)) :=
  Ev.intTo (Ev.binop a b Bo.bxor) (bitXor_nat x y)
theorem Ev.and {sc : Scope} {ρ : Rho} {l r : Expr} {pos : Pos} {x y : Nat} (a : Ev C n sc ρ l (.int (x : Int))) (b : Ev C n sc ρ r (.int (y : Int))) : Ev C n sc ρ (.BinOp l .BitAnd r pos) (.int ((x &&& y : Nat) : Int)) :=
  Ev.intTo (Ev.binop a b Bo.band) (bitAnd_nat x y)
theorem Ev.or {sc : Scope} {ρ : Rho} {l r : Expr} {pos : Pos} {x y : Nat} (a : Ev C n sc ρ l (.int (x : Int))) (b : Ev C n sc ρ r (.int (y : Int))) : Ev C n sc ρ (.BinOp l .BitOr r pos) (.int ((x ||| y : Nat) : Int)) :=
  Ev.intTo (Ev.binop a b Bo.bor) (bitOr_nat x y)
theorem Ev.dbl {sc : Scope} {ρ : Rho} {r : Expr} {pos p : Pos} {k x : Nat} (a : Ev C n sc ρ r (.int (x : Int))) : Ev C n sc ρ (.BinOp (.Constant (.int 2) k p) .Mult r pos) (.int ((2 * x : Nat) : Int)) :=
  Ev.intTo (Ev.binop Ev.int a (Bo.mul' (by decide))) (by push_cast; rfl)
noncomputable def toPl : D → D
  | .int v => .list (placesD v)
  | _ => .none
theorem toPl_dV (vs : List Nat) : (dV vs).map toPl = dP vs := by
  unfold dV dP
  rw [List.map_map]
  apply List.map_congr_left
  intro v _
  show D.list (placesD (v : Int)) = _
  rw [placesD_P]
theorem fn_told {ps : List (Nat × Nat)} (hps : ∀ p ∈ ps, p.1 < 64) (hpl : ps.length ≤ 4) (hs : rOk (valsOf ps)) : Fn C (n + 3) 192 [.list (dPairs ps)] (.list (dSteps (toldSteps (valsOf ps)))) := by
  refine' Fn.mk [(Str.ofString "pairs", .list (dPairs ps))] [Str.ofString "pairs"] ?h1 ?h2 ?h3 ?h4 ?h5 ?h6 ?h7 ?h8 ?h9 ?h10 ?h11 ?h12 ?h13 ?h14 ?h15
  case h1 => exact rfl
  case h2 => exact rfl
  case h3 => exact rfl
  case h4 => exact rfl
  case h5 => exact rfl
  case h6 => exact rfl
  case h7 => exact rfl
  case h8 => exact rfl
  case h9 => exact rfl
  case h10 => exact rfl
  case h11 => intro s V vs base h; cases h with | cons a b => cases b; exact ⟨_, BindsTo.of_eq rfl, .cons a .nil⟩
  case h12 => exact rfl
  case h13 => decide
  case h14 => decide
  case h15 =>
    have hvl := valsOf_len ps
    have hlen : (valsOf ps).length ≤ 56 := by omega
    refine Sxs.cons (Sx.gen2 (items := dPairs ps) (β := tβ) (out := tOut) (by omega) (Ev.name rfl) Go.tuple ?tg ?cb (fun _ => rfl) (fun _ => rfl) (by decide) rfl (by decide) ?len (by decide) (fun _ h => nomatch h) (fun _ he => swaps_t he rfl (by decide))) ?_
    case tg =>
      intro d hd
      obtain ⟨p, _, rfl⟩ := List.mem_map.mp hd
      exact Tg.pair rfl rfl (by omega)
    case len => rw [tOut_eq, dV_len]; omega
    case cb =>
      intro d hd
      obtain ⟨p, hp, rfl⟩ := List.mem_map.mp hd
      have h64 := hps p hp
      refine Cb.inner (items := placesD (p.2 : Int)) (β := fun d => [(Str.ofString "j", d)]) (out := fun j => .int ((p.1 : Int) * 2 ^ (dInt j).toNat)) (Ev.call rfl rfl rfl (Evs.cons (Ev.name rfl) Evs.nil) fn_places) Go.name (fun d _ => Tg.name rfl) ?elt ?ρ (by omega)
      case elt =>
        intro d hd
        obtain ⟨j, hj, rfl⟩ := List.mem_map.mp hd
        have hj14 : j < 14 := by
          unfold placesN at hj
          have := (List.mem_filter.mp hj).1
          simpa using this
        exact Ev.binop (Ev.name rfl) (Ev.binop Ev.int (Ev.name rfl) (Bo.pow2 (by omega) (by omega))) (Bo.mul' (by omega))
      case ρ =>
        intro d _ y e he
        refine (lookup_cons_ne ?_).trans he
        rintro rfl
        have e0 : List.lookup (Str.ofString "j") ([(Str.ofString "two", D.int (p.2 : Int)), (Str.ofString "one", D.int (p.1 : Int))] : Rho) = Option.none := rfl
        exact absurd (e0.symm.trans he) (by simp)
    rw [tOut_eq]
    refine Sxs.cons (Sx.newList rfl (fun _ h => nomatch h) rfl) ?_
    refine Sxs.fewer (ρ' := [(Str.ofString "values", .list (dV (valsOf ps)))]) (lk_cons rfl lk_nil) ?_
    generalize valsOf ps = ms at hs hlen
    refine Sxs.cons (Sx.whileW (out := .next [(Str.ofString "values", .list (dV (csa ms).2))] [(Str.ofString "steps", dSteps (csa ms).1)]) (Wx.loop (σ := List Nat × List (List Nat)) (fun a => [(Str.ofString "values", .list (dV a.1))]) (fun a => [(Str.ofString "steps", dSteps a.2)]) (fun a => a.1.length)
      (fun a => a.1.length ≤ 60 ∧ a.1.length + a.2.length ≤ 60 ∧ rOk a.1 ∧ a.2 ++ (csa a.1).1 = (csa ms).1 ∧ (csa a.1).2 = (csa ms).2) ?step (ms, []) ?init)) ?_
    case init => exact ⟨by dsimp only; omega, by dsimp only; simp; omega, hs, rfl, rfl⟩
    case step =>
      rintro ⟨ns, acc⟩ ⟨l1, l2, ok, hc1, hc2⟩ ih
      dsimp only at l1 l2 ok hc1 hc2 ih ⊢
      have hdl := dV_len ns
      have tst : ∀ (sc : Scope) (p1 p2 p3 p4 p5 : Pos) (k : Nat) (h1 : sc.names.lookup (Str.ofString "len") = some .globalImplicit), Tr C (n + 2) sc [(Str.ofString "values", .list (dV ns))] (.Compare (.Call (.Name (Str.ofString "len") p1) [.Name (Str.ofString "values") p2] [] p3) [.Gt] [.Constant (.int 2) k p4] p5) (decide (2 < ns.length)) := fun sc p1 p2 p3 p4 p5 k h1 =>
        Tr.to (Tr.cmp (Ev.bcall h1 rfl (by decide +kernel) (Evs.cons (Ev.name rfl) Evs.nil) (Bf.len (by omega))) Ev.int Co.gt) (by rw [hdl]; congr 1; apply propext; omega)
      by_cases h3 : 2 < ns.length
      · obtain ⟨x, y, z, r, rfl⟩ : ∃ x y z r, ns = x :: y :: z :: r := by
          match ns, h3 with
          | x :: y :: z :: r, _ => exact ⟨x, y, z, r, rfl⟩
        rw [csa_cons] at hc1 hc2
        simp only [List.length_cons] at l1 l2
        have hrl := dV_len r
        refine Wx.step (ρ' := [(Str.ofString "values", .list (dV (r ++ [x ^^^ y ^^^ z, 2 * mj x y z])))]) (ow' := [(Str.ofString "steps", dSteps (acc ++ [[x ^^^ y ^^^ z, 2 * mj x y z]]))]) (Tr.to (tst _ _ _ _ _ _ _ rfl) (decide_eq_true h3)) ?body (ih (r ++ [x ^^^ y ^^^ z, 2 * mj x y z], acc ++ [[x ^^^ y ^^^ z, 2 * mj x y z]]) ⟨by simp; omega, by simp; omega, rOk_next ok, ?eqs, hc2⟩ (by simp))
        case eqs => rw [← hc1]; simp
        case body =>
          refine Sxs.cons (Sx.unpack3 (a := .int (x : Int)) (b := .int (y : Int)) (c := .int (z : Int)) (Ev.to (Ev.cut (l := none) (h := some 3) (Ev.name rfl) trivial Ev.int (by rw [hdl]; simp; omega)) (congrArg D.list (cut3 _ _ _ _))) rfl rfl rfl (own1 (by decide)) (own1 (by decide)) (own1 (by decide)) (by omega)) ?_
          refine Sxs.cons (Sx.assign (Ev.to (b := .list (dV (r ++ [x ^^^ y ^^^ z, 2 * mj x y z]))) (Ev.binop (Ev.to (b := .list (dV r)) (Ev.cut (l := some 3) (h := none) (Ev.name rfl) Ev.int trivial (by rw [hdl]; simp; omega)) (congrArg D.list (cut3' _ _ _ _))) (Ev.list (Evs.cons (Ev.xor (Ev.xor (Ev.name rfl) (Ev.name rfl)) (Ev.name rfl)) (Evs.cons (Ev.dbl (Ev.or (Ev.or (Ev.and (Ev.name rfl) (Ev.name rfl)) (Ev.and (Ev.name rfl) (Ev.name rfl))) (Ev.and (Ev.name rfl) (Ev.name rfl)))) Evs.nil)) (by show 2 ≤ 1000; decide)) (Bo.addl (by rw [hrl]; show _ + 2 ≤ 1000; omega))) (by rw [dV_app]; rfl)) (.inl rfl) (own1 (by decide)) (fun _ _ => rfl)) ?_
          refine Sxs.to (Sxs.single (Sx.append (Ev.to (b := .list (dP [x ^^^ y ^^^ z, 2 * mj x y z])) (Ev.lm [] toPl (It.list (Ev.to (b := .list (dV [x ^^^ y ^^^ z, 2 * mj x y z])) (Ev.cut (l := some (-2)) (h := none) (Ev.name rfl) (Ev.neg Ev.int) trivial (by rw [dV_len]; simp; omega)) (by rw [dV_app]; exact congrArg D.list (cutM2 _ _ _)))) (by decide) rfl ?pe (by show 2 ≤ 1000; decide)) (by rw [toPl_dV])) (fun _ h => nomatch h) (by unfold dSteps; rw [List.length_map]; omega))) (lk_cons rfl lk_nil) (by unfold dSteps; rw [List.map_append]; exact fun _ h => h)
          case pe =>
            intro d hd
            obtain ⟨v, _, rfl⟩ := List.mem_map.mp hd
            exact Ev.call rfl rfl rfl (Evs.cons (Ev.name rfl) Evs.nil) fn_places
      · rw [csa_short (by omega)] at hc1 hc2
        dsimp only at hc1 hc2
        rw [← hc1, ← hc2, List.append_nil]
        exact Wx.stop (Tr.to (tst _ _ _ _ _ _ _ rfl) (decide_eq_false h3))
    obtain ⟨el, es, ec⟩ := csa_end _ ms (Nat.le_refl _)
    have edl := dV_len (csa ms).2
    refine Sxs.cons (Sx.assign (Ev.to (b := .list (dV [(pad2 (csa ms).2).1, (pad2 (csa ms).2).2])) (Ev.binop (Ev.name rfl) (Ev.binop (Ev.list (Evs.cons Ev.int Evs.nil) (by show 1 ≤ 1000; decide)) (Ev.intTo (b := ((2 - (csa ms).2.length : Nat) : Int)) (Ev.binop Ev.int (Ev.bcall rfl rfl (by decide +kernel) (Evs.cons (Ev.name rfl) Evs.nil) (Bf.len (by omega))) Bo.sub) (by rw [edl]; omega)) (Bo.mul1 (by omega))) (Bo.addl (by rw [edl, List.length_replicate]; omega))) (by rw [dV_pad el])) (.inl rfl) (own1 (by decide)) (fun _ _ => rfl)) ?_
    refine Sxs.fewer (ρ' := [(Str.ofString "values", .list (dV [(pad2 (csa ms).2).1, (pad2 (csa ms).2).2]))]) (lk_cons rfl lk_nil) ?_
    have hps2 : (pad2 (csa ms).2).1 + (pad2 (csa ms).2).2 < 2 ^ 14 := by rw [pad2_sum el, es]; exact hs
    unfold toldSteps
    generalize (pad2 (csa ms).2) = p at hps2 ⊢
    generalize (csa ms).1 = st0 at ec ⊢
    refine Sxs.cons (Sx.whileW (out := .next [(Str.ofString "values", .list (dV [(hc p 14).1.1, (hc p 14).1.2]))] [(Str.ofString "steps", dSteps (st0 ++ (hc p 14).2))]) (Wx.from (Wx.loop (σ := Nat) (fun i => [(Str.ofString "values", .list (dV [(hc p i).1.1, (hc p i).1.2]))]) (fun i => [(Str.ofString "steps", dSteps (st0 ++ (hc p i).2))]) (fun i => 14 - i) (fun i => i ≤ 14) ?step2 0 (Nat.zero_le _)) (fun _ _ h => h) ?own0)) ?_
    case own0 => rw [show (hc p 0).2 = [] from rfl, List.append_nil]; exact fun _ h => h
    case step2 =>
      intro i hi ih
      dsimp only at ih ⊢
      have tst : ∀ (sc : Scope) (p2 p3 p4 p5 p6 : Pos) (k k' : Nat), Tr C (n + 2) sc [(Str.ofString "values", .list (dV [(hc p i).1.1, (hc p i).1.2]))] (.Compare (.Subscript (.Name (Str.ofString "values") p2) (.Constant (.int 1) k p3) p4) [.Gt] [.Constant (.int 0) k' p5] p6) (decide ((hc p i).1.2 ≠ 0)) := fun sc p2 p3 p4 p5 p6 k k' =>
        Tr.to (Tr.cmp (Ev.sub (Ev.name rfl) Ev.int (Su.list (d := .int ((hc p i).1.2 : Int)) (by decide) (by decide) rfl)) Ev.int Co.gt) (by congr 1; apply propext; omega)
      by_cases h0 : (hc p i).1.2 = 0
      · have e : hc p 14 = hc p i := by
          have := hc_stay p h0 (14 - i)
          rw [show i + (14 - i) = 14 by omega] at this; exact this
        rw [e]
        exact Wx.stop (Tr.to (tst _ _ _ _ _ _ _ _) (by simp [h0]))
      · have hi14 : i ≠ 14 := by rintro rfl; exact h0 (hc_done p hps2)
        have hl := hc_len p i
        have hst := hc_step p h0
        refine Wx.step (ρ' := [(Str.ofString "values", .list (dV [(hc p (i + 1)).1.1, (hc p (i + 1)).1.2]))]) (ow' := [(Str.ofString "steps", dSteps (st0 ++ (hc p (i + 1)).2))]) (Tr.to (tst _ _ _ _ _ _ _ _) (by simp [h0])) ?body (ih (i + 1) (by omega) (by omega))
        case body =>
          rw [hst]
          dsimp only
          generalize hc p i = q at hl h0 ⊢
          obtain ⟨⟨a, b⟩, st⟩ := q
          dsimp only at hl h0 ⊢
          refine Sxs.cons (Sx.unpack2 (a := .int (a : Int)) (b := .int (b : Int)) (Ev.name rfl) rfl rfl (own1 (by decide)) (own1 (by decide)) (by omega)) ?_
          refine Sxs.cons (Sx.assign (Ev.to (b := .list (dV [a ^^^ b, 2 * (a &&& b)])) (Ev.list (Evs.cons (Ev.xor (Ev.name rfl) (Ev.name rfl)) (Evs.cons (Ev.dbl (Ev.and (Ev.name rfl) (Ev.name rfl))) Evs.nil)) (by show 2 ≤ 1000; decide)) rfl) (.inl rfl) (own1 (by decide)) (fun _ _ => rfl)) ?_
          refine Sxs.to (Sxs.single (Sx.append (Ev.to (b := .list (dP [a &&& b, a ||| b, a ^^^ b, a ^^^ b])) (Ev.lm [] toPl (It.list (Ev.to (b := .list (dV [a &&& b, a ||| b, a ^^^ b, a ^^^ b])) (Ev.list (Evs.cons (Ev.and (Ev.name rfl) (Ev.name rfl)) (Evs.cons (Ev.or (Ev.name rfl) (Ev.name rfl)) (Evs.cons (Ev.xor (Ev.name rfl) (Ev.name rfl)) (Evs.cons (Ev.xor (Ev.name rfl) (Ev.name rfl)) Evs.nil)))) (by show 4 ≤ 1000; decide)) rfl)) (by decide) rfl ?pe2 (by show 4 ≤ 1000; decide)) (by rw [toPl_dV])) (fun _ h => nomatch h) (by unfold dSteps; rw [List.length_map, List.length_append]; omega))) (lk_cons rfl lk_nil) (by unfold dSteps; simp only [List.map_append]; rw [List.append_assoc]; exact fun _ h => h)
          case pe2 =>
            intro d hd
            obtain ⟨v, _, rfl⟩ := List.mem_map.mp hd
            exact Ev.call rfl rfl rfl (Evs.cons (Ev.name rfl) Evs.nil) fn_places
    refine Sxs.freeze (fun _ h => nomatch h) ?_
    exact Sxs.single (Sx.ret (Ev.name rfl))
end
end Mine
end

section
open PySem PySem.W PySem.Calls PyProof.Rows
namespace Mine
set_option maxRecDepth 20000

noncomputable abbrev IsZipB (h : Heap) (z TI TO : Addr) (f0 : Value) (b : Bool) : Prop :=
  h.get? z = some { cls := .type "zip", dict := none, data := .fields #[f0, .bool b, .bool false, .ref TI, .ref TO], slots := #[] }
theorem wp_loadIfAlive {M : Model} {A : Around} {E : Value → Shared → Prop} {s : Shared} {a : Addr} {Q : Option Obj → Shared → Prop} (h : Q (s.heap.get? a) s) : wpAny M A (loadIfAlive a) Q E s := fun _ _ _ => h
section
variable {prog : Program} {w : World} {A : Around} {E : Value → Shared → Prop} {s : Shared} {z TI TO i1 i2 l1 l2 T : Addr} {k1 k2 : Nat} {xs ys : Array Value} {x y : Value} {b : Bool} {oT : Obj}
theorem zip_free (hz : IsZipB s.heap z TI TO (rawInt (T : Nat)) b) (hT : s.heap.get? T = some oT) {Q : Bool → Shared → Prop}
    (h : ∀ h', IsZipB h' z TI TO (rawInt (T : Nat)) true → Heap.SameBut z s.heap h' → Q false { s with heap := h' }) :
    wpAny (model prog w) A (Builtin.SmallTypes.ownedTupleIsFree (.ref z)) Q E s := by
  unfold Builtin.SmallTypes.ownedTupleIsFree
  refine wpAny_bind (wpAny_field hz rfl (x := rawInt (T : Nat)) rfl ?_)
  show wpAny _ _ (loadIfAlive ((T : Nat) : Int).toNat >>= _) _ _ _
  refine wpAny_bind (wp_loadIfAlive ?_)
  rw [Int.toNat_natCast, hT]
  simp only [Option.isNone_some, Bool.false_eq_true, if_false]
  refine wpAny_bind (wpAny_field hz rfl (x := .bool b) rfl ?_)
  cases b with
  | true =>
    rw [if_neg (by decide)]
    exact wpAny_pure (h s.heap hz (Heap.SameBut.refl ..))
  | false =>
    rw [if_pos (by decide)]
    refine wpAny_bind (wpAny_setField_rec hz (by simp) fun h' hz' hs' => wpAny_pure (h h' ?_ hs'))
    exact hz'
theorem zip_busy_item {Q : Value → Shared → Prop} (D : ZipApart z TI TO i1 i2 l1 l2) (hz : IsZipB s.heap z TI TO (rawInt (T : Nat)) b) (hT : s.heap.get? T = some oT) (hTI : IsPair s.heap TI (.ref i1) (.ref i2))
    (h1 : s.heap.IsListIter i1 l1 k1) (h2 : s.heap.IsListIter i2 l2 k2) (hl1 : s.heap.IsList l1 xs) (hl2 : s.heap.IsList l2 ys) (hx : xs[k1]? = some x) (hy : ys[k2]? = some y)
    (hQ : ∀ h', IsZipB h' z TI TO (rawInt (T : Nat)) true → h'.IsListIter i1 l1 (k1 + 1) → h'.IsListIter i2 l2 (k2 + 1) → IsPair h' s.heap.objs.size x y →
      (∀ c o, c ≠ z → c ≠ i1 → c ≠ i2 → s.heap.get? c = some o → h'.get? c = some o) → Q (.ref s.heap.objs.size) { s with heap := h' }) :
    wpAny (model prog w) A (Builtin.«zip.__next__» ⟨[.ref z], []⟩) (fun fin s' => ∃ v, fin = .done (.ret v) ∧ Q v s') E s := by
  show wpAny _ _ (field (.ref z) 2 >>= _) _ _ _
  refine wpAny_bind (wpAny_field hz rfl (x := .bool false) rfl ?_)
  show wpAny _ _ (field (.ref z) 3 >>= _) _ _ _
  refine wpAny_bind (wpAny_field hz rfl (x := .ref TI) rfl ?_)
  refine wpAny_bind (wpAny_seqItems hTI rfl ?_)
  show wpAny _ _ (Builtin.SmallTypes.ownedTupleIsFree (.ref z) >>= _) _ _ _
  refine wpAny_bind (zip_free hz hT fun h₁ hz₁ hs₁ => ?_)
  simp only [Bool.false_eq_true, if_false]
  refine wpAny_bind ?_
  simp only [← Array.forIn_toList, List.forIn_cons, List.forIn_nil]
  refine wpAny_bind (wpAny_bind (wpAny_holding ?_))
  show wpAny _ _ (Builtin.SmallTypes.nextOf (.ref i1) >>= _) _ _ _
  refine wpAny_bind (wpAny_nextOf_list_item (h1.extBut hs₁.extBut D.i1z) (hl1.extBut hs₁.extBut D.l1z) hx fun h₂ h1₂ hs₂ => wpAny_pure ?_)
  refine wpAny_pure ?_
  dsimp only
  refine wpAny_bind (wpAny_bind (wpAny_holding ?_))
  show wpAny _ _ (Builtin.SmallTypes.nextOf (.ref i2) >>= _) _ _ _
  refine wpAny_bind (wpAny_nextOf_list_item ((h2.extBut hs₁.extBut D.i2z).extBut hs₂.extBut D.i12.symm) ((hl2.extBut hs₁.extBut D.l2z).extBut hs₂.extBut D.l2i1) hy fun h₃ h2₃ hs₃ => wpAny_pure ?_)
  refine wpAny_pure ?_
  dsimp only
  refine wpAny_pure ?_
  have hsz : h₃.objs.size = s.heap.objs.size := by rw [hs₃.1, hs₂.1, hs₁.1]
  refine wpAny_bind (wpAny_newTuple (wpAny_pure ⟨_, rfl, ?_⟩) (by show (2 : Nat) ≤ sizeLine; decide))
  show Q (.ref h₃.objs.size) _
  rw [hsz]
  have up : ∀ c o, h₃.get? c = some o → (h₃.push { cls := .type "tuple", data := .seq ([x, y] : List Value).toArray }).get? c = some o := fun c o e => Heap.get?_push_of_some _ e
  refine hQ _ (up _ _ (hs₃.extBut _ _ D.i2z.symm (hs₂.extBut _ _ D.i1z.symm hz₁))) ((h1₂.extBut hs₃.extBut D.i12).at fun o e => up _ o e) (h2₃.at fun o e => up _ o e) ?_
    fun c o c1 c2 c3 e => up c o (hs₃.extBut _ _ c3 (hs₂.extBut _ _ c2 (hs₁.extBut _ _ c1 e)))
  rw [← hsz]; exact Heap.get?_push_size _ rfl
theorem zip_busy_end {Q : PySem.Fin → Shared → Prop} (hh : A.handled = none) (D : ZipApart z TI TO i1 i2 l1 l2) (hz : IsZipB s.heap z TI TO (rawInt (T : Nat)) b) (hT : s.heap.get? T = some oT) (hTI : IsPair s.heap TI (.ref i1) (.ref i2))
    (h1 : s.heap.IsListIter i1 l1 k1) (hl1 : s.heap.IsList l1 xs) (hx : xs[k1]? = none)
    (hE : ∀ h' e, (∀ c o, c ≠ z → c ≠ i1 → s.heap.get? c = some o → h'.get? c = some o) → (∃ o, h'.get? e = some o ∧ o.cls = .type "StopIteration") → E (.ref e) { s with heap := h' }) :
    wpAny (model prog w) A (Builtin.«zip.__next__» ⟨[.ref z], []⟩) Q E s := by
  show wpAny _ _ (field (.ref z) 2 >>= _) _ _ _
  refine wpAny_bind (wpAny_field hz rfl (x := .bool false) rfl ?_)
  show wpAny _ _ (field (.ref z) 3 >>= _) _ _ _
  refine wpAny_bind (wpAny_field hz rfl (x := .ref TI) rfl ?_)
  refine wpAny_bind (wpAny_seqItems hTI rfl ?_)
  show wpAny _ _ (Builtin.SmallTypes.ownedTupleIsFree (.ref z) >>= _) _ _ _
  refine wpAny_bind (zip_free hz hT fun h₁ hz₁ hs₁ => ?_)
  simp only [Bool.false_eq_true, if_false]
  refine wpAny_bind ?_
  simp only [← Array.forIn_toList, List.forIn_cons, List.forIn_nil]
  refine wpAny_bind (wpAny_bind (wpAny_holding ?_))
  show wpAny _ _ (Builtin.SmallTypes.nextOf (.ref i1) >>= _) _ _ _
  refine wpAny_bind (wpAny_nextOf_list_end hh (h1.extBut hs₁.extBut D.i1z) (hl1.extBut hs₁.extBut D.l1z) hx fun h₂ e hs₂ he => ?_)
  exact hE h₂ e (fun c o c1 c2 x => hs₂ _ _ c2 (hs₁.extBut _ _ c1 x)) he

theorem next_busy_item {Q : Option Value → Shared → Prop} (D : ZipApart z TI TO i1 i2 l1 l2) (hz : IsZipB s.heap z TI TO (rawInt (T : Nat)) b) (hT : s.heap.get? T = some oT) (hTI : IsPair s.heap TI (.ref i1) (.ref i2))
    (h1 : s.heap.IsListIter i1 l1 k1) (h2 : s.heap.IsListIter i2 l2 k2) (hl1 : s.heap.IsList l1 xs) (hl2 : s.heap.IsList l2 ys) (hx : xs[k1]? = some x) (hy : ys[k2]? = some y)
    (hQ : ∀ h', IsZipB h' z TI TO (rawInt (T : Nat)) true → h'.IsListIter i1 l1 (k1 + 1) → h'.IsListIter i2 l2 (k2 + 1) → IsPair h' s.heap.objs.size x y →
      (∀ c o, c ≠ z → c ≠ i1 → c ≠ i2 → s.heap.get? c = some o → h'.get? c = some o) → Q (some (.ref s.heap.objs.size)) { s with heap := h' }) :
    wpAny (model prog w) A (pyNext (.ref z)) Q E s := by
  have hty : s.TypeIs (.ref z) "zip" := ⟨_, hz, rfl⟩
  unfold pyNext
  exact wpAny_bind (wpAny_attempt (wpAny_callSpecial?_slot (name := Str.ofString "__next__") hty F.slot_zip_next
    (wpAny_call_entry F.slot_zip_next hty F.entry_zip_next
      (zip_busy_item D hz hT hTI h1 h2 hl1 hl2 hx hy fun h' a1 a2 a3 a4 a5 => wpAny_pure (hQ h' a1 a2 a3 a4 a5)) (F.args_zip_next_1 _))))
theorem next_busy_end {Q : Option Value → Shared → Prop} (hh : A.handled = none) (D : ZipApart z TI TO i1 i2 l1 l2) (hz : IsZipB s.heap z TI TO (rawInt (T : Nat)) b) (hT : s.heap.get? T = some oT) (hTI : IsPair s.heap TI (.ref i1) (.ref i2))
    (h1 : s.heap.IsListIter i1 l1 k1) (hl1 : s.heap.IsList l1 xs) (hx : xs[k1]? = none)
    (hQ : ∀ h', (∀ c o, c ≠ z → c ≠ i1 → s.heap.get? c = some o → h'.get? c = some o) → Q none { s with heap := h' }) : wpAny (model prog w) A (pyNext (.ref z)) Q E s := by
  have hty : s.TypeIs (.ref z) "zip" := ⟨_, hz, rfl⟩
  unfold pyNext
  refine wpAny_bind (wpAny_attempt (wpAny_callSpecial?_slot (name := Str.ofString "__next__") hty F.slot_zip_next
    (wpAny_call_entry F.slot_zip_next hty F.entry_zip_next (zip_busy_end hh D hz hT hTI h1 hl1 hx fun h' e hk he => ?_) (F.args_zip_next_1 _))))
  obtain ⟨o, ho, hc⟩ := he
  refine wpAny_bind (wpAny_isInstance (T := "StopIteration") (b := true) ⟨o, ho, hc⟩ isSubtype_stop ?_)
  exact wpAny_pure (hQ _ hk)

/-- how far a zip is -/
structure ZS (h : Heap) (z TI TO i1 i2 l1 l2 : Addr) (xs ys : Array Value) (i : Nat) : Prop where
  zip : (i = 0 ∧ IsZip h z TI TO .none ∧ ∃ a b, IsPair h TO a b) ∨ (∃ (T : Nat) (oT : Obj) (b : Bool), IsZipB h z TI TO (rawInt (T : Nat)) b ∧ h.get? T = some oT ∧ oT.cls = .type "tuple" ∧ T ≠ z ∧ T ≠ TO ∧ T ≠ i1 ∧ T ≠ i2)
  ti : IsPair h TI (.ref i1) (.ref i2)
  to : ∃ o, h.get? TO = some o ∧ o.cls = .type "tuple"
  h1 : h.IsListIter i1 l1 i
  h2 : h.IsListIter i2 l2 i
  hl1 : h.IsList l1 xs
  hl2 : h.IsList l2 ys
theorem ZS.keeps {h h' : Heap} {i : Nat} (q : ZS h z TI TO i1 i2 l1 l2 xs ys i) {S : Addr} (hk : ∀ b o, b ≠ S → h.get? b = some o → h'.get? b = some o) (hS : ∃ o, h.get? S = some o ∧ o.cls = .type "list") (a1 : l1 ≠ S) (a2 : l2 ≠ S) :
    ZS h' z TI TO i1 i2 l1 l2 xs ys i := by
  obtain ⟨oS, eS, cS⟩ := hS
  have up : ∀ {b o}, h.get? b = some o → o.cls ≠ .type "list" → h'.get? b = some o := fun e hc => hk _ _ (by
    rintro rfl
    rw [e] at eS; cases eS; exact hc cS) e
  refine ⟨?_, up q.ti (by simp), ?_, ?_, ?_, q.hl1.at fun o e => hk _ o a1 e, q.hl2.at fun o e => hk _ o a2 e⟩
  · rcases q.zip with ⟨rfl, hz, a, b, hp⟩ | ⟨T, oT, b, hz, hT, hc, c⟩
    · exact .inl ⟨rfl, up hz (by simp), a, b, up hp (by simp)⟩
    · exact .inr ⟨T, oT, b, up hz (by simp), up hT (by rw [hc]; simp), hc, c⟩
  · obtain ⟨o, e, c⟩ := q.to; exact ⟨o, up e (by rw [c]; simp), c⟩
  · exact q.h1.at fun o e => by
      obtain ⟨o', e', c, _⟩ := q.h1
      rw [e] at e'; cases e'
      exact up e (by rw [c]; simp)
  · exact q.h2.at fun o e => by
      obtain ⟨o', e', c, _⟩ := q.h2
      rw [e] at e'; cases e'
      exact up e (by rw [c]; simp)

theorem zip_item {Q : Option Value → Shared → Prop} {i : Nat} (D : ZipApart z TI TO i1 i2 l1 l2) (q : ZS s.heap z TI TO i1 i2 l1 l2 xs ys i) (hx : xs[i]? = some x) (hy : ys[i]? = some y)
    (hQ : ∀ h', ZS h' z TI TO i1 i2 l1 l2 xs ys (i + 1) → IsPair h' s.heap.objs.size x y →
      (∀ c o, c ≠ z → c ≠ TO → c ≠ i1 → c ≠ i2 → s.heap.get? c = some o → h'.get? c = some o) → Q (some (.ref s.heap.objs.size)) { s with heap := h' }) :
    wpAny (model prog w) A (pyNext (.ref z)) Q E s := by
  rcases q.zip with ⟨rfl, hz, a, b, hp⟩ | ⟨T, oT, b, hz, hT, hc, c1, c2, c3, c4⟩
  · refine wpAny_pyNext_zip_item D hz q.ti hp q.h1 q.h2 q.hl1 q.hl2 hx hy fun h' a1 a2 a3 a4 a5 a6 a7 => ?_
    have lt : ∀ {c o}, s.heap.get? c = some o → s.heap.objs.size ≠ c := fun e => Nat.ne_of_gt (Heap.lt_size e)
    exact hQ h' ⟨.inr ⟨s.heap.objs.size, _, false, a1, a5, rfl, lt hz, lt hp, (by obtain ⟨_, e, _⟩ := q.h1; exact lt e), (by obtain ⟨_, e, _⟩ := q.h2; exact lt e)⟩, a7 _ _ D.TIz D.TITO D.TIi1 D.TIi2 q.ti, ⟨_, a2, rfl⟩, a3, a4,
      q.hl1.at fun o e => a7 _ o D.l1z D.l1TO D.l1i1 D.l1i2 e, q.hl2.at fun o e => a7 _ o D.l2z D.l2TO D.l2i1 D.l2i2 e⟩ a5 a7
  · refine next_busy_item D hz hT q.ti q.h1 q.h2 q.hl1 q.hl2 hx hy fun h' a1 a3 a4 a5 a7 => ?_
    obtain ⟨o, eo, co⟩ := q.to
    exact hQ h' ⟨.inr ⟨T, oT, true, a1, a7 _ _ c1 c3 c4 hT, hc, c1, c2, c3, c4⟩, a7 _ _ D.TIz D.TIi1 D.TIi2 q.ti, ⟨o, a7 _ _ D.TOz D.TOi1 D.TOi2 eo, co⟩, a3, a4,
      q.hl1.at fun o e => a7 _ o D.l1z D.l1i1 D.l1i2 e, q.hl2.at fun o e => a7 _ o D.l2z D.l2i1 D.l2i2 e⟩ a5 (fun c o d1 _ d3 d4 e => a7 c o d1 d3 d4 e)
theorem zip_end {Q : Option Value → Shared → Prop} {i : Nat} (hh : A.handled = none) (D : ZipApart z TI TO i1 i2 l1 l2) (q : ZS s.heap z TI TO i1 i2 l1 l2 xs ys i) (hx : xs[i]? = none)
    (hQ : ∀ h', (∀ c o, c ≠ z → c ≠ TO → c ≠ i1 → c ≠ i2 → s.heap.get? c = some o → h'.get? c = some o) → Q none { s with heap := h' }) : wpAny (model prog w) A (pyNext (.ref z)) Q E s := by
  rcases q.zip with ⟨rfl, hz, a, b, hp⟩ | ⟨T, oT, b, hz, hT, hc, c1, c2, c3, c4⟩
  · exact wpAny_pyNext_zip_end hh D hz q.ti hp q.h1 q.h2 q.hl1 q.hl2 (.inl hx) hQ
  · exact next_busy_end hh D hz hT q.ti q.h1 q.hl1 hx fun h' a => hQ h' fun c o d1 _ d3 _ e => a c o d1 d3 e
theorem ZS.off {h : Heap} {i : Nat} (q : ZS h z TI TO i1 i2 l1 l2 xs ys i) {S : Addr} {o : Obj} (e : h.get? S = some o) (hc : o.cls = .type "list") : S ≠ z ∧ S ≠ TO ∧ S ≠ i1 ∧ S ≠ i2 := by
  have n : ∀ {b o'}, h.get? b = some o' → o'.cls ≠ .type "list" → S ≠ b := by
    rintro b o' e' hc' rfl
    rw [e] at e'; cases e'; exact hc' hc
  refine ⟨?_, ?_, ?_, ?_⟩
  · rcases q.zip with ⟨_, hz, _⟩ | ⟨T, oT, b, hz, _⟩
    · exact n hz (by simp)
    · exact n hz (by simp)
  · obtain ⟨o, e, c⟩ := q.to; exact n e (by rw [c]; simp)
  · obtain ⟨o, e, c, _⟩ := q.h1; exact n e (by rw [c]; simp)
  · obtain ⟨o, e, c, _⟩ := q.h2; exact n e (by rw [c]; simp)

/-- what list(zip(..)) has taken so far -/
noncomputable def Took (g h : Heap) (X : List Addr) (xs ys : Array Value) (Ts : List Addr) : Prop := ∀ (j : Nat) (T : Addr), Ts[j]? = some T → ∃ x y, xs[j]? = some x ∧ ys[j]? = some y ∧ IsPair h T x y ∧ T ∉ X ∧ g.get? T = none
theorem Took.keeps {g h h' : Heap} {X : List Addr} {Ts : List Addr} (q : Took g h X xs ys Ts) (hk : ∀ b o, b ∉ X → h.get? b = some o → h'.get? b = some o) : Took g h' X xs ys Ts := fun j T e => by
  obtain ⟨x, y, a, b, c, d⟩ := q j T e
  exact ⟨x, y, a, b, hk _ _ d.1 c, d⟩
theorem zip_loop {g : Heap} {R : Result → Shared → Prop} (hh : A.handled = none) (D : ZipApart z TI TO i1 i2 l1 l2) {S : Addr} (res : Value) (hlen : xs.size = ys.size) (hz : xs.size ≤ 1000) (a1 : l1 ≠ S) (a2 : l2 ≠ S) :
    ∀ (k i : Nat) (s : Shared) (Ts : List Addr) (c : Nat), xs.size - i = k → i ≤ xs.size → ZS s.heap z TI TO i1 i2 l1 l2 xs ys i →
      s.heap.get? S = some { cls := .type "list", dict := none, data := .seq (Ts.map Value.ref).toArray c, slots := #[] } → Ts.length = i → Took g s.heap [z, TO, i1, i2, S] xs ys Ts → (∀ b o, g.get? b = some o → b ∉ [z, TO, i1, i2, S] ∧ s.heap.get? b = some o) →
      (∀ h' Ts' c', (∀ b o, b ∉ [z, TO, i1, i2, S] → s.heap.get? b = some o → h'.get? b = some o) → h'.get? S = some { cls := .type "list", dict := none, data := .seq (Ts'.map Value.ref).toArray c', slots := #[] } →
        Ts'.length = xs.size → Took g h' [z, TO, i1, i2, S] xs ys Ts' → R (.ok (.ret res)) { s with heap := h' }) →
      codeAny (model prog w) A (.builtin "list.extend.loop" ⟨[.ref S, .ref z, res], []⟩) R s := by
  intro k
  induction k with
  | zero =>
    intro i s Ts c hk hi q hS hT took hg hR
    have hin : i = xs.size := by omega
    subst hin
    refine codeAny_builtin F.entry_extend_loop ?_
    rw [Around.under_plainId F.plain_extend_loop _]
    show wpAny _ A.in1 (pyNext (.ref z) >>= _) _ _ s
    refine wpAny_bind (zip_end hh D q (by simp) fun h' hk' => ?_)
    have kk : ∀ b o, b ∉ [z, TO, i1, i2, S] → s.heap.get? b = some o → h'.get? b = some o := fun b o hb e => hk' b o (fun r => hb (by simp [r])) (fun r => hb (by simp [r])) (fun r => hb (by simp [r])) (fun r => hb (by simp [r])) e
    obtain ⟨n1, n2, n3, n4⟩ := q.off hS rfl
    exact wpAny_pure (hR h' Ts c kk (hk' S _ n1 n2 n3 n4 hS) hT (took.keeps kk))
  | succ k ih =>
    intro i s Ts c hk hi q hS hT took hg hR
    have hlt : i < xs.size := by omega
    have hlt2 : i < ys.size := by omega
    refine codeAny_builtin F.entry_extend_loop ?_
    rw [Around.under_plainId F.plain_extend_loop _]
    show wpAny _ A.in1 (pyNext (.ref z) >>= _) _ _ s
    obtain ⟨n1, n2, n3, n4⟩ := q.off hS rfl
    refine wpAny_bind (zip_item D q (Array.getElem?_eq_getElem hlt) (Array.getElem?_eq_getElem hlt2) fun h' q' hp hk' => ?_)
    have hS' := hk' S _ n1 n2 n3 n4 hS
    have fresh : ∀ {b o}, s.heap.get? b = some o → s.heap.objs.size ≠ b := fun e => Nat.ne_of_gt (Heap.lt_size e)
    have hTn : s.heap.objs.size ∉ [z, TO, i1, i2, S] := by
      intro hm
      have e1 : ∃ o, s.heap.get? z = some o := by rcases q.zip with ⟨_, hz, _⟩ | ⟨_, _, _, hz, _⟩ <;> exact ⟨_, hz⟩
      obtain ⟨_, e1⟩ := e1
      obtain ⟨_, e2, _⟩ := q.to
      obtain ⟨_, e3, _⟩ := q.h1
      obtain ⟨_, e4, _⟩ := q.h2
      simp only [List.mem_cons, List.not_mem_nil, or_false] at hm
      rcases hm with r | r | r | r | r
      · exact fresh e1 r
      · exact fresh e2 r
      · exact fresh e3 r
      · exact fresh e4 r
      · exact fresh hS r
    show wpAny _ A.in1 (updateSeq S (·.push (.ref s.heap.objs.size)) >>= _) _ _ _
    refine wpAny_bind ?_
    have kk : ∀ b o, b ∉ [z, TO, i1, i2, S] → s.heap.get? b = some o → (h'.update S (Obj.mapSeq (·.push (Value.ref s.heap.objs.size)))).get? b = some o := fun b o hb e =>
      (Heap.get?_update_other _ _ (fun r : S = b => hb (by simp [r]))).trans (hk' b o (fun r => hb (by simp [r])) (fun r => hb (by simp [r])) (fun r => hb (by simp [r])) (fun r => hb (by simp [r])) e)
    have ea : (Ts.map Value.ref).toArray.push (Value.ref s.heap.objs.size) = ((Ts ++ [s.heap.objs.size]).map Value.ref).toArray := by simp
    obtain ⟨c', hup⟩ : ∃ c', (h'.update S (Obj.mapSeq (·.push (Value.ref s.heap.objs.size)))).get? S = some { cls := .type "list", dict := none, data := .seq ((Ts.map Value.ref).toArray.push (Value.ref s.heap.objs.size)) c', slots := #[] } := ⟨_, Heap.get?_update_self _ hS' rfl⟩
    rw [ea] at hup
    have took' : Took g (h'.update S (Obj.mapSeq (·.push (Value.ref s.heap.objs.size)))) [z, TO, i1, i2, S] xs ys (Ts ++ [s.heap.objs.size]) := by
      intro j T e
      by_cases hj : j < Ts.length
      · rw [List.getElem?_append_left hj] at e
        obtain ⟨x, y, b1, b2, b3, b4⟩ := took j T e
        exact ⟨x, y, b1, b2, kk _ _ b4.1 b3, b4⟩
      · have hj' : j = i := by
          have := (List.getElem?_eq_some_iff.mp e).1
          simp at this; omega
        subst hj'
        rw [List.getElem?_append_right (by omega), hT] at e
        simp at e
        subst e
        refine ⟨_, _, Array.getElem?_eq_getElem hlt, Array.getElem?_eq_getElem hlt2, ?_, hTn, ?_⟩
        case refine_2 =>
          cases eg : g.get? s.heap.objs.size with
          | none => rfl
          | some o => exact absurd rfl (fresh (hg _ _ eg).2)
        exact (Heap.get?_update_other _ _ (fun r : S = _ => hTn (by simp [← r]))).trans hp
    refine wpAny_updateSeq hS' rfl (wpAny_pure ⟨plainId_quiet F.plain_extend_loop _, ih (i + 1) _ (Ts ++ [s.heap.objs.size]) c' (by omega) hlt (q'.keeps (S := S) (fun b o hb e => (Heap.get?_update_other _ _ (Ne.symm hb)).trans e) ⟨_, hS', rfl⟩ a1 a2) hup (by simp [hT]) took' (fun b o e => ⟨(hg b o e).1, kk b o (hg b o e).1 (hg b o e).2⟩)
      fun h'' Ts' c'' hk'' hS'' hl'' took'' => hR h'' Ts' c'' (fun b o hb e => hk'' b o hb (kk b o hb e)) hS'' hl'' took''⟩)
      (by rw [List.size_toArray, List.length_map, hT]; exact Nat.le_trans hi (Nat.le_trans hz (by decide))) (by show (((Ts.map Value.ref).toArray).push _).size ≤ sizeLine + 1; rw [Array.size_push, List.size_toArray, List.length_map, hT]; exact Nat.succ_le_succ (Nat.le_trans hi (Nat.le_trans hz (by decide))))

theorem zip_no_len : typeLookup (.type "zip") "__len__" = pure none := by rw [typeLookup_type, builtinLookup_eq_fast]; kernel_rfl
theorem zip_no_hint : typeLookup (.type "zip") "__length_hint__" = pure none := by rw [typeLookup_type, builtinLookup_eq_fast]; kernel_rfl
theorem ZS.typeIs {i : Nat} (q : ZS s.heap z TI TO i1 i2 l1 l2 xs ys i) : s.TypeIs (.ref z) "zip" := by
  rcases q.zip with ⟨_, hz, _⟩ | ⟨_, _, _, hz, _⟩ <;> exact ⟨_, hz, rfl⟩
theorem ZS.self {Q : Value → Shared → Prop} {i : Nat} (q : ZS s.heap z TI TO i1 i2 l1 l2 xs ys i) (h : Q (.ref z) s) : wpAny (model prog w) A (pyIter (.ref z)) Q E s := by
  refine wpAny_pyIter_slot q.typeIs F.slot_zip_iter (wpAny_call_entry F.slot_zip_iter q.typeIs F.entry_zip_iter ?_ (F.args_zip_iter_1 _))
  show wpAny _ _ (ret (.ref z)) _ _ s
  exact wpAny_pure ⟨_, rfl, "zip", _, q.typeIs, F.slot_zip_next.lookup, h⟩
theorem extend_zip {g : Heap} {R : Result → Shared → Prop} {S : Addr} (hh : A.handled = none) (D : ZipApart z TI TO i1 i2 l1 l2) (res : Value) (hlen : xs.size = ys.size) (hz : xs.size ≤ 1000) (a1 : l1 ≠ S) (a2 : l2 ≠ S) (q : ZS s.heap z TI TO i1 i2 l1 l2 xs ys 0) {c : Nat}
    (hS : s.heap.get? S = some { cls := .type "list", data := .seq #[] c }) (hg : ∀ b o, g.get? b = some o → b ∉ [z, TO, i1, i2, S] ∧ s.heap.get? b = some o)
    (hR : ∀ h' Ts' c', (∀ b o, b ∉ [z, TO, i1, i2, S] → s.heap.get? b = some o → h'.get? b = some o) → h'.get? S = some { cls := .type "list", dict := none, data := .seq (Ts'.map Value.ref).toArray c', slots := #[] } →
        Ts'.length = xs.size → Took g h' [z, TO, i1, i2, S] xs ys Ts' → R (.ok (.ret res)) { s with heap := h' }) :
    wpAny (model prog w) A.in1 (Builtin.List.listExtendWith (.ref S) (.ref z) res)
      (fun fin s' => match fin with | .done f => R (.ok f) s' | .again c' => c'.quiet = true ∧ codeAny (model prog w) A c' R s') (fun e s' => R (.error e) s') s := by
  have hSz : S ≠ z := (q.off hS rfl).1
  unfold Builtin.List.listExtendWith
  refine wpAny_bind (wpAny_typeOf q.typeIs ?_)
  have h1 : Builtin.List.listSameRef (.ref S) (.ref z) = false := by simp [Builtin.List.listSameRef, hSz]
  have h2 : (Value.type "zip" == Value.type "list") = false := by decide
  have h3 : (Value.type "zip" == Value.type "tuple") = false := by decide
  simp only [h1, h2, h3, Bool.or_false, Bool.false_eq_true, if_false]
  refine wpAny_bind (q.self ?_)
  refine wpAny_bind (wpAny_holding ?_)
  unfold Builtin.List.listLengthHint
  refine wpAny_bind (wpAny_specialOf q.typeIs zip_no_len ?_)
  show wpAny _ A.in1 (specialOf (Value.ref z) (Str.ofString "__length_hint__") >>= _) _ _ _
  refine wpAny_bind (wpAny_specialOf q.typeIs zip_no_hint ?_)
  refine wpAny_pure ?_
  show wpAny _ A.in1 (rule "list.extend.makes-room" >>= fun _ => Builtin.List.listTouch (.ref S) >>= fun _ =>
    again (.builtin "list.extend.loop" ⟨[.ref S, .ref z, res], []⟩)) _ _ _
  refine wpAny_bind (wpAny_rule ?_)
  refine wpAny_bind ?_
  show wpAny _ A.in1 (updateSeq S (·.push .none) >>= fun _ => updateSeq S (·.pop)) _ _ _
  refine wpAny_bind (wpAny_updateSeq hS rfl ?_)
  have hS₂ := Heap.get?_update_self (Obj.mapSeq (·.push Value.none)) hS rfl
  refine wpAny_updateSeq (hz := by seq_fits) hS₂ rfl ?_
  have hS₃ := Heap.get?_update_self (Obj.mapSeq (·.pop)) hS₂ rfl
  have oth : ∀ b o, b ≠ S → s.heap.get? b = some o → ((s.heap.update S (Obj.mapSeq (·.push Value.none))).update S (Obj.mapSeq (·.pop))).get? b = some o :=
    fun b o hb e => (Heap.get?_update_other _ _ (Ne.symm hb)).trans ((Heap.get?_update_other _ _ (Ne.symm hb)).trans e)
  refine wpAny_pure ⟨plainId_quiet F.plain_extend_loop _, zip_loop hh D res hlen hz a1 a2 xs.size 0 _ [] _ rfl (Nat.zero_le _) (q.keeps oth ⟨_, hS, rfl⟩ a1 a2) hS₃ rfl (fun j T e => by simp at e) (fun b o e => ⟨(hg b o e).1, oth b o (fun r => (hg b o e).1 (by simp [r])) (hg b o e).2⟩) fun h' Ts' c' hk' hS' hl' took' => ?_⟩
  exact hR h' Ts' c' (fun b o hb e => hk' b o hb (oth b o (fun r => hb (by simp [r])) e)) hS' hl' took'
theorem init_zip {g : Heap} {R : Result → Shared → Prop} {S : Addr} (hh : A.handled = none) (D : ZipApart z TI TO i1 i2 l1 l2) (hlen : xs.size = ys.size) (hz : xs.size ≤ 1000) (a1 : l1 ≠ S) (a2 : l2 ≠ S) (q : ZS s.heap z TI TO i1 i2 l1 l2 xs ys 0)
    (hS : s.heap.get? S = some { cls := .type "list", data := .seq #[] }) (hg : ∀ b o, g.get? b = some o → b ∉ [z, TO, i1, i2, S] ∧ s.heap.get? b = some o)
    (hR : ∀ h' Ts' c', (∀ b o, b ∉ [z, TO, i1, i2, S] → s.heap.get? b = some o → h'.get? b = some o) → h'.get? S = some { cls := .type "list", dict := none, data := .seq (Ts'.map Value.ref).toArray c', slots := #[] } →
        Ts'.length = xs.size → Took g h' [z, TO, i1, i2, S] xs ys Ts' → R (.ok (.ret .none)) { s with heap := h' }) :
    wpAny (model prog w) A.in1 (Builtin.«list.__init__» ⟨[.ref S, .ref z], []⟩)
      (fun fin s' => match fin with | .done f => R (.ok f) s' | .again c' => c'.quiet = true ∧ codeAny (model prog w) A c' R s') (fun e s' => R (.error e) s') s := by
  show wpAny _ A.in1 (do let old ← Builtin.List.listItems (.ref S); Builtin.List.listUpdate (.ref S) (fun _ => #[]); letGo old.toList.reverse; Builtin.List.listExtendWith (.ref S) (.ref z) .none) _ _ s
  refine wpAny_bind ?_
  unfold Builtin.List.listItems
  refine wpAny_bind (wpAny_seqItems hS rfl (wpAny_pure ?_))
  show wpAny _ A.in1 (updateSeq S (fun _ => #[]) >>= fun _ => letGo (#[] : Array Value).toList.reverse >>= fun _ => Builtin.List.listExtendWith (.ref S) (.ref z) .none) _ _ s
  refine wpAny_bind (wpAny_updateSeq hS rfl ?_)
  have hS₂ := Heap.get?_update_self (Obj.mapSeq (fun _ => (#[] : Array Value))) hS rfl
  have oth : ∀ b o, b ≠ S → s.heap.get? b = some o → (s.heap.update S (Obj.mapSeq (fun _ => (#[] : Array Value)))).get? b = some o :=
    fun b o hb e => (Heap.get?_update_other _ _ (Ne.symm hb)).trans e
  refine wpAny_bind (wpAny_letGo ?_)
  refine extend_zip hh D .none hlen hz a1 a2 (q.keeps oth ⟨_, hS, rfl⟩ a1 a2) hS₂ (fun b o e => ⟨(hg b o e).1, oth b o (fun r => (hg b o e).1 (by simp [r])) (hg b o e).2⟩) fun h' Ts' c' hk' hS' hl' took' => ?_
  exact hR h' Ts' c' (fun b o hb e => hk' b o hb (oth b o (fun r => hb (by simp [r])) e)) hS' hl' took'
theorem call_list_zip {g : Heap} {Q : Value → Shared → Prop} (hh : A.handled = none) (D : ZipApart z TI TO i1 i2 l1 l2) (hlen : xs.size = ys.size) (hz : xs.size ≤ 1000) (q : ZS s.heap z TI TO i1 i2 l1 l2 xs ys 0) (hg : ∀ b o, g.get? b = some o → b ∉ [z, TO, i1, i2] ∧ s.heap.get? b = some o)
    (hQ : ∀ h' Ts' c', (∀ b o, b ∉ [z, TO, i1, i2] → s.heap.get? b = some o → h'.get? b = some o) → h'.get? s.heap.objs.size = some { cls := .type "list", dict := none, data := .seq (Ts'.map Value.ref).toArray c', slots := #[] } →
        Ts'.length = xs.size → Took g h' [z, TO, i1, i2, s.heap.objs.size] xs ys Ts' → Q (.ref s.heap.objs.size) { s with heap := h' }) :
    wpAny (model prog w) A (call (.type "list") [.ref z]) Q E s := by
  have fresh : ∀ {b o}, s.heap.get? b = some o → b ≠ s.heap.objs.size := fun e => Nat.ne_of_lt (Heap.lt_size e)
  refine callType_codes (Q₁ := fun obj s₁ => obj = .ref s.heap.objs.size ∧ s₁ = { s with heap := s.heap.push { cls := .type "list", data := .seq #[] } }) F.called_list (F.typeCall_list_1 _) F.entry_list_init
    (code_list_new _ ⟨rfl, rfl⟩) fun obj s₁ h₁ => ?_
  obtain ⟨rfl, rfl⟩ := h₁
  have hS : (s.heap.push { cls := .type "list", data := .seq #[] }).get? s.heap.objs.size = some { cls := .type "list", data := .seq #[] } := Heap.get?_push_size _ rfl
  have pk : ∀ b o, s.heap.get? b = some o → (s.heap.push { cls := .type "list", data := .seq #[] }).get? b = some o := fun b o e => Heap.get?_push_of_some _ e
  have q' : ZS (s.heap.push { cls := .type "list", data := .seq #[] }) z TI TO i1 i2 l1 l2 xs ys 0 := by
    refine ⟨?_, pk _ _ q.ti, ?_, q.h1.at fun o e => pk _ o e, q.h2.at fun o e => pk _ o e, q.hl1.at fun o e => pk _ o e, q.hl2.at fun o e => pk _ o e⟩
    · rcases q.zip with ⟨e, hz, a, b, hp⟩ | ⟨T, oT, b, hz, hT, c⟩
      · exact .inl ⟨e, pk _ _ hz, a, b, pk _ _ hp⟩
      · exact .inr ⟨T, oT, b, pk _ _ hz, pk _ _ hT, c⟩
    · obtain ⟨o, e, c⟩ := q.to; exact ⟨o, pk _ _ e, c⟩
  refine ⟨⟨_, hS, rfl⟩, F.args_list_init_2 _ _, init_zip (s := { s with heap := s.heap.push { cls := .type "list", data := .seq #[] } }) hh D hlen hz (by obtain ⟨_, e, _⟩ := q.hl1; exact fresh e) (by obtain ⟨_, e, _⟩ := q.hl2; exact fresh e) q' hS (fun b o e => ⟨fun hm => by
    have h1 := (hg b o e).1
    simp only [List.mem_cons, List.not_mem_nil, or_false] at hm h1
    rcases hm with r | r | r | r | r
    · exact h1 (.inl r)
    · exact h1 (.inr (.inl r))
    · exact h1 (.inr (.inr (.inl r)))
    · exact h1 (.inr (.inr (.inr r)))
    · exact fresh (hg b o e).2 r, pk b o (hg b o e).2⟩) fun h' Ts' c' hk' hS' hl' took' => ?_⟩
  exact ⟨rfl, hQ h' Ts' c' (fun b o hb e => hk' b o (fun hm => by
    simp only [List.mem_cons, List.not_mem_nil, or_false] at hm hb
    rcases hm with r | r | r | r | r
    · exact hb (.inl r)
    · exact hb (.inr (.inl r))
    · exact hb (.inr (.inr (.inl r)))
    · exact hb (.inr (.inr (.inr r)))
    · exact fresh e r) (pk b o e)) hS' hl' took'⟩
end

section
variable {C : Cfg} {n : Nat} {sc : Scope} {ρ : Rho}
noncomputable def zipD (xs ys : List D) : List D := (List.zip xs ys).map fun p => .tuple [p.1, p.2]
theorem Ats.took {g h : Heap} {V : Addr → Prop} {X : List Addr} : ∀ {us vs : List Value} {ds es : List D} {Ts : List Addr}, Ats h V us ds → Ats h V vs es → us.length = vs.length → Ts.length = us.length → Took g h X us.toArray vs.toArray Ts → (∀ T ∈ Ts, V T) →
    Ats h V (Ts.map .ref) (zipD ds es)
  | _, _, _, _, [], .nil, _, _, _, _, _ => by simpa [zipD] using Ats.nil
  | _, _, _, _, T :: Ts, .nil, _, _, hl, _, _ => by simp at hl
  | _, _, _, _, _, .cons _ _, .nil, hl, _, _, _ => by simp at hl
  | _, _, _, _, [], .cons _ _, .cons _ _, _, hl, _, _ => by simp at hl
  | u :: us, v :: vs, _, _, T :: Ts, .cons a1 t1, .cons a2 t2, hl, hl2, took, hV => by
    obtain ⟨x, y, b1, b2, b3, b4⟩ := took 0 T rfl
    simp at b1 b2
    subst b1 b2
    refine .cons (.tuple (vs := [u, v]) (hV T (.head _)) ⟨_, b3, rfl, _, rfl⟩ (.cons a1 (.cons a2 .nil))) ?_
    refine Ats.took (X := X) (g := g) t1 t2 (by simpa using hl) (by simpa using hl2) (fun j T' e => ?_) fun T' h' => hV T' (.tail _ h')
    obtain ⟨x', y', c1, c2, c3, c4⟩ := took (j + 1) T' (by simpa using e)
    exact ⟨x', y', by simpa using c1, by simpa using c2, c3, c4⟩

/-- list(zip(a, b)) -/
theorem Ev.listzip {p1 p2 pos pos' : Pos} {a b : Expr} {xs ys : List D} (hkl : sc.names.lookup (Str.ofString "list") = some .globalImplicit) (hkz : sc.names.lookup (Str.ofString "zip") = some .globalImplicit)
    (el : nsIn (hd.heap_39 C.w.params) mainGlobals (Str.ofString "list") = some Option.none) (ez : nsIn (hd.heap_39 C.w.params) mainGlobals (Str.ofString "zip") = some Option.none)
    (hab : Evs C n sc ρ [a, b] [.list xs, .list ys]) (hlen : xs.length = ys.length) (hx : xs.length ≤ 1000) (hn : 1 ≤ n)
    (hs : ∀ env, starEach [a, b] env = [(false, eval a env), (false, eval b env)] := by intro _; rfl)
    (hs' : ∀ env, starEach [.Call (.Name (Str.ofString "zip") p2) [a, b] [] pos'] env = [(false, eval (.Call (.Name (Str.ofString "zip") p2) [a, b] [] pos') env)] := by intro _; rfl) :
    Ev C n sc ρ (.Call (.Name (Str.ofString "list") p1) [.Call (.Name (Str.ofString "zip") p2) [a, b] [] pos'] [] pos) (.list (zipD xs ys)) := by
  intro A s V env he hA r
  rw [arm_eval_Call_Name']
  refine wpAny_bind (builtin he r hkl el (v := .type "list") (by decide +kernel) ?_)
  rw [hs' env]
  refine PySem.callWith_type rfl (evalArgs_plain ?_)
  refine Calls.spliced_cons (wpAny_mono (Q := fun v s₁ => ∃ z TI TO i1 i2 l1 l2 us vs h₀, v = .ref z ∧ Same s s₁ ∧ ZipApart z TI TO i1 i2 l1 l2 ∧ ZS s₁.heap z TI TO i1 i2 l1 l2 us vs 0 ∧ Ats h₀ (Fre V s.heap) us.toList xs ∧ Ats h₀ (Fre V s.heap) vs.toList ys ∧
    KeU C.g s.heap h₀ ∧ ∀ b o, h₀.get? b = some o → b ∉ [z, TO, i1, i2] ∧ s₁.heap.get? b = some o) ?_ (fun v s₁ h₁ => Calls.spliced_nil ?_) fun _ _ f => f)
  · rw [arm_eval_Call_Name']
    refine wpAny_bind (builtin he r hkz ez (v := .type "zip") (by decide +kernel) ?_)
    have hh := hab A s V env pos' he hA r
    rw [hs env] at hh ⊢
    refine PySem.callWith_type rfl (evalArgs_plain (wpAny_mono hh (fun us s₁ h₁ => ?_) fun _ _ f => f))
    obtain ⟨k₁, a₁⟩ := h₁
    cases a₁ with
    | cons q1 tl =>
      cases tl with
      | cons q2 tl =>
        cases tl
        cases q1 with
        | list hv hl hls =>
          cases q2 with
          | list hv' hl' hls' =>
            rename_i l1 vs1 l2 vs2
            have b1 : l1 < s₁.heap.objs.size := by obtain ⟨_, e⟩ := hl; exact Heap.lt_size e
            have b2 : l2 < s₁.heap.objs.size := by obtain ⟨_, e⟩ := hl'; exact Heap.lt_size e
            refine call_zip_2 hl.isList hl'.isList fun h' hz hTI hTO hi1 hi2 _ hk => ?_
            refine ⟨_, _, _, _, _, l1, l2, vs1.toArray, vs2.toArray, s₁.heap, rfl, k₁.same.trans ⟨h', s₁.toks, rfl⟩, zipApart_new b1 b2, ⟨.inl ⟨rfl, hz, _, _, hTO⟩, hTI, ⟨_, hTO, rfl⟩, hi1, hi2, hl.isList.at fun o e => hk _ o e, hl'.isList.at fun o e => hk _ o e⟩, hls, hls', k₁.heap, fun b o e => ⟨fun hm => ?_, hk b o e⟩⟩
            have lt := Heap.lt_size e
            simp only [List.mem_cons, List.not_mem_nil, or_false] at hm
            rcases hm with r | r | r | r
            · exact absurd (r ▸ lt) (Nat.not_lt.mpr (Nat.le_add_right _ 4))
            · exact absurd (r ▸ lt) (Nat.not_lt.mpr (Nat.le_add_right _ 3))
            · exact absurd (r ▸ lt) (Nat.lt_irrefl _)
            · exact absurd (r ▸ lt) (Nat.not_lt.mpr (Nat.le_add_right _ 1))
  · obtain ⟨z, TI, TO, i1, i2, l1, l2, us, vs, h₀, rfl, sm, DZ, q, a1, a2, k₀, hg⟩ := h₁
    obtain ⟨h₁, t₁, rfl⟩ := sm
    have e1 : us.size = xs.length := by rw [← a1.length, Array.length_toList]
    have e2 : vs.size = ys.length := by rw [← a2.length, Array.length_toList]
    refine call_list_zip (g := h₀) (hA.handled hn) DZ (by rw [e1, e2, hlen]) (by rw [e1]; exact hx) q hg fun h' Ts' c' hk' hS' hl' took' => ?_
    have n₀ : ∀ a, h₁.get? a = Option.none → h₀.get? a = Option.none := fun a ha => by
      cases e : h₀.get? a with
      | none => rfl
      | some o => have := (hg a o e).2; rw [ha] at this; cases this
    refine ⟨⟨h', t₁, rfl, fun b o e => ?_⟩, .list (.inr (k₀.none (n₀ _ (Heap.get?_none_of_le (Nat.le_refl _))))) ⟨c', hS'⟩ ?_⟩
    · obtain ⟨o', e', l⟩ := k₀ b o e
      exact ⟨o', hk' b o' (hg b o' e').1 (hg b o' e').2, l⟩
    · have up : ∀ {vs : List Value} {ds : List D}, Ats h₀ (Fre V s.heap) vs ds → Ats h' (Fre V s.heap) vs ds := fun q => q.mono fun a o hv e _ => ⟨hv, hk' a o (hg a o e).1 (hg a o e).2⟩
      refine Ats.took (g := h₀) (X := [z, TO, i1, i2, h₁.objs.size]) (up a1) (up a2) (by rw [Array.length_toList, Array.length_toList, e1, e2, hlen]) (by rw [hl', Array.length_toList]) (by simpa using took') fun T hT => ?_
      obtain ⟨j, hj⟩ := List.getElem?_of_mem hT
      obtain ⟨_, _, _, _, _, _, hn⟩ := took' j T hj
      exact .inr (k₀.none hn)
end
end Mine
end

section
open PySem PySem.W PySem.Calls PyProof.Rows
namespace Mine
set_option maxRecDepth 20000

/-! the same data, asked whether it is equal -/
noncomputable def eqOk : Nat → D → Bool
  | _, .int _ => true
  | _, .bytes _ => true
  | k + 1, .list ds => ds.all (eqOk k)
  | _, _ => false
theorem eqBytes (x : Array UInt8) (t u : Tok) (A : Around) (s : Shared) : SeqAt.EqAt A s (.bytes x t) (.bytes x u) true := by
  intro prog w E Q h
  unfold eqBool
  refine wpAny_holding ?_
  refine wpAny_ite_split (fun hab => ?_) (fun hab => ?_)
  · exact wpAny_bind (wpAny_rule (wpAny_pure h))
  · exact wpAny_bind (richCompare_gives (op := .Eq) (typeIs_bytes s x t) (typeIs_bytes s x u) FB.slot_bytes_eq FB.entry_bytes_eq (FB.args_bytes_eq_2 _ _) (gives_bytes_eq x x t u) (fun e => nomatch e) (wpAny_truthy_bool (by simpa using h)))
theorem eqAtD : ∀ (k : Nat) {A : Around} {s : Shared} {V V' : Addr → Prop} {v u : Value} {d : D}, eqOk k d = true → A.units + k < cLine → At s.heap V v d → At s.heap V' u d → SeqAt.EqAt A s v u true := by
  intro k
  induction k with
  | zero =>
    intro A s V V' v u d hk hu a b
    cases d with
    | int i =>
      cases a; cases b
      rename_i t1 t2
      have := SeqAt.EqAt.int_int (A := A) (s := s) i t1 i t2
      rwa [beq_self_eq_true] at this
    | bytes x => cases a; cases b; exact eqBytes _ _ _ _ _
    | _ => simp [eqOk] at hk
  | succ k ih =>
    intro A s V V' v u d hk hu a b
    cases d with
    | int i =>
      cases a; cases b
      rename_i t1 t2
      have := SeqAt.EqAt.int_int (A := A) (s := s) i t1 i t2
      rwa [beq_self_eq_true] at this
    | bytes x => cases a; cases b; exact eqBytes _ _ _ _ _
    | list ds =>
      cases a with
      | list hv hl hs =>
        cases b with
        | list hv' hl' hs' =>
          rename_i a vs b us
          have hall : ∀ d ∈ ds, eqOk k d = true := by simpa [eqOk] using hk
          intro prog w E Q h
          unfold eqBool
          refine wpAny_holding ?_
          refine wpAny_ite_split (fun hab => ?_) (fun hab => ?_)
          · exact wpAny_bind (wpAny_rule (wpAny_pure h))
          · refine wpAny_bind (SeqAt.RcAt.lists (e := fun _ => true) hl.isList hl'.isList (by rw [List.size_toArray, List.size_toArray, hs.length, hs'.length]) (by omega) (fun j h1 h2 => ?_) prog w E _ (wpAny_truthy_bool (by rw [show (List.range vs.toArray.size).all (fun _ => true) = true from List.all_eq_true.mpr fun _ _ => rfl]; exact h)))
            have e1 : vs[j]? = some (vs.toArray[j]) := by simp at h1; simp [h1]
            have e2 : us[j]? = some (us.toArray[j]) := by simp at h2; simp [h2]
            obtain ⟨d, ed, a1⟩ := hs.get' e1
            obtain ⟨d', ed', a2⟩ := hs'.get' e2
            rw [ed] at ed'; cases ed'
            exact ih (hall d (List.mem_of_getElem? ed)) (by show A.units + 1 + k < cLine; omega) a1 a2
    | _ => simp [eqOk] at hk

section
variable {C : Cfg} {n : Nat} {sc : Scope} {ρ : Rho} {ow : Ow}
theorem Co.neSame {ds : List D} (hk : eqOk 5 (.list ds) = true) : Co C n .NotEq (.list ds) (.list ds) false := by
  intro A s V v₁ v₂ hA _ x y
  cases x with
  | list hv hl hs =>
    cases y with
    | list hv' hl' hs' =>
      rename_i a vs b us
      have hall : ∀ d ∈ ds, eqOk 4 d = true := by simpa [eqOk] using hk
      have hu := hA.units
      refine SeqAt.RcNeAt.lists (e := fun _ => true) hl.isList hl'.isList (by rw [List.size_toArray, List.size_toArray, hs.length, hs'.length]) (by unfold cLine; omega) (fun j h1 h2 => ?_) PySem.Challenge.rw_oy0148_01.row.prog C.w _ _ ⟨.refl, by simp⟩
      have e1 : vs[j]? = some (vs.toArray[j]) := by simp at h1; simp [h1]
      have e2 : us[j]? = some (us.toArray[j]) := by simp at h2; simp [h2]
      obtain ⟨d, ed, a1⟩ := hs.get' e1
      obtain ⟨d', ed', a2⟩ := hs'.get' e2
      rw [ed] at ed'; cases ed'
      exact eqAtD 4 (hall d (List.mem_of_getElem? ed)) (by show A.units + 1 + 4 < cLine; unfold cLine; omega) a1 a2
theorem Co.eqBytes {a b : Array UInt8} : Co C n .Eq (.bytes a) (.bytes b) (a.toList == b.toList) := by
  intro A s V v₁ v₂ hA _ x y; cases x; cases y
  exact eq_bytes ⟨.refl, rfl⟩

/-- the signs of a text -/
theorem ItF.str {e : Expr} {x : Str} (v : Ev C n sc ρ e (.str x)) (hn : 1 ≤ n := by omega) : ItF C n sc ρ e (x.cps.toList.map fun c => .str ⟨#[c]⟩) := by
  intro A s V env he hA rd
  refine wpAny_mono (v A s V env he hA rd) (fun v s₁ h₁ => ?_) fun _ _ f => f
  obtain ⟨k₁, a⟩ := h₁
  cases a with
  | str _ t =>
    have fin : ∀ (o : Obj) (ty : String) (W : Walks PySem.Challenge.rw_oy0148_01.row.prog C.w A s₁.heap.objs.size [s₁.heap.objs.size] [s₁.heap.objs.size] x.cps.size (SignAt x) (fun i h => h.IsStrIter s₁.heap.objs.size ty x t i)) (h0 : (s₁.heap.push o).IsStrIter s₁.heap.objs.size ty x t 0),
        Ke C.g s { s₁ with heap := s₁.heap.push o } ∧ ∃ I wr P St, (Value.ref s₁.heap.objs.size) = .ref I ∧ Walks PySem.Challenge.rw_oy0148_01.row.prog C.w A I wr wr (x.cps.toList.map fun c => D.str ⟨#[c]⟩).length P St ∧ St 0 (s₁.heap.push o) ∧
          (∀ i h b, St i h → b ∈ wr → ∃ o, h.get? b = some o ∧ ∃ fs, o.data = .fields fs) ∧ (∀ b ∈ wr, s.heap.get? b = Option.none) ∧
          (∀ i v, P i v → ∃ d, (x.cps.toList.map fun c => D.str ⟨#[c]⟩)[i]? = some d ∧ At (s₁.heap.push o) (Fre V s.heap) v d) := by
      intro o ty W h0
      refine ⟨k₁.trans (.mkh (.push _)), _, [s₁.heap.objs.size], SignAt x, fun i h => h.IsStrIter s₁.heap.objs.size ty x t i, rfl, ?_, h0, ?_, ?_, ?_⟩
      · rw [List.length_map, Array.length_toList]; exact W
      · rintro i h b ⟨o, e, _, d⟩ hb
        rw [List.mem_singleton.mp hb]; exact ⟨o, e, _, d⟩
      · intro b hb
        rw [List.mem_singleton.mp hb]; exact k₁.heap.none (Heap.get?_none_of_le (Nat.le_refl _))
      · rintro i v ⟨c, u, hc, rfl⟩
        exact ⟨.str ⟨#[c]⟩, by simp [hc], .str _ _⟩
    cases ha : x.cps.all (· < 128)
    · exact wpAny_pyIter_wide ha (fin _ _ (Walks.strWide (hA.handled hn) _ x t) ⟨_, Heap.get?_push_size _ rfl, rfl, rfl⟩)
    · exact wpAny_pyIter_ascii ha (fin _ _ (Walks.strAscii (hA.handled hn) _ x t) ⟨_, Heap.get?_push_size _ rfl, rfl, rfl⟩)

/-- y, z = e, where e gives a tuple of two -/
theorem Sx.unpack2t {e : Expr} {x y : Str} {px py pos tpos : Pos} {k : Nat} {a b : D} (v : Ev C n sc ρ e (.tuple [a, b])) (hkx : isLC (sc.names.lookup x) = true) (hky : isLC (sc.names.lookup y) = true) (hx : ∀ xs, (x, xs) ∉ ow) (hy : ∀ xs, (y, xs) ∉ ow) (hn : 1 ≤ n)
    (hsw : ∀ env : Env, env.scope = sc → swapsWithSole [.Tuple [.Name x px, .Name y py] k tpos] e pos.line env = pure false := by intro _ _; rfl)
    (hst : ∀ env : Env, env.scope = sc → swappedStores [.Tuple [.Name x px, .Name y py] k tpos] e env = pure none := by intro _ _; rfl) :
    Sx C n sc ρ ow (.Assign [.Tuple [.Name x px, .Name y py] k tpos] e pos) (.next ((y, b) :: (x, a) :: ρ) ow) := by
  rintro A g₀ V₀ s env he ha ⟨V, st⟩
  refine wpAny_Assign_stores (wpAny_mono (v A s V env he ha st.rd) (fun v s₁ h₁ => ?_) fun _ _ f => f) (hsw env he) (hst env he)
  obtain ⟨k₁, a₁⟩ := h₁
  have st₁ := st.ke k₁.heap
  cases a₁ with
  | tuple hv hl hs =>
    cases hs with
    | cons qa tl =>
      cases tl with
      | cons qb tl =>
        cases tl
        rename_i l va vb
        refine wpAny_mono (Q := fun _ s' => Post C A g₀ V₀ env (.next ((y, b) :: (x, a) :: ρ) ow) s .next s') (?_ : wpAny C.M A (PySem.assign (.Tuple [.Name x px, .Name y py] k tpos) env (.ref l)) _ _ s₁) (fun _ _ q => q) fun _ _ f => f
        rw [assign_Tuple]
        refine wpAny_bind (wpAny_standAt ?_)
        show wpAny C.M A (do
          let items ← holding [.ref l] (unpackItems (.ref l) 2 none)
          assignInOrder [PySem.assign (.Name x px) env, PySem.assign (.Name y py) env] items) _ _ s₁
        refine wpAny_bind (wpAny_holding (unpackItems_tuple (items := #[va, vb]) (ha.handled hn) hl fun h' ext => ?_))
        have kx : KeU C.g s₁.heap h' := Fre.ext ext
        have st₂ := st₁.ke kx
        have qa' := kx.at (V' := Fre (Fre V s.heap) s₁.heap) Fre.sub qa
        have qb' := kx.at (V' := Fre (Fre V s.heap) s₁.heap) Fre.sub qb
        show wpAny C.M A (do
          holding [vb] (PySem.assign (.Name x px) env va)
          (do holding [] (PySem.assign (.Name y py) env vb); pure ())) _ _ _
        refine wpAny_bind (wpAny_holding (wpAny_assign_Name (wpAny_mono (wp_store (s := { s₁ with heap := h' }) st₂ ((isLC_iff hkx).imp (kindOf_of he) (kindOf_of he))) (fun _ s₃ h₃ => ?_) fun _ _ f => f)))
        have st₃ := h₃.2.val st₂ qa' hx
        refine wpAny_bind (wpAny_holding (wpAny_assign_Name (wpAny_mono (wp_store st₃ ((isLC_iff hky).imp (kindOf_of he) (kindOf_of he))) (fun _ s₄ h₄ => ?_) fun _ _ f => f)))
        exact wpAny_pure ⟨((k₁.same.trans ⟨h', s₁.toks, rfl⟩).trans h₃.1).trans h₄.1, rfl, _, h₄.2.val st₃ (h₃.2.at st₂ qb') hy⟩
end
end Mine
end

section
open PySem PySem.W PySem.Calls PyProof.Rows
namespace Mine
set_option maxRecDepth 100000
set_option maxHeartbeats 4000000
/-! the rows laid are the products, bit by bit -/
theorem shift_j : ∀ (p : Fin 64) (j : Fin 6), (bitsN p.val).map (fun (i : Nat) => (i : Int) + (j.val : Int)) = P (p.val * 2 ^ j.val) := by decide +kernel
theorem bitsN_mem {q j : Nat} (hq : q < 64) (h : j ∈ bitsN q) : j < 6 := by
  unfold bitsN at h
  have ht := (List.mem_filter.mp h).2
  by_cases hj : j < 6
  · exact hj
  · rw [bits_lt (n := 6) (by simpa using hq) (by omega)] at ht
    cases ht
theorem rowsOf_eq {p q : Nat} (hp : p < 64) (hq : q < 64) : dRows (rowsOf (p : Int) (q : Int)) = dP ((bitsN q).map fun j => p * 2 ^ j) := by
  unfold dRows rowsOf dP
  rw [placesN_bits, placesN_bits]
  simp only [List.map_map]
  apply List.map_congr_left
  intro j hj
  have h6 := bitsN_mem hq hj
  have := shift_j ⟨p, hp⟩ ⟨j, h6⟩
  simp only at this
  show D.list (((bitsN p).map fun (i : Nat) => (i : Int) + (j : Int)).map .int) = D.list ((P (p * 2 ^ j)).map .int)
  rw [this]
noncomputable def psOf (p q : Nat → Nat) : List (Nat × Nat) := [(p 0, q 0), (p 1, q 1), (p 2, q 2), (p 3, q 3)]
theorem dP_app (a b : List Nat) : dP (a ++ b) = dP a ++ dP b := List.map_append
theorem lay_eq {p q : Nat → Nat} (hp : ∀ k, p k < 64) (hq : ∀ k, q k < 64) : dRows (lay (fun k => (p k : Int)) (fun k => (q k : Int)) 4) = dP (valsOf (psOf p q)) := by
  have e : ∀ a b, dRows (a ++ b) = dRows a ++ dRows b := fun a b => List.map_append
  show dRows (((([] ++ rowsOf _ _) ++ rowsOf _ _) ++ rowsOf _ _) ++ rowsOf _ _) = _
  rw [e, e, e, e, rowsOf_eq (hp 0) (hq 0), rowsOf_eq (hp 1) (hq 1), rowsOf_eq (hp 2) (hq 2), rowsOf_eq (hp 3) (hq 3)]
  have v : valsOf (psOf p q) = ((((([] : List Nat) ++ (bitsN (q 0)).map fun j => p 0 * 2 ^ j) ++ (bitsN (q 1)).map fun j => p 1 * 2 ^ j) ++ (bitsN (q 2)).map fun j => p 2 * 2 ^ j) ++ (bitsN (q 3)).map fun j => p 3 * 2 ^ j) := by
    unfold valsOf psOf
    simp [List.flatMap_cons]
  rw [v]
  simp only [dP_app]
  rfl
theorem sum_mul (c : Nat) (f : Nat → Nat) : ∀ l : List Nat, (l.map fun j => c * f j).sum = c * (l.map f).sum
  | [] => by simp
  | a :: r => by simp only [List.map_cons, List.sum_cons, sum_mul c f r, Nat.mul_add]
theorem vals_sum (ps : List (Nat × Nat)) (h : ∀ p ∈ ps, p.2 < 2 ^ 14) : (valsOf ps).sum = (ps.map fun p => p.1 * p.2).sum := by
  induction ps with
  | nil => rfl
  | cons p r ih =>
    have e2 : valsOf (p :: r) = ((bitsN p.2).map fun j => p.1 * 2 ^ j) ++ valsOf r := rfl
    rw [e2, List.sum_append, ih fun q hq => h q (.tail _ hq), List.map_cons, List.sum_cons, sum_mul]
    have := sum_bits p.2 14
    rw [Nat.mod_eq_of_lt (h p (.head _))] at this
    unfold bitsN
    rw [this]
theorem mul63 {a b : Nat} (ha : a < 64) (hb : b < 64) : a * b ≤ 3969 := Nat.mul_le_mul (Nat.le_of_lt_succ ha) (Nat.le_of_lt_succ hb)
theorem ps_sum {p q : Nat → Nat} (hp : ∀ k, p k < 64) (hq : ∀ k, q k < 64) : ((psOf p q).map fun p => p.1 * p.2).sum < 2 ^ 14 := by
  have h0 := mul63 (hp 0) (hq 0)
  have h1 := mul63 (hp 1) (hq 1)
  have h2 := mul63 (hp 2) (hq 2)
  have h3 := mul63 (hp 3) (hq 3)
  show p 0 * q 0 + (p 1 * q 1 + (p 2 * q 2 + (p 3 * q 3 + 0))) < 16384
  omega
theorem vals_ok {p q : Nat → Nat} (hp : ∀ k, p k < 64) (hq : ∀ k, q k < 64) : (valsOf (psOf p q)).sum = ((psOf p q).map fun p => p.1 * p.2).sum ∧ rOk (valsOf (psOf p q)) := by
  have e := vals_sum (psOf p q) fun r hr => by
    unfold psOf at hr
    have := hq 0
    have := hq 1
    have := hq 2
    have := hq 3
    simp only [List.mem_cons, List.not_mem_nil, or_false] at hr
    rcases hr with rfl | rfl | rfl | rfl <;> (show _ < 16384; dsimp only; omega)
  refine ⟨e, ?_⟩
  unfold rOk
  rw [e]; exact ps_sum hp hq
theorem run_sum {ms : List Nat} (h : rOk ms) : (hc (pad2 (csa ms).2) 14).1.1 = ms.sum := by
  obtain ⟨el, es, _⟩ := csa_end _ ms (Nat.le_refl _)
  have h1 := hc_sum (pad2 (csa ms).2) 14
  rw [pad2_sum el, es] at h1
  have h2 := hc_done (pad2 (csa ms).2) (by rw [pad2_sum el, es]; exact h)
  omega
theorem ok_P (k m : Nat) : eqOk (k + 1) (.list ((P m).map .int)) = true := by
  show ((P m).map D.int).all (eqOk k) = true
  rw [List.all_eq_true]
  intro d hd
  obtain ⟨i, _, rfl⟩ := List.mem_map.mp hd
  cases k <;> rfl
theorem ok_dP (k : Nat) (ms : List Nat) : eqOk (k + 2) (.list (dP ms)) = true := by
  show (dP ms).all (eqOk (k + 1)) = true
  rw [List.all_eq_true]
  intro d hd
  obtain ⟨m, _, rfl⟩ := List.mem_map.mp hd
  exact ok_P k m
theorem ok_dSteps (k : Nat) (l : List (List Nat)) : eqOk (k + 3) (.list (dSteps l)) = true := by
  show (dSteps l).all (eqOk (k + 2)) = true
  rw [List.all_eq_true]
  intro d hd
  obtain ⟨s, _, rfl⟩ := List.mem_map.mp hd
  exact ok_dP k s

/-! the octets, read and written -/
noncomputable def text3 (o₀ o₁ o₂ : Int) : Str := ⟨#[sg (o₀ / 4), sg (o₀ % 4 * 16 + o₁ / 16), sg (o₁ % 16 * 4 + o₂ / 64), sg (o₂ % 64)]⟩
theorem byteArr_nat {ns : List Int} (h : ∀ k ∈ ns, 0 ≤ k ∧ k < 256) : (byteArr ns).toList.map (fun c => (c.toNat : Int)) = ns := by
  unfold byteArr
  rw [List.map_map]
  induction ns with
  | nil => rfl
  | cons a r ih =>
    rw [List.map_cons, ih fun k hk => h k (.tail _ hk)]
    have ha := h a (.head _)
    congr 1
    show ((a.toNat.toUInt8.toNat : Nat) : Int) = a
    rw [Nat.toUInt8_eq, UInt8.toNat_ofNat']
    omega
theorem sg_int {v : Int} (h0 : 0 ≤ v) (h1 : v < 64) : ((sg v : Nat) : Int) = sgn v ∧ sg v < 128 := by
  have := sgn_range h0 h1
  unfold sg
  omega
section
variable {C : Cfg} {n : Nat} {o₀ o₁ o₂ : Int}
theorem oct3_sext3 (hv : ∀ v ∈ [o₀, o₁, o₂], 0 ≤ v ∧ v < 256) : oct3 (o₀ / 4) (o₀ % 4 * 16 + o₁ / 16) (o₁ % 16 * 4 + o₂ / 64) (o₂ % 64) = [o₀, o₁, o₂] := by
  have w0 := hv o₀ (by simp)
  have w1 := hv o₁ (by simp)
  have w2 := hv o₂ (by simp)
  unfold oct3
  simp only [List.cons.injEq, and_true]
  refine ⟨?_, ?_, ?_⟩ <;> omega
theorem fn_dec3 (hv : ∀ v ∈ [o₀, o₁, o₂], 0 ≤ v ∧ v < 256) : Fn C (n + 3) 136 [.str (text3 o₀ o₁ o₂)] (.bytes (byteArr [o₀, o₁, o₂])) := by
  have hs := sext3_lt hv
  unfold sext3 at hs
  have s0 := hs (o₀ / 4) (by simp)
  have s1 := hs (o₀ % 4 * 16 + o₁ / 16) (by simp)
  have s2 := hs (o₁ % 16 * 4 + o₂ / 64) (by simp)
  have s3 := hs (o₂ % 64) (by simp)
  have g0 := sg_int s0.1 s0.2
  have g1 := sg_int s1.1 s1.2
  have g2 := sg_int s2.1 s2.2
  have g3 := sg_int s3.1 s3.2
  have q := fn_a2b (C := C) (n := n) (b := #[(sg (o₀ / 4)).toUInt8, (sg (o₀ % 4 * 16 + o₁ / 16)).toUInt8, (sg (o₁ % 16 * 4 + o₂ / 64)).toUInt8, (sg (o₂ % 64)).toUInt8]) hs (by
    show [(((sg (o₀ / 4)).toUInt8.toNat : Nat) : Int), (((sg (o₀ % 4 * 16 + o₁ / 16)).toUInt8.toNat : Nat) : Int), (((sg (o₁ % 16 * 4 + o₂ / 64)).toUInt8.toNat : Nat) : Int), (((sg (o₂ % 64)).toUInt8.toNat : Nat) : Int)] = _
    simp only [Nat.toUInt8_eq, UInt8.toNat_ofNat', List.cons.injEq, and_true]
    refine ⟨?_, ?_, ?_, ?_⟩ <;> omega)
  rw [oct3_sext3 hv] at q
  exact fn_b64d (fn_bfd g0.2 g1.2 g2.2 g3.2) q
theorem fn_enc3 (hv : ∀ v ∈ [o₀, o₁, o₂], 0 ≤ v ∧ v < 256) : Fn C (n + 3) 128 [.bytes (byteArr [o₀, o₁, o₂])] (.bytes (byteArr ((sext3 o₀ o₁ o₂).map sgn))) :=
  fn_b64e (fn_b2a3 hv (byteArr_nat hv))
theorem fn_enc2 {o₀ o₁ : Int} (hv : ∀ v ∈ [o₀, o₁], 0 ≤ v ∧ v < 256) : Fn C (n + 3) 128 [.bytes (byteArr [o₀, o₁])] (.bytes (byteArr ((sext2 o₀ o₁).map sgn ++ [61]))) :=
  fn_b64e (fn_b2a2 hv (byteArr_nat hv))
end
end Mine
end

section
open PySem PySem.W PySem.Calls PyProof.Rows
namespace Mine
set_option maxRecDepth 100000
set_option maxHeartbeats 4000000
noncomputable def textOut : D → D
  | .list [.int x, .int y, .int z] => .str (text3 x y z)
  | _ => .none
noncomputable def signAt (x : Str) (k : Nat) : Int := usg ((x.cps.getD k 0 : Nat) : Int)
noncomputable def decOut : D → D
  | .str x => .bytes (byteArr (oct3 (signAt x 0) (signAt x 1) (signAt x 2) (signAt x 3)))
  | _ => .none
noncomputable def octAt (b : Array UInt8) (k : Nat) : Int := ((b.toList.getD k 0).toNat : Int)
noncomputable def encOut : D → D
  | .bytes b => .bytes (byteArr ((sext3 (octAt b 0) (octAt b 1) (octAt b 2)).map sgn))
  | _ => .none
noncomputable def bytesOut : D → D
  | .list ds => .bytes (byteArr (ds.map dInt))
  | _ => .none
noncomputable def strInts (x : Str) : List Int := x.cps.toList.map fun (c : Nat) => (c : Int)
noncomputable def ordsOut : D → D
  | .str x => .bytes (byteArr (strInts x))
  | _ => .none
noncomputable def ordOut : D → D
  | .str x => .int ((x.cps.getD 0 0 : Nat) : Int)
  | _ => .none
noncomputable def mulOut : D → D
  | .tuple [.int x, .int y] => .int (x * y)
  | _ => .none
section
variable {C : Cfg} {n : Nat} {o₀ o₁ o₂ : Int}
theorem decOut_text (hv : ∀ v ∈ [o₀, o₁, o₂], 0 ≤ v ∧ v < 256) : decOut (.str (text3 o₀ o₁ o₂)) = .bytes (byteArr [o₀, o₁, o₂]) := by
  have hs := sext3_lt hv
  unfold sext3 at hs
  have s0 := hs (o₀ / 4) (by simp)
  have s1 := hs (o₀ % 4 * 16 + o₁ / 16) (by simp)
  have s2 := hs (o₁ % 16 * 4 + o₂ / 64) (by simp)
  have s3 := hs (o₂ % 64) (by simp)
  show D.bytes (byteArr (oct3 (usg ((sg (o₀ / 4) : Nat) : Int)) (usg ((sg (o₀ % 4 * 16 + o₁ / 16) : Nat) : Int)) (usg ((sg (o₁ % 16 * 4 + o₂ / 64) : Nat) : Int)) (usg ((sg (o₂ % 64) : Nat) : Int)))) = _
  rw [(sg_int s0.1 s0.2).1, (sg_int s1.1 s1.2).1, (sg_int s2.1 s2.2).1, (sg_int s3.1 s3.2).1, usg_sgn s0.1 s0.2, usg_sgn s1.1 s1.2, usg_sgn s2.1 s2.2, usg_sgn s3.1 s3.2, oct3_sext3 hv]
theorem encOut_bytes (hv : ∀ v ∈ [o₀, o₁, o₂], 0 ≤ v ∧ v < 256) : encOut (.bytes (byteArr [o₀, o₁, o₂])) = .bytes (byteArr ((sext3 o₀ o₁ o₂).map sgn)) := by
  have e := byteArr_nat hv
  have e0 : octAt (byteArr [o₀, o₁, o₂]) 0 = o₀ := by have := congrArg (fun l => l.getD 0 0) e; exact this
  have e1 : octAt (byteArr [o₀, o₁, o₂]) 1 = o₁ := by have := congrArg (fun l => l.getD 1 0) e; exact this
  have e2 : octAt (byteArr [o₀, o₁, o₂]) 2 = o₂ := by have := congrArg (fun l => l.getD 2 0) e; exact this
  show D.bytes (byteArr ((sext3 (octAt (byteArr [o₀, o₁, o₂]) 0) (octAt (byteArr [o₀, o₁, o₂]) 1) (octAt (byteArr [o₀, o₁, o₂]) 2)).map sgn)) = _
  rw [e0, e1, e2]
theorem strInts_text3 (hv : ∀ v ∈ [o₀, o₁, o₂], 0 ≤ v ∧ v < 256) : strInts (text3 o₀ o₁ o₂) = (sext3 o₀ o₁ o₂).map sgn := by
  have hs := sext3_lt hv
  unfold sext3 at hs
  have s0 := hs (o₀ / 4) (by simp)
  have s1 := hs (o₀ % 4 * 16 + o₁ / 16) (by simp)
  have s2 := hs (o₁ % 16 * 4 + o₂ / 64) (by simp)
  have s3 := hs (o₂ % 64) (by simp)
  show [((sg (o₀ / 4) : Nat) : Int), ((sg (o₀ % 4 * 16 + o₁ / 16) : Nat) : Int), ((sg (o₁ % 16 * 4 + o₂ / 64) : Nat) : Int), ((sg (o₂ % 64) : Nat) : Int)] = [sgn (o₀ / 4), sgn (o₀ % 4 * 16 + o₁ / 16), sgn (o₁ % 16 * 4 + o₂ / 64), sgn (o₂ % 64)]
  rw [(sg_int s0.1 s0.2).1, (sg_int s1.1 s1.2).1, (sg_int s2.1 s2.2).1, (sg_int s3.1 s3.2).1]
noncomputable def text2 (o₀ o₁ : Int) : Str := ⟨#[sg (o₀ / 4), sg (o₀ % 4 * 16 + o₁ / 16), sg (o₁ % 16 * 4), 61]⟩
theorem strInts_text2 {o₀ o₁ : Int} (hv : ∀ v ∈ [o₀, o₁], 0 ≤ v ∧ v < 256) : strInts (text2 o₀ o₁) = (sext2 o₀ o₁).map sgn ++ [61] := by
  have hs := sext2_lt hv
  unfold sext2 at hs
  have s0 := hs (o₀ / 4) (by simp)
  have s1 := hs (o₀ % 4 * 16 + o₁ / 16) (by simp)
  have s2 := hs (o₁ % 16 * 4) (by simp)
  show [((sg (o₀ / 4) : Nat) : Int), ((sg (o₀ % 4 * 16 + o₁ / 16) : Nat) : Int), ((sg (o₁ % 16 * 4) : Nat) : Int), 61] = [sgn (o₀ / 4), sgn (o₀ % 4 * 16 + o₁ / 16), sgn (o₁ % 16 * 4), 61]
  rw [(sg_int s0.1 s0.2).1, (sg_int s1.1 s1.2).1, (sg_int s2.1 s2.2).1]
/-- bytes([ord(sign) for sign in text]) -/
theorem Ev.ords {sc : Scope} {ρ : Rho} {e : Expr} {x : Str} {px py pz pw p1 p2 p3 : Pos} {scope : Scope} (hkb : sc.names.lookup (Str.ofString "bytes") = some .globalImplicit) (heb : nsIn (hd.heap_39 C.w.params) mainGlobals (Str.ofString "bytes") = some Option.none)
    (heo : nsIn (hd.heap_39 C.w.params) mainGlobals (Str.ofString "ord") = some Option.none)
    (v : Ev C n sc ρ e (.str x)) (hx : ∀ k ∈ strInts x, 0 ≤ k ∧ k < 256) (hl : x.cps.size ≤ 1000) (hok : compOK scope sc (Str.ofString "sign") [] = true) (hko : (rel scope sc).names.lookup (Str.ofString "ord") = some .globalImplicit) (hn : 1 ≤ n)
    (hs : ∀ env x, foldedSetIterable e env x = pure x := by intro _ _; rfl) :
    Ev C n sc ρ (.Call (.Name (Str.ofString "bytes") px) [.ListComp (.Call (.Name (Str.ofString "ord") py) [.Name (Str.ofString "sign") pz] [] p1) [⟨.Name (Str.ofString "sign") pw, e, [], 0⟩] scope p2] [] p3) (.bytes (byteArr (strInts x))) := by
  refine Ev.tcall hkb heb (by decide +kernel) (Evs.cons (Ev.to (b := .list ((strInts x).map .int)) (Ev.lm [] ordOut (ItF.str v hn).it hok rfl ?elt ?len hs) ?eq) Evs.nil) (Bf.bytes hx ?bl hn)
  case elt =>
    intro d hd
    obtain ⟨c, _, rfl⟩ := List.mem_map.mp hd
    exact Ev.bcall hko heo (by decide +kernel) (Evs.cons (Ev.name rfl) Evs.nil) Bf.ord
  case len => rw [List.length_map, Array.length_toList]; exact hl
  case eq => unfold strInts; simp only [List.map_map]; rfl
  case bl => unfold strInts; rw [List.length_map, Array.length_toList]; exact hl
theorem sgn_byte {v : Int} (h0 : 0 ≤ v) (h1 : v < 64) : 0 ≤ sgn v ∧ sgn v < 256 := by have := sgn_range h0 h1; omega
theorem text3_ok (hv : ∀ v ∈ [o₀, o₁, o₂], 0 ≤ v ∧ v < 256) : ∀ k ∈ strInts (text3 o₀ o₁ o₂), 0 ≤ k ∧ k < 256 := by
  rw [strInts_text3 hv]
  intro k hk
  obtain ⟨v, hv', rfl⟩ := List.mem_map.mp hk
  have := sext3_lt hv v hv'
  exact sgn_byte this.1 this.2
theorem text2_ok {o₀ o₁ : Int} (hv : ∀ v ∈ [o₀, o₁], 0 ≤ v ∧ v < 256) : ∀ k ∈ strInts (text2 o₀ o₁), 0 ≤ k ∧ k < 256 := by
  rw [strInts_text2 hv]
  intro k hk
  rcases List.mem_append.mp hk with hk | hk
  · obtain ⟨v, hv', rfl⟩ := List.mem_map.mp hk
    have := sext2_lt hv v hv'
    exact sgn_byte this.1 this.2
  · rw [List.mem_singleton.mp hk]; decide
theorem wr_at (hv : ∀ v ∈ [o₀, o₁, o₂], 0 ≤ v ∧ v < 256) (k : Nat) (hk : k < 4) : 0 ≤ (((sext3 o₀ o₁ o₂).getD k 0).toNat : Int) ∧ (((sext3 o₀ o₁ o₂).getD k 0).toNat : Int) < 64 ∧
    ((((byteArr ((sext3 o₀ o₁ o₂).map sgn)).toList.getD k 0).toNat : Int)) = sgn (((sext3 o₀ o₁ o₂).getD k 0).toNat : Int) := by
  have e := byteArr_nat (ns := (sext3 o₀ o₁ o₂).map sgn) (by
    intro k hk
    obtain ⟨v, hv', rfl⟩ := List.mem_map.mp hk
    have := sext3_lt hv v hv'
    exact sgn_byte this.1 this.2)
  have hs := sext3_lt hv
  have hm : (sext3 o₀ o₁ o₂).getD k 0 ∈ sext3 o₀ o₁ o₂ := by
    unfold sext3
    match k, hk with
    | 0, _ => simp
    | 1, _ => simp
    | 2, _ => simp
    | 3, _ => simp
  have h := hs _ hm
  have et : (((sext3 o₀ o₁ o₂).getD k 0).toNat : Int) = (sext3 o₀ o₁ o₂).getD k 0 := by omega
  rw [et]
  refine ⟨h.1, h.2, ?_⟩
  match k, hk with
  | 0, _ => exact congrArg (fun l => l.getD 0 0) e
  | 1, _ => exact congrArg (fun l => l.getD 1 0) e
  | 2, _ => exact congrArg (fun l => l.getD 2 0) e
  | 3, _ => exact congrArg (fun l => l.getD 3 0) e
theorem nat_at (hv : ∀ v ∈ [o₀, o₁, o₂], 0 ≤ v ∧ v < 256) (k : Nat) : ((sext3 o₀ o₁ o₂).getD k 0).toNat < 64 := by
  by_cases hk : k < 4
  · have := (wr_at hv k hk).2.1; omega
  · have : (sext3 o₀ o₁ o₂).getD k 0 = 0 := by
      unfold sext3
      match k, hk with
      | 0, h => exact absurd (by decide) h
      | 1, h => exact absurd (by decide) h
      | 2, h => exact absurd (by decide) h
      | 3, h => exact absurd (by decide) h
      | (k + 4), _ => rfl
    rw [this]; decide
theorem zip_ps {a₀ a₁ a₂ b₀ b₁ b₂ : Int} (ha : ∀ v ∈ [a₀, a₁, a₂], 0 ≤ v ∧ v < 256) (hb : ∀ v ∈ [b₀, b₁, b₂], 0 ≤ v ∧ v < 256) :
    zipD ((sext3 a₀ a₁ a₂).map .int) ((sext3 b₀ b₁ b₂).map .int) = dPairs (psOf (fun k => ((sext3 a₀ a₁ a₂).getD k 0).toNat) (fun k => ((sext3 b₀ b₁ b₂).getD k 0).toNat)) := by
  have hs := sext3_lt ha
  have ht := sext3_lt hb
  unfold sext3 at hs ht
  have s0 := (hs (a₀ / 4) (by simp)).1
  have s1 := (hs (a₀ % 4 * 16 + a₁ / 16) (by simp)).1
  have s2 := (hs (a₁ % 16 * 4 + a₂ / 64) (by simp)).1
  have s3 := (hs (a₂ % 64) (by simp)).1
  have t0 := (ht (b₀ / 4) (by simp)).1
  have t1 := (ht (b₀ % 4 * 16 + b₁ / 16) (by simp)).1
  have t2 := (ht (b₁ % 16 * 4 + b₂ / 64) (by simp)).1
  have t3 := (ht (b₂ % 64) (by simp)).1
  show [D.tuple [.int (a₀ / 4), .int (b₀ / 4)], D.tuple [.int (a₀ % 4 * 16 + a₁ / 16), .int (b₀ % 4 * 16 + b₁ / 16)], D.tuple [.int (a₁ % 16 * 4 + a₂ / 64), .int (b₁ % 16 * 4 + b₂ / 64)], D.tuple [.int (a₂ % 64), .int (b₂ % 64)]] =
    [D.tuple [.int (((a₀ / 4).toNat : Nat) : Int), .int (((b₀ / 4).toNat : Nat) : Int)], D.tuple [.int (((a₀ % 4 * 16 + a₁ / 16).toNat : Nat) : Int), .int (((b₀ % 4 * 16 + b₁ / 16).toNat : Nat) : Int)], D.tuple [.int (((a₁ % 16 * 4 + a₂ / 64).toNat : Nat) : Int), .int (((b₁ % 16 * 4 + b₂ / 64).toNat : Nat) : Int)], D.tuple [.int (((a₂ % 64).toNat : Nat) : Int), .int (((b₂ % 64).toNat : Nat) : Int)]]
  rw [Int.toNat_of_nonneg s0, Int.toNat_of_nonneg s1, Int.toNat_of_nonneg s2, Int.toNat_of_nonneg s3, Int.toNat_of_nonneg t0, Int.toNat_of_nonneg t1, Int.toNat_of_nonneg t2, Int.toNat_of_nonneg t3]
theorem mul_pairs (ps : List (Nat × Nat)) : (dPairs ps).map mulOut = ((ps.map fun p => ((p.1 * p.2 : Nat) : Int)).map .int) := by
  unfold dPairs
  simp only [List.map_map]
  apply List.map_congr_left
  intro p _
  show D.int ((p.1 : Int) * (p.2 : Int)) = D.int ((p.1 * p.2 : Nat) : Int)
  push_cast
  rfl
theorem sum_cast : ∀ l : List Nat, (l.map fun (v : Nat) => (v : Int)).sum = ((l.sum : Nat) : Int)
  | [] => rfl
  | a :: r => by simp only [List.map_cons, List.sum_cons, sum_cast r]; push_cast; rfl
end
end Mine
end

section
open PySem PySem.W PySem.Calls PyProof.Rows
namespace Mine
set_option maxRecDepth 100000
set_option maxHeartbeats 4000000
section
variable {C : Cfg} {n : Nat}
theorem law_body {a₀ a₁ a₂ b₀ b₁ b₂ : Int} (ha : ∀ v ∈ [a₀, a₁, a₂], 0 ≤ v ∧ v < 256) (hb : ∀ v ∈ [b₀, b₁, b₂], 0 ≤ v ∧ v < 256) {ks : List Int} (hk : ks.length ≤ 63)
    (ea : oct (ks.take 3) [157, 90, 201] = [a₀, a₁, a₂]) (eb : oct ((ks.drop 3).take 3) [36, 144, 66] = [b₀, b₁, b₂]) : Fn C (n + 4) 197 [.xlist (ks.map .int)] (.bool true) := by
  refine' Fn.mk [(Str.ofString "script", .xlist (ks.map .int))] [Str.ofString "script"] ?h1 ?h2 ?h3 ?h4 ?h5 ?h6 ?h7 ?h8 ?h9 ?h10 ?h11 ?h12 ?h13 ?h14 ?h15
  case h1 => exact rfl
  case h2 => exact rfl
  case h3 => exact rfl
  case h4 => exact rfl
  case h5 => exact rfl
  case h6 => exact rfl
  case h7 => exact rfl
  case h8 => exact rfl
  case h9 => exact rfl
  case h10 => exact rfl
  case h11 => intro s V vs base h; cases h with | cons a b => cases b; exact ⟨_, BindsTo.of_eq rfl, .cons a .nil⟩
  case h12 => exact rfl
  case h13 => decide
  case h14 => decide
  case h15 =>
    have ho := fn_octets (C := C) (n := n + 1) hk
    rw [ea, eb] at ho
    refine Sxs.cons (Sx.assign (Ev.call rfl rfl rfl (Evs.cons (Ev.name rfl) Evs.nil) ho) (.inl rfl) (fun _ h => nomatch h) (fun _ _ => rfl)) ?_
    -- texts
    refine Sxs.cons (Sx.lm [] textOut (It.list (Ev.name rfl)) (by decide) rfl ?te (by show 2 ≤ 1000; decide) rfl (fun _ h => nomatch h) (fun _ he => swaps_t he rfl (by decide))) ?_
    case te =>
      intro d hd
      rcases List.mem_cons.mp hd with rfl | hd
      · exact Ev.call rfl rfl rfl (Evs.cons (Ev.name rfl) Evs.nil) (fn_text3 ha)
      · rw [List.mem_singleton.mp hd]
        exact Ev.call rfl rfl rfl (Evs.cons (Ev.name rfl) Evs.nil) (fn_text3 hb)
    rw [show ([D.list (([a₀, a₁, a₂] : List Int).map .int), D.list (([b₀, b₁, b₂] : List Int).map .int)].map textOut) = [.str (text3 a₀ a₁ a₂), .str (text3 b₀ b₁ b₂)] from rfl]
    -- read
    refine Sxs.cons (Sx.lm [] decOut (It.list (Ev.name rfl)) (by decide) rfl ?re (by show 2 ≤ 1000; decide) rfl (fun _ h => nomatch h) (fun _ he => swaps_t he rfl (by decide))) ?_
    case re =>
      intro d hd
      rcases List.mem_cons.mp hd with rfl | hd
      · rw [decOut_text ha]
        exact Ev.call rfl rfl rfl (Evs.cons (Ev.name rfl) Evs.nil) (fn_dec3 ha)
      · rw [List.mem_singleton.mp hd, decOut_text hb]
        exact Ev.call rfl rfl rfl (Evs.cons (Ev.name rfl) Evs.nil) (fn_dec3 hb)
    rw [show ([D.str (text3 a₀ a₁ a₂), .str (text3 b₀ b₁ b₂)].map decOut) = [.bytes (byteArr [a₀, a₁, a₂]), .bytes (byteArr [b₀, b₁, b₂])] by rw [List.map_cons, List.map_cons, decOut_text ha, decOut_text hb]; rfl]
    -- written
    refine Sxs.cons (Sx.lm [] encOut (It.list (Ev.name rfl)) (by decide) rfl ?we (by show 2 ≤ 1000; decide) rfl (fun _ h => nomatch h) (fun _ he => swaps_t he rfl (by decide))) ?_
    case we =>
      intro d hd
      rcases List.mem_cons.mp hd with rfl | hd
      · rw [encOut_bytes ha]
        exact Ev.call rfl rfl rfl (Evs.cons (Ev.name rfl) Evs.nil) (fn_enc3 ha)
      · rw [List.mem_singleton.mp hd, encOut_bytes hb]
        exact Ev.call rfl rfl rfl (Evs.cons (Ev.name rfl) Evs.nil) (fn_enc3 hb)
    rw [show ([D.bytes (byteArr [a₀, a₁, a₂]), .bytes (byteArr [b₀, b₁, b₂])].map encOut) = [.bytes (byteArr ((sext3 a₀ a₁ a₂).map sgn)), .bytes (byteArr ((sext3 b₀ b₁ b₂).map sgn))] by rw [List.map_cons, List.map_cons, encOut_bytes ha, encOut_bytes hb]; rfl]
    -- as they are
    refine Sxs.cons (Sx.ifF (Tr.or2 (Tr.cmp (Ev.name rfl) (Ev.to (b := .list [.bytes (byteArr [a₀, a₁, a₂]), .bytes (byteArr [b₀, b₁, b₂])]) (Ev.lm [] bytesOut (It.list (Ev.name rfl)) (by decide) rfl ?be (by show 2 ≤ 1000; decide)) rfl) (Co.neSame rfl))
      (Tr.or2 (Tr.cmp (Ev.name rfl) (Ev.to (b := .list [.bytes (byteArr ((sext3 a₀ a₁ a₂).map sgn)), .bytes (byteArr ((sext3 b₀ b₁ b₂).map sgn))]) (Ev.lm [] ordsOut (It.list (Ev.name rfl)) (by decide) rfl ?oe (by show 2 ≤ 1000; decide)) ?oq) (Co.neSame rfl)) Tr.or0)) Sxs.nil) ?_
    case be =>
      intro d hd
      rcases List.mem_cons.mp hd with rfl | hd
      · exact Ev.tcall rfl rfl (by decide +kernel) (Evs.cons (Ev.name rfl) Evs.nil) (Bf.bytes ha (by show 3 ≤ 1000; decide))
      · rw [List.mem_singleton.mp hd]
        exact Ev.tcall rfl rfl (by decide +kernel) (Evs.cons (Ev.name rfl) Evs.nil) (Bf.bytes hb (by show 3 ≤ 1000; decide))
    case oe =>
      intro d hd
      rcases List.mem_cons.mp hd with rfl | hd
      · exact Ev.ords rfl rfl rfl (Ev.name rfl) (text3_ok ha) (by show 4 ≤ 1000; decide) (by decide) rfl (by omega)
      · rw [List.mem_singleton.mp hd]
        exact Ev.ords rfl rfl rfl (Ev.name rfl) (text3_ok hb) (by show 4 ≤ 1000; decide) (by decide) rfl (by omega)
    case oq =>
      show D.list [.bytes (byteArr (strInts (text3 a₀ a₁ a₂))), .bytes (byteArr (strInts (text3 b₀ b₁ b₂)))] = _
      rw [strInts_text3 ha, strInts_text3 hb]
    -- the numbers
    obtain ⟨p, hp⟩ : ∃ p : Nat → Nat, p = fun k => ((sext3 a₀ a₁ a₂).getD k 0).toNat := ⟨_, rfl⟩
    obtain ⟨q, hq⟩ : ∃ q : Nat → Nat, q = fun k => ((sext3 b₀ b₁ b₂).getD k 0).toNat := ⟨_, rfl⟩
    have p64 : ∀ k, p k < 64 := fun k => by rw [hp]; exact nat_at ha k
    have q64 : ∀ k, q k < 64 := fun k => by rw [hq]; exact nat_at hb k
    obtain ⟨vsum, vok⟩ := vals_ok p64 q64
    have vlen := valsOf_len (psOf p q)
    have hlaid := fn_laid (C := C) (n := n) (b₁ := byteArr ((sext3 a₀ a₁ a₂).map sgn)) (b₂ := byteArr ((sext3 b₀ b₁ b₂).map sgn)) (p := fun k => (p k : Int)) (q := fun k => (q k : Int)) (fun k hk => by rw [hp]; exact wr_at ha k hk) (fun k hk => by rw [hq]; exact wr_at hb k hk) rfl rfl
    rw [lay_eq p64 q64] at hlaid
    have hrun := fn_run (C := C) (n := n) (ms := valsOf (psOf p q)) (Nat.le_trans vlen (by show 14 * 4 ≤ 60; decide)) vok
    unfold runD at hrun
    rw [run_sum vok] at hrun
    refine Sxs.cons (Sx.unpack2t (Ev.call rfl rfl rfl (Evs.cons (Ev.call rfl rfl rfl (Evs.cons (Ev.sub (Ev.name rfl) Ev.int (Su.list (by decide) (by decide) rfl)) (Evs.cons (Ev.sub (Ev.name rfl) Ev.int (Su.list (by decide) (by decide) rfl)) Evs.nil)) hlaid) Evs.nil) hrun) rfl rfl (fun _ h => nomatch h) (fun _ h => nomatch h) (by omega)) ?_
    have hpairs : zipD ((sext3 a₀ a₁ a₂).map .int) ((sext3 b₀ b₁ b₂).map .int) = dPairs (psOf p q) := by rw [hp, hq]; exact zip_ps ha hb
    have p64' : ∀ r ∈ psOf p q, r.1 < 64 := by
      intro r hr
      unfold psOf at hr
      simp only [List.mem_cons, List.not_mem_nil, or_false] at hr
      rcases hr with rfl | rfl | rfl | rfl <;> exact p64 _
    have htold := fn_told (C := C) (n := n) (ps := psOf p q) p64' (by show 4 ≤ 4; decide) vok
    unfold toldSteps at htold
    refine Sxs.cons (Sx.assign (Ev.to (Ev.listzip rfl rfl rfl rfl (Evs.cons (Ev.call rfl rfl rfl (Evs.cons (Ev.sub (Ev.name rfl) Ev.int (Su.list (by decide) (by decide) rfl)) Evs.nil) (fn_nums3 ha)) (Evs.cons (Ev.call rfl rfl rfl (Evs.cons (Ev.sub (Ev.name rfl) Ev.int (Su.list (by decide) (by decide) rfl)) Evs.nil) (fn_nums3 hb)) Evs.nil)) rfl (by show 4 ≤ 1000; decide) (by omega)) (by rw [hpairs])) (.inl rfl) (fun _ h => nomatch h) (fun _ _ => rfl)) ?_
    refine Sxs.cons (Sx.ifF (Tr.cmp (Ev.name rfl) (Ev.call rfl rfl rfl (Evs.cons (Ev.name rfl) Evs.nil) htold) (Co.neSame (ok_dSteps 2 _))) Sxs.nil) ?_
    have hsum : ((psOf p q).map fun p => ((p.1 * p.2 : Nat) : Int)).sum = (((valsOf (psOf p q)).sum : Nat) : Int) := by
      rw [vsum, ← sum_cast, List.map_map]; rfl
    refine Sxs.cons (Sx.assign (Ev.intTo (Ev.bcall rfl rfl (by decide +kernel) (Evs.cons (Ev.to (b := .list (((psOf p q).map fun p => ((p.1 * p.2 : Nat) : Int)).map .int)) (Ev.gen1 (items := dPairs (psOf p q)) (β := tβ) (out := mulOut) (by omega) (Ev.name rfl) Go.tuple ?tg ?el (fun _ => rfl) (fun _ => rfl) (by decide) rfl (by decide) (by show 4 ≤ 1000; decide)) (by rw [mul_pairs])) Evs.nil) Bf.sum) hsum) (.inl rfl) (fun _ h => nomatch h) (fun _ _ => rfl)) ?_
    case tg =>
      intro d hd
      obtain ⟨r, _, rfl⟩ := List.mem_map.mp hd
      exact Tg.pair rfl rfl (by omega)
    case el =>
      intro d hd
      obtain ⟨r, hr, rfl⟩ := List.mem_map.mp hd
      have := p64' r hr
      exact Ev.binop (Ev.name rfl) (Ev.name rfl) (Bo.mul' (by omega))
    have hS : (valsOf (psOf p q)).sum < 2 ^ 14 := vok
    generalize (valsOf (psOf p q)).sum = S at hS ⊢
    have hv : ∀ v ∈ [(S : Int) / 256, (S : Int) % 256], 0 ≤ v ∧ v < 256 := by
      intro v hv
      simp only [List.mem_cons, List.not_mem_nil, or_false] at hv
      rcases hv with rfl | rfl <;> omega
    have d1 : Int.fdiv (S : Int) 256 = (S : Int) / 256 := Int.fdiv_eq_ediv_of_nonneg _ (by decide)
    have d2 : Int.fmod (S : Int) 256 = (S : Int) % 256 := Int.fmod_eq_emod_of_nonneg _ (by decide)
    refine Sxs.cons (Sx.assign (Ev.call rfl rfl rfl (Evs.cons (Ev.list (Evs.cons (Ev.intTo (Ev.binop (Ev.name rfl) Ev.int (Bo.fdiv' (by decide) (by decide))) d1) (Evs.cons (Ev.intTo (Ev.binop (Ev.name rfl) Ev.int (Bo.fmod (by decide))) d2) Evs.nil)) (by show 2 ≤ 1000; decide)) Evs.nil) (fn_text2 hv)) (.inl rfl) (fun _ h => nomatch h) (fun _ _ => rfl)) ?_
    refine Sxs.single (Sx.ret (Ev.to (Ev.cmp (Ev.call rfl rfl rfl (Evs.cons (Ev.tcall rfl rfl (by decide +kernel) (Evs.cons (Ev.to (b := .list (([(S : Int) / 256, (S : Int) % 256] : List Int).map .int)) (Ev.list (Evs.cons (Ev.intTo (Ev.binop (Ev.name rfl) Ev.int (Bo.fdiv' (by decide) (by decide))) d1) (Evs.cons (Ev.intTo (Ev.binop (Ev.name rfl) Ev.int (Bo.fmod (by decide))) d2) Evs.nil)) (by show 2 ≤ 1000; decide)) rfl) Evs.nil) (Bf.bytes hv (by show 2 ≤ 1000; decide))) Evs.nil) (fn_enc2 hv)) (Ev.ords (x := text2 ((S : Int) / 256) ((S : Int) % 256)) rfl rfl rfl (Ev.name rfl) (text2_ok hv) (by show 4 ≤ 1000; decide) (by decide) rfl (by omega)) Co.eqBytes) ?fin))
    case fin => rw [strInts_text2 hv, beq_self_eq_true]
/-- what the law gives back -/
theorem fn_law {ks : List Int} (hk : ks.length ≤ 63) : Fn C (n + 4) 197 [.xlist (ks.map .int)] (.bool true) := by
  obtain ⟨a₀, a₁, a₂, ea, ha⟩ := oct_three (ks.take 3) (by rw [List.length_take]; omega) 157 90 201
  obtain ⟨b₀, b₁, b₂, eb, hb⟩ := oct_three ((ks.drop 3).take 3) (by rw [List.length_take]; omega) 36 144 66
  exact law_body ha hb hk ea eb
end
end Mine
end

section
open PySem PySem.W PySem.Calls PyProof.Rows
namespace Mine
set_option maxRecDepth 100000
set_option maxHeartbeats 8000000
theorem callerA_ok : AOK 4 callerA := ⟨fun _ => rfl, by decide +kernel, by decide +kernel⟩
theorem law_post (args : List WData) : PySem.Challenge.rw_oy0148_01.row.claim.post args (.bool true) args = true :=
  postW_of (r := PySem.Challenge.rw_oy0148_01.row.toRowW) (X := true) rfl (w_eq_bool (k := true) (l := true) (w_res rfl) w_lit) rfl
theorem law_raises (args : List WData) (cls : ExcName) : PySem.Challenge.rw_oy0148_01.row.claim.raises args cls = false := rfl
theorem law_good {w : World} {s₁ : Shared} {mg mb : Str → Option Value} {loose : List Str} {p : Program} {mean : ExcName → Option Value} {cl : Str → Option Addr} {mean' : ExcName → Option Value} {l : Addr} {vs : List Value} {ks : List Int} {args : List WData} {fa : Addr}
    (KX : (hd.heap_39 w.params).In s₁.heap) (T : Top p loose mean mg mb s₁.heap) (hmg : mg (Str.ofString "law") = some (.ref fa)) (hg : s₁.gens = #[]) (hL : s₁.heap.IsList l vs.toArray) (hI : IntsAre vs ks) (hk : ks.length ≤ 63) :
    wpAny (model PySem.Challenge.rw_oy0148_01.row.prog w) callerA (PySem.call (.ref fa) [.ref l]) (fun v s' => GoodWG PySem.Challenge.rw_oy0148_01.row.claim cl mean' args s₁ (.ok (.ret v)) s')
      (fun e s' => GoodWG PySem.Challenge.rw_oy0148_01.row.claim cl mean' args s₁ (.error e) s') s₁ := by
  let C : Cfg := ⟨w, s₁.heap, p, loose, mean, mg, mb, KX, T⟩
  have h197 : mg (Str.ofString "law") = some (.ref 197) := mg_of KX T.g (by rfl)
  rw [h197] at hmg
  cases hmg
  have q := fn_law (C := C) (n := 0) hk callerA s₁ (fun _ => True) [.ref l] callerA_ok (fun _ _ e => e) ⟨[], rfl, fun _ h => nomatch h⟩ (.cons (.xlist trivial hL (Ats.of_ints hI)) .nil)
  refine wpAny_mono q (fun v s' h => ?_) fun _ _ f => f.elim
  obtain ⟨⟨h', tk, rfl, k⟩, a⟩ := h
  cases a
  exact ⟨.inl ⟨_, .bool true, [], rfl, law_raises _, .bool true, law_post _, fun _ => ⟨.nil, fun _ h => nomatch h⟩⟩, .of_keep (k.base fun _ _ e => e), rfl, .of_eq hg⟩
theorem law_holds : PySem.Challenge.rw_oy0148_01.Holds := by
  w_on
  o_law
  refine PySem.W.holds_open (q := hd.view) (loose := hd.loose) (Xt := fun s => xlAt hd.view [] s && recOk (RowW.records PySem.Challenge.rw_oy0148_01.row.toRowW) s) (XP := XL hd.view []) (Yf := fun s => hd.as.map s.heap.get?) (Ya := fun w => (hd.heap_39 w.params).map fun p => some p.2) (YP := InK hd.heap_39) (N := 2464) ?hl (InK.of hd.as_ok) InK.keeps (fun s e => xl_of s (Bool.and_eq_true_iff.mp e).1) XL.keeps (by rfl) (by rfl) (by rfl) (fun s e => recFacts_of (Bool.and_eq_true_iff.mp e).2) (by rfl) (by first | assumption | decide +kernel) (by decide +kernel) ⟨rfl, rfl, rfl, rfl, rfl, by decide +kernel⟩ ?hw ?hc
  case hl => exact hd.left
  case hw => w_witness2
  intro w s₀ s₁ mg mb G Y fa o pm cd doc dV kV ho hdd hcd hD hmg hg args vals as hpre hlay hrd hwl hlo
  have KX : (hd.heap_39 w.params).In s₁.heap := Y
  refine Ground.open G ?_
  intro T B D TE TW
  wrow_args hpre hlay hrd hwl hlo
  exact law_good KX T hmg hg (by assumption) (by assumption) (by omega)
end Mine
end

theorem PySem.Challenge.cw_oy0148_01_holds : PySem.Challenge.rw_oy0148_01.Holds :=
  Mine.law_holds
