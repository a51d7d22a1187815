import PyProof.Rows.All
import Wide.All
import OpenK.AllK
import Wide.FinOn
import PySem.Challenge.RW_qh0091_01
set_option Elab.async false
set_option maxRecDepth 100000
set_option maxHeartbeats 8000000
local macro_rules | `(tactic| walk_at $s:str) => `(tactic| k_extra $s)
section
open PySem PySem.W PyProof.Rows
namespace Mine
noncomputable abbrev S (x : String) : Str := Str.ofString x
/-- the def that stands as the i-th statement of the text -/
noncomputable def fnAt (i : Nat) (dV kV pm cd : Value) : Obj := match PySem.Challenge.pw_qh0091_01.main.body[i]? with
  | some (.FunctionDef n ps b _ _ _ sc _ _ _) => { cls := .type "function", data := .func { name := n, qualname := n, params := ps, body := .stmts b, scope := sc, globals := 3, closure := [], defaults := dV, kwdefaults := kV, pyModule := pm, code := cd } }
  | _ => { cls := .none, data := .plain }
noncomputable def tupOf (vs : Array Value) : Obj := { cls := .type "tuple", data := .seq vs }
noncomputable def codeOf (n : Str) (t1 t2 t3 : Tok) (i1 i2 i3 i4 i5 : Int) (r1 : Addr) (i6 : Int) (r2 : Addr) (v1 v2 : Value) (r3 : Addr) (i7 i8 : Int) (t4 : Tok) : Obj :=
  { cls := .type "code", data := .fields #[.str n t1, .str n t2, .str (S "/claim/cut.py") t3, .int i1 0, .int i2 0, .int i3 0, .int i4 0, .int i5 0, .ref r1, .bool true, .int i6 0, .ref r2, .none, v1, v2, .ref r3, .int i7 0, .int i8 0, .str (S "/claim/cut.py") t4] }
noncomputable def ent (P : Params) (k : Str) (t : Tok) (v : Value) : DictEntry := { hash := PyData.keyHash P k, key := .str k t, val := v }
/-- what stands behind the top -/
noncomputable def K0 : Params → Frag := fun P =>
  (nat_lit 2, { cls := .none, data := .dict #[] }) ::
  (nat_lit 3, { cls := .type "dict", data := .dict #[ent P (S "__name__") 165 (.str (S "law_qh0091_01") 384), ent P (S "__doc__") 166 (.none), ent P (S "__package__") 167 (.none), ent P (S "__loader__") 168 (.builtin "__main__.__loader__#opaque"), ent P (S "__spec__") 169 (.none), ent P (S "__annotations__") 170 (.ref 6), ent P (S "__builtins__") 171 (.ref 4), ent P (S "__file__") 173 (.str (S "/claim/cut.py") 172), ent P (S "__cached__") 174 (.none), ent P (S "_wall") 193 (.ref 21), ent P (S "bytes_types") 196 (.ref 22), ent P (S "_bytes_from_decode_data") 203 (.ref 29), ent P (S "Error") 223 (.ref 39), ent P (S "_ascii_buffer") 231 (.ref 49), ent P (S "_buffer") 239 (.ref 56), ent P (S "_truth") 247 (.ref 63), ent P (S "_B64") 249 (.bytes #[65, 66, 67, 68, 69, 70, 71, 72, 73, 74, 75, 76, 77, 78, 79, 80, 81, 82, 83, 84, 85, 86, 87, 88, 89, 90, 97, 98, 99, 100, 101, 102, 103, 104, 105, 106, 107, 108, 109, 110, 111, 112, 113, 114, 115, 116, 117, 118, 119, 120, 121, 122, 48, 49, 50, 51, 52, 53, 54, 55, 56, 57, 43, 47] 248), ent P (S "_b64_value") 256 (.ref 70), ent P (S "a2b_base64") 272 (.ref 78), ent P (S "b2a_base64") 286 (.ref 86), ent P (S "b64encode") 297 (.ref 94), ent P (S "b64decode") 306 (.ref 102), ent P (S "_urlsafe_encode_translation") 311 (.bytes #[0, 1, 2, 3, 4, 5, 6, 7, 8, 9, 10, 11, 12, 13, 14, 15, 16, 17, 18, 19, 20, 21, 22, 23, 24, 25, 26, 27, 28, 29, 30, 31, 32, 33, 34, 35, 36, 37, 38, 39, 40, 41, 42, 45, 44, 45, 46, 95, 48, 49, 50, 51, 52, 53, 54, 55, 56, 57, 58, 59, 60, 61, 62, 63, 64, 65, 66, 67, 68, 69, 70, 71, 72, 73, 74, 75, 76, 77, 78, 79, 80, 81, 82, 83, 84, 85, 86, 87, 88, 89, 90, 91, 92, 93, 94, 95, 96, 97, 98, 99, 100, 101, 102, 103, 104, 105, 106, 107, 108, 109, 110, 111, 112, 113, 114, 115, 116, 117, 118, 119, 120, 121, 122, 123, 124, 125, 126, 127, 128, 129, 130, 131, 132, 133, 134, 135, 136, 137, 138, 139, 140, 141, 142, 143, 144, 145, 146, 147, 148, 149, 150, 151, 152, 153, 154, 155, 156, 157, 158, 159, 160, 161, 162, 163, 164, 165, 166, 167, 168, 169, 170, 171, 172, 173, 174, 175, 176, 177, 178, 179, 180, 181, 182, 183, 184, 185, 186, 187, 188, 189, 190, 191, 192, 193, 194, 195, 196, 197, 198, 199, 200, 201, 202, 203, 204, 205, 206, 207, 208, 209, 210, 211, 212, 213, 214, 215, 216, 217, 218, 219, 220, 221, 222, 223, 224, 225, 226, 227, 228, 229, 230, 231, 232, 233, 234, 235, 236, 237, 238, 239, 240, 241, 242, 243, 244, 245, 246, 247, 248, 249, 250, 251, 252, 253, 254, 255] 310), ent P (S "_urlsafe_decode_translation") 316 (.bytes #[0, 1, 2, 3, 4, 5, 6, 7, 8, 9, 10, 11, 12, 13, 14, 15, 16, 17, 18, 19, 20, 21, 22, 23, 24, 25, 26, 27, 28, 29, 30, 31, 32, 33, 34, 35, 36, 37, 38, 39, 40, 41, 42, 43, 44, 43, 46, 47, 48, 49, 50, 51, 52, 53, 54, 55, 56, 57, 58, 59, 60, 61, 62, 63, 64, 65, 66, 67, 68, 69, 70, 71, 72, 73, 74, 75, 76, 77, 78, 79, 80, 81, 82, 83, 84, 85, 86, 87, 88, 89, 90, 91, 92, 93, 94, 47, 96, 97, 98, 99, 100, 101, 102, 103, 104, 105, 106, 107, 108, 109, 110, 111, 112, 113, 114, 115, 116, 117, 118, 119, 120, 121, 122, 123, 124, 125, 126, 127, 128, 129, 130, 131, 132, 133, 134, 135, 136, 137, 138, 139, 140, 141, 142, 143, 144, 145, 146, 147, 148, 149, 150, 151, 152, 153, 154, 155, 156, 157, 158, 159, 160, 161, 162, 163, 164, 165, 166, 167, 168, 169, 170, 171, 172, 173, 174, 175, 176, 177, 178, 179, 180, 181, 182, 183, 184, 185, 186, 187, 188, 189, 190, 191, 192, 193, 194, 195, 196, 197, 198, 199, 200, 201, 202, 203, 204, 205, 206, 207, 208, 209, 210, 211, 212, 213, 214, 215, 216, 217, 218, 219, 220, 221, 222, 223, 224, 225, 226, 227, 228, 229, 230, 231, 232, 233, 234, 235, 236, 237, 238, 239, 240, 241, 242, 243, 244, 245, 246, 247, 248, 249, 250, 251, 252, 253, 254, 255] 315), ent P (S "urlsafe_b64encode") 323 (.ref 109), ent P (S "urlsafe_b64decode") 330 (.ref 116), ent P (S "_ctoi") 339 (.ref 123), ent P (S "isgraph") 346 (.ref 130), ent P (S "isprint") 353 (.ref 137), ent P (S "isctrl") 360 (.ref 144), ent P (S "ctrl") 367 (.ref 151), ent P (S "alt") 374 (.ref 158), ent P (S "unctrl") 383 (.ref 165), ent P (S "_law_signs") 392 (.ref 172), ent P (S "_law_regrouped") 398 (.ref 177), ent P (S "_law_written") 404 (.ref 182), ent P (S "_law_woven") 410 (.ref 187), ent P (S "law") 416 (.ref 192)] 38 }) ::
  (nat_lit 15, tupOf #[]) ::
  (nat_lit 17, tupOf #[.str (S "k") 190]) ::
  (nat_lit 18, tupOf #[]) ::
  (nat_lit 20, codeOf (S "_wall") 187 188 189 1 1 0 0 3 15 181 16 (.ref 17) (.ref 18) 19 191 1 192) ::
  (nat_lit 21, fnAt 0 (.none) (.none) (.str (S "__main__") 164) (.ref 20)) ::
  (nat_lit 22, tupOf #[.type "bytes", .type "bytearray"]) ::
  (nat_lit 23, tupOf #[]) ::
  (nat_lit 25, tupOf #[.str (S "s") 200]) ::
  (nat_lit 26, tupOf #[]) ::
  (nat_lit 28, codeOf (S "_bytes_from_decode_data") 197 198 199 6 1 0 0 3 23 181 24 (.ref 25) (.ref 26) 27 201 6 202) ::
  (nat_lit 29, fnAt 3 (.none) (.none) (.str (S "cpy313.base64") 194) (.ref 28)) ::
  (nat_lit 30, tupOf #[.type "ValueError"]) ::
  (nat_lit 37, tupOf #[]) ::
  (nat_lit 38, { cls := .type "dict", data := .dict #[ent P (S "__module__") 213 (.str (S "binascii") 204), ent P (S "__firstlineno__") 217 (.int 19 216), ent P (S "__static_attributes__") 218 (.ref 37), ent P (S "__weakref__") 220 (.ref 40), ent P (S "__doc__") 221 (.none)] 3 }) ::
  (nat_lit 39, { cls := .type "type", data := .cls { name := S "Error", bases := [.type "ValueError"], mro := [.ref 39, .type "ValueError", .type "Exception", .type "BaseException", .type "object"], ns := 38, qualname := S "Error" }, slots := #[some (.ref 30), none, some (.str (S "Error") 206), some (.str (S "Error") 214), some (.builtin "ValueError.__new__"), some (.bool true)] }) ::
  (nat_lit 40, { cls := .type "getset_descriptor", data := .fields #[.str (S "__weakref__") 219, .ref 39, .builtin "ExceptionGroup.__weakref__", .none] }) ::
  (nat_lit 43, tupOf #[]) ::
  (nat_lit 45, tupOf #[.str (S "data") 227, .str (S "t") 228]) ::
  (nat_lit 46, tupOf #[]) ::
  (nat_lit 48, codeOf (S "_ascii_buffer") 224 225 226 21 1 0 0 3 43 181 44 (.ref 45) (.ref 46) 47 229 21 230) ::
  (nat_lit 49, fnAt 6 (.none) (.none) (.str (S "binascii") 204) (.ref 48)) ::
  (nat_lit 50, tupOf #[]) ::
  (nat_lit 52, tupOf #[.str (S "data") 235, .str (S "t") 236]) ::
  (nat_lit 53, tupOf #[]) ::
  (nat_lit 55, codeOf (S "_buffer") 232 233 234 32 1 0 0 3 50 181 51 (.ref 52) (.ref 53) 54 237 32 238) ::
  (nat_lit 56, fnAt 7 (.none) (.none) (.str (S "binascii") 204) (.ref 55)) ::
  (nat_lit 57, tupOf #[]) ::
  (nat_lit 59, tupOf #[.str (S "x") 243, .str (S "t") 244]) ::
  (nat_lit 60, tupOf #[]) ::
  (nat_lit 62, codeOf (S "_truth") 240 241 242 39 1 0 0 3 57 181 58 (.ref 59) (.ref 60) 61 245 39 246) ::
  (nat_lit 63, fnAt 8 (.none) (.none) (.str (S "binascii") 204) (.ref 62)) ::
  (nat_lit 64, tupOf #[]) ::
  (nat_lit 66, tupOf #[.str (S "c") 253]) ::
  (nat_lit 67, tupOf #[]) ::
  (nat_lit 69, codeOf (S "_b64_value") 250 251 252 45 1 0 0 3 64 181 65 (.ref 66) (.ref 67) 68 254 45 255) ::
  (nat_lit 70, fnAt 10 (.none) (.none) (.str (S "binascii") 204) (.ref 69)) ::
  (nat_lit 71, { cls := .type "dict", data := .dict #[ent P (S "strict_mode") 257 (.bool false)] 1 }) ::
  (nat_lit 72, tupOf #[]) ::
  (nat_lit 74, tupOf #[.str (S "data") 261, .str (S "strict_mode") 262, .str (S "ascii_data") 263, .str (S "out") 264, .str (S "quad_pos") 265, .str (S "leftchar") 266, .str (S "pads") 267, .str (S "i") 268, .str (S "this_ch") 269]) ::
  (nat_lit 75, tupOf #[]) ::
  (nat_lit 77, codeOf (S "a2b_base64") 258 259 260 57 1 1 1 3 72 181 73 (.ref 74) (.ref 75) 76 270 57 271) ::
  (nat_lit 78, fnAt 11 (.none) (.ref 71) (.str (S "binascii") 204) (.ref 77)) ::
  (nat_lit 79, { cls := .type "dict", data := .dict #[ent P (S "newline") 273 (.bool true)] 1 }) ::
  (nat_lit 80, tupOf #[]) ::
  (nat_lit 82, tupOf #[.str (S "data") 277, .str (S "newline") 278, .str (S "bin_data") 279, .str (S "out") 280, .str (S "leftbits") 281, .str (S "leftchar") 282, .str (S "b") 283]) ::
  (nat_lit 83, tupOf #[]) ::
  (nat_lit 85, codeOf (S "b2a_base64") 274 275 276 111 1 1 1 3 80 181 81 (.ref 82) (.ref 83) 84 284 111 285) ::
  (nat_lit 86, fnAt 12 (.none) (.ref 79) (.str (S "binascii") 204) (.ref 85)) ::
  (nat_lit 87, tupOf #[.none]) ::
  (nat_lit 88, tupOf #[]) ::
  (nat_lit 90, tupOf #[.str (S "s") 292, .str (S "altchars") 293, .str (S "encoded") 294]) ::
  (nat_lit 91, tupOf #[]) ::
  (nat_lit 93, codeOf (S "b64encode") 289 290 291 134 2 0 0 3 88 181 89 (.ref 90) (.ref 91) 92 295 134 296) ::
  (nat_lit 94, fnAt 14 (.ref 87) (.none) (.str (S "cpy313.base64") 287) (.ref 93)) ::
  (nat_lit 95, tupOf #[.none, .bool false]) ::
  (nat_lit 96, tupOf #[]) ::
  (nat_lit 98, tupOf #[.str (S "s") 301, .str (S "altchars") 302, .str (S "validate") 303]) ::
  (nat_lit 99, tupOf #[]) ::
  (nat_lit 101, codeOf (S "b64decode") 298 299 300 140 3 0 0 3 96 181 97 (.ref 98) (.ref 99) 100 304 140 305) ::
  (nat_lit 102, fnAt 15 (.ref 95) (.none) (.str (S "cpy313.base64") 287) (.ref 101)) ::
  (nat_lit 103, tupOf #[]) ::
  (nat_lit 105, tupOf #[.str (S "s") 320]) ::
  (nat_lit 106, tupOf #[]) ::
  (nat_lit 108, codeOf (S "urlsafe_b64encode") 317 318 319 149 1 0 0 3 103 181 104 (.ref 105) (.ref 106) 107 321 149 322) ::
  (nat_lit 109, fnAt 18 (.none) (.none) (.str (S "cpy313.base64") 287) (.ref 108)) ::
  (nat_lit 110, tupOf #[]) ::
  (nat_lit 112, tupOf #[.str (S "s") 327]) ::
  (nat_lit 113, tupOf #[]) ::
  (nat_lit 115, codeOf (S "urlsafe_b64decode") 324 325 326 151 1 0 0 3 110 181 111 (.ref 112) (.ref 113) 114 328 151 329) ::
  (nat_lit 116, fnAt 19 (.none) (.none) (.str (S "cpy313.base64") 287) (.ref 115)) ::
  (nat_lit 117, tupOf #[]) ::
  (nat_lit 119, tupOf #[.str (S "c") 336]) ::
  (nat_lit 120, tupOf #[]) ::
  (nat_lit 122, codeOf (S "_ctoi") 333 334 335 156 1 0 0 3 117 181 118 (.ref 119) (.ref 120) 121 337 156 338) ::
  (nat_lit 123, fnAt 21 (.none) (.none) (.str (S "cpy313.curses.ascii") 331) (.ref 122)) ::
  (nat_lit 124, tupOf #[]) ::
  (nat_lit 126, tupOf #[.str (S "c") 343]) ::
  (nat_lit 127, tupOf #[]) ::
  (nat_lit 129, codeOf (S "isgraph") 340 341 342 161 1 0 0 3 124 181 125 (.ref 126) (.ref 127) 128 344 161 345) ::
  (nat_lit 130, fnAt 22 (.none) (.none) (.str (S "cpy313.curses.ascii") 331) (.ref 129)) ::
  (nat_lit 131, tupOf #[]) ::
  (nat_lit 133, tupOf #[.str (S "c") 350]) ::
  (nat_lit 134, tupOf #[]) ::
  (nat_lit 136, codeOf (S "isprint") 347 348 349 163 1 0 0 3 131 181 132 (.ref 133) (.ref 134) 135 351 163 352) ::
  (nat_lit 137, fnAt 23 (.none) (.none) (.str (S "cpy313.curses.ascii") 331) (.ref 136)) ::
  (nat_lit 138, tupOf #[]) ::
  (nat_lit 140, tupOf #[.str (S "c") 357]) ::
  (nat_lit 141, tupOf #[]) ::
  (nat_lit 143, codeOf (S "isctrl") 354 355 356 165 1 0 0 3 138 181 139 (.ref 140) (.ref 141) 142 358 165 359) ::
  (nat_lit 144, fnAt 24 (.none) (.none) (.str (S "cpy313.curses.ascii") 331) (.ref 143)) ::
  (nat_lit 145, tupOf #[]) ::
  (nat_lit 147, tupOf #[.str (S "c") 364]) ::
  (nat_lit 148, tupOf #[]) ::
  (nat_lit 150, codeOf (S "ctrl") 361 362 363 167 1 0 0 3 145 181 146 (.ref 147) (.ref 148) 149 365 167 366) ::
  (nat_lit 151, fnAt 25 (.none) (.none) (.str (S "cpy313.curses.ascii") 331) (.ref 150)) ::
  (nat_lit 152, tupOf #[]) ::
  (nat_lit 154, tupOf #[.str (S "c") 371]) ::
  (nat_lit 155, tupOf #[]) ::
  (nat_lit 157, codeOf (S "alt") 368 369 370 172 1 0 0 3 152 181 153 (.ref 154) (.ref 155) 156 372 172 373) ::
  (nat_lit 158, fnAt 26 (.none) (.none) (.str (S "cpy313.curses.ascii") 331) (.ref 157)) ::
  (nat_lit 159, tupOf #[]) ::
  (nat_lit 161, tupOf #[.str (S "c") 378, .str (S "bits") 379, .str (S "rep") 380]) ::
  (nat_lit 162, tupOf #[]) ::
  (nat_lit 164, codeOf (S "unctrl") 375 376 377 177 1 0 0 3 159 181 160 (.ref 161) (.ref 162) 163 381 177 382) ::
  (nat_lit 165, fnAt 27 (.none) (.none) (.str (S "cpy313.curses.ascii") 331) (.ref 164)) ::
  (nat_lit 166, tupOf #[]) ::
  (nat_lit 168, tupOf #[.str (S "last") 389]) ::
  (nat_lit 169, tupOf #[]) ::
  (nat_lit 171, codeOf (S "_law_signs") 386 387 388 189 1 0 0 3 166 181 167 (.ref 168) (.ref 169) 170 390 189 391) ::
  (nat_lit 172, fnAt 29 (.none) (.none) (.str (S "law_qh0091_01") 384) (.ref 171)) ::
  (nat_lit 173, tupOf #[]) ::
  (nat_lit 176, codeOf (S "_law_regrouped") 393 394 395 191 4 0 0 3 173 181 174 (.none) (.none) 175 396 191 397) ::
  (nat_lit 177, fnAt 30 (.none) (.none) (.str (S "law_qh0091_01") 384) (.ref 176)) ::
  (nat_lit 178, tupOf #[]) ::
  (nat_lit 181, codeOf (S "_law_written") 399 400 401 198 2 0 0 3 178 181 179 (.none) (.none) 180 402 198 403) ::
  (nat_lit 182, fnAt 31 (.none) (.none) (.str (S "law_qh0091_01") 384) (.ref 181)) ::
  (nat_lit 183, tupOf #[]) ::
  (nat_lit 186, codeOf (S "_law_woven") 405 406 407 202 2 0 0 3 183 181 184 (.none) (.none) 185 408 202 409) ::
  (nat_lit 187, fnAt 32 (.none) (.none) (.str (S "law_qh0091_01") 384) (.ref 186)) ::
  (nat_lit 188, tupOf #[]) ::
  (nat_lit 191, codeOf (S "law") 411 412 413 209 1 0 0 3 188 181 189 (.none) (.none) 190 414 209 415) ::
  (nat_lit 192, fnAt 33 (.none) (.none) (.str (S "law_qh0091_01") 384) (.ref 191)) :: []
noncomputable def q0 : Program := view PySem.Challenge.pw_qh0091_01 [0, 2, 3, 5, 6, 7, 8, 9, 10, 16, 17, 18, 19, 21, 22, 23, 24, 25, 26, 27, 29, 30, 31, 32, 33]
noncomputable def lo0 : List Str := [S "bytes_types", S "a2b_base64", S "b2a_base64", S "b64encode", S "b64decode", S "_urlsafe_encode_translation", S "_urlsafe_decode_translation"]
noncomputable def a0 : List Nat := [2, 3, 15, 17, 18, 20, 21, 22, 23, 25, 26, 28, 29, 30, 37, 38, 39, 40, 43, 45, 46, 48, 49, 50, 52, 53, 55, 56, 57, 59, 60, 62, 63, 64, 66, 67, 69, 70, 71, 72, 74, 75, 77, 78, 79, 80, 82, 83, 85, 86, 87, 88, 90, 91, 93, 94, 95, 96, 98, 99, 101, 102, 103, 105, 106, 108, 109, 110, 112, 113, 115, 116, 117, 119, 120, 122, 123, 124, 126, 127, 129, 130, 131, 133, 134, 136, 137, 138, 140, 141, 143, 144, 145, 147, 148, 150, 151, 152, 154, 155, 157, 158, 159, 161, 162, 164, 165, 166, 168, 169, 171, 172, 173, 176, 177, 178, 181, 182, 183, 186, 187, 188, 191, 192]
noncomputable def lv0 : List (Str × WData) := [(S "_urlsafe_encode_translation", .bytes [0, 1, 2, 3, 4, 5, 6, 7, 8, 9, 10, 11, 12, 13, 14, 15, 16, 17, 18, 19, 20, 21, 22, 23, 24, 25, 26, 27, 28, 29, 30, 31, 32, 33, 34, 35, 36, 37, 38, 39, 40, 41, 42, 45, 44, 45, 46, 95, 48, 49, 50, 51, 52, 53, 54, 55, 56, 57, 58, 59, 60, 61, 62, 63, 64, 65, 66, 67, 68, 69, 70, 71, 72, 73, 74, 75, 76, 77, 78, 79, 80, 81, 82, 83, 84, 85, 86, 87, 88, 89, 90, 91, 92, 93, 94, 95, 96, 97, 98, 99, 100, 101, 102, 103, 104, 105, 106, 107, 108, 109, 110, 111, 112, 113, 114, 115, 116, 117, 118, 119, 120, 121, 122, 123, 124, 125, 126, 127, 128, 129, 130, 131, 132, 133, 134, 135, 136, 137, 138, 139, 140, 141, 142, 143, 144, 145, 146, 147, 148, 149, 150, 151, 152, 153, 154, 155, 156, 157, 158, 159, 160, 161, 162, 163, 164, 165, 166, 167, 168, 169, 170, 171, 172, 173, 174, 175, 176, 177, 178, 179, 180, 181, 182, 183, 184, 185, 186, 187, 188, 189, 190, 191, 192, 193, 194, 195, 196, 197, 198, 199, 200, 201, 202, 203, 204, 205, 206, 207, 208, 209, 210, 211, 212, 213, 214, 215, 216, 217, 218, 219, 220, 221, 222, 223, 224, 225, 226, 227, 228, 229, 230, 231, 232, 233, 234, 235, 236, 237, 238, 239, 240, 241, 242, 243, 244, 245, 246, 247, 248, 249, 250, 251, 252, 253, 254, 255]), (S "_urlsafe_decode_translation", .bytes [0, 1, 2, 3, 4, 5, 6, 7, 8, 9, 10, 11, 12, 13, 14, 15, 16, 17, 18, 19, 20, 21, 22, 23, 24, 25, 26, 27, 28, 29, 30, 31, 32, 33, 34, 35, 36, 37, 38, 39, 40, 41, 42, 43, 44, 43, 46, 47, 48, 49, 50, 51, 52, 53, 54, 55, 56, 57, 58, 59, 60, 61, 62, 63, 64, 65, 66, 67, 68, 69, 70, 71, 72, 73, 74, 75, 76, 77, 78, 79, 80, 81, 82, 83, 84, 85, 86, 87, 88, 89, 90, 91, 92, 93, 94, 47, 96, 97, 98, 99, 100, 101, 102, 103, 104, 105, 106, 107, 108, 109, 110, 111, 112, 113, 114, 115, 116, 117, 118, 119, 120, 121, 122, 123, 124, 125, 126, 127, 128, 129, 130, 131, 132, 133, 134, 135, 136, 137, 138, 139, 140, 141, 142, 143, 144, 145, 146, 147, 148, 149, 150, 151, 152, 153, 154, 155, 156, 157, 158, 159, 160, 161, 162, 163, 164, 165, 166, 167, 168, 169, 170, 171, 172, 173, 174, 175, 176, 177, 178, 179, 180, 181, 182, 183, 184, 185, 186, 187, 188, 189, 190, 191, 192, 193, 194, 195, 196, 197, 198, 199, 200, 201, 202, 203, 204, 205, 206, 207, 208, 209, 210, 211, 212, 213, 214, 215, 216, 217, 218, 219, 220, 221, 222, 223, 224, 225, 226, 227, 228, 229, 230, 231, 232, 233, 234, 235, 236, 237, 238, 239, 240, 241, 242, 243, 244, 245, 246, 247, 248, 249, 250, 251, 252, 253, 254, 255])]
noncomputable abbrev H0 : Hook := kHook K0 a0 (fun _ => by kernel_rfl)
noncomputable def d0 : DefRec := match (PySem.Challenge.pw_qh0091_01.main.body[33]? : Option PySem.Stmt) with
  | some (PySem.Stmt.FunctionDef n ps b _ _ _ sc _ _ pos) => { name := n, params := ps, body := b, scope := sc, pos := pos }
  | _ => { name := S "", params := { posonlyargs := [], args := [], vararg := none, kwonlyargs := [], kw_defaults := [], kwarg := none, defaults := [] }, body := [], scope := { kind := .function, names := [], isGenerator := false, isCoroutine := false }, pos := default }
noncomputable abbrev R0 := PySem.Challenge.rw_qh0091_01.row.toRowW
theorem hw1 : PySem.Challenge.rw_qh0091_01.wellSaid = true := by
  delta OpenLaw.wellSaid
  repeat' first | with_reducible refine look_both ?_ ?_ | delta OpenRow.wellSaid | delta OpenRow.partSaid | delta looksOpen
  all_goals decide +kernel
theorem hw2 : defOf q0 PySem.Challenge.rw_qh0091_01.row.name = some (d0, []) := by kernel_rfl
theorem hw3 : PySem.Challenge.rw_qh0091_01.row.prog.theDef PySem.Challenge.rw_qh0091_01.row.name = some (d0.params, d0.body, d0.scope) := by kernel_rfl
theorem hw4 : kwWritten? d0.params.kwonlyargs d0.params.kw_defaults = some [] := by kernel_rfl
theorem hw5 : (chainsOk q0 && opensWell PySem.Challenge.rw_qh0091_01.row.prog && (frees R0 && PySem.Challenge.rw_qh0091_01.row.within.isEmpty)) = true := by decide +kernel
/-- a row of statements ahead of the rest -/
theorem segOn {tb : String → Option Builtin} {p : Program} {w : World} {m : Nat} {ann : Option Value} {env : Env} {b : List Stmt} {q q1 q2 : Pos} {n N i : Nat} {s0 s1 : Shared} {c : Code} {β : Type} {f : Shared → β} {v : β}
    (h : segRun tb p w m ann 1 n s0 (piecesOf (b.take i) env c q1 [topFrame q]) = some (.next, s1, c, q2))
    (k : (topRun tb p w m ann N s1 (restOf (b.drop i) env c q2 [topFrame q])).map f = some v) :
    (topRun tb p w m ann (n + N) s0 (restOf b env c q1 [topFrame q])).map f = some v := by
  obtain ⟨r, hr, hv⟩ := Option.map_eq_some_iff.mp k
  have k3 := piece_app h hr
  rw [List.take_append_drop] at k3
  rw [k3]
  exact congrArg some hv
/-- the run of the top in pieces: from the stub to the block, the block's start, a row of statements, the rest -/
theorem topOf {tb : String → Option Builtin} {p : Program} {w : World} {m : Nat} {ann : Option Value} {env : Env} {b : List Stmt} {q q1 q2 q3 : Pos} {n0 n1 n2 N i : Nat} {s0 s1 : Shared} {c : Code} {β : Type} {f : Shared → β} {v : β}
    (h0 : (topGo tb p w m ann n0 s0 (topStub p)).map (·.2) = some ⟨denote tb (.body b env), c, q1, [topFrame q]⟩)
    (h1 : ((topGo tb p w m ann n0 s0 (topStub p)).bind fun x => segRun tb p w m ann 1 n1 x.1 (blockOf b env c q1 [topFrame q])).map (fun y => (y.1, y.2.2)) = some (.next, c, q2))
    (h2 : (((topGo tb p w m ann n0 s0 (topStub p)).bind fun x => segRun tb p w m ann 1 n1 x.1 (blockOf b env c q1 [topFrame q])).bind fun y => segRun tb p w m ann 1 n2 y.2.1 (piecesOf (b.take i) env c q2 [topFrame q])) = some (.next, s1, c, q3))
    (h4 : (topRun tb p w m ann N s1 (restOf (b.drop i) env c q3 [topFrame q])).map f = some v) :
    (topRun tb p w m ann (n0 + (n1 + (n2 + N))) s0 (topStub p)).map f = some v := by
  obtain ⟨y, hy, gy⟩ := Option.map_eq_some_iff.mp h1
  rw [hy] at h2
  obtain ⟨⟨xs, xt⟩, hx, fx⟩ := Option.bind_eq_some_iff.mp hy
  rw [hx] at h0
  obtain ⟨y1, y2, y3, y4⟩ := y
  simp only [Prod.mk.injEq] at gy
  obtain ⟨rfl, rfl, rfl⟩ := gy
  simp only [Option.map_some, Option.some.injEq] at h0
  subst h0
  obtain ⟨r, hr, hv⟩ := Option.map_eq_some_iff.mp (segOn (s0 := y2) h2 h4)
  rw [go_top hx (piece_block fx hr)]
  exact congrArg some hv
theorem leftOf {p q : Program} {loose : List Str} {Xt : Shared → Bool} {α : Type} {Yf : Shared → α} {Ya : World → α} {N M m : Nat} {H₀ : Params → Heap} {gs : Array GenState} {d : Drawn} {k : Nat} {ann : Option Value}
    (op : ∀ w : World, (fencedOpening treeTable p w N).map (fun s => (s.heap, s.gens, s.drawn, s.toks)) = some (H₀ w.params, gs, d, k))
    (sz : ∀ w : World, ((H₀ w.params).isNs mainGlobals && gs.size == 0, (H₀ w.params).objs.size, (H₀ w.params).nsMap mainGlobals "__annotations__") = (true, m, ann))
    (rn : ∀ (w : World) (os : OsState), (topRun treeTable p w m ann M ⟨H₀ w.params, gs, d, k, os⟩ (topStub p)).map (fun s =>
      ((staticsOk (importedModules p.main.body) (H₀ w.params) s.heap && namesBound p s.heap && gensDone s && laidKept (H₀ w.params) s.heap), openSeen q loose (importedModules p.main.body) Xt true s, Yf s)) = some (true, openGood q loose, Ya w))
    (le : M ≤ N) : LeftO p q loose Xt Yf Ya N := by
  intro w
  obtain ⟨⟨h, gs', d', k', os⟩, e, e'⟩ := Option.map_eq_some_iff.mp (op w)
  simp only [Prod.mk.injEq] at e'
  obtain ⟨rfl, rfl, rfl, rfl⟩ := e'
  have z := sz w
  simp only [Prod.mk.injEq] at z
  obtain ⟨z1, z2, z3⟩ := z
  obtain ⟨r, hr, hl⟩ := Option.map_eq_some_iff.mp (rn w os)
  simp only [Prod.mk.injEq] at hl
  obtain ⟨l1, l2, l3⟩ := hl
  have hm := topRun_mono (N - M) _ _ _ _ hr
  rw [Nat.add_sub_cancel' le] at hm
  have ht : topFrom treeTable p w N ⟨H₀ w.params, gs', d', k', os⟩ = some r := by
    simp only [topFrom, z1, z2, z3, hm, Option.bind_some, l1]
  simp only [openEnds, e, Option.bind_some, ht, Option.map_some, l2, l3]
/-- the bare function that a code object holds -/
noncomputable def fnBare (i : Nat) : Obj := match PySem.Challenge.pw_qh0091_01.main.body[i]? with
  | some (.FunctionDef n ps b _ _ _ sc _ _ _) => { cls := .none, data := .func { name := n, qualname := n, params := ps, body := .stmts b, scope := sc, globals := 0, closure := [], defaults := .none, kwdefaults := .none } }
  | _ => { cls := .none, data := .plain }
noncomputable def og5 (P : Params) : List Obj :=
  (tupOf #[]) ::
  (({ cls := .none, data := .fields #[] } : Obj)) ::
  (tupOf #[.str (S "k") 190]) ::
  (tupOf #[]) ::
  (fnBare 0) ::
  (codeOf (S "_wall") 187 188 189 1 1 0 0 3 15 181 16 (.ref 17) (.ref 18) 19 191 1 192) ::
  (fnAt 0 (.none) (.none) (.str (S "__main__") 164) (.ref 20)) ::
  (tupOf #[.type "bytes", .type "bytearray"]) ::
  (tupOf #[]) ::
  (({ cls := .none, data := .fields #[] } : Obj)) ::
  (tupOf #[.str (S "s") 200]) ::
  (tupOf #[]) ::
  (fnBare 3) ::
  (codeOf (S "_bytes_from_decode_data") 197 198 199 6 1 0 0 3 23 181 24 (.ref 25) (.ref 26) 27 201 6 202) ::
  (fnAt 3 (.none) (.none) (.str (S "cpy313.base64") 194) (.ref 28)) ::
  (tupOf #[.type "ValueError"]) ::
  (({ cls := .type "builtin_function_or_method", data := .fields #[.builtin "type.__prepare__", .type "type"] } : Obj)) ::
  (({ cls := .type "dict", data := .dict #[ent P (S "__module__") 213 (.str (S "binascii") 204), ent P (S "__qualname__") 215 (.str (S "Error") 214), ent P (S "__firstlineno__") 217 (.int 19 216), ent P (S "__static_attributes__") 218 (.ref 37)] 4 } : Obj)) ::
  (tupOf #[]) ::
  (({ cls := .none, data := .fields #[] } : Obj)) ::
  (({ cls := .type "code", data := .fields #[.str (S "Error") 208, .str (S "Error") 209, .str (S "/claim/cut.py") 210, .int 19 0, .int 0 0, .int 0 0, .int 0 0, .int 0 0, .ref 33, .bool false, .int 181 0, .ref 34, .none, .none, .none, .none, .int 211 0, .int 19 0, .str (S "/claim/cut.py") 212] } : Obj)) ::
  (({ cls := .type "frame", slots := #[some (.ref 35), some (.ref 3), some (.ref 32), none, some (.str (S "binascii") 204), none, some (.ref 0)] } : Obj)) ::
  (tupOf #[]) ::
  (({ cls := .type "dict", data := .dict #[ent P (S "__module__") 213 (.str (S "binascii") 204), ent P (S "__firstlineno__") 217 (.int 19 216), ent P (S "__static_attributes__") 218 (.ref 37), ent P (S "__weakref__") 220 (.ref 40), ent P (S "__doc__") 221 (.none)] 3 } : Obj)) ::
  (({ cls := .type "type", data := .cls { name := S "Error", bases := [.type "ValueError"], mro := [.ref 39, .type "ValueError", .type "Exception", .type "BaseException", .type "object"], ns := 38, qualname := S "Error" }, slots := #[some (.ref 30), none, some (.str (S "Error") 206), some (.str (S "Error") 214), some (.builtin "ValueError.__new__"), some (.bool true)] } : Obj)) ::
  (({ cls := .type "getset_descriptor", data := .fields #[.str (S "__weakref__") 219, .ref 39, .builtin "ExceptionGroup.__weakref__", .none] } : Obj)) ::
  (({ cls := .type "super", data := .fields #[.ref 39, .ref 39, .ref 39] } : Obj)) ::
  (({ cls := .type "builtin_function_or_method", data := .fields #[.builtin "object.__init_subclass__", .ref 39] } : Obj)) :: []
noncomputable def og17 (P : Params) : List Obj :=
  (tupOf #[]) ::
  (({ cls := .none, data := .fields #[] } : Obj)) ::
  (tupOf #[.str (S "data") 227, .str (S "t") 228]) ::
  (tupOf #[]) ::
  (fnBare 6) ::
  (codeOf (S "_ascii_buffer") 224 225 226 21 1 0 0 3 43 181 44 (.ref 45) (.ref 46) 47 229 21 230) ::
  (fnAt 6 (.none) (.none) (.str (S "binascii") 204) (.ref 48)) ::
  (tupOf #[]) ::
  (({ cls := .none, data := .fields #[] } : Obj)) ::
  (tupOf #[.str (S "data") 235, .str (S "t") 236]) ::
  (tupOf #[]) ::
  (fnBare 7) ::
  (codeOf (S "_buffer") 232 233 234 32 1 0 0 3 50 181 51 (.ref 52) (.ref 53) 54 237 32 238) ::
  (fnAt 7 (.none) (.none) (.str (S "binascii") 204) (.ref 55)) ::
  (tupOf #[]) ::
  (({ cls := .none, data := .fields #[] } : Obj)) ::
  (tupOf #[.str (S "x") 243, .str (S "t") 244]) ::
  (tupOf #[]) ::
  (fnBare 8) ::
  (codeOf (S "_truth") 240 241 242 39 1 0 0 3 57 181 58 (.ref 59) (.ref 60) 61 245 39 246) ::
  (fnAt 8 (.none) (.none) (.str (S "binascii") 204) (.ref 62)) ::
  (tupOf #[]) ::
  (({ cls := .none, data := .fields #[] } : Obj)) ::
  (tupOf #[.str (S "c") 253]) ::
  (tupOf #[]) ::
  (fnBare 10) ::
  (codeOf (S "_b64_value") 250 251 252 45 1 0 0 3 64 181 65 (.ref 66) (.ref 67) 68 254 45 255) ::
  (fnAt 10 (.none) (.none) (.str (S "binascii") 204) (.ref 69)) ::
  (({ cls := .type "dict", data := .dict #[ent P (S "strict_mode") 257 (.bool false)] 1 } : Obj)) ::
  (tupOf #[]) ::
  (({ cls := .none, data := .fields #[] } : Obj)) ::
  (tupOf #[.str (S "data") 261, .str (S "strict_mode") 262, .str (S "ascii_data") 263, .str (S "out") 264, .str (S "quad_pos") 265, .str (S "leftchar") 266, .str (S "pads") 267, .str (S "i") 268, .str (S "this_ch") 269]) ::
  (tupOf #[]) ::
  (fnBare 11) ::
  (codeOf (S "a2b_base64") 258 259 260 57 1 1 1 3 72 181 73 (.ref 74) (.ref 75) 76 270 57 271) ::
  (fnAt 11 (.none) (.ref 71) (.str (S "binascii") 204) (.ref 77)) ::
  (({ cls := .type "dict", data := .dict #[ent P (S "newline") 273 (.bool true)] 1 } : Obj)) ::
  (tupOf #[]) ::
  (({ cls := .none, data := .fields #[] } : Obj)) ::
  (tupOf #[.str (S "data") 277, .str (S "newline") 278, .str (S "bin_data") 279, .str (S "out") 280, .str (S "leftbits") 281, .str (S "leftchar") 282, .str (S "b") 283]) ::
  (tupOf #[]) ::
  (fnBare 12) ::
  (codeOf (S "b2a_base64") 274 275 276 111 1 1 1 3 80 181 81 (.ref 82) (.ref 83) 84 284 111 285) ::
  (fnAt 12 (.none) (.ref 79) (.str (S "binascii") 204) (.ref 85)) ::
  (tupOf #[.none]) ::
  (tupOf #[]) ::
  (({ cls := .none, data := .fields #[] } : Obj)) ::
  (tupOf #[.str (S "s") 292, .str (S "altchars") 293, .str (S "encoded") 294]) ::
  (tupOf #[]) ::
  (fnBare 14) ::
  (codeOf (S "b64encode") 289 290 291 134 2 0 0 3 88 181 89 (.ref 90) (.ref 91) 92 295 134 296) ::
  (fnAt 14 (.ref 87) (.none) (.str (S "cpy313.base64") 287) (.ref 93)) ::
  (tupOf #[.none, .bool false]) ::
  (tupOf #[]) ::
  (({ cls := .none, data := .fields #[] } : Obj)) ::
  (tupOf #[.str (S "s") 301, .str (S "altchars") 302, .str (S "validate") 303]) ::
  (tupOf #[]) ::
  (fnBare 15) ::
  (codeOf (S "b64decode") 298 299 300 140 3 0 0 3 96 181 97 (.ref 98) (.ref 99) 100 304 140 305) ::
  (fnAt 15 (.ref 95) (.none) (.str (S "cpy313.base64") 287) (.ref 101)) :: []
noncomputable def ob5 (P : Params) : List Obj :=
  (boot_o_0 P) ::
  (boot_o_1 P) ::
  (boot_o_2 P) ::
  (({ cls := .type "dict", data := .dict #[ent P (S "__name__") 165 (.str (S "binascii") 204), ent P (S "__doc__") 166 (.none), ent P (S "__package__") 167 (.none), ent P (S "__loader__") 168 (.builtin "__main__.__loader__#opaque"), ent P (S "__spec__") 169 (.none), ent P (S "__annotations__") 170 (.ref 6), ent P (S "__builtins__") 171 (.ref 4), ent P (S "__file__") 173 (.str (S "/claim/cut.py") 172), ent P (S "__cached__") 174 (.none), ent P (S "_wall") 193 (.ref 21), ent P (S "bytes_types") 196 (.ref 22), ent P (S "_bytes_from_decode_data") 203 (.ref 29), ent P (S "Error") 223 (.ref 39)] 13 } : Obj)) ::
  (boot_o_4 P) ::
  (boot_o_5 P) ::
  (boot_o_6 P) ::
  (boot_o_7 P) ::
  (boot_o_8 P) ::
  (boot_o_9 P) ::
  (boot_o_10 P) ::
  (tupOf #[]) ::
  (({ cls := .none, data := .fields #[.int 1 0, .int 0 0, .ref 20, .int 6 0, .int 0 0, .ref 28, .int 19 0, .int 0 0, .ref 35] } : Obj)) ::
  (({ cls := .type "code", data := .fields #[.str (S "<module>") 182, .str (S "<module>") 183, .str (S "/claim/cut.py") 184, .int 1 0, .int 0 0, .int 0 0, .int 0 0, .int 0 0, .ref 11, .bool false, .int 181 0, .ref 12, .none, .none, .none, .none, .int 185 0, .int 1 0, .str (S "/claim/cut.py") 186] } : Obj)) ::
  (({ cls := .type "frame", slots := #[some (.ref 13), some (.ref 3), some (.ref 3), none, some (.str (S "__main__") 164), none, some (.ref 0)] } : Obj)) :: (og5 P)
noncomputable abbrev sh5 (w : World) (os : OsState) : Shared := ⟨{ objs := Array.mk (ob5 w.params) }, Array.mk [], {}, 224, os⟩
noncomputable abbrev z5 : Pos := { line := 19, col := 0, endLine := 20, endCol := 8 }
noncomputable def ob17 (P : Params) : List Obj :=
  (boot_o_0 P) ::
  (boot_o_1 P) ::
  (boot_o_2 P) ::
  (({ cls := .type "dict", data := .dict #[ent P (S "__name__") 165 (.str (S "cpy313.base64") 287), ent P (S "__doc__") 166 (.none), ent P (S "__package__") 167 (.none), ent P (S "__loader__") 168 (.builtin "__main__.__loader__#opaque"), ent P (S "__spec__") 169 (.none), ent P (S "__annotations__") 170 (.ref 6), ent P (S "__builtins__") 171 (.ref 4), ent P (S "__file__") 173 (.str (S "/claim/cut.py") 172), ent P (S "__cached__") 174 (.none), ent P (S "_wall") 193 (.ref 21), ent P (S "bytes_types") 196 (.ref 22), ent P (S "_bytes_from_decode_data") 203 (.ref 29), ent P (S "Error") 223 (.ref 39), ent P (S "_ascii_buffer") 231 (.ref 49), ent P (S "_buffer") 239 (.ref 56), ent P (S "_truth") 247 (.ref 63), ent P (S "_B64") 249 (.bytes #[65, 66, 67, 68, 69, 70, 71, 72, 73, 74, 75, 76, 77, 78, 79, 80, 81, 82, 83, 84, 85, 86, 87, 88, 89, 90, 97, 98, 99, 100, 101, 102, 103, 104, 105, 106, 107, 108, 109, 110, 111, 112, 113, 114, 115, 116, 117, 118, 119, 120, 121, 122, 48, 49, 50, 51, 52, 53, 54, 55, 56, 57, 43, 47] 248), ent P (S "_b64_value") 256 (.ref 70), ent P (S "a2b_base64") 272 (.ref 78), ent P (S "b2a_base64") 286 (.ref 86), ent P (S "b64encode") 297 (.ref 94), ent P (S "b64decode") 306 (.ref 102), ent P (S "_urlsafe_encode_translation") 311 (.bytes #[0, 1, 2, 3, 4, 5, 6, 7, 8, 9, 10, 11, 12, 13, 14, 15, 16, 17, 18, 19, 20, 21, 22, 23, 24, 25, 26, 27, 28, 29, 30, 31, 32, 33, 34, 35, 36, 37, 38, 39, 40, 41, 42, 45, 44, 45, 46, 95, 48, 49, 50, 51, 52, 53, 54, 55, 56, 57, 58, 59, 60, 61, 62, 63, 64, 65, 66, 67, 68, 69, 70, 71, 72, 73, 74, 75, 76, 77, 78, 79, 80, 81, 82, 83, 84, 85, 86, 87, 88, 89, 90, 91, 92, 93, 94, 95, 96, 97, 98, 99, 100, 101, 102, 103, 104, 105, 106, 107, 108, 109, 110, 111, 112, 113, 114, 115, 116, 117, 118, 119, 120, 121, 122, 123, 124, 125, 126, 127, 128, 129, 130, 131, 132, 133, 134, 135, 136, 137, 138, 139, 140, 141, 142, 143, 144, 145, 146, 147, 148, 149, 150, 151, 152, 153, 154, 155, 156, 157, 158, 159, 160, 161, 162, 163, 164, 165, 166, 167, 168, 169, 170, 171, 172, 173, 174, 175, 176, 177, 178, 179, 180, 181, 182, 183, 184, 185, 186, 187, 188, 189, 190, 191, 192, 193, 194, 195, 196, 197, 198, 199, 200, 201, 202, 203, 204, 205, 206, 207, 208, 209, 210, 211, 212, 213, 214, 215, 216, 217, 218, 219, 220, 221, 222, 223, 224, 225, 226, 227, 228, 229, 230, 231, 232, 233, 234, 235, 236, 237, 238, 239, 240, 241, 242, 243, 244, 245, 246, 247, 248, 249, 250, 251, 252, 253, 254, 255] 310), ent P (S "_urlsafe_decode_translation") 316 (.bytes #[0, 1, 2, 3, 4, 5, 6, 7, 8, 9, 10, 11, 12, 13, 14, 15, 16, 17, 18, 19, 20, 21, 22, 23, 24, 25, 26, 27, 28, 29, 30, 31, 32, 33, 34, 35, 36, 37, 38, 39, 40, 41, 42, 43, 44, 43, 46, 47, 48, 49, 50, 51, 52, 53, 54, 55, 56, 57, 58, 59, 60, 61, 62, 63, 64, 65, 66, 67, 68, 69, 70, 71, 72, 73, 74, 75, 76, 77, 78, 79, 80, 81, 82, 83, 84, 85, 86, 87, 88, 89, 90, 91, 92, 93, 94, 47, 96, 97, 98, 99, 100, 101, 102, 103, 104, 105, 106, 107, 108, 109, 110, 111, 112, 113, 114, 115, 116, 117, 118, 119, 120, 121, 122, 123, 124, 125, 126, 127, 128, 129, 130, 131, 132, 133, 134, 135, 136, 137, 138, 139, 140, 141, 142, 143, 144, 145, 146, 147, 148, 149, 150, 151, 152, 153, 154, 155, 156, 157, 158, 159, 160, 161, 162, 163, 164, 165, 166, 167, 168, 169, 170, 171, 172, 173, 174, 175, 176, 177, 178, 179, 180, 181, 182, 183, 184, 185, 186, 187, 188, 189, 190, 191, 192, 193, 194, 195, 196, 197, 198, 199, 200, 201, 202, 203, 204, 205, 206, 207, 208, 209, 210, 211, 212, 213, 214, 215, 216, 217, 218, 219, 220, 221, 222, 223, 224, 225, 226, 227, 228, 229, 230, 231, 232, 233, 234, 235, 236, 237, 238, 239, 240, 241, 242, 243, 244, 245, 246, 247, 248, 249, 250, 251, 252, 253, 254, 255] 315)] 24 } : Obj)) ::
  (boot_o_4 P) ::
  (boot_o_5 P) ::
  (boot_o_6 P) ::
  (boot_o_7 P) ::
  (boot_o_8 P) ::
  (boot_o_9 P) ::
  (boot_o_10 P) ::
  (tupOf #[]) ::
  (({ cls := .none, data := .fields #[.int 1 0, .int 0 0, .ref 20, .int 6 0, .int 0 0, .ref 28, .int 19 0, .int 0 0, .ref 35, .int 21 0, .int 0 0, .ref 48, .int 32 0, .int 0 0, .ref 55, .int 39 0, .int 0 0, .ref 62, .int 45 0, .int 0 0, .ref 69, .int 57 0, .int 0 0, .ref 77, .int 111 0, .int 0 0, .ref 85, .int 134 0, .int 0 0, .ref 93, .int 140 0, .int 0 0, .ref 101] } : Obj)) ::
  (({ cls := .type "code", data := .fields #[.str (S "<module>") 182, .str (S "<module>") 183, .str (S "/claim/cut.py") 184, .int 1 0, .int 0 0, .int 0 0, .int 0 0, .int 0 0, .ref 11, .bool false, .int 181 0, .ref 12, .none, .none, .none, .none, .int 185 0, .int 1 0, .str (S "/claim/cut.py") 186] } : Obj)) ::
  (({ cls := .type "frame", slots := #[some (.ref 13), some (.ref 3), some (.ref 3), none, some (.str (S "__main__") 164), none, some (.ref 0)] } : Obj)) :: (og5 P ++ (og17 P))
noncomputable abbrev sh17 (w : World) (os : OsState) : Shared := ⟨{ objs := Array.mk (ob17 w.params) }, Array.mk [], {}, 317, os⟩
noncomputable abbrev z17 : Pos := { line := 148, col := 0, endLine := 148, endCol := 27 }
noncomputable abbrev p0 : Program := PySem.Challenge.rw_qh0091_01.row.prog
noncomputable abbrev shA (w : World) (os : OsState) : Shared := ⟨boot_heap w.params, Array.mk [], boot_drawn, boot_toks, os⟩
noncomputable abbrev en0 : Env := { scope := p0.main.scope, locals := mainNs, globals := mainNs, cells := [], code := .ref 13, frame := some 14 }
noncomputable abbrev bl0 : List Stmt := behindTheImports p0
noncomputable abbrev cb0 : Code := .body bl0 en0
noncomputable abbrev zA : Pos := { line := 0, col := 0, endLine := 0, endCol := 0 }
theorem run0 (w : World) (os : OsState) : (topGo treeTable p0 w 11 (some (.ref 6)) 12 (shA w os) (topStub p0)).map (·.2) = some ⟨denote treeTable cb0, cb0, zA, [topFrame zA]⟩ := by kernel_rfl
theorem run1 (w : World) (os : OsState) : ((topGo treeTable p0 w 11 (some (.ref 6)) 12 (shA w os) (topStub p0)).bind fun x => segRun treeTable p0 w 11 (some (.ref 6)) 1 1 x.1 (blockOf bl0 en0 cb0 zA [topFrame zA])).map (fun y => (y.1, y.2.2)) = some (.next, cb0, zA) := by kernel_rfl
theorem rung5 (w : World) (os : OsState) : (((topGo treeTable p0 w 11 (some (.ref 6)) 12 (shA w os) (topStub p0)).bind fun x => segRun treeTable p0 w 11 (some (.ref 6)) 1 1 x.1 (blockOf bl0 en0 cb0 zA [topFrame zA])).bind fun y =>
    segRun treeTable p0 w 11 (some (.ref 6)) 1 279 y.2.1 (piecesOf (bl0.take 6) en0 cb0 zA [topFrame zA])) = some (.next, sh5 w os, cb0, z5) := by kernel_rfl
theorem rung17 (w : World) (os : OsState) : segRun treeTable p0 w 11 (some (.ref 6)) 1 332 (sh5 w os) (piecesOf ((bl0.drop 6).take 12) en0 cb0 z5 [topFrame zA]) = some (.next, sh17 w os, cb0, z17) := by kernel_rfl
theorem runZ (w : World) (os : OsState) : (topRun treeTable p0 w 11 (some (.ref 6)) 434 (sh17 w os) (restOf ((bl0.drop 6).drop 12) en0 cb0 z17 [topFrame zA])).map (fun s =>
    ((staticsOk (importedModules p0.main.body) (boot_heap w.params) s.heap && namesBound p0 s.heap && gensDone s && laidKept (boot_heap w.params) s.heap),
     openSeen q0 lo0 (importedModules p0.main.body) (fun s => xlAt q0 lv0 s && recOk (RowW.records R0) s) true s, Hook.obs H0 s)) = some (true, openGood q0 lo0, Hook.val H0 w) := by kernel_rfl
theorem run5 : opening p0 = plainProg p0.main.scope.names := by kernel_rfl
theorem run6 : ∀ s, fenceModules? p0 s = some s := by intro s; kernel_rfl
theorem run7 (w : World) : ((boot_heap w.params).isNs mainGlobals && (Array.mk [] : Array GenState).size == 0, (boot_heap w.params).objs.size, (boot_heap w.params).nsMap mainGlobals "__annotations__") = (true, 11, some (.ref 6)) := by kernel_rfl
theorem hl0 : LeftO PySem.Challenge.rw_qh0091_01.row.prog q0 lo0 (fun s => xlAt q0 lv0 s && recOk (RowW.records R0) s) (Hook.obs H0) (Hook.val H0) 2172 :=
  leftOf (boot_open run5 rfl run6) run7 (fun w os => topOf (run0 w os) (run1 w os) (rung5 w os) (segOn (rung17 w os) (runZ w os))) (by decide)
theorem hd : (WalkO q0 lo0 (XL q0 lv0) H0.says R0 d0 [] fun f vs => PySem.call f vs) → PySem.Challenge.rw_qh0091_01.Holds := by
  intro hc0
  w_on
  refine holds_law hw1 fun said => ?_
  refine holds_open (q := q0) (d := d0) (kwd := []) (loose := lo0) (Xt := fun s => xlAt q0 lv0 s && recOk (RowW.records R0) s) (XP := XL q0 lv0) (Yf := Hook.obs H0) (Ya := Hook.val H0) (YP := Hook.says H0) (N := 2172) hl0 (Hook.of H0) (Hook.keeps H0) (fun s e => xl_of s (Bool.and_eq_true_iff.mp e).1) XL.keeps hw2 hw3 hw4 (fun s e => recFacts_of (Bool.and_eq_true_iff.mp e).2) (by rfl) said hw5 ⟨rfl, rfl, rfl, rfl, rfl, by decide +kernel⟩ ?hw ?hc
  case hw => w_witness2
  case hc => exact hc0
/-- the top arms that w_on put on are put off again: else later walks in the same file take them -/
theorem offHd : True := by
  w_top off
  trivial
end Mine
end
section
open PySem PySem.W PyProof.Rows
namespace Mine

/-- what every walk knows of the top, at the heap h -/
structure Gd (K : Frag) (p : Program) (loose : List Str) (mean : ExcName → Option Value) (mg mb : Str → Option Value) (h : Heap) : Prop where
  X : K.In h
  T : Top p loose mean mg mb h

theorem Gd.keeps {K : Frag} {p : Program} {loose : List Str} {mean : ExcName → Option Value} {mg mb : Str → Option Value} {h h' : Heap} (G : Gd K p loose mean mg mb h) (k : h.StaysIn h') : Gd K p loose mean mg mb h' := ⟨G.X.keeps k, G.T.keeps k⟩

noncomputable def mapOf : List (Str × Value) → Str → Option Value
  | [] => fun _ => none
  | (n, v) :: r => fun y => if y = n then some v else mapOf r y
theorem lookup_mapOf : ∀ (l : List (Str × Value)) (y : Str), l.lookup y = mapOf l y
  | [], _ => rfl
  | (n, v) :: r, y => by
    show (match y == n with | true => some v | false => r.lookup y) = if y = n then some v else mapOf r y
    by_cases h : y = n
    · rw [if_pos h, h, beq_self_eq_true]
    · rw [if_neg h, beq_eq_false_iff_ne.mpr h]; exact lookup_mapOf r y
/-- a def is entered: all that stands is kept; rb: the parameters, the last first -/
theorem enterG {prog : Program} {w : World} {A : Around} {s : Shared} {K : Frag} {p : Program} {loose : List Str} {mean : ExcName → Option Value} {mg mb : Str → Option Value}
    {R : Result → Shared → Prop} {name qual : Str} {params : Arguments} {body : List Stmt} {scope : Scope} {dV kV doc pm cdv ct oc : Value} {an od : Option Addr} {osl : Array (Option Value)} {f : Addr} {args : Args} (rb : List (Str × Value))
    (G : Gd K p loose mean mg mb s.heap)
    (ho : K.lookup f = some ⟨oc, od, .func (fnOf name qual params body scope dV kV doc pm an cdv ct), osl⟩) (hcd : codeIn K cdv qual = true) (hroom : A.depth < recursionLimit)
    (hbind : BindsTo s (fnOf name qual params body scope dV kV doc pm an cdv ct) args rb.reverse) (hloc : ∀ y ∈ rb.reverse, scope.names.lookup y.1 = some .local)
    (h : ∀ g L' h₁ tk, g = s.heap → Fr g L' h₁ (mapOf rb) → News g L' h₁ [] → K.In g → Top p loose mean mg mb g →
      wpAny (model prog w) (A.deeper (envOf qual scope L' f cdv)) (execs body (envOf qual scope L' f cdv))
        (fun fl s' => R (.ok (.ret (match fl with | .ret v => v | _ => .none))) s')
        (fun e s' => wpAny (model prog w) (A.deeper (envOf qual scope L' f cdv)) (leaving (envOf qual scope L' f cdv) e) (fun _ s'' => R (.error e) s'') (fun e' s'' => R (.error e') s'') s')
        { s with heap := h₁, toks := tk })
    (hcell : ∀ x ∈ scope.names, x.2 ≠ .cell) (hco : scope.isCoroutine = false := by rfl) (hgen : scope.isGenerator = false := by rfl) (hk : scope.kind = .function := by rfl) :
    codeAny (model prog w) A (.call (.ref f) args) R s :=
  codeAny_call_def (fd := fnOf name qual params body scope dV kV doc pm an cdv ct) (body := body) (binds := rb.reverse) hroom (G.X _ _ ho) rfl G.T.nolimit (codeRec_of G.X hcd) rfl hbind hcell hloc
    (fun h₁ hns hk₁ => h s.heap s.heap.objs.size h₁ _ rfl ⟨by
      have e : (fun x => rb.reverse.reverse.lookup x) = mapOf rb := funext fun x => by rw [List.reverse_reverse, lookup_mapOf]
      exact e ▸ hns, hk₁, Nat.le_refl _⟩ News.nil G.X G.T) hco hgen hk

/-- a contract: the call ends with a value v, P old-heap new-heap v; all that stood stands -/
noncomputable def Spec (prog : Program) (w : World) (K : Frag) (f : Addr) (args : Args) (d : Nat) (pre : Heap → Prop) (P : Heap → Heap → Value → Prop) : Prop :=
  ∀ (p : Program) (loose : List Str) (mean : ExcName → Option Value) (mg mb : Str → Option Value) (dp un : Nat) (fr : Option (List Env)) (gd : Option (List Code)) (s : Shared) (R : Result → Shared → Prop),
    Gd K p loose mean mg mb s.heap → dp + d < recursionLimit → un + 8 * d + 8 < cLine → pre s.heap →
    (∀ v h' tk', s.heap.StaysIn h' → P s.heap h' v → R (.ok (.ret v)) { s with heap := h', toks := tk' }) → codeAny (model prog w) ⟨none, dp, fr, gd, un⟩ (.call (.ref f) args) R s

section
variable {prog : Program} {w : World} {K : Frag} {A : Around} {E : Value → Shared → Prop} {Q : Value → Shared → Prop} {s : Shared} {g : Heap} {L : Addr} {m mg mb : Str → Option Value} {news : List (Addr × Obj)} {p : Program} {loose : List Str} {mean : ExcName → Option Value}

theorem Fr.after_stays {h h' : Heap} (F : Fr g L h m) (k : h.StaysIn h') : Fr g L h' m := ⟨F.ns.keeps k, fun b o e => k b o (F.keep b o e), F.above⟩
theorem News.after_stays {h h' : Heap} (N : News g L h news) (k : h.StaysIn h') : News g L h' news := fun p hp => ⟨k _ _ (N p hp).1, (N p hp).2⟩

theorem Spec.use {f : Addr} {vs : List Value} {kw : List (Str × Value)} {d : Nat} {pre : Heap → Prop} {P : Heap → Heap → Value → Prop} (S : Spec prog w K f ⟨vs, kw⟩ d pre P)
    (F : Fr g L s.heap m) (N : News g L s.heap news) (X : K.In g) (T : Top p loose mean mg mb g) {dp un : Nat} {fr : Option (List Env)} {gd : Option (List Code)} (hd : dp + d < recursionLimit) (hu : un + 8 * d + 8 < cLine) (hp : pre s.heap)
    (h : ∀ v h' tk', Fr g L h' m → News g L h' news → s.heap.StaysIn h' → P s.heap h' v → Q v { s with heap := h', toks := tk' }) : wpAny (model prog w) ⟨none, dp, fr, gd, un⟩ (call (.ref f) vs kw) Q E s :=
  wpAny_call (S p loose mean mg mb dp un fr gd s _ ⟨X.keeps F.keep, T.keeps F.keep⟩ hd hu hp fun v h' tk' k hP => h v h' tk' (Fr.after_stays F k) (News.after_stays N k) k hP)
end

theorem stays_of {g h h0 : Heap} {L : Addr} {m : Str → Option Value} (F : Fr g L h m) (e : g = h0) : h0.StaysIn h := e ▸ F.keep

end Mine
end
section
open PySem PySem.W PyProof.Rows
namespace Mine
/-- the number that a row of digits of b bits writes -/
noncomputable def val (b : Nat) (l : List Int) : Int := l.foldl (fun a v => a * 2 ^ b + v) 0
/-- the m low digits of b bits of a number, the greatest first -/
noncomputable def digs (b : Nat) : Int → Nat → List Int
  | _, 0 => []
  | N, m + 1 => digs b (N / 2 ^ b) m ++ [N % 2 ^ b]
/-- the base-64 sign of a figure, as its number -/
noncomputable def b64c (v : Int) : Int := if v < 26 then v + 65 else if v < 52 then v + 71 else if v < 62 then v - 4 else if v = 62 then 43 else 47
/-- the whole figures that a row of octets fills, and the last one's free bits -/
noncomputable def figs (l : List Int) : List Int := digs 6 (val 8 l * 2 ^ (6 * ((8 * l.length + 5) / 6) - 8 * l.length)) ((8 * l.length + 5) / 6)
/-- the whole figures alone -/
noncomputable def wfigs (l : List Int) : List Int := digs 6 (val 8 l / 2 ^ (8 * l.length % 6)) (8 * l.length / 6)

theorem snoc_ind {α : Type} {motive : List α → Prop} (h0 : motive []) (h1 : ∀ l v, motive l → motive (l ++ [v])) (l : List α) : motive l := by
  rw [← l.reverse_reverse]
  induction l.reverse with
  | nil => exact h0
  | cons a t ih => rw [List.reverse_cons]; exact h1 _ _ ih
theorem val_nil (b : Nat) : val b [] = 0 := rfl
theorem val_snoc (b : Nat) (l : List Int) (v : Int) : val b (l ++ [v]) = val b l * 2 ^ b + v := by simp [val, List.foldl_append]
theorem two_pow_pos (k : Nat) : (0 : Int) < 2 ^ k := Int.pow_pos (by decide)
theorem val_nonneg (b : Nat) (l : List Int) (h : ∀ v ∈ l, 0 ≤ v) : 0 ≤ val b l := by
  induction l using snoc_ind with
  | h0 => exact Int.le_refl 0
  | h1 l v ih =>
    rw [val_snoc]
    have h1 := ih fun x hx => h x (List.mem_append_left _ hx)
    have h2 := h v (by simp)
    have h3 := two_pow_pos b
    have := Int.mul_nonneg h1 (Int.le_of_lt h3)
    omega
theorem digs_length (b : Nat) : ∀ (m : Nat) (N : Int), (digs b N m).length = m
  | 0, _ => rfl
  | m + 1, N => by rw [digs, List.length_append, digs_length b m]; rfl
theorem digs_val (b : Nat) (l : List Int) (h : ∀ v ∈ l, 0 ≤ v ∧ v < 2 ^ b) : digs b (val b l) l.length = l := by
  induction l using snoc_ind with
  | h0 => rfl
  | h1 l v ih =>
    have hv := h v (by simp)
    have h3 := two_pow_pos b
    rw [val_snoc, List.length_append, List.length_singleton, digs]
    have e1 : (val b l * 2 ^ b + v) / 2 ^ b = val b l := by
      rw [Int.add_comm, Int.add_mul_ediv_right _ _ (Int.ne_of_gt h3), Int.ediv_eq_zero_of_lt hv.1 hv.2, Int.zero_add]
    have e2 : (val b l * 2 ^ b + v) % 2 ^ b = v := by
      rw [Int.add_comm, Int.add_mul_emod_self_right, Int.emod_eq_of_lt hv.1 hv.2]
    rw [e1, e2, ih fun x hx => h x (List.mem_append_left _ hx)]
theorem digs_range (b : Nat) : ∀ (m : Nat) (N : Int), ∀ v ∈ digs b N m, 0 ≤ v ∧ v < 2 ^ b
  | 0, _, _, h => nomatch h
  | m + 1, N, v, h => by
    rw [digs] at h
    rcases List.mem_append.mp h with h | h
    · exact digs_range b m _ v h
    · rw [List.mem_singleton.mp h]
      exact ⟨Int.emod_nonneg _ (Int.ne_of_gt (two_pow_pos b)), Int.emod_lt_of_pos _ (two_pow_pos b)⟩
end Mine
end
section
open PySem PySem.W PyProof.Rows
namespace Mine
theorem setG10 : True := by
  k_with_none
  k_with "call type:type" => ((with_reducible show wpAny _ _ (call (Value.type "type") [Value.bytes _ _]) _ _ _); refine call_type_of (Tx := "bytes") rfl (by decide +kernel) ?_)
  k_with "my_enter" => ((case k1 => assumption); (case k6 => k_is); (case k7 => k_is); (case k8 => (dsimp only; omega)); (case k9 => first | exact BindsTo.of_eq rfl | (refine' kp_binds ?kx ?ke; (case kx => exact Gd.X (by assumption)); (case ke => exact fun _ => rfl)) | exact binds_K (Gd.X (by assumption)) rfl (by k_is) rfl rfl rfl); (case c5 => decide); (case kB => exact locs rfl); (case c2 => exact rfl); (case c3 => exact rfl); (case c4 => exact rfl); intro g' L' h' tk' hg' F' N' X' T'; (dsimp only [mapOf] at F'); (try dsimp only); (try k_fold))
  trivial
theorem sp_ascii_buffer : ∀ {w : World} (b : Array UInt8) (t : Tok), Spec PySem.Challenge.rw_qh0091_01.row.toRowW.prog w (K0 w.params) 49 ⟨[.bytes b t], []⟩ 1 (fun _ => True) (fun _ _ v => v = .bytes b t) := by
  k_fill
  intro w b t p loose mean mg mb dp un fr gd s R G hdp hu hpre hret
  refine' enterG [(Str.ofString "data", .bytes b t)] ?k1 ?k6 ?k7 ?k8 ?k9 ?kB ?_ ?c5 ?c2 ?c3 ?c4
  walk_at "my_enter"
  k_steps
  all_goals exact hret _ _ _ (stays_of (by assumption) (by assumption)) rfl
theorem sp_buffer : ∀ {w : World} (b : Array UInt8) (t : Tok), Spec PySem.Challenge.rw_qh0091_01.row.toRowW.prog w (K0 w.params) 56 ⟨[.bytes b t], []⟩ 1 (fun _ => True) (fun _ _ v => v = .bytes b t) := by
  intro w b t p loose mean mg mb dp un fr gd s R G hdp hu hpre hret
  refine' enterG [(Str.ofString "data", .bytes b t)] ?k1 ?k6 ?k7 ?k8 ?k9 ?kB ?_ ?c5 ?c2 ?c3 ?c4
  walk_at "my_enter"
  k_steps
  all_goals exact hret _ _ _ (stays_of (by assumption) (by assumption)) rfl
theorem sp_truth : ∀ {w : World} (b : Bool), Spec PySem.Challenge.rw_qh0091_01.row.toRowW.prog w (K0 w.params) 63 ⟨[.bool b], []⟩ 1 (fun _ => True) (fun _ _ v => v = .bool b) := by
  intro w b p loose mean mg mb dp un fr gd s R G hdp hu hpre hret
  cases b
  · refine' enterG [(Str.ofString "x", .bool false)] ?k1 ?k6 ?k7 ?k8 ?k9 ?kB ?_ ?c5 ?c2 ?c3 ?c4
    walk_at "my_enter"
    k_steps
    exact hret _ _ _ (stays_of (by assumption) (by assumption)) rfl
  · refine' enterG [(Str.ofString "x", .bool true)] ?k1 ?k6 ?k7 ?k8 ?k9 ?kB ?_ ?c5 ?c2 ?c3 ?c4
    walk_at "my_enter"
    k_steps
    exact hret _ _ _ (stays_of (by assumption) (by assumption)) rfl
theorem sp_bytes_from : ∀ {w : World} (b : Array UInt8) (t : Tok), Spec PySem.Challenge.rw_qh0091_01.row.toRowW.prog w (K0 w.params) 29 ⟨[.bytes b t], []⟩ 1 (fun _ => True) (fun _ _ v => v = .bytes b t) := by
  intro w b t p loose mean mg mb dp un fr gd s R G hdp hu hpre hret
  refine' enterG [(Str.ofString "s", .bytes b t)] ?k1 ?k6 ?k7 ?k8 ?k9 ?kB ?_ ?c5 ?c2 ?c3 ?c4
  walk_at "my_enter"
  k_steps
  all_goals exact hret _ _ _ (stays_of (by assumption) (by assumption)) rfl
theorem sp_ctoi : ∀ {w : World} (b : Int) (t : Tok), Spec PySem.Challenge.rw_qh0091_01.row.toRowW.prog w (K0 w.params) 123 ⟨[.int b t], []⟩ 1 (fun _ => True) (fun _ _ v => v = .int b t) := by
  intro w b t p loose mean mg mb dp un fr gd s R G hdp hu hpre hret
  refine' enterG [(Str.ofString "c", .int b t)] ?k1 ?k6 ?k7 ?k8 ?k9 ?kB ?_ ?c5 ?c2 ?c3 ?c4
  walk_at "my_enter"
  k_steps
  all_goals exact hret _ _ _ (stays_of (by assumption) (by assumption)) rfl
theorem sp_ctoiS : ∀ {w : World} (b : Nat) (t : Tok), Spec PySem.Challenge.rw_qh0091_01.row.toRowW.prog w (K0 w.params) 123 ⟨[.str ⟨#[b]⟩ t], []⟩ 1 (fun _ => True) (fun _ _ v => ∃ t, v = .int b t) := by
  intro w b t p loose mean mg mb dp un fr gd s R G hdp hu hpre hret
  refine' enterG [(Str.ofString "c", .str ⟨#[b]⟩ t)] ?k1 ?k6 ?k7 ?k8 ?k9 ?kB ?_ ?c5 ?c2 ?c3 ?c4
  walk_at "my_enter"
  k_steps
  all_goals exact hret _ _ _ (stays_of (by assumption) (by assumption)) ⟨_, rfl⟩
end Mine
end
section
open PySem PySem.W PyProof.Rows
namespace Mine
theorem setG20 : True := by
  k_with_none
  k_with "call type:type" => ((with_reducible show wpAny _ _ (call (Value.type "type") [Value.bytes _ _]) _ _ _); refine call_type_of (Tx := "bytes") rfl (by decide +kernel) ?_)
  k_with "my_enter" => ((case k1 => assumption); (case k6 => k_is); (case k7 => k_is); (case k8 => (dsimp only; omega)); (case k9 => first | exact BindsTo.of_eq rfl | (refine' kp_binds ?kx ?ke; (case kx => exact Gd.X (by assumption)); (case ke => exact fun _ => rfl)) | exact binds_K (Gd.X (by assumption)) rfl (by k_is) rfl rfl rfl); (case c5 => decide); (case kB => exact locs rfl); (case c2 => exact rfl); (case c3 => exact rfl); (case c4 => exact rfl); intro g' L' h' tk' hg' F' N' X' T'; (dsimp only [mapOf] at F'); (try dsimp only); (try k_fold))
  trivial
section
variable {prog : Program} {w : World} {A : Around} {E : Value → Shared → Prop} {Q : Value → Shared → Prop} {s : Shared} {a b c : Int} {t u : Tok}
theorem and_int_eq (e : Builtin.bitAnd a b = c) (h : Q (.int c s.toks) { s with toks := s.toks + 1 }) : wpAny (model prog w) A (binaryOp .BitAnd (.int a t) (.int b u)) Q E s := and_int (e ▸ h)
theorem or_int_eq (e : Builtin.bitOr a b = c) (h : Q (.int c s.toks) { s with toks := s.toks + 1 }) : wpAny (model prog w) A (binaryOp .BitOr (.int a t) (.int b u)) Q E s := or_int (e ▸ h)
end
theorem bitOr_nat (m n : Nat) : Builtin.bitOr (m : Int) (n : Int) = ((m ||| n : Nat) : Int) := by
  have hm : ¬ (0 ≤ Builtin.bitNot (m : Int)) := by unfold Builtin.bitNot; omega
  have hn : ¬ (0 ≤ Builtin.bitNot (n : Int)) := by unfold Builtin.bitNot; omega
  have h2 : ∀ k : Nat, (Builtin.bitNot (Builtin.bitNot (k : Int))).toNat = k := fun k => by unfold Builtin.bitNot; omega
  unfold Builtin.bitOr Builtin.bitAnd
  simp only [decide_eq_false hm, decide_eq_false hn, h2]
  unfold Builtin.bitNot
  omega
/-- the low bits are free: or adds -/
theorem or_disj {a v : Int} (k : Nat) (ha : 0 ≤ a) (hv : 0 ≤ v) (hv2 : v < 2 ^ k) : Builtin.bitOr (a * 2 ^ k) v = a * 2 ^ k + v := by
  obtain ⟨m, rfl⟩ := Int.eq_ofNat_of_zero_le ha
  obtain ⟨n, rfl⟩ := Int.eq_ofNat_of_zero_le hv
  have hn : n < 2 ^ k := by
    have : ((n : Nat) : Int) < ((2 ^ k : Nat) : Int) := by rw [Int.natCast_pow]; exact hv2
    exact Int.ofNat_lt.mp this
  have e : ((m : Nat) : Int) * 2 ^ k = ((2 ^ k * m : Nat) : Int) := by
    rw [Int.natCast_mul, Int.natCast_pow, Int.mul_comm]; rfl
  rw [e, bitOr_nat, ← Nat.two_pow_add_eq_or_of_lt hn]
  exact Int.natCast_add _ _
/-- a sign as unctrl shows it -/
noncomputable def unc (b : Int) : Str := if b < 32 then ⟨#[94, (b + 64).toNat]⟩ else if b < 128 then ⟨#[b.toNat]⟩ else ⟨#[33, (b - 128).toNat]⟩
theorem setG21 : True := by
  k_with "my_side" => first | assumption | exact trivial | omega | (dsimp only [Around.deeper, Around.in1]; omega)
  k_with "my_use" => ((case kF => k_asm); (case kN => k_asm); (case kX => k_asm); (case kT => k_asm); (case kd => walk_at "my_side"); (case ku => walk_at "my_side"); (case kp => walk_at "my_side"))
  k_with "call ref" => ((refine' Spec.use (sp_ctoi _ _) ?kF ?kN ?kX ?kT ?kd ?ku ?kp ?_); walk_at "my_use"; intro v' h' tk' F' N' st' hv'; subst hv'; (try dsimp only); (try k_fold))
  k_with "call ref" => ((refine' Spec.use (sp_ctoiS _ _) ?kF ?kN ?kX ?kT ?kd ?ku ?kp ?_); walk_at "my_use"; intro v' h' tk' F' N' st' hv'; (obtain ⟨t', hv'⟩ := hv'); subst hv'; (try dsimp only); (try k_fold))
  k_with "call builtin:chr" => (refine chr_of_range (by first | omega | exact (bitAnd_range _ (by decide)).1) (by first | omega | exact Int.le_trans (bitAnd_range _ (by decide)).2 (by decide)) ?_)
  k_with "binaryOp BitAnd int int" => (refine and_int_eq (by assumption) ?_)
  k_with "binaryOp BitOr int int" => (refine or_int_eq (by assumption) ?_)
  trivial
theorem sp_isgraph : ∀ {w : World} (b : Int) (t : Tok), Spec PySem.Challenge.rw_qh0091_01.row.toRowW.prog w (K0 w.params) 130 ⟨[.int b t], []⟩ 2 (fun _ => True) (fun _ _ v => v = .bool (decide (33 ≤ b ∧ b ≤ 126))) := by
  k_fill
  intro w b t p loose mean mg mb dp un fr gd s R G hdp hu hpre hret
  refine' enterG [(Str.ofString "c", .int b t)] ?k1 ?k6 ?k7 ?k8 ?k9 ?kB ?_ ?c5 ?c2 ?c3 ?c4
  walk_at "my_enter"
  k_steps
  all_goals exact hret _ _ _ (stays_of (by assumption) (by assumption)) (by simp [*]; try omega)
theorem sp_isprint : ∀ {w : World} (b : Int) (t : Tok), Spec PySem.Challenge.rw_qh0091_01.row.toRowW.prog w (K0 w.params) 137 ⟨[.int b t], []⟩ 2 (fun _ => True) (fun _ _ v => v = .bool (decide (32 ≤ b ∧ b ≤ 126))) := by
  intro w b t p loose mean mg mb dp un fr gd s R G hdp hu hpre hret
  refine' enterG [(Str.ofString "c", .int b t)] ?k1 ?k6 ?k7 ?k8 ?k9 ?kB ?_ ?c5 ?c2 ?c3 ?c4
  walk_at "my_enter"
  k_steps
  all_goals exact hret _ _ _ (stays_of (by assumption) (by assumption)) (by simp [*]; try omega)
theorem sp_isctrl : ∀ {w : World} (b : Int) (t : Tok), Spec PySem.Challenge.rw_qh0091_01.row.toRowW.prog w (K0 w.params) 144 ⟨[.int b t], []⟩ 2 (fun _ => True) (fun _ _ v => v = .bool (decide (0 ≤ b ∧ b < 32))) := by
  intro w b t p loose mean mg mb dp un fr gd s R G hdp hu hpre hret
  refine' enterG [(Str.ofString "c", .int b t)] ?k1 ?k6 ?k7 ?k8 ?k9 ?kB ?_ ?c5 ?c2 ?c3 ?c4
  walk_at "my_enter"
  k_steps
  all_goals exact hret _ _ _ (stays_of (by assumption) (by assumption)) (by simp [*]; try omega)
theorem sp_ctrl : ∀ {w : World} (b : Nat) (t : Tok), Spec PySem.Challenge.rw_qh0091_01.row.toRowW.prog w (K0 w.params) 151 ⟨[.str ⟨#[b]⟩ t], []⟩ 2 (fun _ => True) (fun _ _ v => ∃ t, v = .str ⟨#[b % 32]⟩ t) := by
  intro w b t p loose mean mg mb dp un fr gd s R G hdp hu hpre hret
  have e1 : Builtin.bitAnd (b : Int) 31 = ((b % 32 : Nat) : Int) := by rw [bitAnd_m5]; omega
  refine' enterG [(Str.ofString "c", .str ⟨#[b]⟩ t)] ?k1 ?k6 ?k7 ?k8 ?k9 ?kB ?_ ?c5 ?c2 ?c3 ?c4
  walk_at "my_enter"
  k_steps
  all_goals exact hret _ _ _ (stays_of (by assumption) (by assumption)) ⟨_, by first | rfl | (congr 3; omega)⟩
theorem sp_alt : ∀ {w : World} (b : Int) (t : Tok), Spec PySem.Challenge.rw_qh0091_01.row.toRowW.prog w (K0 w.params) 158 ⟨[.int b t], []⟩ 2 (fun _ => 0 ≤ b ∧ b < 128) (fun _ _ v => ∃ t, v = .int (b + 128) t) := by
  intro w b t p loose mean mg mb dp un fr gd s R G hdp hu hpre hret
  have e1 : Builtin.bitOr b 128 = b + 128 := by
    have := or_disj (a := 1) (v := b) 7 (by omega) hpre.1 (by omega)
    have c : Builtin.bitOr b 128 = Builtin.bitOr (1 * 2 ^ 7) b := by unfold Builtin.bitOr; rw [bitAnd_comm]; rfl
    rw [c, this]; omega
  refine' enterG [(Str.ofString "c", .int b t)] ?k1 ?k6 ?k7 ?k8 ?k9 ?kB ?_ ?c5 ?c2 ?c3 ?c4
  walk_at "my_enter"
  k_steps
  all_goals exact hret _ _ _ (stays_of (by assumption) (by assumption)) ⟨_, rfl⟩
theorem setG22 : True := by
  k_with "call ref" => ((refine' Spec.use (sp_isprint _ _) ?kF ?kN ?kX ?kT ?kd ?ku ?kp ?_); walk_at "my_use"; intro v' h' tk' F' N' st' hv'; subst hv'; (try dsimp only); (try k_fold))
  trivial
theorem bit128 (b : Int) : Builtin.bitAnd b 128 = (b / 128 % 2) * 128 := kbt_bit b 7
theorem unc_1 {b : Int} (h : b < 32) : unc b = ⟨#[94, (b + 64).toNat]⟩ := by unfold unc; rw [if_pos h]
theorem unc_2 {b : Int} (h : 32 ≤ b) (h' : b < 128) : unc b = ⟨#[b.toNat]⟩ := by unfold unc; rw [if_neg (by omega), if_pos h']
theorem unc_3 {b : Int} (h' : 128 ≤ b) : unc b = ⟨#[33, (b - 128).toNat]⟩ := by unfold unc; rw [if_neg (by omega), if_neg (by omega)]
theorem cat1 (x : String) (k n : Nat) (h : Str.ofString x = ⟨#[k]⟩ := by decide +kernel) : Str.ofString x ++ (⟨#[n]⟩ : Str) = ⟨#[k, n]⟩ := by rw [h]; rfl
theorem sp_unctrl_a : ∀ {w : World} (b : Int) (t : Tok), Spec PySem.Challenge.rw_qh0091_01.row.toRowW.prog w (K0 w.params) 165 ⟨[.int b t], []⟩ 3 (fun _ => 33 ≤ b ∧ b < 127) (fun _ _ v => ∃ t, v = .str (unc b) t) := by
  intro w b t p loose mean mg mb dp un fr gd s R G hdp hu hpre hret
  have e1 : Builtin.bitAnd b 127 = b := by rw [bitAnd_m7]; omega
  have e2 : Builtin.bitAnd b 128 = 0 := by rw [bit128]; omega
  rw [unc_2 (by omega) (by omega)] at hret
  refine' enterG [(Str.ofString "c", .int b t)] ?k1 ?k6 ?k7 ?k8 ?k9 ?kB ?_ ?c5 ?c2 ?c3 ?c4
  walk_at "my_enter"
  k_steps
  all_goals first | (exfalso; simp only [decide_eq_true_eq, decide_eq_false_iff_not] at *; omega) | exact hret _ _ _ (stays_of (by assumption) (by assumption)) ⟨_, rfl⟩
theorem sp_unctrl_b : ∀ {w : World} (b : Int) (t : Tok), Spec PySem.Challenge.rw_qh0091_01.row.toRowW.prog w (K0 w.params) 165 ⟨[.int b t], []⟩ 3 (fun _ => 161 ≤ b ∧ b < 255) (fun _ _ v => ∃ t, v = .str (unc b) t) := by
  intro w b t p loose mean mg mb dp un fr gd s R G hdp hu hpre hret
  have e1 : Builtin.bitAnd b 127 = b - 128 := by rw [bitAnd_m7]; omega
  have e2 : Builtin.bitAnd b 128 = 128 := by rw [bit128]; omega
  rw [unc_3 (by omega)] at hret
  refine' enterG [(Str.ofString "c", .int b t)] ?k1 ?k6 ?k7 ?k8 ?k9 ?kB ?_ ?c5 ?c2 ?c3 ?c4
  walk_at "my_enter"
  k_steps
  all_goals first | (exfalso; simp only [decide_eq_true_eq, decide_eq_false_iff_not] at *; omega) | exact hret _ _ _ (stays_of (by assumption) (by assumption)) ⟨_, congrArg (fun x => Value.str x _) (cat1 "!" 33 _)⟩
theorem sp_unctrl_c : ∀ {w : World} (b : Int) (t : Tok), Spec PySem.Challenge.rw_qh0091_01.row.toRowW.prog w (K0 w.params) 165 ⟨[.int b t], []⟩ 3 (fun _ => 0 ≤ b ∧ b < 32) (fun _ _ v => ∃ t, v = .str (unc b) t) := by
  intro w b t p loose mean mg mb dp un fr gd s R G hdp hu hpre hret
  have e1 : Builtin.bitAnd b 127 = b := by rw [bitAnd_m7]; omega
  have e2 : Builtin.bitAnd b 128 = 0 := by rw [bit128]; omega
  have e3 : Builtin.bitOr b 32 = b + 32 := by
    have := or_disj (a := 1) (v := b) 5 (by omega) hpre.1 (by omega)
    have c : Builtin.bitOr b 32 = Builtin.bitOr (1 * 2 ^ 5) b := by unfold Builtin.bitOr; rw [bitAnd_comm]; rfl
    rw [c, this]; omega
  have e4 : b + 64 = b + 32 + 32 := by omega
  rw [unc_1 (by omega), e4] at hret
  refine' enterG [(Str.ofString "c", .int b t)] ?k1 ?k6 ?k7 ?k8 ?k9 ?kB ?_ ?c5 ?c2 ?c3 ?c4
  walk_at "my_enter"
  k_steps
  all_goals first | (exfalso; simp only [decide_eq_true_eq, decide_eq_false_iff_not] at *; omega) | exact hret _ _ _ (stays_of (by assumption) (by assumption)) ⟨_, congrArg (fun x => Value.str x _) (cat1 "^" 94 _)⟩
end Mine
end
section
open PySem PySem.W PyProof.Rows
namespace Mine
/-- a row of octets as base 64 writes it, with its signs of padding: the signs' numbers -/
noncomputable def enc64 (l : List Int) : List Int := (figs l).map b64c ++ List.replicate ((4 - (figs l).length % 4) % 4) 61
noncomputable def b2aI (pre : List Int) (lb lc : Int) (out : List Int) : Prop := lb = ((8 * pre.length % 6 : Nat) : Int) ∧ lc = val 8 pre % 65536 ∧ out = (wfigs pre).map b64c
theorem b2aI_start : b2aI [] 0 0 [] := ⟨rfl, rfl, rfl⟩
theorem b2aI_lb {pre lb lc out} (h : b2aI pre lb lc out) : (lb = 0 ∨ lb = 2 ∨ lb = 4) ∧ 0 ≤ lc ∧ lc < 65536 := by
  obtain ⟨h1, h2, _⟩ := h
  omega
theorem b2aI_len {pre lb lc out} (h : b2aI pre lb lc out) : out.length ≤ 2 * pre.length := by
  rw [h.2.2, List.length_map, wfigs, digs_length]
  omega
theorem b64c_range {v : Int} (h : 0 ≤ v) (h' : v < 64) : 43 ≤ b64c v ∧ b64c v ≤ 122 := by
  unfold b64c
  repeat' split
  all_goals omega
theorem b2aI_or {lc n : Int} (h0 : 0 ≤ lc) (hn : 0 ≤ n) (hn' : n < 256) : Builtin.bitOr (lc * 2 ^ Int.toNat 8) n = lc * 256 + n := or_disj 8 h0 hn hn'
theorem b2aI_step0 {pre out} {lc n : Int} (h : b2aI pre 0 lc out) (hn : 0 ≤ n) (hn' : n < 256) :
    b2aI (pre ++ [n]) (0 + 8 - 6) (Builtin.bitOr (lc * 2 ^ Int.toNat 8) n % 65536) (out ++ [b64c (Builtin.bitOr (lc * 2 ^ Int.toNat 8) n % 65536 / 2 ^ (0 + 8 - 6 : Int).toNat % 64)]) := by
  have hb := (b2aI_lb h).2
  obtain ⟨h1, h2, h3⟩ := h
  rw [b2aI_or hb.1 hn hn']
  have e2 : (2 : Int) ^ (0 + 8 - 6 : Int).toNat = 4 := rfl
  rw [e2]
  have hv := val_snoc 8 pre n
  have e8 : (2 : Int) ^ 8 = 256 := rfl
  rw [e8] at hv
  have hl : (pre ++ [n]).length = pre.length + 1 := by simp
  have q0 : 8 * pre.length % 6 = 0 := by omega
  refine ⟨by rw [hl]; omega, by rw [hv, h2]; omega, ?_⟩
  have w' : wfigs (pre ++ [n]) = wfigs pre ++ [(val 8 pre * 256 + n) / 4 % 64] := by
    have m1 : 8 * (pre.length + 1) % 6 = 2 := by omega
    have m2 : 8 * (pre.length + 1) / 6 = 8 * pre.length / 6 + 1 := by omega
    unfold wfigs
    rw [hl, hv, m1, m2, q0, digs]
    have a1 : (2 : Int) ^ 2 = 4 := rfl
    have a2 : (2 : Int) ^ 6 = 64 := rfl
    have a3 : (2 : Int) ^ 0 = 1 := rfl
    rw [a1, a2, a3]
    congr 2
    omega
  rw [w', h3, List.map_append, List.map_singleton]
  congr 3
  omega
theorem b2aI_step2 {pre out} {lc n : Int} (h : b2aI pre 2 lc out) (hn : 0 ≤ n) (hn' : n < 256) :
    b2aI (pre ++ [n]) (2 + 8 - 6) (Builtin.bitOr (lc * 2 ^ Int.toNat 8) n % 65536) (out ++ [b64c (Builtin.bitOr (lc * 2 ^ Int.toNat 8) n % 65536 / 2 ^ (2 + 8 - 6 : Int).toNat % 64)]) := by
  have hb := (b2aI_lb h).2
  obtain ⟨h1, h2, h3⟩ := h
  rw [b2aI_or hb.1 hn hn']
  have e2 : (2 : Int) ^ (2 + 8 - 6 : Int).toNat = 16 := rfl
  rw [e2]
  have hv := val_snoc 8 pre n
  have e8 : (2 : Int) ^ 8 = 256 := rfl
  rw [e8] at hv
  have hl : (pre ++ [n]).length = pre.length + 1 := by simp
  have q0 : 8 * pre.length % 6 = 2 := by omega
  refine ⟨by rw [hl]; omega, by rw [hv, h2]; omega, ?_⟩
  have w' : wfigs (pre ++ [n]) = wfigs pre ++ [(val 8 pre * 256 + n) / 16 % 64] := by
    have m1 : 8 * (pre.length + 1) % 6 = 4 := by omega
    have m2 : 8 * (pre.length + 1) / 6 = 8 * pre.length / 6 + 1 := by omega
    unfold wfigs
    rw [hl, hv, m1, m2, q0, digs]
    have a1 : (2 : Int) ^ 2 = 4 := rfl
    have a2 : (2 : Int) ^ 6 = 64 := rfl
    have a3 : (2 : Int) ^ 4 = 16 := rfl
    rw [a1, a2, a3]
    congr 2
    omega
  rw [w', h3, List.map_append, List.map_singleton]
  congr 3
  omega
theorem b2aI_step4 {pre out} {lc n : Int} (h : b2aI pre 4 lc out) (hn : 0 ≤ n) (hn' : n < 256) :
    b2aI (pre ++ [n]) (4 + 8 - 6 - 6) (Builtin.bitOr (lc * 2 ^ Int.toNat 8) n % 65536) (out ++ [b64c (Builtin.bitOr (lc * 2 ^ Int.toNat 8) n % 65536 / 2 ^ (4 + 8 - 6 : Int).toNat % 64)] ++ [b64c (Builtin.bitOr (lc * 2 ^ Int.toNat 8) n % 65536 / 2 ^ (4 + 8 - 6 - 6 : Int).toNat % 64)]) := by
  have hb := (b2aI_lb h).2
  obtain ⟨h1, h2, h3⟩ := h
  rw [b2aI_or hb.1 hn hn']
  have e2 : (2 : Int) ^ (4 + 8 - 6 : Int).toNat = 64 := rfl
  have e2' : (2 : Int) ^ (4 + 8 - 6 - 6 : Int).toNat = 1 := rfl
  rw [e2, e2']
  have hv := val_snoc 8 pre n
  have e8 : (2 : Int) ^ 8 = 256 := rfl
  rw [e8] at hv
  have hl : (pre ++ [n]).length = pre.length + 1 := by simp
  have q0 : 8 * pre.length % 6 = 4 := by omega
  refine ⟨by rw [hl]; omega, by rw [hv, h2]; omega, ?_⟩
  have w' : wfigs (pre ++ [n]) = wfigs pre ++ [(val 8 pre * 256 + n) / 64 % 64] ++ [(val 8 pre * 256 + n) % 64] := by
    have m1 : 8 * (pre.length + 1) % 6 = 0 := by omega
    have m2 : 8 * (pre.length + 1) / 6 = 8 * pre.length / 6 + 1 + 1 := by omega
    unfold wfigs
    rw [hl, hv, m1, m2, q0, digs, digs]
    have a2 : (2 : Int) ^ 6 = 64 := rfl
    have a3 : (2 : Int) ^ 4 = 16 := rfl
    have a4 : (2 : Int) ^ 0 = 1 := rfl
    rw [a2, a3, a4, Int.ediv_one]
    congr 3
    omega
  have x1 : (lc * 256 + n) % 65536 / 64 % 64 = (val 8 pre * 256 + n) / 64 % 64 := by omega
  have x2 : (lc * 256 + n) % 65536 / 1 % 64 = (val 8 pre * 256 + n) % 64 := by omega
  rw [w', h3, List.map_append, List.map_append, List.map_singleton, List.map_singleton, x1, x2]
theorem b2aI_end0 {pre out} {lc : Int} (h : b2aI pre 0 lc out) : out = enc64 pre := by
  obtain ⟨h1, h2, h3⟩ := h
  have q0 : 8 * pre.length % 6 = 0 := by omega
  have m1 : (8 * pre.length + 5) / 6 = 8 * pre.length / 6 := by omega
  have m2 : 6 * (8 * pre.length / 6) - 8 * pre.length = 0 := by omega
  have e : figs pre = wfigs pre := by
    unfold figs wfigs
    rw [m1, m2, q0]
    have a4 : (2 : Int) ^ 0 = 1 := rfl
    rw [a4, Int.ediv_one, Int.mul_one]
  have hp : (4 - (wfigs pre).length % 4) % 4 = 0 := by unfold wfigs; rw [digs_length]; omega
  unfold enc64
  rw [e, hp, h3]
  simp
theorem b2aI_end2 {pre out} {lc : Int} (h : b2aI pre 2 lc out) : out ++ [b64c (lc % 4 * 2 ^ Int.toNat 4)] ++ [61] ++ [61] = enc64 pre := by
  obtain ⟨h1, h2, h3⟩ := h
  have q0 : 8 * pre.length % 6 = 2 := by omega
  have m1 : (8 * pre.length + 5) / 6 = 8 * pre.length / 6 + 1 := by omega
  have m2 : 6 * (8 * pre.length / 6 + 1) - 8 * pre.length = 4 := by omega
  have e : figs pre = wfigs pre ++ [val 8 pre * 16 % 64] := by
    unfold figs wfigs
    rw [m1, m2, q0, digs]
    have a2 : (2 : Int) ^ 6 = 64 := rfl
    have a3 : (2 : Int) ^ 4 = 16 := rfl
    have a4 : (2 : Int) ^ 2 = 4 := rfl
    rw [a2, a3, a4]
    congr 2
    omega
  have hp : (4 - (figs pre).length % 4) % 4 = 2 := by rw [e]; unfold wfigs; rw [List.length_append, digs_length, List.length_singleton]; omega
  have e4 : (2 : Int) ^ Int.toNat 4 = 16 := rfl
  have e5 : lc % 4 * 16 = val 8 pre * 16 % 64 := by omega
  unfold enc64
  rw [hp, e, h3, e4, e5]
  simp
theorem b2aI_end4 {pre out} {lc : Int} (h : b2aI pre 4 lc out) : out ++ [b64c (lc % 16 * 2 ^ Int.toNat 2)] ++ [61] = enc64 pre := by
  obtain ⟨h1, h2, h3⟩ := h
  have q0 : 8 * pre.length % 6 = 4 := by omega
  have m1 : (8 * pre.length + 5) / 6 = 8 * pre.length / 6 + 1 := by omega
  have m2 : 6 * (8 * pre.length / 6 + 1) - 8 * pre.length = 2 := by omega
  have e : figs pre = wfigs pre ++ [val 8 pre * 4 % 64] := by
    unfold figs wfigs
    rw [m1, m2, q0, digs]
    have a2 : (2 : Int) ^ 6 = 64 := rfl
    have a3 : (2 : Int) ^ 4 = 16 := rfl
    have a4 : (2 : Int) ^ 2 = 4 := rfl
    rw [a2, a3, a4]
    congr 2
    omega
  have hp : (4 - (figs pre).length % 4) % 4 = 1 := by rw [e]; unfold wfigs; rw [List.length_append, digs_length, List.length_singleton]; omega
  have e4 : (2 : Int) ^ Int.toNat 2 = 4 := rfl
  have e5 : lc % 16 * 4 = val 8 pre * 4 % 64 := by omega
  unfold enc64
  rw [hp, e, h3, e4, e5]
  simp
theorem figs_range (l : List Int) : ∀ v ∈ figs l, 0 ≤ v ∧ v < 64 := fun v h => digs_range 6 _ _ v h
theorem enc64_range (l : List Int) : ∀ n ∈ enc64 l, 43 ≤ n ∧ n ≤ 122 := by
  intro n hn
  unfold enc64 at hn
  rcases List.mem_append.mp hn with h | h
  · obtain ⟨v, hv, rfl⟩ := List.mem_map.mp h
    exact b64c_range (figs_range l v hv).1 (figs_range l v hv).2
  · rw [(List.mem_replicate.mp h).2]; omega
end Mine
end
section
open PySem PySem.W PyProof.Rows
namespace Mine
theorem setB2A0 : True := by
  k_with_none
  k_with "call type:type" => ((with_reducible show wpAny _ _ (call (Value.type "type") [Value.bytes _ _]) _ _ _); refine call_type_of (Tx := "bytes") rfl (by decide +kernel) ?_)
  trivial
section
variable {prog : Program} {w : World} {A : Around} {E : Value → Shared → Prop} {Q : Value → Shared → Prop} {s : Shared} {a b c i n : Int} {t u : Tok}
theorem b64_item {x : List UInt8} {value slice : Expr} (hl : x.length = 64) (hx : ∀ n : Fin 64, (((x.getD n 0).toNat : Nat) : Int) = b64c (n : Nat)) (h0 : 0 ≤ i) (h1 : i < 64) (h : Q (.int (b64c i) s.toks) { s with toks := s.toks + 1 })
    (hs : subscripted slice false (.bytes x.toArray t) (.int i u) = operate [.bytes x.toArray t, .int i u] (getItem (.bytes x.toArray t) (.int i u)) := by with_unfolding_all rfl)
    (ht : ∀ r, letTemporaryGo value (.bytes x.toArray t) r = pure () := by intro _; with_unfolding_all rfl) : wpAny (model prog w) A (subscriptTail value slice (.bytes x.toArray t) (.int i u)) Q E s :=
  bytes_item_K (by omega) h0 (by omega) (by
    have := hx ⟨i.toNat, by omega⟩
    have e : ((i.toNat : Nat) : Int) = i := Int.toNat_of_nonneg h0
    rw [← e]; exact this) h hs ht
theorem shl_small (h0 : 0 ≤ a) (h1 : a < 65536) (hn : 0 ≤ n) (hn2 : n ≤ 1000) (h : Q (.int (a * 2 ^ n.toNat) s.toks) { s with toks := s.toks + 1 }) : wpAny (model prog w) A (binaryOp .LShift (.int a t) (.int n u)) Q E s :=
  lshift_int_small hn (by omega) (by have h2 : a.natAbs < 65536 := by omega
                                     exact Nat.lt_of_lt_of_le h2 (by decide)) h
theorem shr_int_eq (hn : 0 ≤ n) (h : Q (.int (a / 2 ^ n.toNat) s.toks) { s with toks := s.toks + 1 }) : wpAny (model prog w) A (binaryOp .RShift (.int a t) (.int n u)) Q E s :=
  rshift_int hn (by rw [Int.fdiv_eq_ediv_of_nonneg _ (Int.le_of_lt (two_pow_pos _))]; exact h)
end
section
variable {prog : Program} {w : World} {A : Around} {E : Value → Shared → Prop} {Q : Value → Shared → Prop} {s : Shared} {g : Heap} {L : Addr} {m : Str → Option Value} {news : List (Addr × Obj)}
theorem bytes_K {l : Addr} {vs : List Value} {ns : List Int} {n : Nat} (F : Fr g L s.heap m) (N : News g L s.heap news) (hm : (l, W.listOf vs.toArray n) ∈ news) (hi : IntsAre vs ns) (hr : ∀ n ∈ ns, 0 ≤ n ∧ n < 256) (hz : ns.length ≤ 10000000) (hh : A.handled = none)
    (h : ∀ t h' tk', Fr g L h' m → News g L h' news → s.heap.StaysIn h' → Q (.bytes (byteArr ns) t) { s with heap := h', toks := tk' }) : wpAny (model prog w) A (call (.type "bytes") [.ref l]) Q E s :=
  call_bytes_ints ⟨_, (N _ hm).1, rfl, n, rfl⟩ hi hr (by rw [hi.length, sizeLine_eq]; omega) hh fun h' t k' st => h t h' k' (Fr.after_stays F st) (News.after_stays N st) st
end
theorem fit0 {n : Nat} (h : n ≤ 2000002) : n ≤ 16777216 := Nat.le_trans h (by decide)
theorem fit1 {n : Nat} (h : n ≤ 2000002) : n + (0 + 1) ≤ 16777216 := Nat.le_trans (Nat.add_le_add_right h _) (by decide)
theorem fit2 {n : Nat} (h : n ≤ 2000002) : n + (0 + 1) + (0 + 1) ≤ 16777216 := Nat.le_trans (Nat.add_le_add_right (Nat.add_le_add_right h _) _) (by decide)
theorem fit3 {n : Nat} (h : n ≤ 2000002) : n + (0 + 1) + (0 + 1) + (0 + 1) ≤ 16777216 := Nat.le_trans (Nat.add_le_add_right (Nat.add_le_add_right (Nat.add_le_add_right h _) _) _) (by decide)
local macro_rules | `(tactic| size_fits) => `(tactic| first | ((rename List.length _ ≤ 2000002 => hS9); (simp only [List.push_toArray, Array.size_push, List.size_toArray, List.length_append, List.length_cons, List.length_nil, PySem.sizeLine_eq]); first | exact fit0 hS9 | exact fit1 hS9 | exact fit2 hS9 | exact fit3 hS9) | fail "no")
theorem setB2A1 : True := by
  k_with "my_enter" => ((case k1 => assumption); (case k6 => k_is); (case k7 => k_is); (case k8 => (dsimp only; omega)); (case k9 => first | exact BindsTo.of_eq rfl | (refine' kp_binds ?kx ?ke; (case kx => exact Gd.X (by assumption)); (case ke => exact fun _ => rfl)) | exact binds_K (Gd.X (by assumption)) rfl (by k_is) rfl rfl rfl); (case c5 => decide); (case kB => exact locs rfl); (case c2 => exact rfl); (case c3 => exact rfl); (case c4 => exact rfl); intro g' L' h' tk' hg' F' N' X' T'; (dsimp only [mapOf] at F'); (try dsimp only); (try k_fold))
  k_with "call ref" => ((first | refine' Spec.use (sp_buffer _ _) ?kF ?kN ?kX ?kT ?kd ?ku ?kp ?_ | refine' Spec.use (sp_ascii_buffer _ _) ?kF ?kN ?kX ?kT ?kd ?ku ?kp ?_ | refine' Spec.use (sp_truth _) ?kF ?kN ?kX ?kT ?kd ?ku ?kp ?_ | refine' Spec.use (sp_bytes_from _ _) ?kF ?kN ?kX ?kT ?kd ?ku ?kp ?_); walk_at "my_use"; intro v' h' tk' F' N' st' hv'; subst hv'; (try dsimp only); (try k_fold))
  k_with "binaryOp BitOr int int" => ((refine or_int_eq (or_disj _ (by first | omega | assumption) (by first | omega | assumption) (by first | omega | assumption)) ?_); (try dsimp only))
  k_with "subscriptTail" => (((with_reducible show wpAny _ _ (subscriptTail _ _ (Value.bytes _ _) (Value.int _ _)) _ _ _); refine b64_item (by decide +kernel) (by decide +kernel) (by first | omega | (show 0 ≤ _ * (16 : Int); omega) | (show 0 ≤ _ * (4 : Int); omega)) (by first | omega | (show _ * (16 : Int) < 64; omega) | (show _ * (4 : Int) < 64; omega)) ?_); (try dsimp only))
  k_with "binaryOp RShift int int" => ((refine shr_int_eq (by omega) ?_); (try dsimp only))
  k_with "binaryOp BitAnd int int" => ((first | refine and_int_eq (bitAnd_m6 _) ?_ | refine and_int_eq (bitAnd_m4 _) ?_ | refine and_int_eq (bitAnd_m2 _) ?_ | refine and_int_eq (bitAnd_m16 _) ?_); (try dsimp only))
  k_with "binaryOp LShift int int" => ((with_reducible refine shl_small (by omega) (by omega) (by omega) (by omega) ?_); (try dsimp only))
  k_with "my_side" => first | assumption | exact trivial | omega | (dsimp only [Around.deeper, Around.in1]; omega)
  k_with "my_use" => ((case kF => k_asm); (case kN => k_asm); (case kX => k_asm); (case kT => k_asm); (case kd => walk_at "my_side"); (case ku => walk_at "my_side"); (case kp => walk_at "my_side"))
  trivial
theorem b2a_bound {b : Array UInt8} (h : b.size ≤ 1000000) : (∀ n ∈ enc64 (KBw.bInts b), 0 ≤ n ∧ n < 256) ∧ (enc64 (KBw.bInts b)).length ≤ 10000000 := by
  refine ⟨fun n hn => by have := enc64_range _ n hn; omega, ?_⟩
  unfold enc64 figs
  rw [List.length_append, List.length_map, List.length_replicate, digs_length, KBw.ints_length]
  omega
theorem sp_b2a : ∀ {w : World} (b : Array UInt8) (t : Tok), Spec PySem.Challenge.rw_qh0091_01.row.toRowW.prog w (K0 w.params) 86 ⟨[.bytes b t], [(Str.ofString "newline", .bool false)]⟩ 2 (fun _ => b.size ≤ 1000000) (fun _ _ v => ∃ t, v = .bytes (byteArr (enc64 (KBw.bInts b))) t) := by
  k_fill
  intro w b t p loose mean mg mb dp un fr gd s R G hdp hu hpre hret
  refine' enterG [(Str.ofString "newline", .bool false), (Str.ofString "data", .bytes b t)] ?k1 ?k6 ?k7 ?k8 ?k9 ?kB ?_ ?c5 ?c2 ?c3 ?c4
  walk_at "my_enter"
  k_steps
  (rename Fr _ _ _ _ => F1); (rename News _ _ _ _ => N1)
  refine' KStb.kst_bytes (σ := Int × Tok × Int × Tok × List Value × List Int × Nat) (fun c => [(_, W.listOf c.2.2.2.2.1.toArray c.2.2.2.2.2.2)]) (fun c => [(Str.ofString "leftbits", .int c.1 c.2.1), (Str.ofString "leftchar", .int c.2.2.1 c.2.2.2.1)]) (fun c => IntsAre c.2.2.2.2.1 c.2.2.2.2.2.1) [] (fun pre c => b2aI pre c.1 c.2.2.1 c.2.2.2.2.2.1) (0, _, 0, _, [], [], 0) rfl rfl rfl F1 N1 .nil ?kk b2aI_start ?_ ?_
  case kk => kst_all
  · clear F1 N1
    rintro ⟨lb, t1, lc, t2, vs, out, ep⟩ pre post n tn u h tk own kEq kLen kLo kHi kOff kFacts kInv kFr kNews
    dsimp only [kstB] at kFr
    dsimp only at kNews kOff kFacts kInv
    simp only [List.cons_append, List.nil_append, List.map_cons, List.map_nil] at kNews kOff
    have kMark := kstMark
    obtain ⟨hc, h0, h1⟩ := b2aI_lb kInv
    have hvl : vs.length = out.length := IntsAre.length kFacts
    have hol : out.length ≤ 2 * pre.length := b2aI_len kInv
    have hbl : pre.length < 1000001 := by rw [KBw.ints_length] at kLen; omega
    have hsz : vs.toArray.size ≤ 2000002 := by rw [List.size_toArray]; omega
    have hvn : vs.length ≤ 2000002 := by rw [List.size_toArray] at hsz; exact hsz
    try k_fold
    rcases hc with hc | hc | hc
    · subst hc
      k_with "state" => exact b2aI_step0 (by assumption) (by assumption) (by assumption)
      k_steps
    · subst hc
      k_with "state" => exact b2aI_step2 (by assumption) (by assumption) (by assumption)
      k_steps
    · subst hc
      k_with "state" => exact b2aI_step4 (by assumption) (by assumption) (by assumption)
      k_steps
  · clear F1 N1
    rintro ⟨lb, t1, lc, t2, vs, out, ep⟩ u h tk kLen kFacts kInv kFr kNews
    dsimp only [kstB] at kFr
    dsimp only at kNews kFacts kInv
    have kMark := kstMark
    obtain ⟨hc, h0, h1⟩ := b2aI_lb kInv
    have hvl : vs.length = out.length := IntsAre.length kFacts
    have hol : out.length ≤ 2 * (KBw.bInts b).length := b2aI_len kInv
    have hsz : vs.toArray.size ≤ 2000002 := by rw [KBw.ints_length] at hol; rw [List.size_toArray]; omega
    have hvn : vs.length ≤ 2000002 := by rw [List.size_toArray] at hsz; exact hsz
    have hel := b2a_bound (b := b) hpre
    rcases hc with hc | hc | hc
    · subst hc
      k_steps
      refine bytes_K (by assumption) (by assumption) (by k_mem) (ns := enc64 (KBw.bInts b)) (by rw [← b2aI_end0 kInv]; assumption) hel.1 hel.2 rfl ?_
      intro _ _ _ _ _ _
      exact hret _ _ _ (stays_of (by assumption) (by assumption)) ⟨_, rfl⟩
    · subst hc
      k_steps
      (rename News _ _ _ _ => N9); simp only [List.push_toArray] at N9
      refine bytes_K (by assumption) N9 (by k_mem) (ns := enc64 (KBw.bInts b)) (by rw [← b2aI_end2 kInv]; k_intsEnd) hel.1 hel.2 rfl ?_
      intro _ _ _ _ _ _
      exact hret _ _ _ (stays_of (by assumption) (by assumption)) ⟨_, rfl⟩
    · subst hc
      k_steps
      (rename News _ _ _ _ => N9); simp only [List.push_toArray] at N9
      refine bytes_K (by assumption) N9 (by k_mem) (ns := enc64 (KBw.bInts b)) (by rw [← b2aI_end4 kInv]; k_intsEnd) hel.1 hel.2 rfl ?_
      intro _ _ _ _ _ _
      exact hret _ _ _ (stays_of (by assumption) (by assumption)) ⟨_, rfl⟩
end Mine
end
section
open PySem PySem.W PyProof.Rows
namespace Mine
noncomputable def b64v (c : Int) : Int := if 65 ≤ c ∧ c ≤ 90 then c - 65 else if 97 ≤ c ∧ c ≤ 122 then c - 71 else if 48 ≤ c ∧ c ≤ 57 then c + 4 else if c = 43 then 62 else if c = 47 then 63 else 64
theorem b64v_range (c : Int) : 0 ≤ b64v c ∧ b64v c ≤ 64 := by
  unfold b64v
  repeat' split
  all_goals omega
/-- a turn of a2b_base64: it goes on with a state, it leaves the loop with one, it raises -/
inductive Stp where
  | go (q l p : Int) (out : List Int)
  | brk (q l p : Int) (out : List Int)
  | err
noncomputable def a2bStep (strict : Bool) (q l p : Int) (out : List Int) (c : Int) : Stp :=
  if c = 61 then
    if 2 ≤ q ∧ q + (p + 1) ≤ 4 then .go q l (p + 1) out
    else if strict = false then .go q l (p + 1) out
    else if q = 1 then .brk q l (p + 1) out
    else .err
  else if 64 ≤ b64v c then (if strict = true then .err else .go q l p out)
  else if p ≠ 0 ∧ strict = true then .err
  else if q = 0 then .go 1 (b64v c) 0 out
  else if q = 1 then .go 2 (b64v c % 16) 0 (out ++ [l * 4 + b64v c / 16])
  else if q = 2 then .go 3 (b64v c % 4) 0 (out ++ [l * 16 + b64v c / 4])
  else .go 0 0 0 (out ++ [l * 64 + b64v c])
noncomputable def a2bFold (strict : Bool) : List Int → Stp → Stp
  | [], x => x
  | c :: r, .go q l p out => a2bFold strict r (a2bStep strict q l p out c)
  | _ :: _, x => x
theorem a2bFold_brk (strict : Bool) (q l p : Int) (out : List Int) : ∀ r, a2bFold strict r (.brk q l p out) = .brk q l p out
  | [] => rfl
  | _ :: _ => rfl
theorem a2bFold_err (strict : Bool) : ∀ r, a2bFold strict r .err = .err
  | [] => rfl
  | _ :: _ => rfl
theorem a2bFold_append (strict : Bool) : ∀ (a b : List Int) (x : Stp), a2bFold strict (a ++ b) x = a2bFold strict b (a2bFold strict a x)
  | [], _, _ => rfl
  | _ :: r, b, .go q l p out => a2bFold_append strict r b _
  | _ :: _, b, .brk q l p out => (a2bFold_brk strict q l p out b).symm
  | _ :: _, b, .err => (a2bFold_err strict b).symm
/-- what a2b_base64 gives: the octets, or the Error -/
noncomputable def a2b (strict : Bool) (data : List Int) : Option (List Int) :=
  match a2bFold strict data (.go 0 0 0 []) with
  | .go q _ p out => if q = 1 then none else if q ≠ 0 ∧ q + p < 4 then none else some out
  | .brk _ _ _ _ => none
  | .err => none
noncomputable def A2R (q l : Int) (out : List Int) : Prop := (∀ v ∈ out, 0 ≤ v ∧ v < 256) ∧ 0 ≤ l ∧ ((q = 0 ∧ l = 0) ∨ (q = 1 ∧ l < 64) ∨ (q = 2 ∧ l < 16) ∨ (q = 3 ∧ l < 4))
noncomputable def A2I (strict : Bool) (pre : List Int) (q l p : Int) (out : List Int) : Prop := a2bFold strict pre (.go 0 0 0 []) = .go q l p out ∧ A2R q l out ∧ 0 ≤ p ∧ out.length ≤ pre.length
theorem A2I_start (strict : Bool) : A2I strict [] 0 0 0 [] := ⟨rfl, ⟨(fun _ h => nomatch h), by omega, by omega⟩, by omega, Nat.le_refl _⟩
theorem A2R_out {out : List Int} {v : Int} (h : ∀ v ∈ out, 0 ≤ v ∧ v < 256) (h0 : 0 ≤ v) (h1 : v < 256) : ∀ x ∈ out ++ [v], 0 ≤ x ∧ x < 256 := by
  intro x hx
  rcases List.mem_append.mp hx with g | g
  · exact h x g
  · rw [List.mem_singleton.mp g]; exact ⟨h0, h1⟩
theorem A2R_step {strict : Bool} {q l p c q' l' p' : Int} {out out' : List Int} (h : A2R q l out) (hp : 0 ≤ p) (hs : a2bStep strict q l p out c = .go q' l' p' out') : A2R q' l' out' ∧ 0 ≤ p' ∧ out'.length ≤ out.length + 1 := by
  obtain ⟨h1, h2, h3⟩ := h
  have hb := b64v_range c
  unfold a2bStep at hs
  repeat' split at hs
  all_goals first
    | (cases hs; done)
    | (cases hs; exact ⟨⟨h1, by omega, by omega⟩, by omega, by omega⟩)
    | (cases hs; exact ⟨⟨A2R_out h1 (by omega) (by omega), by omega, by omega⟩, by omega, by simp⟩)
theorem A2I_turn {strict : Bool} {pre : List Int} {q l p c q' l' p' : Int} {out out' : List Int} (h : A2I strict pre q l p out) (hs : a2bStep strict q l p out c = .go q' l' p' out') : A2I strict (pre ++ [c]) q' l' p' out' := by
  obtain ⟨h1, h2, h3, h4⟩ := h
  obtain ⟨r1, r2, r3⟩ := A2R_step h2 h3 hs
  refine ⟨?_, r1, r2, by simp only [List.length_append, List.length_singleton]; omega⟩
  rw [a2bFold_append, h1]
  exact hs
theorem A2I_err {strict : Bool} {pre post : List Int} {q l p c : Int} {out : List Int} (h : A2I strict pre q l p out) (hs : a2bStep strict q l p out c = .err) : a2b strict (pre ++ c :: post) = none := by
  unfold a2b
  rw [a2bFold_append, h.1]
  show (match a2bFold strict post (a2bStep strict q l p out c) with | .go q _ p out => _ | .brk _ _ _ _ => none | .err => none) = none
  rw [hs, a2bFold_err]
theorem A2I_brk {strict : Bool} {pre post : List Int} {q l p c q' l' p' : Int} {out out' : List Int} (h : A2I strict pre q l p out) (hs : a2bStep strict q l p out c = .brk q' l' p' out') : a2b strict (pre ++ c :: post) = none := by
  unfold a2b
  rw [a2bFold_append, h.1]
  show (match a2bFold strict post (a2bStep strict q l p out c) with | .go q _ p out => _ | .brk _ _ _ _ => none | .err => none) = none
  rw [hs, a2bFold_brk]
theorem A2I_end {strict : Bool} {pre : List Int} {q l p : Int} {out : List Int} (h : A2I strict pre q l p out) : a2b strict pre = if q = 1 then none else if q ≠ 0 ∧ q + p < 4 then none else some out := by
  unfold a2b
  rw [h.1]
end Mine
end
section
open PySem PySem.W PyProof.Rows
namespace Mine
theorem setG30 : True := by
  k_with_none
  k_with "call type:type" => ((with_reducible show wpAny _ _ (call (Value.type "type") [Value.bytes _ _]) _ _ _); refine call_type_of (Tx := "bytes") rfl (by decide +kernel) ?_)
  k_with "my_enter" => ((case k1 => assumption); (case k6 => k_is); (case k7 => k_is); (case k8 => (dsimp only; omega)); (case k9 => first | exact BindsTo.of_eq rfl | (refine' kp_binds ?kx ?ke; (case kx => exact Gd.X (by assumption)); (case ke => exact fun _ => rfl)) | exact binds_K (Gd.X (by assumption)) rfl (by k_is) rfl rfl rfl); (case c5 => decide); (case kB => exact locs rfl); (case c2 => exact rfl); (case c3 => exact rfl); (case c4 => exact rfl); intro g' L' h' tk' hg' F' N' X' T'; (dsimp only [mapOf] at F'); (try dsimp only); (try k_fold))
  trivial
theorem b64v_1 {c : Int} (h : 65 ≤ c) (h' : c ≤ 90) : b64v c = c - 65 := by unfold b64v; rw [if_pos ⟨h, h'⟩]
theorem b64v_2 {c : Int} (h : 97 ≤ c) (h' : c ≤ 122) : b64v c = c - 71 := by unfold b64v; rw [if_neg (by omega), if_pos ⟨h, h'⟩]
theorem b64v_3 {c : Int} (h : 48 ≤ c) (h' : c ≤ 57) : b64v c = c + 4 := by unfold b64v; rw [if_neg (by omega), if_neg (by omega), if_pos ⟨h, h'⟩]
theorem b64v_4 {c : Int} (h : c = 43) : b64v c = 62 := by subst h; rfl
theorem b64v_5 {c : Int} (h : c = 47) : b64v c = 63 := by subst h; rfl
theorem b64v_6 {c : Int} (h1 : ¬ (65 ≤ c ∧ c ≤ 90)) (h2 : ¬ (97 ≤ c ∧ c ≤ 122)) (h3 : ¬ (48 ≤ c ∧ c ≤ 57)) (h4 : c ≠ 43) (h5 : c ≠ 47) : b64v c = 64 := by
  unfold b64v; rw [if_neg h1, if_neg h2, if_neg h3, if_neg h4, if_neg h5]
theorem sp_b64v : ∀ {w : World} (c : Int) (t : Tok), Spec PySem.Challenge.rw_qh0091_01.row.toRowW.prog w (K0 w.params) 70 ⟨[.int c t], []⟩ 1 (fun _ => True) (fun _ _ v => ∃ t, v = .int (b64v c) t) := by
  k_fill
  intro w c t p loose mean mg mb dp un fr gd s R G hdp hu hpre hret
  refine' enterG [(Str.ofString "c", .int c t)] ?k1 ?k6 ?k7 ?k8 ?k9 ?kB ?_ ?c5 ?c2 ?c3 ?c4
  walk_at "my_enter"
  k_steps
  all_goals first
    | (rw [b64v_1 (by assumption) (by assumption)] at hret; exact hret _ _ _ (stays_of (by assumption) (by assumption)) ⟨_, rfl⟩)
    | (rw [b64v_2 (by assumption) (by assumption)] at hret; exact hret _ _ _ (stays_of (by assumption) (by assumption)) ⟨_, rfl⟩)
    | (rw [b64v_3 (by assumption) (by assumption)] at hret; exact hret _ _ _ (stays_of (by assumption) (by assumption)) ⟨_, rfl⟩)
    | (rw [b64v_4 (by assumption)] at hret; exact hret _ _ _ (stays_of (by assumption) (by assumption)) ⟨_, rfl⟩)
    | (rw [b64v_5 (by assumption)] at hret; exact hret _ _ _ (stays_of (by assumption) (by assumption)) ⟨_, rfl⟩)
    | (rw [b64v_6 (by omega) (by omega) (by omega) (by omega) (by omega)] at hret; exact hret _ _ _ (stays_of (by assumption) (by assumption)) ⟨_, rfl⟩)
end Mine
end
section
open PySem PySem.W PyProof.Rows
namespace Mine
/-- a contract of a def that may raise the text's own Error -/
noncomputable def SpecR (prog : Program) (w : World) (K : Frag) (f : Addr) (args : Args) (d : Nat) (pre : Heap → Prop) (P : Heap → Heap → Value → Prop) (Err : Prop) : Prop :=
  ∀ (p : Program) (loose : List Str) (mean : ExcName → Option Value) (mg mb : Str → Option Value) (dp un : Nat) (outer : List Env) (gd : Option (List Code)) (base : Heap) (s : Shared) (R : Result → Shared → Prop),
    Gd K p loose mean mg mb s.heap → Below ⟨none, dp, some outer, gd, un⟩ base outer s.heap → dp + d < recursionLimit → un + 8 * d + 8 < cLine → pre s.heap →
    (∀ v h' tk', s.heap.StaysIn h' → P s.heap h' v → R (.ok (.ret v)) { s with heap := h', toks := tk' }) →
    (∀ e t vs h' tk', Err → RaisedS base s.heap outer e (.ref 39) t vs [] h' → s.heap.UpToSlots h' → R (.error (.ref e)) { s with heap := h', toks := tk' }) →
    codeAny (model prog w) ⟨none, dp, some outer, gd, un⟩ (.call (.ref f) args) R s
section
variable {prog : Program} {w : World} {K : Frag} {E : Value → Shared → Prop} {Q : Value → Shared → Prop} {s : Shared} {g base : Heap} {L a : Addr} {m mg mb : Str → Option Value} {news : List (Addr × Obj)} {p : Program} {loose : List Str} {mean : ExcName → Option Value} {name : Str} {scope : Scope} {cd : Value} {outer : List Env} {dp un : Nat} {gd : Option (List Code)}
theorem SpecR.use {f : Addr} {vs : List Value} {kw : List (Str × Value)} {d : Nat} {pre : Heap → Prop} {P : Heap → Heap → Value → Prop} {Err : Prop} (S : SpecR prog w K f ⟨vs, kw⟩ d pre P Err)
    (B : Below ⟨none, dp, some outer, gd, un⟩ base outer g) (F : Fr g L s.heap m) (N : News g L s.heap news) (X : K.In g) (T : Top p loose mean mg mb g) (hd : dp + 1 + d < recursionLimit) (hu : un + 3 + 8 * d + 8 < cLine) (hp : pre s.heap) (hk : scope.kind = .function)
    (h : ∀ v h' tk', Fr g L h' m → News g L h' news → s.heap.StaysIn h' → P s.heap h' v → Q v { s with heap := h', toks := tk' })
    (hE : ∀ e t vs h' tk', Err → RaisedS base s.heap (envOf name scope L a cd :: outer) e (.ref 39) t vs [] h' → s.heap.UpToSlots h' → E (.ref e) { s with heap := h', toks := tk' }) :
    wpAny (model prog w) ((⟨none, dp, some outer, gd, un⟩ : Around).deeper (envOf name scope L a cd)) (call (.ref f) vs kw) Q E s :=
  wpAny_call (S p loose mean mg mb (dp + 1) (un + 3) (envOf name scope L a cd :: outer) gd base s _ ⟨X.keeps F.keep, T.keeps F.keep⟩ (B.push F hk) hd hu hp
    (fun v h' tk' k hP => h v h' tk' (Fr.after_stays F k) (News.after_stays N k) k hP) hE)
end
end Mine
end
section
open PySem PySem.W PyProof.Rows
namespace Mine
theorem setA2B0 : True := by
  k_with_none
  k_with "call type:type" => ((with_reducible show wpAny _ _ (call (Value.type "type") [Value.bytes _ _]) _ _ _); refine call_type_of (Tx := "bytes") rfl (by decide +kernel) ?_)
  trivial
section
variable {strict : Bool} {q l p c : Int} {out : List Int}
theorem st_pad1 (h : c = 61) (h1 : 2 ≤ q) (h2 : q + (p + 1) ≤ 4) : a2bStep strict q l p out c = .go q l (p + 1) out := by unfold a2bStep; rw [if_pos h, if_pos ⟨h1, h2⟩]
theorem st_pad2 (h : c = 61) (h1 : strict = false) : a2bStep strict q l p out c = .go q l (p + 1) out := by
  unfold a2bStep; rw [if_pos h, if_pos h1]; split <;> rfl
theorem st_bad (h : c ≠ 61) (h1 : 64 ≤ b64v c) (h2 : strict = false) : a2bStep strict q l p out c = .go q l p out := by
  unfold a2bStep; rw [if_neg h, if_pos h1, if_neg (by rw [h2]; decide)]
theorem st_0 (h : c ≠ 61) (h1 : b64v c < 64) (h2 : p = 0 ∨ strict = false) (hq : q = 0) : a2bStep strict q l p out c = .go 1 (b64v c) 0 out := by
  unfold a2bStep; rw [if_neg h, if_neg (by omega), if_neg (by rintro ⟨a, b⟩; rcases h2 with e | e; exact a e; rw [b] at e; cases e), if_pos hq]
theorem st_1 (h : c ≠ 61) (h1 : b64v c < 64) (h2 : p = 0 ∨ strict = false) (hq : q = 1) : a2bStep strict q l p out c = .go 2 (b64v c % 16) 0 (out ++ [l * 4 + b64v c / 16]) := by
  unfold a2bStep; rw [if_neg h, if_neg (by omega), if_neg (by rintro ⟨a, b⟩; rcases h2 with e | e; exact a e; rw [b] at e; cases e), if_neg (by omega), if_pos hq]
theorem st_2 (h : c ≠ 61) (h1 : b64v c < 64) (h2 : p = 0 ∨ strict = false) (hq : q = 2) : a2bStep strict q l p out c = .go 3 (b64v c % 4) 0 (out ++ [l * 16 + b64v c / 4]) := by
  unfold a2bStep; rw [if_neg h, if_neg (by omega), if_neg (by rintro ⟨a, b⟩; rcases h2 with e | e; exact a e; rw [b] at e; cases e), if_neg (by omega), if_neg (by omega), if_pos hq]
theorem st_3 (h : c ≠ 61) (h1 : b64v c < 64) (h2 : p = 0 ∨ strict = false) (q0 : q ≠ 0) (q1 : q ≠ 1) (q2 : q ≠ 2) : a2bStep strict q l p out c = .go 0 0 0 (out ++ [l * 64 + b64v c]) := by
  unfold a2bStep; rw [if_neg h, if_neg (by omega), if_neg (by rintro ⟨a, b⟩; rcases h2 with e | e; exact a e; rw [b] at e; cases e), if_neg q0, if_neg q1, if_neg q2]
theorem st_err1 (h : c = 61) (h1 : ¬ (2 ≤ q ∧ q + (p + 1) ≤ 4)) (h2 : strict = true) (h3 : q ≠ 1) : a2bStep strict q l p out c = .err := by
  unfold a2bStep; rw [if_pos h, if_neg h1, if_neg (by rw [h2]; decide), if_neg h3]
theorem st_brk (h : c = 61) (h1 : ¬ (2 ≤ q ∧ q + (p + 1) ≤ 4)) (h2 : strict = true) (h3 : q = 1) : a2bStep strict q l p out c = .brk q l (p + 1) out := by
  unfold a2bStep; rw [if_pos h, if_neg h1, if_neg (by rw [h2]; decide), if_pos h3]
theorem st_err2 (h : c ≠ 61) (h1 : 64 ≤ b64v c) (h2 : strict = true) : a2bStep strict q l p out c = .err := by
  unfold a2bStep; rw [if_neg h, if_pos h1, if_pos h2]
theorem st_err3 (h : c ≠ 61) (h1 : b64v c < 64) (h2 : p ≠ 0) (h3 : strict = true) : a2bStep strict q l p out c = .err := by
  unfold a2bStep; rw [if_neg h, if_neg (by omega), if_pos ⟨h2, h3⟩]
theorem orA1 {x : Int} (hl : 0 ≤ l) (hx : 0 ≤ x) (hx' : x < 64) : Builtin.bitOr (l * 2 ^ Int.toNat 2) (x / 2 ^ Int.toNat 4) = l * 4 + x / 16 := or_disj 2 hl (by show 0 ≤ x / 16; omega) (by show x / 16 < 4; omega)
theorem orA2 {x : Int} (hl : 0 ≤ l) (hx : 0 ≤ x) (hx' : x < 64) : Builtin.bitOr (l * 2 ^ Int.toNat 4) (x / 2 ^ Int.toNat 2) = l * 16 + x / 4 := or_disj 4 hl (by show 0 ≤ x / 4; omega) (by show x / 4 < 16; omega)
theorem orA3 {x : Int} (hl : 0 ≤ l) (hx : 0 ≤ x) (hx' : x < 64) : Builtin.bitOr (l * 2 ^ Int.toNat 6) x = l * 64 + x := or_disj 6 hl hx hx'
variable {prog : Program} {w : World} {A : Around} {E : Value → Shared → Prop} {Q : Value → Shared → Prop} {s : Shared} {t u : Tok}
theorem or_sA1 {x : Int} (hl : 0 ≤ l) (hx : 0 ≤ x) (hx' : x < 64) (h : Q (.int (l * 4 + x / 16) s.toks) { s with toks := s.toks + 1 }) : wpAny (model prog w) A (binaryOp .BitOr (.int (l * 2 ^ Int.toNat 2) t) (.int (x / 2 ^ Int.toNat 4) u)) Q E s := or_int_eq (orA1 hl hx hx') h
theorem or_sA2 {x : Int} (hl : 0 ≤ l) (hx : 0 ≤ x) (hx' : x < 64) (h : Q (.int (l * 16 + x / 4) s.toks) { s with toks := s.toks + 1 }) : wpAny (model prog w) A (binaryOp .BitOr (.int (l * 2 ^ Int.toNat 4) t) (.int (x / 2 ^ Int.toNat 2) u)) Q E s := or_int_eq (orA2 hl hx hx') h
theorem or_sA3 {x : Int} (hl : 0 ≤ l) (hx : 0 ≤ x) (hx' : x < 64) (h : Q (.int (l * 64 + x) s.toks) { s with toks := s.toks + 1 }) : wpAny (model prog w) A (binaryOp .BitOr (.int (l * 2 ^ Int.toNat 6) t) (.int x u)) Q E s := or_int_eq (orA3 hl hx hx') h
end
local macro_rules | `(tactic| size_fits) => `(tactic| first | ((rename List.length _ ≤ 2000002 => hS9); (simp only [List.push_toArray, Array.size_push, List.size_toArray, List.length_append, List.length_cons, List.length_nil, PySem.sizeLine_eq]); first | exact fit0 hS9 | exact fit1 hS9 | exact fit2 hS9 | exact fit3 hS9) | fail "no")
theorem mod_msg {prog : Program} {w : World} {A : Around} {E : Value → Shared → Prop} {Q : Value → Shared → Prop} {s : Shared} {t u : Tok} {n : Int} (h0 : 0 ≤ n) (h1 : n < 10 ^ 10) (h : ∀ x t' k, Q (.str x t') { s with toks := k }) :
    wpAny (model prog w) A (binaryOp .Mod (.str (Str.ofString "Invalid base64-encoded string: number of data characters (%d) cannot be 1 more than a multiple of 4") t) (.int n u)) Q E s := by
  refine' KPc.mod_int ?a ?b ?c ?d ?e
  case a => kpc_eq
  case b => exact h0
  case c => exact h1
  case d => k_dflt kpc_run
  case e => exact fun _ _ => h _ _ _
theorem setA2B1 : True := by
  k_with "binaryOp Mod str int" => ((with_reducible refine' mod_msg ?k1 ?k2 ?_); (case k1 => kpc_fact); (case k2 => kpc_fact); intro _ _ _; (try dsimp only))
  k_with "my_enter" => ((case k1 => assumption); (case k6 => k_is); (case k7 => k_is); (case k8 => (dsimp only; omega)); (case k9 => first | exact BindsTo.of_eq rfl | (refine' kp_binds ?kx ?ke; (case kx => exact Gd.X (by assumption)); (case ke => exact fun _ => rfl)) | exact binds_K (Gd.X (by assumption)) rfl (by k_is) rfl rfl rfl); (case c5 => decide); (case kB => exact locs rfl); (case c2 => exact rfl); (case c3 => exact rfl); (case c4 => exact rfl); intro g' L' h' tk' hg' F' N' X' T'; (dsimp only [mapOf] at F'); (try dsimp only); (try k_fold))
  k_with "call ref" => ((first | refine' Spec.use (sp_buffer _ _) ?kF ?kN ?kX ?kT ?kd ?ku ?kp ?_ | refine' Spec.use (sp_ascii_buffer _ _) ?kF ?kN ?kX ?kT ?kd ?ku ?kp ?_ | refine' Spec.use (sp_truth _) ?kF ?kN ?kX ?kT ?kd ?ku ?kp ?_ | refine' Spec.use (sp_bytes_from _ _) ?kF ?kN ?kX ?kT ?kd ?ku ?kp ?_); walk_at "my_use"; intro v' h' tk' F' N' st' hv'; subst hv'; (try dsimp only); (try k_fold))
  k_with "call ref" => ((refine' Spec.use (sp_b64v _ _) ?kF ?kN ?kX ?kT ?kd ?ku ?kp ?_); walk_at "my_use"; intro v' h' tk' F' N' st' hv'; (obtain ⟨t', hv'⟩ := hv'); subst hv'; (try dsimp only); (try k_fold))
  k_with "binaryOp BitOr int int" => ((first | with_reducible apply or_sA1 | with_reducible apply or_sA2 | with_reducible apply or_sA3); (omega); (omega); (omega); (try dsimp only))
  k_with "binaryOp RShift int int" => ((refine shr_int_eq (by omega) ?_); (try dsimp only))
  k_with "binaryOp BitAnd int int" => ((first | refine and_int_eq (bitAnd_m4 _) ?_ | refine and_int_eq (bitAnd_m2 _) ?_); (try dsimp only))
  k_with "leaving ref" => (refine' leave_raiseS ?k1 ?k0 ?k2 ?k3 ?_; (case k0 => assumption); (case k1 => assumption); (case k2 => assumption); (case k3 => k_asm); intro h' t' R' R2' U'; clear R2'; (try dsimp only at R' U' ⊢))
  k_with "binaryOp LShift int int" => ((with_reducible refine shl_small (by omega) (by omega) (by omega) (by omega) ?_); (try dsimp only))
  k_with "my_side" => first | assumption | exact trivial | omega | (dsimp only [Around.deeper, Around.in1]; omega)
  k_with "my_use" => ((case kF => k_asm); (case kN => k_asm); (case kX => k_asm); (case kT => k_asm); (case kd => walk_at "my_side"); (case ku => walk_at "my_side"); (case kp => walk_at "my_side"))
  trivial
theorem RaisedS.nil {base G : Heap} {l : List Env} {e : Addr} {cls : Value} {t : Addr} {vs : List Value} {news : List (Addr × Obj)} {h : Heap} (R : RaisedS base G l e cls t vs news h) : RaisedS base G l e cls t vs [] h := by
  obtain ⟨⟨B, h1, h2, _, h4⟩, h5⟩ := R
  exact ⟨⟨B, h1, h2, (fun _ hq => nomatch hq), h4⟩, h5⟩
theorem at_g {g h0 : Heap} (e : g = h0) {P : Heap → Prop} (h : P h0) : P g := e ▸ h
theorem sp_a2b : ∀ {w : World} (strict : Bool) (b : Array UInt8) (t : Tok), SpecR PySem.Challenge.rw_qh0091_01.row.toRowW.prog w (K0 w.params) 78 ⟨[.bytes b t], [(Str.ofString "strict_mode", .bool strict)]⟩ 2 (fun _ => b.size ≤ 1000000) (fun _ _ v => ∃ out t, a2b strict (KBw.bInts b) = some out ∧ v = .bytes (byteArr out) t) (a2b strict (KBw.bInts b) = none) := by
  k_fill
  intro w strict b t p loose mean mg mb dp un outer gd base s R G B hdp hu hpre hret herr
  refine' enterG [(Str.ofString "strict_mode", .bool strict), (Str.ofString "data", .bytes b t)] ?k1 ?k6 ?k7 ?k8 ?k9 ?kB ?_ ?c5 ?c2 ?c3 ?c4
  walk_at "my_enter"
  (rename _ = Shared.heap _ => hg1)
  rw [← hg1] at B
  replace herr := at_g hg1 (P := fun H => ∀ e t vs h' tk', a2b strict (KBw.bInts b) = none → RaisedS base H outer e (.ref 39) t vs [] h' → H.UpToSlots h' → R (.error (.ref e)) { s with heap := h', toks := tk' }) herr
  k_steps
  (rename Fr _ _ _ _ => F1); (rename News _ _ _ _ => N1)
  refine' KStb.kst_bytes (σ := Int × Tok × Int × Tok × Int × Tok × Int × Tok × List Value × List Int × Nat) (fun c => [(_, W.listOf c.2.2.2.2.2.2.2.2.1.toArray c.2.2.2.2.2.2.2.2.2.2)]) (fun c => [(Str.ofString "quad_pos", .int c.1 c.2.1), (Str.ofString "leftchar", .int c.2.2.1 c.2.2.2.1), (Str.ofString "pads", .int c.2.2.2.2.1 c.2.2.2.2.2.1), (Str.ofString "i", .int c.2.2.2.2.2.2.1 c.2.2.2.2.2.2.2.1)]) (fun c => IntsAre c.2.2.2.2.2.2.2.2.1 c.2.2.2.2.2.2.2.2.2.1) [] (fun pre c => A2I strict pre c.1 c.2.2.1 c.2.2.2.2.1 c.2.2.2.2.2.2.2.2.2.1) (0, _, 0, _, 0, _, 0, _, [], [], 0) rfl rfl rfl F1 N1 .nil ?kk (A2I_start strict) ?_ ?_
  case kk => kst_all
  · clear F1 N1
    rintro ⟨q, t1, l, t2, pd, t3, i, t4, vs, out, ep⟩ pre post n tn u h tk own kEq kLen kLo kHi kOff kFacts kInv kFr kNews
    dsimp only [kstB] at kFr
    dsimp only at kNews kOff kFacts kInv
    simp only [List.cons_append, List.nil_append, List.map_cons, List.map_nil] at kNews kOff
    have kMark := kstMark
    have hvl : vs.length = out.length := IntsAre.length kFacts
    have hol : out.length ≤ pre.length := kInv.2.2.2
    have hbl : pre.length < 1000001 := by rw [KBw.ints_length] at kLen; omega
    have hsz : vs.toArray.size ≤ 2000002 := by rw [List.size_toArray]; omega
    have hvn : vs.length ≤ 2000002 := by rw [List.size_toArray] at hsz; exact hsz
    have hr0 := b64v_range n
    have hl0 : 0 ≤ l := kInv.2.1.2.1
    have hl1 : l < 64 := by have := kInv.2.1.2.2; omega
    try k_fold
    k_with "state" => first
      | exact A2I_turn (by assumption) (st_pad1 (by assumption) (by omega) (by omega))
      | exact A2I_turn (by assumption) (st_pad2 (by assumption) (by assumption))
      | exact A2I_turn (by assumption) (st_bad (by assumption) (by omega) (by assumption))
      | exact A2I_turn (by assumption) (st_0 (by assumption) (by omega) (by first | exact Or.inl (by assumption) | exact Or.inr (by assumption)) (by assumption))
      | exact A2I_turn (by assumption) (st_1 (by assumption) (by omega) (by first | exact Or.inl (by assumption) | exact Or.inr (by assumption)) (by assumption))
      | exact A2I_turn (by assumption) (st_2 (by assumption) (by omega) (by first | exact Or.inl (by assumption) | exact Or.inr (by assumption)) (by assumption))
      | exact A2I_turn (by assumption) (st_3 (by assumption) (by omega) (by first | exact Or.inl (by assumption) | exact Or.inr (by assumption)) (by assumption) (by assumption) (by assumption))
    k_steps
    all_goals first
      | (exact herr _ _ _ _ _ (by rw [kEq]; exact A2I_err kInv (st_err1 (by assumption) (by omega) (by assumption) (by assumption))) (RaisedS.nil (by assumption)) (by assumption))
      | (exact herr _ _ _ _ _ (by rw [kEq]; exact A2I_err kInv (st_err2 (by assumption) (by omega) (by assumption))) (RaisedS.nil (by assumption)) (by assumption))
      | (exact herr _ _ _ _ _ (by rw [kEq]; exact A2I_err kInv (st_err3 (by assumption) (by omega) (by assumption) (by assumption))) (RaisedS.nil (by assumption)) (by assumption))
      | (exact herr _ _ _ _ _ (by rw [kEq]; exact A2I_brk kInv (st_brk (by assumption) (by omega) (by assumption) (by assumption))) (RaisedS.nil (by assumption)) (by assumption))
      | (exfalso; omega)
  · clear F1 N1
    rintro ⟨q, t1, l, t2, pd, t3, i, t4, vs, out, ep⟩ u h tk kLen kFacts kInv kFr kNews
    dsimp only [kstB] at kFr
    dsimp only at kNews kFacts kInv
    have kMark := kstMark
    have hvl : vs.length = out.length := IntsAre.length kFacts
    have hol : out.length ≤ (KBw.bInts b).length := kInv.2.2.2
    have hbl : out.length ≤ 1000000 := by rw [KBw.ints_length] at hol; omega
    have hsz : vs.toArray.size ≤ 2000002 := by rw [List.size_toArray]; omega
    have hvn : vs.length ≤ 2000002 := by rw [List.size_toArray] at hsz; exact hsz
    have hend := A2I_end kInv
    k_steps
    all_goals first
      | (exact herr _ _ _ _ _ (by rw [hend, if_pos (by assumption)]) (RaisedS.nil (by assumption)) (by assumption))
      | (exact herr _ _ _ _ _ (by rw [hend, if_neg (by assumption), if_pos ⟨by assumption, by omega⟩]) (RaisedS.nil (by assumption)) (by assumption))
      | (refine bytes_K (by assumption) (by assumption) (by k_mem) (ns := out) (by assumption) kInv.2.1.1 (by omega) rfl ?_
         intro _ _ _ _ _ _
         exact hret _ _ _ (stays_of (by assumption) (by assumption)) ⟨_, _, by rw [hend, if_neg (by assumption), if_neg (by omega)], rfl⟩)
end Mine
end
section
open PySem PySem.W PyProof.Rows
namespace Mine
namespace BF
open Builtin
theorem slot_translate : Slot "bytes" "translate" "bytes.translate" :=
  .of (owner := "bytes") (n := "translate") (by rw [typeLookup_type, builtinLookup_eq_fast]; kernel_rfl) (by decide +kernel) (by decide +kernel) (by decide +kernel)
    (by first | exact .inl (by decide +kernel) | exact .inr (by decide +kernel)) (by rw [isSubtype_type]; kernel_rfl)
theorem type_translate : typeOf (.builtin "bytes.translate") = pure (.type "method_descriptor") := by show builtinType _ = _; rw [builtinType_eq_fast]; kernel_rfl
theorem entry_translate : entryFor table "bytes.translate" = some Builtin.«bytes.translate» := entryFor_of_tree (by kernel_rfl)
theorem args_translate (a b : Value) : argsOk "bytes.translate" ⟨[a, b], []⟩ := by
  unfold argsOk; rw [signature?_of (id := "bytes.translate") (n := ['e', 't', 'a', 'l', 's', 'n', 'a', 'r', 't']) (o := ['s', 'e', 't', 'y', 'b']) (by kernel_rfl) FB.owner_bytes]; kernel_rfl
end BF
/-- what bytes.translate gives by a table of 256 -/
noncomputable def trans (tb b : Array UInt8) : Array UInt8 := b.map fun c => tb.getD c.toNat c
section
variable {prog : Program} {w : World} {A : Around} {E : Value → Shared → Prop} {Q : Value → Shared → Prop} {s : Shared} {t u : Tok}
open Builtin
theorem same_bytes {b : Array UInt8} : Bytes.Kind.same .bytes (.bytes b t) = pure (.bytes b t) := by kernel_rfl
theorem meets_translate {b tb : Array UInt8} (ht : tb.size = 256) (hb : b.size ≤ sizeLine) :
    Meets («bytes.translate» ⟨[.bytes b t, .bytes tb u], []⟩) (fun _ R s => ∀ t' k, R (.ok (.ret (.bytes (trans tb b) t'))) { s with toks := k }) := by
  refine .of_wp fun prog w A R s hS => ?_
  have hS0 : ∀ t', R (.ok (.ret (.bytes (trans tb b) t'))) s := fun t' => hS t' s.toks
  show wpAny _ _ (Bytes.bytesLike "bytes.translate" (.bytes tb u) >>= fun t => _) _ _ s
  refine wpAny_bind (wpAny_of_eq KBd.like_eq ?_)
  have h256 : (tb.size != 256) = false := by rw [ht]; rfl
  have hf : Array.filter (fun x => !(#[] : Array UInt8).contains x) b = b := by
    apply Array.filter_eq_self.mpr
    intro x _
    simp
  dsimp only
  rw [h256]
  simp only [Bool.false_eq_true, if_false, pure_bind]
  show wpAny _ _ (if ((Array.filter (fun x => !(#[] : Array UInt8).contains x) b).map (fun c => tb.getD c.toNat c) == b) = true then _ else _) _ _ s
  rw [hf]
  by_cases hq : ((b.map fun c => tb.getD c.toNat c) == b) = true
  · rw [if_pos hq]
    have e : b = trans tb b := (eq_of_beq hq).symm
    refine wpAny_bind (wpAny_rule ?_)
    refine wpAny_bind (wpAny_of_eq (a := .bytes b t) same_bytes ?_)
    refine wpAny_pure ⟨_, rfl, ?_⟩
    have := hS0 t
    rw [← e] at this
    exact this
  · rw [if_neg hq]
    refine wpAny_bind (wpAny_mkBytes ?_ (by rw [Array.size_map]; exact hb))
    exact wpAny_pure ⟨_, rfl, hS _ _⟩
theorem call_translate {b tb : Array UInt8} (ht : tb.size = 256) (hb : b.size ≤ sizeLine) (h : ∀ t' k, Q (.bytes (trans tb b) t') { s with toks := k }) : wpAny (model prog w) A (call (.builtin "bytes.translate") [.bytes b t, .bytes tb u]) Q E s :=
  call_meets BF.slot_translate (typeIs_bytes _ _ _) BF.entry_translate (BF.args_translate _ _) (meets_translate ht hb) h
theorem gm_translate {M : Model} {b : Array UInt8} {pl : Sem Bool} {Q : Value × List Value → Shared → Prop} (h : Q (.builtin "bytes.translate", [.bytes b t]) s) : wpAny M A (getMethod (.bytes b t) "translate" pl) Q E s := by
  with_reducible exact KBd.method_of (.bytes b t) (typeIs_bytes _ _ _) BF.slot_translate BF.type_translate KBd.noRef h
end
end Mine
end
section
open PySem PySem.W PyProof.Rows
namespace Mine
open Builtin Builtin._codecs in
theorem narrow_ascii (id : String) (self : Value) (x : Str) (hx : ∀ c ∈ x.cps, c < 128) (hz : x.length ≤ sizeLine) : encodeNarrow id asciiCodec none self x = pure (x.cps.map (·.toUInt8)) := by
  have hb : ∀ c ∈ x.cps, asciiCodec.bad c = false := fun c hc => decide_eq_false (by have := hx c hc; omega)
  have hfi : Array.findIdx? asciiCodec.bad x.cps = none := by
    rw [Array.findIdx?_eq_none_iff]; exact hb
  have hfold : ∀ (l : List Nat) (acc : Array UInt8), l.foldl (fun acc y => acc ++ (asciiCodec.bytesOf y).toArray) acc = acc ++ (l.map (·.toUInt8)).toArray := by
    intro l
    induction l with
    | nil => intro acc; simp
    | cons a r ih =>
      intro acc
      rw [List.foldl_cons, ih]
      show (acc ++ #[a.toUInt8]) ++ _ = _
      simp
  have hall : Array.foldl (fun acc y => acc ++ (asciiCodec.bytesOf y).toArray) #[] x.cps = x.cps.map (·.toUInt8) := by
    rw [← Array.foldl_toList, hfold]
    apply Array.ext'
    simp
  unfold encodeNarrow
  dsimp only
  rw [Std.Legacy.Range.forIn_eq_forIn_range']
  have hsz : x.length = x.cps.size := rfl
  cases hn : x.cps.size with
  | zero =>
    have e0 : x.cps = #[] := Array.eq_empty_of_size_eq_zero hn
    have e1 : ([:x.length].size) = 0 := by simp [Std.Legacy.Range.size, hsz, hn]
    rw [e1, List.range'_zero]
    simp [e0]
  | succ n =>
    have e1 : ([:x.length].size) = n + 1 := by simp [Std.Legacy.Range.size, hsz, hn]
    rw [e1, List.range'_succ]
    have hc : x.cps[0]? = some (x.cps[0]'(by omega)) := Array.getElem?_eq_getElem _
    have hb0 : asciiCodec.bad (x.cps[0]'(by omega)) = false := hb _ (Array.getElem_mem _)
    have hex : x.cps.extract 0 (n + 1) = x.cps := by rw [← hn]; simp
    have hex2 : x.cps.extract 0 x.cps.size = x.cps := by simp
    have hgd : ¬ ((#[] : Array UInt8).size > sizeLine) := by simp
    rw [List.forIn_cons]
    dsimp only
    rw [if_neg hgd]
    simp only [hc, hb0, Bool.not_false, if_true, hex, hfi, Option.getD_none, pure_bind, hex2, hall, Nat.zero_add]
    cases n with
    | zero => simp
    | succ n =>
      have hno : x.cps[x.cps.size]? = none := by simp
      have hgd2 : ¬ ((x.cps.map fun y => y.toUInt8).size > sizeLine) := by rw [Array.size_map]; omega
      rw [List.range'_succ, List.forIn_cons]
      dsimp only
      rw [if_neg hgd2]
      simp only [hno, pure_bind]
end Mine
end
section
open PySem PySem.W PyProof.Rows
namespace Mine
open Builtin Builtin._codecs in
theorem road_ascii (id : String) (self : Value) (x : Str) (errors : Option Str) : encodeRoad id self x (Str.ofString "ascii") errors = (do mkBytes (← encodeNarrow id asciiCodec errors self x)) := by
  kernel_rfl
open Builtin Builtin._codecs in
theorem encode_ascii_tree (x : Str) (t u : Tok) : «str.encode» ⟨[.str x t, .str (Str.ofString "ascii") u], []⟩ = (do ret (← encodeRoad "str.encode" (.str x t) x (Str.ofString "ascii") none)) := by
  kernel_rfl
section
variable {prog : Program} {w : World} {A : Around} {E : Value → Shared → Prop} {Q : Value → Shared → Prop} {s : Shared} {t u : Tok}
open Builtin Builtin._codecs
theorem meets_encode {x : Str} (hx : ∀ c ∈ x.cps, c < 128) (hz : x.length ≤ sizeLine) :
    Meets («str.encode» ⟨[.str x t, .str (Str.ofString "ascii") u], []⟩) (fun _ R s => R (.ok (.ret (.bytes (x.cps.map (·.toUInt8)) s.toks))) { s with toks := s.toks + 1 }) := by
  refine .of_wp fun prog w A R s hS => ?_
  rw [encode_ascii_tree, road_ascii, narrow_ascii _ _ _ hx hz]
  refine wpAny_bind (wpAny_bind (wpAny_pure ?_))
  refine wpAny_mkBytes ?_ (by rw [Array.size_map]; exact hz)
  exact wpAny_pure ⟨_, rfl, hS⟩
theorem call_encode {x : Str} (hx : ∀ c ∈ x.cps, c < 128) (hz : x.length ≤ sizeLine) (h : Q (.bytes (x.cps.map (·.toUInt8)) s.toks) { s with toks := s.toks + 1 }) :
    wpAny (model prog w) A (call (.builtin "str.encode") [.str x t, .str (Str.ofString "ascii") u]) Q E s :=
  call_meets F.slot_str_encode (typeIs_str s x t) F.entry_str_encode (F.args_str_encode_2 _ _) (meets_encode hx hz) h
theorem gm_encode {M : Model} {x : Str} {pl : Sem Bool} {Q : Value × List Value → Shared → Prop} (h : Q (.builtin "str.encode", [.str x t]) s) : wpAny M A (getMethod (.str x t) "encode" pl) Q E s := by
  with_reducible exact GM.of (.str x t) (typeIs_str _ _ _) F.slot_str_encode F.type_str_encode GM.noRef h
end
end Mine
end
section
open PySem PySem.W PyProof.Rows
namespace Mine
theorem setEnc0 : True := by
  k_with_none
  k_with "call type:type" => ((with_reducible show wpAny _ _ (call (Value.type "type") [Value.bytes _ _]) _ _ _); refine call_type_of (Tx := "bytes") rfl (by decide +kernel) ?_)
  k_with "my_enter" => ((case k1 => assumption); (case k6 => k_is); (case k7 => k_is); (case k8 => (dsimp only; omega)); (case k9 => first | exact BindsTo.of_eq rfl | (refine' kp_binds ?kx ?ke; (case kx => exact Gd.X (by assumption)); (case ke => exact fun _ => rfl)) | exact binds_K (Gd.X (by assumption)) rfl (by k_is) rfl rfl rfl); (case c5 => decide); (case kB => exact locs rfl); (case c2 => exact rfl); (case c3 => exact rfl); (case c4 => exact rfl); intro g' L' h' tk' hg' F' N' X' T'; (dsimp only [mapOf] at F'); (try dsimp only); (try k_fold))
  k_with "getMethod bytes" => (with_reducible refine gm_translate ?_)
  k_with "getMethod str" => (with_reducible refine gm_encode ?_)
  k_with "call builtin:bytes.translate" => (refine call_translate (by decide +kernel) (by assumption) ?_; intro t' k'; (try dsimp only))
  k_with "call builtin:str.encode" => (refine call_encode (by assumption) (by assumption) ?_; (try dsimp only))
  k_with "my_side" => first | assumption | exact trivial | omega | (dsimp only [Around.deeper, Around.in1]; omega)
  k_with "my_use" => ((case kF => k_asm); (case kN => k_asm); (case kX => k_asm); (case kT => k_asm); (case kd => walk_at "my_side"); (case ku => walk_at "my_side"); (case kp => walk_at "my_side"))
  k_with "call ref" => ((first | refine' Spec.use (sp_b2a _ _) ?kF ?kN ?kX ?kT ?kd ?ku ?kp ?_ | refine' Spec.use (sp_b2a _ _) ?kF ?kN ?kX ?kT ?kd ?ku ?kp ?_); walk_at "my_use"; intro v' h' tk' F' N' st' hv'; (obtain ⟨t', hv'⟩ := hv'); subst hv'; (try dsimp only); (try k_fold))
  trivial
theorem sp_b64encode : ∀ {w : World} (b : Array UInt8) (t : Tok), Spec PySem.Challenge.rw_qh0091_01.row.toRowW.prog w (K0 w.params) 94 ⟨[.bytes b t], []⟩ 3 (fun _ => b.size ≤ 1000000) (fun _ _ v => ∃ t, v = .bytes (byteArr (enc64 (KBw.bInts b))) t) := by
  k_fill
  intro w b t p loose mean mg mb dp un fr gd s R G hdp hu hpre hret
  refine' enterG [(Str.ofString "altchars", .none), (Str.ofString "s", .bytes b t)] ?k1 ?k6 ?k7 ?k8 ?k9 ?kB ?_ ?c5 ?c2 ?c3 ?c4
  walk_at "my_enter"
  k_steps
  all_goals exact hret _ _ _ (stays_of (by assumption) (by assumption)) ⟨_, rfl⟩
theorem setEnc1 : True := by
  k_with "call ref" => ((first | refine' Spec.use (sp_b2a _ _) ?kF ?kN ?kX ?kT ?kd ?ku ?kp ?_ | refine' Spec.use (sp_b64encode _ _) ?kF ?kN ?kX ?kT ?kd ?ku ?kp ?_); walk_at "my_use"; intro v' h' tk' F' N' st' hv'; (obtain ⟨t', hv'⟩ := hv'); subst hv'; (try dsimp only); (try k_fold))
  trivial
theorem sp_usencode : ∀ {w : World} (b : Array UInt8) (t : Tok), Spec PySem.Challenge.rw_qh0091_01.row.toRowW.prog w (K0 w.params) 109 ⟨[.bytes b t], []⟩ 4 (fun _ => b.size ≤ 1000000) (fun _ _ v => ∃ tb t, (∀ n : Fin 256, tb.getD n 0 = if n = 43 then 45 else if n = 47 then 95 else (n : Nat).toUInt8) ∧ v = .bytes (trans tb (byteArr (enc64 (KBw.bInts b)))) t) := by
  intro w b t p loose mean mg mb dp un fr gd s R G hdp hu hpre hret
  have hsz : (byteArr (enc64 (KBw.bInts b))).size ≤ sizeLine := by rw [byteArr_size, sizeLine_eq]; have := (b2a_bound hpre).2; omega
  refine' enterG [(Str.ofString "s", .bytes b t)] ?k1 ?k6 ?k7 ?k8 ?k9 ?kB ?_ ?c5 ?c2 ?c3 ?c4
  walk_at "my_enter"
  k_steps
  all_goals exact hret _ _ _ (stays_of (by assumption) (by assumption)) ⟨_, _, by decide +kernel, rfl⟩
theorem sp_bytes_fromS : ∀ {w : World} (x : Str) (t : Tok), Spec PySem.Challenge.rw_qh0091_01.row.toRowW.prog w (K0 w.params) 29 ⟨[.str x t], []⟩ 1 (fun _ => (∀ c ∈ x.cps, c < 128) ∧ x.length ≤ sizeLine) (fun _ _ v => ∃ t, v = .bytes (x.cps.map (·.toUInt8)) t) := by
  intro w b t p loose mean mg mb dp un fr gd s R G hdp hu hpre hret
  obtain ⟨hp1, hp2⟩ := hpre
  refine' enterG [(Str.ofString "s", .str b t)] ?k1 ?k6 ?k7 ?k8 ?k9 ?kB ?_ ?c5 ?c2 ?c3 ?c4
  walk_at "my_enter"
  k_steps
  all_goals exact hret _ _ _ (stays_of (by assumption) (by assumption)) ⟨_, rfl⟩
end Mine
end
section
open PySem PySem.W PyProof.Rows
namespace Mine
theorem setDec0 : True := by
  k_with_none
  k_with "call type:type" => ((with_reducible show wpAny _ _ (call (Value.type "type") [Value.bytes _ _]) _ _ _); refine call_type_of (Tx := "bytes") rfl (by decide +kernel) ?_)
  k_with "my_enter" => ((case k1 => assumption); (case k6 => k_is); (case k7 => k_is); (case k8 => (dsimp only; omega)); (case k9 => first | exact BindsTo.of_eq rfl | (refine' kp_binds ?kx ?ke; (case kx => exact Gd.X (by assumption)); (case ke => exact fun _ => rfl)) | exact binds_K (Gd.X (by assumption)) rfl (by k_is) rfl rfl rfl); (case c5 => decide); (case kB => exact locs rfl); (case c2 => exact rfl); (case c3 => exact rfl); (case c4 => exact rfl); intro g' L' h' tk' hg' F' N' X' T'; (dsimp only [mapOf] at F'); (try dsimp only); (try k_fold))
  k_with "getMethod bytes" => (with_reducible refine gm_translate ?_)
  k_with "getMethod str" => (with_reducible refine gm_encode ?_)
  k_with "call builtin:bytes.translate" => (refine call_translate (by decide +kernel) (by assumption) ?_; intro t' k'; (try dsimp only))
  k_with "call builtin:str.encode" => (refine call_encode (by assumption) (by assumption) ?_; (try dsimp only))
  k_with "my_side" => first | assumption | exact trivial | omega | (dsimp only [Around.deeper, Around.in1]; omega)
  k_with "my_use" => ((case kF => k_asm); (case kN => k_asm); (case kX => k_asm); (case kT => k_asm); (case kd => walk_at "my_side"); (case ku => walk_at "my_side"); (case kp => walk_at "my_side"))
  k_with "leaving ref" => (refine' leave_onS ?k1 ?k2 ?k3 ?k4 ?_; (case k3 => assumption); (case k2 => assumption); (case k1 => assumption); (case k4 => assumption); intro h' R' R2' U'; clear R2'; (try dsimp only at R' U' ⊢))
  k_with "my_useR" => ((case kB => assumption); (case kF => k_asm); (case kN => k_asm); (case kX => k_asm); (case kT => k_asm); (case kd => walk_at "my_side"); (case ku => walk_at "my_side"); (case kp => walk_at "my_side"); (case kk => exact rfl))
  k_with "call ref" => ((first | refine' Spec.use (sp_bytes_from _ _) ?kF ?kN ?kX ?kT ?kd ?ku ?kp ?_); walk_at "my_use"; intro v' h' tk' F' N' st' hv'; subst hv'; (try dsimp only); (try k_fold))
  k_with "call ref" => ((refine' Spec.use (sp_bytes_fromS _ _) ?kF ?kN ?kX ?kT ?kd ?ku ?kp ?_); walk_at "my_use"; intro v' h' tk' F' N' st' hv'; (obtain ⟨t', hv'⟩ := hv'); subst hv'; (try dsimp only); (try k_fold))
  k_with "call ref" => ((refine' SpecR.use (sp_a2b _ _ _) ?kB ?kF ?kN ?kX ?kT ?kd ?ku ?kp ?kk ?ko ?ke); walk_at "my_useR"; (case' ko => (intro v' h' tk' F' N' st' hv'; (try dsimp only); (try k_fold))); (case' ke => (intro e' t' vs' h' tk' hE' R' U'; (try dsimp only); (try k_fold))))
  trivial
theorem sp_b64decode : ∀ {w : World} (b : Array UInt8) (t : Tok), SpecR PySem.Challenge.rw_qh0091_01.row.toRowW.prog w (K0 w.params) 102 ⟨[.bytes b t], []⟩ 3 (fun _ => b.size ≤ 1000000) (fun _ _ v => ∃ out t, a2b false (KBw.bInts b) = some out ∧ v = .bytes (byteArr out) t) (a2b false (KBw.bInts b) = none) := by
  k_fill
  intro w b t p loose mean mg mb dp un outer gd base s R G B hdp hu hpre hret herr
  refine' enterG [(Str.ofString "validate", .bool false), (Str.ofString "altchars", .none), (Str.ofString "s", .bytes b t)] ?k1 ?k6 ?k7 ?k8 ?k9 ?kB ?_ ?c5 ?c2 ?c3 ?c4
  walk_at "my_enter"
  (rename _ = Shared.heap _ => hg1)
  rw [← hg1] at B
  replace herr := at_g hg1 (P := fun H => ∀ e t vs h' tk', a2b false (KBw.bInts b) = none → RaisedS base H outer e (.ref 39) t vs [] h' → H.UpToSlots h' → R (.error (.ref e)) { s with heap := h', toks := tk' }) herr
  k_steps
  all_goals first
    | exact herr _ _ _ _ _ (by assumption) (by assumption) (by assumption)
    | exact hret _ _ _ (stays_of (by assumption) (by assumption)) (by assumption)
theorem sp_b64decodeV : ∀ {w : World} (b : Array UInt8) (t : Tok), SpecR PySem.Challenge.rw_qh0091_01.row.toRowW.prog w (K0 w.params) 102 ⟨[.bytes b t], [(Str.ofString "validate", .bool true)]⟩ 3 (fun _ => b.size ≤ 1000000) (fun _ _ v => ∃ out t, a2b true (KBw.bInts b) = some out ∧ v = .bytes (byteArr out) t) (a2b true (KBw.bInts b) = none) := by
  k_fill
  intro w b t p loose mean mg mb dp un outer gd base s R G B hdp hu hpre hret herr
  refine' enterG [(Str.ofString "validate", .bool true), (Str.ofString "altchars", .none), (Str.ofString "s", .bytes b t)] ?k1 ?k6 ?k7 ?k8 ?k9 ?kB ?_ ?c5 ?c2 ?c3 ?c4
  walk_at "my_enter"
  (rename _ = Shared.heap _ => hg1)
  rw [← hg1] at B
  replace herr := at_g hg1 (P := fun H => ∀ e t vs h' tk', a2b true (KBw.bInts b) = none → RaisedS base H outer e (.ref 39) t vs [] h' → H.UpToSlots h' → R (.error (.ref e)) { s with heap := h', toks := tk' }) herr
  k_steps
  all_goals first
    | exact herr _ _ _ _ _ (by assumption) (by assumption) (by assumption)
    | exact hret _ _ _ (stays_of (by assumption) (by assumption)) (by assumption)
noncomputable def dmap (c : Int) : Int := if c = 45 then 43 else if c = 95 then 47 else c
noncomputable def smap (c : Int) : Int := if c = 43 then 45 else if c = 47 then 95 else c
theorem trans_dec {tb b : Array UInt8} (h : ∀ n : Fin 256, ((tb.getD n 0).toNat : Int) = dmap (n : Nat)) (hs : tb.size = 256) : KBw.bInts (trans tb b) = (KBw.bInts b).map dmap := by
  unfold KBw.bInts trans
  rw [Array.toList_map, List.map_map, List.map_map]
  apply List.map_congr_left
  intro c _
  have hc : c.toNat < 256 := c.toNat_lt
  have e : tb.getD c.toNat c = tb.getD c.toNat 0 := by
    unfold Array.getD
    rw [dif_pos (by omega), dif_pos (by omega)]
  show ((tb.getD c.toNat c).toNat : Int) = dmap ((c.toNat : Nat) : Int)
  rw [e]
  exact h ⟨c.toNat, hc⟩
theorem trans_enc {tb b : Array UInt8} (h : ∀ n : Fin 256, ((tb.getD n 0).toNat : Int) = smap (n : Nat)) (hs : tb.size = 256) : KBw.bInts (trans tb b) = (KBw.bInts b).map smap := by
  unfold KBw.bInts trans
  rw [Array.toList_map, List.map_map, List.map_map]
  apply List.map_congr_left
  intro c _
  have hc : c.toNat < 256 := c.toNat_lt
  have e : tb.getD c.toNat c = tb.getD c.toNat 0 := by
    unfold Array.getD
    rw [dif_pos (by omega), dif_pos (by omega)]
  show ((tb.getD c.toNat c).toNat : Int) = smap ((c.toNat : Nat) : Int)
  rw [e]
  exact h ⟨c.toNat, hc⟩
theorem trans_size {tb b : Array UInt8} : (trans tb b).size = b.size := Array.size_map
theorem setDec1 : True := by
  k_with "my_side" => (first | (rw [trans_size]; assumption) | (rw [trans_size, Array.size_map]; assumption) | (constructor <;> assumption))
  k_with "call ref" => ((refine' SpecR.use (sp_b64decode _ _) ?kB ?kF ?kN ?kX ?kT ?kd ?ku ?kp ?kk ?ko ?ke); walk_at "my_useR"; (case' ko => (intro v' h' tk' F' N' st' hv'; (rw [trans_dec (by decide +kernel) (by decide +kernel)] at hv'); (try dsimp only); (try k_fold))); (case' ke => (intro e' t' vs' h' tk' hE' R' U'; (rw [trans_dec (by decide +kernel) (by decide +kernel)] at hE'); (try dsimp only); (try k_fold))))
  trivial
theorem sp_usdecode : ∀ {w : World} (b : Array UInt8) (t : Tok), SpecR PySem.Challenge.rw_qh0091_01.row.toRowW.prog w (K0 w.params) 116 ⟨[.bytes b t], []⟩ 4 (fun _ => b.size ≤ 1000000) (fun _ _ v => ∃ out t, a2b false ((KBw.bInts b).map dmap) = some out ∧ v = .bytes (byteArr out) t) (a2b false ((KBw.bInts b).map dmap) = none) := by
  intro w b t p loose mean mg mb dp un outer gd base s R G B hdp hu hpre hret herr
  have hpre1 : b.size ≤ 1000000 := hpre
  have hsz : b.size ≤ sizeLine := by rw [sizeLine_eq]; omega
  refine' enterG [(Str.ofString "s", .bytes b t)] ?k1 ?k6 ?k7 ?k8 ?k9 ?kB ?_ ?c5 ?c2 ?c3 ?c4
  walk_at "my_enter"
  (rename _ = Shared.heap _ => hg1)
  rw [← hg1] at B
  replace herr := at_g hg1 (P := fun H => ∀ e t vs h' tk', a2b false ((KBw.bInts b).map dmap) = none → RaisedS base H outer e (.ref 39) t vs [] h' → H.UpToSlots h' → R (.error (.ref e)) { s with heap := h', toks := tk' }) herr
  k_steps
  all_goals first
    | exact herr _ _ _ _ _ (by assumption) (by assumption) (by assumption)
    | exact hret _ _ _ (stays_of (by assumption) (by assumption)) (by assumption)
theorem sp_usdecodeS : ∀ {w : World} (x : Str) (t : Tok), SpecR PySem.Challenge.rw_qh0091_01.row.toRowW.prog w (K0 w.params) 116 ⟨[.str x t], []⟩ 4 (fun _ => (∀ c ∈ x.cps, c < 128) ∧ x.length ≤ 1000000) (fun _ _ v => ∃ out t, a2b false ((KBw.bInts (x.cps.map (·.toUInt8))).map dmap) = some out ∧ v = .bytes (byteArr out) t) (a2b false ((KBw.bInts (x.cps.map (·.toUInt8))).map dmap) = none) := by
  intro w x t p loose mean mg mb dp un outer gd base s R G B hdp hu hpre hret herr
  obtain ⟨hp1, hp2⟩ := hpre
  have hp4 : x.length ≤ sizeLine := by rw [sizeLine_eq]; omega
  have hp3 : x.cps.size ≤ 1000000 := hp2
  have hsz : (x.cps.map (·.toUInt8)).size ≤ sizeLine := by rw [Array.size_map]; exact hp4
  refine' enterG [(Str.ofString "s", .str x t)] ?k1 ?k6 ?k7 ?k8 ?k9 ?kB ?_ ?c5 ?c2 ?c3 ?c4
  walk_at "my_enter"
  (rename _ = Shared.heap _ => hg1)
  rw [← hg1] at B
  replace herr := at_g hg1 (P := fun H => ∀ e t vs h' tk', a2b false ((KBw.bInts (x.cps.map (·.toUInt8))).map dmap) = none → RaisedS base H outer e (.ref 39) t vs [] h' → H.UpToSlots h' → R (.error (.ref e)) { s with heap := h', toks := tk' }) herr
  k_steps
  all_goals first
    | exact herr _ _ _ _ _ (by assumption) (by assumption) (by assumption)
    | exact hret _ _ _ (stays_of (by assumption) (by assumption)) (by assumption)
end Mine
end
section
open PySem PySem.W PyProof.Rows
namespace Mine
/-- a def with cells is entered: all that stands is kept -/
theorem enterC {prog : Program} {w : World} {A : Around} {s : Shared} {K : Frag} {p : Program} {loose : List Str} {mean : ExcName → Option Value} {mg mb : Str → Option Value}
    {R : Result → Shared → Prop} {name : Str} {params : Arguments} {body : List Stmt} {scope : Scope} {doc pm cdv oc : Value} {od : Option Addr} {osl : Array (Option Value)} {f : Addr} {args : List Value} (binds : List (Str × Value))
    (G : Gd K p loose mean mg mb s.heap)
    (ho : K.lookup f = some ⟨oc, od, .func (Calls.docDef name params body scope pm cdv doc), osl⟩) (hcd : codeIn K cdv name = true) (hroom : A.depth < recursionLimit)
    (hbind : bindArgs (Calls.docDef name params body scope pm cdv doc) ⟨args, []⟩ = pure binds)
    (hkind : (binds.all fun y => scope.names.lookup y.1 == some .local || scope.names.lookup y.1 == some .cell) = true)
    (hnd : ((cellsFrom 0 scope.names []).map (·.1)).Nodup)
    (h : ∀ g L' h₁ tk cells, g = s.heap → Fr g L' h₁ (bindL (envOfC name scope L' f cdv).kindOf binds fun _ => none) → News g L' h₁ cells →
      CellsAre (bindC (envOfC name scope L' f cdv).kindOf binds fun _ => none) (cellsFrom (L' + 1) scope.names []) cells → K.In g → Top p loose mean mg mb g →
      wpAny (model prog w) (A.deeper (envOfC name scope L' f cdv)) (execs body (envOfC name scope L' f cdv))
        (fun fl s' => R (.ok (.ret (match fl with | .ret v => v | _ => .none))) s')
        (fun e s' => wpAny (model prog w) (A.deeper (envOfC name scope L' f cdv)) (leaving (envOfC name scope L' f cdv) e) (fun _ s'' => R (.error e) s'') (fun e' s'' => R (.error e') s'') s')
        { s with heap := h₁, toks := tk })
    (hco : scope.isCoroutine = false := by rfl) (hgen : scope.isGenerator = false := by rfl) (hk : scope.kind = .function := by rfl) :
    codeAny (model prog w) A (.call (.ref f) ⟨args, []⟩) R s :=
  call_cellsN hroom (G.X _ _ ho) rfl G.T.nolimit (codeRec_of G.X hcd) hbind (kindsX hkind _) hnd (fun h₁ tk cells F N Y => h s.heap s.heap.objs.size h₁ tk cells rfl F N Y G.X G.T) hco hgen hk
end Mine
end
section
open PySem PySem.W PyProof.Rows
namespace Mine
theorem setLaw10 : True := by
  k_with_none
  k_with "call type:type" => ((with_reducible show wpAny _ _ (call (Value.type "type") [Value.bytes _ _]) _ _ _); refine call_type_of (Tx := "bytes") rfl (by decide +kernel) ?_)
  k_with "my_enter" => ((case k1 => assumption); (case k6 => k_is); (case k7 => k_is); (case k8 => (dsimp only; omega)); (case k9 => first | exact BindsTo.of_eq rfl | (refine' kp_binds ?kx ?ke; (case kx => exact Gd.X (by assumption)); (case ke => exact fun _ => rfl)) | exact binds_K (Gd.X (by assumption)) rfl (by k_is) rfl rfl rfl); (case c5 => decide); (case kB => exact locs rfl); (case c2 => exact rfl); (case c3 => exact rfl); (case c4 => exact rfl); intro g' L' h' tk' hg' F' N' X' T'; (dsimp only [mapOf] at F'); (try dsimp only); (try k_fold))
  k_with "my_enterC" => ((case k1 => assumption); (case k6 => k_is); (case k7 => k_is); (case k8 => (dsimp only; omega)); (case k9 => exact rfl); (case kB => exact rfl); (case kN => decide); (case c2 => exact rfl); (case c3 => exact rfl); (case c4 => exact rfl); intro g' L' h' tk' cells' hg' F' N' Y' X' T'; (k_cells Y'); (try dsimp only); (try k_fold))
  k_with "my_side" => first | assumption | exact trivial | omega | (dsimp only [Around.deeper, Around.in1]; omega)
  k_with "my_use" => ((case kF => k_asm); (case kN => k_asm); (case kX => k_asm); (case kT => k_asm); (case kd => walk_at "my_side"); (case ku => walk_at "my_side"); (case kp => walk_at "my_side"))
  trivial
theorem sp_signs : ∀ {w : World} (x : Str) (t : Tok), Spec PySem.Challenge.rw_qh0091_01.row.toRowW.prog w (K0 w.params) 172 ⟨[.str x t], []⟩ 1 (fun _ => x.length ≤ 1000) (fun _ _ v => ∃ t, v = .str (Str.ofString "ABCDEFGHIJKLMNOPQRSTUVWXYZabcdefghijklmnopqrstuvwxyz0123456789" ++ x) t) := by
  k_fill
  intro w x t p loose mean mg mb dp un fr gd s R G hdp hu hpre hret
  refine' enterG [(Str.ofString "last", .str x t)] ?k1 ?k6 ?k7 ?k8 ?k9 ?kB ?_ ?c5 ?c2 ?c3 ?c4
  walk_at "my_enter"
  k_steps
  all_goals exact hret _ _ _ (stays_of (by assumption) (by assumption)) ⟨_, rfl⟩
end Mine
end
section
open PySem PySem.Calls PySem.W PyProof.Rows
namespace Mine
open LCg (lst lst_snoc)
theorem neLt {a b : Nat} (h : a < b) : a ≠ b := Nat.ne_of_lt h
theorem neGt {a b : Nat} (h : b < a) : a ≠ b := Nat.ne_of_gt h
/-- the iterable of a comprehension: pyIter pushes an iterator that walks n items -/
noncomputable def Itb (prog : Program) (w : World) (A : Around) (xv : Value) (n : Nat) (P : Nat → Value → Prop) (s : Shared) : Prop :=
  ∃ (o : Obj) (fp : List Addr) (St : Nat → Heap → Prop), (∀ (Q : Value → Shared → Prop) (E : Value → Shared → Prop), Q (.ref s.heap.objs.size) { s with heap := s.heap.push o } → wpAny (model prog w) A (pyIter xv) Q E s) ∧
    Walks prog w A s.heap.objs.size fp [s.heap.objs.size] n P St ∧ St 0 (s.heap.push o) ∧ (∀ b ∈ fp, b < s.heap.objs.size + 1)
noncomputable abbrev testsOf (ifs : List Expr) (env : Env) : Sem Bool := forIn ifs true fun c r => if r = true then do let ok ← isTrue c env (eval c env); pure (ForInStep.yield ok) else pure (ForInStep.yield r)
section
variable {prog : Program} {w : World} {A : Around} {E : Value → Shared → Prop} {s : Shared} {env : Env}
/-- one turn of a comprehension that only makes values -/
noncomputable def Turn (prog : Program) (w : World) (A : Around) (env : Env) (elt : Expr) (ifs : List Expr) (x : Str) (scope : Scope) (cl : List (Str × Addr)) (s : Shared) (n : Nat) (P : Nat → Value → Prop) (J : Nat → List Value → Prop) : Prop :=
  ∀ (i : Nat) (v : Value) (ys : List Value) (C : Addr) (h : Heap) (tk : Nat) (m₂ : Str → Option Value) (E' : Value → Shared → Prop), i < n → P i v → J i ys → s.heap.StaysIn h → h.Ns C m₂ → m₂ x = some v → s.heap.objs.size ≤ C →
    wpAny (model prog w) A (testsOf ifs (compEnvC scope cl C env)) (fun ok s₃ => ∃ h₃ tk₃, s₃ = { s with heap := h₃, toks := tk₃ } ∧ h.StaysIn h₃ ∧
      (if ok = true then wpAny (model prog w) A (eval elt (compEnvC scope cl C env)) (fun y s₄ => ∃ h₄ tk₄, s₄ = { s with heap := h₄, toks := tk₄ } ∧ h₃.StaysIn h₄ ∧ J (i + 1) (ys ++ [y])) E' s₃ else J (i + 1) ys)) E' { s with heap := h, toks := tk }
theorem comp_loop {elt iter : Expr} {ifs : List Expr} {x : Str} {px : Pos} {scope : Scope} {cl : List (Str × Addr)} {pos : Pos} {xv : Value} {n : Nat} {P : Nat → Value → Prop} {J : Nat → List Value → Prop} {RR : Value → Addr → Result → Shared → Prop}
    (hI : Itb prog w A xv n P s) (hsz : n ≤ sizeLine) (hcell : ∀ y ∈ scope.names, y.2 ≠ .cell) (hkind : scope.kind = .function) (hx : scope.names.lookup x = some .local)
    (hJ : J 0 []) (hlen : ∀ i ys, J i ys → ys.length ≤ i) (T : Turn prog w A env elt ifs x scope cl s n P J)
    (hRR : ∀ D C h tk m' ys, J n ys → s.heap.StaysIn h → h.get? D = some (lst ys) → s.heap.objs.size ≤ D → h.Ns C m' → s.heap.objs.size ≤ C → C ≠ D → RR (.ref D) C (.ok .next) { s with heap := h, toks := tk }) :
    wpAny (model prog w) A (pyIter xv) (fun it s₂ => wpAny (model prog w) A (newList []) (fun acc s₃ => wpAny (model prog w) A (newFunctionEnv scope env.globals cl [] env.qual none .none (some env)) (fun cenv s₄ =>
      codeAny (model prog w) A (.compStart (.ListComp elt [⟨.Name x px, iter, ifs, 0⟩] scope pos) 0 it acc { cenv with scope := relabel scope env }) (RR acc cenv.locals) s₄) E s₃) E s₂) E s := by
  obtain ⟨o, fp, St, hit, W, hst, hfp⟩ := hI
  refine hit _ _ ?_
  generalize hH1 : s.heap.push o = H1 at hst ⊢
  have z1 : H1.objs.size = s.heap.objs.size + 1 := by rw [← hH1, Heap.size_push]
  have up1 : s.heap.StaysIn H1 := fun b o' e => hH1 ▸ Heap.get?_push_of_some _ e
  refine wpAny_newObj_type (wpAny_newFunctionEnv hcell (by intro y hy; simp at hy) (fun h₁ hns₁ hsb₁ => ?_) hkind)
  dsimp only at hns₁ hsb₁ ⊢
  generalize hH2 : H1.push { cls := .type "list", dict := none, data := .seq ([] : List Value).toArray } = H2 at hns₁ hsb₁ ⊢
  have z2 : H2.objs.size = H1.objs.size + 1 := by rw [← hH2, Heap.size_push]
  have hfp1 : ∀ b ∈ fp, b < H1.objs.size := fun b hb => z1 ▸ hfp b hb
  have hDf : H1.objs.size ∉ fp := fun hm => Nat.lt_irrefl _ (hfp1 _ hm)
  have hCf : H2.objs.size ∉ fp := fun hm => by have := ltN (hfp1 _ hm); omega
  have old : ∀ b o', H1.get? b = some o' → h₁.get? b = some o' := fun b o' e => hsb₁.extBut b o' (neLt (by have := ltN (Heap.lt_size e); omega)) (Heap.get?_push_of_some _ (hH2 ▸ Heap.get?_push_of_some _ e))
  have hacc : h₁.get? H1.objs.size = some (lst []) := hsb₁.extBut _ _ (neLt (by omega)) (Heap.get?_push_of_some _ (hH2 ▸ Heap.get?_push_size _ rfl))
  have hst₁ : St 0 h₁ := W.frame _ _ _ hst fun b _ o e => old b o e
  have loop : ∀ s₃ : Shared, s₃ = { s with heap := h₁, toks := s.toks + ([] : List (Str × Value)).length } →
      codeAny (model prog w) A (.compLoop (.ListComp elt [⟨.Name x px, iter, ifs, 0⟩] scope pos) 0 (.ref s.heap.objs.size) (.ref H1.objs.size) (compEnvC scope cl H2.objs.size env))
        (RR (.ref H1.objs.size) H2.objs.size) s₃ := by
    rintro s₃ rfl
    refine codeAny_compLoop_tests
      (fun k s' => ∃ h' tk i ys m', s' = { s with heap := h', toks := tk } ∧ i ≤ n ∧ k = n + 1 - i ∧ J i ys ∧ St i h' ∧ s.heap.StaysIn h' ∧ h'.Ns H2.objs.size m' ∧ h'.get? H1.objs.size = some (lst ys)) ?_ (n + 1)
      ⟨h₁, _, 0, [], _, rfl, Nat.zero_le _, rfl, hJ, hst₁, fun b o' e => old b o' (up1 b o' e), hns₁, hacc⟩
    rintro k s' ⟨h', tk, i, ys, m', rfl, hi, rfl, hJi, hst', up', hn', hD'⟩
    by_cases hlt : i < n
    · refine W.item i _ _ _ hlt hst' fun v h₂ tk₂ hPv hst₂ hk₂ => ?_
      have k2 : ∀ b o', b ≠ s.heap.objs.size → h'.get? b = some o' → h₂.get? b = some o' := fun b o' hb e => hk₂ b o' (by simpa using hb) e
      refine wpAny_assign_Name (wpAny_storeName_local (lookup_relabel_local hx) (hn'.at' fun o' e => k2 _ o' (neGt (by omega)) e) (fun h₃ hn₃ hs₃ => ?_) (by simp [compEnvC, relabel, hkind]))
      have k3 : ∀ b o', b ≠ H2.objs.size → h₂.get? b = some o' → h₃.get? b = some o' := fun b o' hb e => hs₃.extBut b o' hb e
      have up₃ : s.heap.StaysIn h₃ := fun b o' e => by
        have hb := ltN (Heap.lt_size e)
        exact k3 b o' (neLt (by omega)) (k2 b o' (neLt hb) (up' b o' e))
      have hst₃ : St (i + 1) h₃ := W.frame _ _ _ hst₂ fun b hb o' e => k3 b o' (fun q => hCf (q ▸ hb)) e
      have hD₃ : h₃.get? H1.objs.size = some (lst ys) := k3 _ _ (neLt (by omega)) (k2 _ _ (neGt (by omega)) hD')
      refine wpAny_mono (T i v ys H2.objs.size h₃ _ _ _ hlt hPv hJi up₃ hn₃ (by simp) (by omega)) (fun ok s₄ h₄ => ?_) fun _ _ e => e
      obtain ⟨h₅, tk₅, rfl, up₅, h₅'⟩ := h₄
      cases ok with
      | false =>
        rw [if_neg (by decide)] at h₅' ⊢
        exact ⟨n + 1 - (i + 1), by omega, h₅, tk₅, i + 1, ys, _, rfl, hlt, rfl, h₅', W.frame _ _ _ hst₃ fun b _ o' e => up₅ b o' e, fun b o' e => up₅ b o' (up₃ b o' e), hn₃.keeps up₅, up₅ _ _ hD₃⟩
      | true =>
        rw [if_pos rfl] at h₅' ⊢
        refine wpAny_mono h₅' (fun y s₆ h₆ => ?_) fun _ _ e => e
        obtain ⟨h₇, tk₇, rfl, up₇, hJ'⟩ := h₆
        have upA : h₃.StaysIn h₇ := fun b o' e => up₇ b o' (up₅ b o' e)
        refine append_at (hsz := by show ys.toArray.size ≤ sizeLine; rw [List.size_toArray]; have := hlen i ys hJi; omega) (upA _ _ hD₃) fun h₈ hs₈ hD₈ => ?_
        have k8 : ∀ b o', b ≠ H1.objs.size → h₇.get? b = some o' → h₈.get? b = some o' := fun b o' hb e => hs₈.extBut b o' hb e
        exact ⟨n + 1 - (i + 1), by omega, h₈, tk₇, i + 1, ys ++ [y], _, rfl, hlt, rfl, hJ', W.frame _ _ _ hst₃ fun b hb o' e => k8 b o' (fun q => hDf (q ▸ hb)) (upA b o' e),
          fun b o' e => k8 b o' (neLt (by have := ltN (Heap.lt_size e); omega)) (upA b o' (up₃ b o' e)), (hn₃.keeps upA).sameBut hs₈ (show H2.objs.size ≠ H1.objs.size from neGt (by omega)), hD₈.trans (congrArg some (lst_snoc ys y))⟩
    · obtain rfl : i = n := Nat.le_antisymm hi (Nat.not_lt.mp hlt)
      refine W.done _ _ _ hst' fun h₂ tk₂ hk₂ => ?_
      have k2 : ∀ b o', b ≠ s.heap.objs.size → h'.get? b = some o' → h₂.get? b = some o' := fun b o' hb e => hk₂ b o' (by simpa using hb) e
      exact hRR H1.objs.size H2.objs.size h₂ tk₂ _ ys hJi (fun b o' e => k2 b o' (neLt (Heap.lt_size e)) (up' b o' e)) (k2 _ _ (neGt (by omega)) hD') (by omega) (hn'.at' fun o' e => k2 _ o' (neGt (by omega)) e) (by omega) (neGt (by omega))
  exact codeAny_compStart_list (loop _ rfl) (W.self 0 _ _ _ hst₁ (loop _ rfl))
theorem comp_eval {elt iter : Expr} {ifs : List Expr} {x : Str} {px : Pos} {scope : Scope} {cl : List (Str × Addr)} {pos : Pos} {Q : Value → Shared → Prop} {n : Nat} {P : Nat → Value → Prop} {J : Nat → List Value → Prop}
    (hclos : closureFor scope env = pure cl) (hcell : ∀ y ∈ scope.names, y.2 ≠ .cell) (hkind : scope.kind = .function)
    (hnames : ∀ y ∈ scope.names, y.2 = .local → scope.names.lookup y.1 = some .local) (hx : scope.names.lookup x = some .local)
    (h : wpAny (model prog w) A (eval iter env) (fun xv s₁ => Itb prog w A xv n P s₁ ∧ n ≤ sizeLine ∧ J 0 [] ∧ (∀ i ys, J i ys → ys.length ≤ i) ∧ Turn prog w A env elt ifs x scope cl s₁ n P J ∧
      ∀ D h tk ys, J n ys → s₁.heap.StaysIn h → h.get? D = some (lst ys) → s₁.heap.objs.size ≤ D → Q (.ref D) { s₁ with heap := h, toks := tk }) E s)
    (hs : ∀ x, foldedSetIterable iter env x = pure x := by intro _; rfl) :
    wpAny (model prog w) A (eval (.ListComp elt [⟨.Name x px, iter, ifs, 0⟩] scope pos) env) Q E s := by
  rw [eval_ListComp]
  refine wpAny_comprehension_free (use := none) rfl hs hclos hkind hnames (wpAny_mono h (fun xv s₁ h₁ => ?_) fun _ _ e => e)
  obtain ⟨hI, hsz, hJ, hlen, T, fin⟩ := h₁
  refine comp_loop hI hsz hcell hkind hx hJ hlen T ?_
  intro D C h tk m' ys hJn up hD hDs hn hCs hCD
  refine ⟨m', hn, fun h'' hs'' => fin D h'' tk ys hJn (fun b o e => hs''.extBut b o (neLt (Nat.lt_of_lt_of_le (Heap.lt_size e) hCs)) (up b o e)) (hs''.extBut _ _ (Ne.symm hCD) hD) hDs⟩
theorem comp_assign {elt iter : Expr} {ifs : List Expr} {x y : Str} {px py : Pos} {scope : Scope} {cl : List (Str × Addr)} {pos spos : Pos} {Q : Flow → Shared → Prop} {n : Nat} {P : Nat → Value → Prop} {J : Nat → List Value → Prop} {m : Str → Option Value} {h₀ : Heap} {news : List (Addr × Obj)}
    (hsw : swapsWith (.ListComp elt [⟨.Name x px, iter, ifs, 0⟩] scope pos) (some (.Name y py)) spos.line env = pure true)
    (hclos : closureFor scope env = pure cl) (hcell : ∀ y ∈ scope.names, y.2 ≠ .cell) (hkind : scope.kind = .function)
    (hnames : ∀ y ∈ scope.names, y.2 = .local → scope.names.lookup y.1 = some .local) (hx : scope.names.lookup x = some .local)
    (hy : env.kindOf y = some .local) (hp : (env.scope.kind == .class || (env.scope.kind == .module && env.locals != env.globals)) = false)
    (h : wpAny (model prog w) A (eval iter env) (fun xv s₁ => Itb prog w A xv n P s₁ ∧ n ≤ sizeLine ∧ J 0 [] ∧ (∀ i ys, J i ys → ys.length ≤ i) ∧ Turn prog w A env elt ifs x scope cl s₁ n P J ∧ Fr h₀ env.locals s₁.heap m ∧ News h₀ env.locals s₁.heap news ∧
      ∀ D h tk ys, J n ys → Fr h₀ env.locals h (fun z => if z = y then some (.ref D) else m z) → News h₀ env.locals h ((D, lst ys) :: news) → (∀ p ∈ news, p.1 < D) → Q .next { s₁ with heap := h, toks := tk }) E s)
    (hs : ∀ x, foldedSetIterable iter env x = pure x := by intro _; rfl) :
    wpAny (model prog w) A (exec (.Assign [.Name y py] (.ListComp elt [⟨.Name x px, iter, ifs, 0⟩] scope pos) spos) env) Q E s := by
  rw [exec_Assign_Name_used _ _ _ _ hsw]
  refine wpAny_bind (wpAny_standAt (wpAny_bind ?_))
  show wpAny _ A (do let _ ← comprehension (.ListComp elt [⟨.Name x px, iter, ifs, 0⟩] scope pos) scope env _ (newList []) false (eval iter env) (some (assign (.Name y py) env))) _ _ s
  refine wpAny_bind (wpAny_mono (wpAny_comprehension_free (use := some (assign (.Name y py) env)) (Q := fun _ s' => Q .next s') rfl hs hclos hkind hnames
    (wpAny_mono h (fun xv s₁ h₁ => ?_) fun _ _ e => e)) (fun _ s' hq => wpAny_pure (wpAny_pure hq)) fun _ _ e => e)
  obtain ⟨hI, hsz, hJ, hlen, T, F, N, fin⟩ := h₁
  refine comp_loop hI hsz hcell hkind hx hJ hlen T ?_
  intro D C h' tk m' ys hJn up hD hDs hn hCs hCD
  have F' := Fr.after_stays F up
  have N' := News.after_stays N up
  have hLlt : env.locals < s₁.heap.objs.size := F.ns.lt
  have nDL : D ≠ env.locals := neGt (Nat.lt_of_lt_of_le hLlt hDs)
  have nCL : C ≠ env.locals := neGt (Nat.lt_of_lt_of_le hLlt hCs)
  have fresh : ∀ a, s₁.heap.objs.size ≤ a → h₀.get? a = none := fun a ha => by
    cases e : h₀.get? a with
    | none => rfl
    | some o' => exact absurd (Heap.lt_size (F.keep a o' e)) (Nat.not_lt.mpr ha)
  show wpAny _ A (assign (.Name y py) env (.ref D)) _ _ _
  refine wpAny_assign_Name (wpAny_storeName_local hy F'.ns (fun h₂ hn₂ hs₂ => ?_) hp)
  refine ⟨m', hn.sameBut hs₂ nCL, fun h'' hs'' => fin D h'' _ ys hJn ?_ ?_ fun p hp => Nat.lt_of_lt_of_le (Heap.lt_size (N p hp).1) hDs⟩
  · exact (F'.set hn₂ hs₂).change hs'' nCL (fresh C hCs)
  · intro p hp
    rcases List.mem_cons.mp hp with rfl | hp
    · exact ⟨hs''.extBut _ _ (Ne.symm hCD) (hs₂.extBut _ _ nDL hD), nDL, fresh D hDs⟩
    · exact ⟨hs''.extBut _ _ (neLt (Nat.lt_of_lt_of_le (Heap.lt_size (N p hp).1) hCs)) (hs₂.extBut _ _ (N' p hp).2.1 (N' p hp).1), (N' p hp).2⟩
end
end Mine
end
section
open PySem PySem.Calls PySem.W PyProof.Rows
namespace Mine
section
variable {prog : Program} {w : World} {A : Around} {s : Shared}
theorem itb_list {l : Addr} {its : Array Value} (hh : A.handled = none) (hl : s.heap.IsList l its) : Itb prog w A (.ref l) its.size (fun i v => its[i]? = some v) s := by
  have hlt : l < s.heap.objs.size := by obtain ⟨_, e, _⟩ := hl; exact Heap.lt_size e
  refine ⟨_, _, _, fun Q E h => wpAny_pyIter_list hl h, Walks.list hh s.heap.objs.size l (Nat.ne_of_lt hlt) its, ⟨⟨_, Heap.get?_push_size _ rfl, rfl, rfl⟩, hl.push _⟩, fun b hb => ?_⟩
  rcases List.mem_cons.mp hb with rfl | hb
  · exact Nat.lt_succ_self _
  · rw [List.mem_singleton.mp hb]; exact Nat.lt_succ_of_lt hlt
theorem itb_bytes {b : Array UInt8} {t : Tok} (hh : A.handled = none) : Itb prog w A (.bytes b t) b.size (fun i v => ∃ c u, b[i]? = some c ∧ v = .int (c.toNat : Int) u) s :=
  ⟨_, _, _, fun Q E h => KBw.pyIter_bytes h, KBw.walks hh s.heap.objs.size b t, ⟨_, Heap.get?_push_size _ rfl, rfl, rfl⟩, fun b hb => by rw [List.mem_singleton.mp hb]; exact Nat.lt_succ_self _⟩
theorem itb_str {x : Str} {t : Tok} (hh : A.handled = none) (ha : x.cps.all (· < 128) = true) : Itb prog w A (.str x t) x.cps.size (SignAt x) s :=
  ⟨_, _, _, fun Q E h => wpAny_pyIter_ascii ha h, Walks.strAscii hh s.heap.objs.size x t, ⟨_, Heap.get?_push_size _ rfl, rfl, rfl⟩, fun b hb => by rw [List.mem_singleton.mp hb]; exact Nat.lt_succ_self _⟩
theorem itb_range {r : Addr} {a b c : Int} {t u v : Tok} {n : Nat} (hh : A.handled = none) (hr : IsRange s.heap r a b c t u v) (hsm : Builtin.Range.small a b c = true) (hn : Builtin.Range.rangeSize a b c = ((n : Nat) : Int)) :
    Itb prog w A (.ref r) n (fun i v => ∃ t, v = .int (a + i * c) t) s :=
  ⟨_, _, _, fun Q E h => wpAny_pyIter_range hr hsm h, Walks.range hh s.heap.objs.size a c n, by show IsRangeIter _ _ _ _ _; rw [hn]; simpa using Heap.get?_push_size _ rfl, fun b hb => by rw [List.mem_singleton.mp hb]; exact Nat.lt_succ_self _⟩
end
end Mine
end
section
open PySem PySem.Calls PySem.W PyProof.Rows
namespace Mine
section
variable {M : Model} {A : Around} {E : Value → Shared → Prop} {s : Shared} {K : Frag} {h₀ : Heap} {C : Addr} {m mg mb : Str → Option Value} {p : Program} {loose : List Str} {mean : ExcName → Option Value} {scope : Scope} {cl : List (Str × Addr)} {env : Env} {x : Str} {pos : Pos} {v : Value} {Q : Value → Shared → Prop}
theorem cx_local (F : Fr h₀ C s.heap m) (hv : m x = some v) (h : Q v s)
    (hk : (compEnvC scope cl C env).scope.kind = .function := by rfl) (hl : (compEnvC scope cl C env).kindOf x = some .local := by rfl) (hd : (x == ("__debug__" : Str)) = false := by decide) :
    wpAny M A (eval (.Name x pos) (compEnvC scope cl C env)) Q E s := ldVarK F.ns hv h hk hl hd
theorem cx_global (F : Fr h₀ C s.heap m) (X : K.In h₀) (T : Top p loose mean mg mb h₀) (e : nsIn K mainGlobals x = some (some v)) (h : Q v s) (hg : env.globals = mainGlobals := by rfl)
    (hk : (compEnvC scope cl C env).scope.kind = .function := by rfl) (hx : (compEnvC scope cl C env).kindOf x = some .globalImplicit := by rfl) (hd : (x == ("__debug__" : Str)) = false := by decide) :
    wpAny M A (eval (.Name x pos) (compEnvC scope cl C env)) Q E s :=
  Name_function_global hk hx (loadGlobal_global (env := compEnvC scope cl C env) (show s.heap.Ns env.globals mg from hg ▸ (T.g.keeps F.keep)) (mg_of X T.g e) h) hd
theorem cx_builtin (F : Fr h₀ C s.heap m) (X : K.In h₀) (T : Top p loose mean mg mb h₀) (e : nsIn K mainGlobals x = some none) (hv : bootBuiltins x = some v) (hn : x ≠ "__name__") (h : Q v s) (hg : env.globals = mainGlobals := by rfl) (hb : env.builtins = builtinsNs := by rfl)
    (hk : (compEnvC scope cl C env).scope.kind = .function := by rfl) (hx : (compEnvC scope cl C env).kindOf x = some .globalImplicit := by rfl) (hd : (x == ("__debug__" : Str)) = false := by decide) :
    wpAny M A (eval (.Name x pos) (compEnvC scope cl C env)) Q E s :=
  Name_function_global hk hx (loadGlobal_builtin (env := compEnvC scope cl C env) (show s.heap.Ns env.globals mg from hg ▸ (T.g.keeps F.keep)) (mg_none_of X T.g e) (show s.heap.Ns env.builtins mb from hb ▸ (T.b.keeps F.keep)) ((T.builtins x hn).trans hv) h) hd
theorem cx_cell {c : Addr} {o : Obj} (F : Fr h₀ C s.heap m) (hc : cl.lookup x = some c) (ho : h₀.get? c = some o) (hv : o.data = .cell (some v)) (h : Q v s)
    (hk : (compEnvC scope cl C env).scope.kind = .function := by rfl) (hl : (compEnvC scope cl C env).kindOf x = some .cell := by rfl) (hd : (x == ("__debug__" : Str)) = false := by decide) :
    wpAny M A (eval (.Name x pos) (compEnvC scope cl C env)) Q E s := ldCellK hc ⟨o, F.keep _ _ ho, hv⟩ h hk hl hd
theorem turn_fr {h : Heap} (k : s.heap.StaysIn h) (hn : h.Ns C m) (hC : s.heap.objs.size ≤ C) : Fr s.heap C h m := ⟨hn, k, hC⟩
end
/-- the walk stands still here -/
noncomputable def Stop (P : Prop) : Prop := P
theorem Stop.out {P : Prop} (h : Stop P) : P := h
theorem Stop.mk {P : Prop} (h : P) : Stop P := h
open LCg (lst)
section
variable {prog : Program} {w : World} {A : Around} {E : Value → Shared → Prop} {s : Shared} {env : Env}
theorem comp_evalS {elt iter : Expr} {ifs : List Expr} {x : Str} {px : Pos} {scope : Scope} {cl : List (Str × Addr)} {pos : Pos} {Q : Value → Shared → Prop} {n : Nat} {P : Nat → Value → Prop} {J : Nat → List Value → Prop}
    (hclos : closureFor scope env = pure cl) (hcell : ∀ y ∈ scope.names, y.2 ≠ .cell) (hkind : scope.kind = .function)
    (hnames : ∀ y ∈ scope.names, y.2 = .local → scope.names.lookup y.1 = some .local) (hx : scope.names.lookup x = some .local)
    (h : wpAny (model prog w) A (eval iter env) (fun xv s₁ => Stop (Itb prog w A xv n P s₁ ∧ n ≤ sizeLine ∧ J 0 [] ∧ (∀ i ys, J i ys → ys.length ≤ i) ∧ Turn prog w A env elt ifs x scope cl s₁ n P J ∧
      ∀ D h tk ys, J n ys → s₁.heap.StaysIn h → h.get? D = some (lst ys) → s₁.heap.objs.size ≤ D → Q (.ref D) { s₁ with heap := h, toks := tk })) E s)
    (hs : ∀ x, foldedSetIterable iter env x = pure x := by intro _; rfl) :
    wpAny (model prog w) A (eval (.ListComp elt [⟨.Name x px, iter, ifs, 0⟩] scope pos) env) Q E s := comp_eval hclos hcell hkind hnames hx h hs
theorem comp_assignS {elt iter : Expr} {ifs : List Expr} {x y : Str} {px py : Pos} {scope : Scope} {cl : List (Str × Addr)} {pos spos : Pos} {Q : Flow → Shared → Prop} {n : Nat} {P : Nat → Value → Prop} {J : Nat → List Value → Prop} {m : Str → Option Value} {h₀ : Heap} {news : List (Addr × Obj)}
    (hsw : swapsWith (.ListComp elt [⟨.Name x px, iter, ifs, 0⟩] scope pos) (some (.Name y py)) spos.line env = pure true)
    (hclos : closureFor scope env = pure cl) (hcell : ∀ y ∈ scope.names, y.2 ≠ .cell) (hkind : scope.kind = .function)
    (hnames : ∀ y ∈ scope.names, y.2 = .local → scope.names.lookup y.1 = some .local) (hx : scope.names.lookup x = some .local)
    (hy : env.kindOf y = some .local) (hp : (env.scope.kind == .class || (env.scope.kind == .module && env.locals != env.globals)) = false)
    (h : wpAny (model prog w) A (eval iter env) (fun xv s₁ => Stop (Itb prog w A xv n P s₁ ∧ n ≤ sizeLine ∧ J 0 [] ∧ (∀ i ys, J i ys → ys.length ≤ i) ∧ Turn prog w A env elt ifs x scope cl s₁ n P J ∧ Fr h₀ env.locals s₁.heap m ∧ News h₀ env.locals s₁.heap news ∧
      ∀ D h tk ys, J n ys → Fr h₀ env.locals h (fun z => if z = y then some (.ref D) else m z) → News h₀ env.locals h ((D, lst ys) :: news) → (∀ p ∈ news, p.1 < D) → Q .next { s₁ with heap := h, toks := tk })) E s)
    (hs : ∀ x, foldedSetIterable iter env x = pure x := by intro _; rfl) :
    wpAny (model prog w) A (exec (.Assign [.Name y py] (.ListComp elt [⟨.Name x px, iter, ifs, 0⟩] scope pos) spos) env) Q E s := comp_assign hsw hclos hcell hkind hnames hx hy hp h hs
end
end Mine
end
section
open PySem PySem.W PyProof.Rows
namespace Mine
section
variable {prog : Program} {w : World} {A : Around} {E : Value → Shared → Prop} {Q : Value → Shared → Prop} {s : Shared} {g h' : Heap} {L l : Addr} {m : Str → Option Value} {news : List (Addr × Obj)} {o : Obj}
theorem fresh_of {a : Addr} (F : Fr g L s.heap m) (ha : s.heap.objs.size ≤ a) : g.get? a = none := by
  cases e : g.get? a with
  | none => rfl
  | some o' => exact absurd (Heap.lt_size (F.keep a o' e)) (Nat.not_lt.mpr ha)
theorem news_add (F : Fr g L s.heap m) (N : News g L s.heap news) (k : s.heap.StaysIn h') (ho : h'.get? l = some o) (hs : s.heap.objs.size ≤ l) : News g L h' ((l, o) :: news) := by
  intro p hp
  rcases List.mem_cons.mp hp with rfl | hp
  · exact ⟨ho, neGt (Nat.lt_of_lt_of_le F.ns.lt hs), fresh_of F hs⟩
  · exact ⟨k _ _ (N p hp).1, (N p hp).2⟩
theorem news_below (N : News g L s.heap news) (hs : s.heap.objs.size ≤ l) : ∀ p ∈ news, p.1 < l := fun p hp => Nat.lt_of_lt_of_le (Heap.lt_size (N p hp).1) hs
/-- a call whose answer is a new list -/
theorem Spec.useL {K : Frag} {p : Program} {loose : List Str} {mean : ExcName → Option Value} {mg mb : Str → Option Value} {f : Addr} {vs : List Value} {kw : List (Str × Value)} {d : Nat} {pre : Heap → Prop} {R : List Value → Prop} {dp un : Nat} {fr : Option (List Env)} {gd : Option (List Code)}
    (S : Spec prog w K f ⟨vs, kw⟩ d pre (fun h h' v => ∃ l ys, v = .ref l ∧ h'.get? l = some (LCg.lst ys) ∧ R ys ∧ h.objs.size ≤ l))
    (F : Fr g L s.heap m) (N : News g L s.heap news) (X : K.In g) (T : Top p loose mean mg mb g) (hd : dp + d < recursionLimit) (hu : un + 8 * d + 8 < cLine) (hp : pre s.heap)
    (h : ∀ l ys h' tk', Fr g L h' m → News g L h' ((l, W.listOf ys.toArray ys.length) :: news) → (∀ p ∈ news, p.1 < l) → R ys → Q (.ref l) { s with heap := h', toks := tk' }) : wpAny (model prog w) ⟨none, dp, fr, gd, un⟩ (call (.ref f) vs kw) Q E s :=
  Spec.use S F N X T hd hu hp fun v h' tk' F' _ st hv => by
    obtain ⟨l, ys, rfl, ho, hR, hs⟩ := hv
    exact h l ys h' tk' F' (news_add F N st ho hs) (news_below N hs) hR
end
end Mine
end
section
open PySem PySem.W PyProof.Rows
namespace Mine
/-- an int or a text, as data -/
noncomputable def Pl (v : Value) : Prop := ∃ d, Carried v d ∧ d.canLay0 = true ∧ d.depth = 0
theorem pl_all : ∀ {xs : List Value}, (∀ v ∈ xs, Pl v) → ∃ ds, CarriedAll xs ds ∧ PyData.canLayAll0 ds = true ∧ PyData.depthAll ds = 0
  | [], _ => ⟨[], .nil, rfl, rfl⟩
  | v :: r, h => by
    obtain ⟨d, h1, h2, h3⟩ := h v (.head _)
    obtain ⟨ds, k1, k2, k3⟩ := pl_all (xs := r) fun y hy => h y (.tail _ hy)
    refine ⟨d :: ds, .cons h1 k1, ?_, ?_⟩
    · simp only [PyData.canLayAll0, h2, k2, Bool.and_self]
    · simp only [PyData.depthAll, h3, k3, Nat.max_self]
theorem pl_int (n : Int) (t : Tok) : Pl (.int n t) := ⟨.int n, .int n t, rfl, rfl⟩
theorem pl_str (x : Str) (t : Tok) (h : PyData.canLay0 (.str x) = true) : Pl (.str x t) := ⟨.str x, .str x t, h, rfl⟩
theorem eqvAll_nil (ds : List PyData) : PyData.eqvAll ds [] = ds.isEmpty := by cases ds <;> rfl
section
variable {prog : Program} {w : World} {A : Around} {E : Value → Shared → Prop} {s : Shared} {a b : Addr} {xs ys : List Value} {Q : Value → Shared → Prop}
theorem ne_nil (ha : s.heap.IsList a xs.toArray) (hb : s.heap.IsList b ([] : List Value).toArray) (hp : ∀ v ∈ xs, Pl v) (hu : A.units + 64 < cLine) (h : Q (.bool (!xs.isEmpty)) s) :
    wpAny (model prog w) A (compareOp .NotEq (.ref a) (.ref b)) Q E s := by
  obtain ⟨ds, k1, k2, k3⟩ := pl_all hp
  refine ne_dataH (reads_newData ha k1) (reads_newData hb .nil) ?_ rfl hu ?_
  · show (PyData.canLayAll0 ds && decide (PyData.depthAll ds + 1 ≤ 64)) = true
    rw [k2, k3]; rfl
  · have e : PyData.eqv (.list ds) (.list []) = xs.isEmpty := by
      show PyData.eqvAll ds [] = _
      rw [eqvAll_nil]
      have := k1.length_eq
      cases xs <;> cases ds <;> first | rfl | cases this
    rw [e]; exact h
theorem strs_carried : ∀ {vs : List Value} {ss : List Str}, StrsAre vs ss → CarriedAll vs (ss.map PyData.str)
  | _, _, .nil => .nil
  | _, _, .cons _ t r => .cons (.str _ t) (strs_carried r)
theorem strs_lay : ∀ {ss : List Str}, (∀ x ∈ ss, PyData.canLay0 (.str x) = true) → PyData.canLayAll0 (ss.map PyData.str) = true ∧ PyData.depthAll (ss.map PyData.str) = 0
  | [], _ => ⟨rfl, rfl⟩
  | x :: r, h => by
    obtain ⟨k1, k2⟩ := strs_lay (ss := r) fun y hy => h y (.tail _ hy)
    have h1 := h x (.head _)
    constructor
    · rw [List.map_cons, PyData.canLayAll0, h1, k1]; rfl
    · rw [List.map_cons, PyData.depthAll, k2]; rfl
theorem strs_eqv : ∀ (ss : List Str), PyData.eqvAll (ss.map PyData.str) (ss.map PyData.str) = true
  | [] => rfl
  | x :: r => by rw [List.map_cons, PyData.eqvAll, strs_eqv r, PyData.eqv, beq_self_eq_true]; rfl
/-- two lists of the same texts -/
theorem ne_strs {ss : List Str} (ha : s.heap.IsList a xs.toArray) (hb : s.heap.IsList b ys.toArray) (h1 : StrsAre xs ss) (h2 : StrsAre ys ss) (hp : ∀ x ∈ ss, PyData.canLay0 (.str x) = true) (hu : A.units + 64 < cLine) (h : Q (.bool false) s) :
    wpAny (model prog w) A (compareOp .NotEq (.ref a) (.ref b)) Q E s := by
  obtain ⟨k2, k3⟩ := strs_lay hp
  have sh : SeqAt.shaped (.list (ss.map PyData.str)) = true := by
    show (PyData.canLayAll0 _ && decide (PyData.depthAll _ + 1 ≤ 64)) = true
    rw [k2, k3]; rfl
  refine ne_dataH (reads_newData ha (strs_carried h1)) (reads_newData hb (strs_carried h2)) sh sh hu ?_
  have e : PyData.eqv (.list (ss.map PyData.str)) (.list (ss.map PyData.str)) = true := strs_eqv ss
  rw [e]; exact h
end
end Mine
end
section
open PySem PySem.Calls PySem.W PyProof.Rows
namespace Mine
open LCg (lst)
section
variable {prog : Program} {w : World} {A : Around} {E : Value → Shared → Prop} {s : Shared} {env : Env}
theorem comp_assignN {elt iter : Expr} {ifs : List Expr} {x y : Str} {px py : Pos} {scope : Scope} {cl : List (Str × Addr)} {pos spos : Pos} {Q : Flow → Shared → Prop} {n : Nat} {P : Nat → Value → Prop} {J : Nat → List Value → Prop} {m : Str → Option Value} {h₀ : Heap} {news : List (Addr × Obj)} {xv : Value}
    (F : Fr h₀ env.locals s.heap m) (N : News h₀ env.locals s.heap news) (hit : ∀ (Q : Value → Shared → Prop), Q xv s → wpAny (model prog w) A (eval iter env) Q E s)
    (hI : Itb prog w A xv n P s) (hsz : n ≤ sizeLine) (hJ : J 0 []) (hlen : ∀ i ys, J i ys → ys.length ≤ i)
    (hsw : swapsWith (.ListComp elt [⟨.Name x px, iter, ifs, 0⟩] scope pos) (some (.Name y py)) spos.line env = pure true)
    (hclos : closureFor scope env = pure cl) (hcell : ∀ y ∈ scope.names, y.2 ≠ .cell) (hkind : scope.kind = .function)
    (hnames : ∀ y ∈ scope.names, y.2 = .local → scope.names.lookup y.1 = some .local) (hx : scope.names.lookup x = some .local)
    (hy : env.kindOf y = some .local) (hp : (env.scope.kind == .class || (env.scope.kind == .module && env.locals != env.globals)) = false)
    (T : Turn prog w A env elt ifs x scope cl s n P J)
    (fin : ∀ D h tk ys, J n ys → Fr h₀ env.locals h (fun z => if z = y then some (.ref D) else m z) → News h₀ env.locals h ((D, W.listOf ys.toArray ys.length) :: news) → (∀ p ∈ news, p.1 < D) → Q .next { s with heap := h, toks := tk })
    (hs : ∀ x, foldedSetIterable iter env x = pure x := by intro _; rfl) :
    wpAny (model prog w) A (exec (.Assign [.Name y py] (.ListComp elt [⟨.Name x px, iter, ifs, 0⟩] scope pos) spos) env) Q E s :=
  comp_assign hsw hclos hcell hkind hnames hx hy hp (hit _ ⟨hI, hsz, hJ, hlen, T, F, N, fin⟩) hs
theorem comp_evalN {elt iter : Expr} {ifs : List Expr} {x : Str} {px : Pos} {scope : Scope} {cl : List (Str × Addr)} {pos : Pos} {Q : Value → Shared → Prop} {n : Nat} {P : Nat → Value → Prop} {J : Nat → List Value → Prop} {m : Str → Option Value} {h₀ : Heap} {news : List (Addr × Obj)} {xv : Value} {L : Addr}
    (F : Fr h₀ L s.heap m) (N : News h₀ L s.heap news) (hit : ∀ (Q : Value → Shared → Prop), Q xv s → wpAny (model prog w) A (eval iter env) Q E s)
    (hI : Itb prog w A xv n P s) (hsz : n ≤ sizeLine) (hJ : J 0 []) (hlen : ∀ i ys, J i ys → ys.length ≤ i)
    (hclos : closureFor scope env = pure cl) (hcell : ∀ y ∈ scope.names, y.2 ≠ .cell) (hkind : scope.kind = .function)
    (hnames : ∀ y ∈ scope.names, y.2 = .local → scope.names.lookup y.1 = some .local) (hx : scope.names.lookup x = some .local)
    (T : Turn prog w A env elt ifs x scope cl s n P J)
    (fin : ∀ D h tk ys, J n ys → Fr h₀ L h m → News h₀ L h ((D, W.listOf ys.toArray ys.length) :: news) → (∀ p ∈ news, p.1 < D) → Q (.ref D) { s with heap := h, toks := tk })
    (hs : ∀ x, foldedSetIterable iter env x = pure x := by intro _; rfl) :
    wpAny (model prog w) A (eval (.ListComp elt [⟨.Name x px, iter, ifs, 0⟩] scope pos) env) Q E s :=
  comp_eval hclos hcell hkind hnames hx (hit _ ⟨hI, hsz, hJ, hlen, T, fun D h tk ys hJn hk hD hle => fin D h tk ys hJn (Fr.after_stays F hk) (news_add F N hk hD hle) (news_below N hle)⟩) hs
end
end Mine
end
section
open PySem PySem.W PyProof.Rows
namespace Mine
theorem setLaw20 : True := by
  k_with_none
  k_with "call type:type" => ((with_reducible show wpAny _ _ (call (Value.type "type") [Value.bytes _ _]) _ _ _); refine call_type_of (Tx := "bytes") rfl (by decide +kernel) ?_)
  trivial
theorem val_lt (b : Nat) (l : List Int) (h : ∀ v ∈ l, 0 ≤ v ∧ v < 2 ^ b) : val b l < 2 ^ (b * l.length) := by
  induction l using snoc_ind with
  | h0 => exact two_pow_pos 0
  | h1 l v ih =>
    have h1 := ih fun x hx => h x (List.mem_append_left _ hx)
    have h2 := h v (by simp)
    rw [val_snoc, List.length_append, List.length_singleton, Nat.mul_add, Nat.mul_one, Int.pow_add]
    have h4 : val b l + 1 ≤ 2 ^ (b * l.length) := h1
    have h5 := Int.mul_le_mul_of_nonneg_right h4 (Int.le_of_lt (two_pow_pos b))
    rw [Int.add_mul, Int.one_mul] at h5
    omega
theorem digs_get (b : Nat) : ∀ (m : Nat) (N : Int) (i : Nat), i < m → (digs b N m)[i]? = some (N / 2 ^ (b * (m - 1 - i)) % 2 ^ b)
  | 0, _, _, h => absurd h (Nat.not_lt_zero _)
  | m + 1, N, i, h => by
    rw [digs]
    by_cases hi : i < m
    · rw [List.getElem?_append_left (by rw [digs_length]; exact hi), digs_get b m _ i hi]
      have e : b * (m + 1 - 1 - i) = b + b * (m - 1 - i) := by
        have : m + 1 - 1 - i = 1 + (m - 1 - i) := by omega
        rw [this, Nat.mul_add, Nat.mul_one]
      rw [e, Int.pow_add, ← Int.ediv_ediv_of_nonneg (Int.le_of_lt (two_pow_pos b))]
    · obtain rfl : i = m := by omega
      rw [List.getElem?_append_right (by rw [digs_length]; omega), digs_length, Nat.sub_self]
      have e : i + 1 - 1 - i = 0 := by omega
      rw [e, Nat.mul_zero, Int.pow_zero, Int.ediv_one]
      rfl
theorem regr_turn {b : Nat} {N x : Int} {many i : Nat} {ys : List Value} {t : Tok} (hJ : IntsAre ys ((digs b N many).take i)) (hi : i < many) (e : x = N / 2 ^ (b * (many - 1 - i)) % 2 ^ b) : IntsAre (ys ++ [.int x t]) ((digs b N many).take (i + 1)) := by
  rw [List.take_add_one, digs_get b many N i hi, e]
  exact IntsAre.append hJ (.cons _ _ .nil)
section
variable {prog : Program} {w : World} {A : Around} {E : Value → Shared → Prop} {Q : Value → Shared → Prop} {s : Shared} {a b c i n v : Int} {t u : Tok}
theorem shl_bits {k : Nat} (h0 : 0 ≤ a) (h1 : a < 2 ^ k) (hk : k ≤ 100000) (hn : 0 ≤ n) (hn2 : n ≤ 100000) (h : Q (.int (a * 2 ^ n.toNat) s.toks) { s with toks := s.toks + 1 }) : wpAny (model prog w) A (binaryOp .LShift (.int a t) (.int n u)) Q E s :=
  lshift_int hn (by
    have hb : Builtin.Int.intBits a ≤ k := intBits_le_iff.mpr (by
      have e : ((a.natAbs : Nat) : Int) = a := Int.natAbs_of_nonneg h0
      have : ((a.natAbs : Nat) : Int) < ((2 ^ k : Nat) : Int) := by rw [e, Int.natCast_pow]; exact h1
      exact Int.ofNat_lt.mp this)
    have e2 : (2 : Int) ^ 27 = 134217728 := by decide
    omega) h
theorem mod_pos (hb : 0 < b) (h : Q (.int (a % b) s.toks) { s with toks := s.toks + 1 }) : wpAny (model prog w) A (binaryOp .Mod (.int a t) (.int b u)) Q E s :=
  mod_int' (by omega) (by rw [Int.fmod_eq_emod_of_nonneg _ (Int.le_of_lt hb)]; exact h)
theorem orR8 (ha : 0 ≤ a) (hv : 0 ≤ v) (hv' : v < 256) : Builtin.bitOr (a * 2 ^ Int.toNat 8) v = a * 2 ^ 8 + v := or_disj 8 ha hv hv'
theorem orR6 (ha : 0 ≤ a) (hv : 0 ≤ v) (hv' : v < 64) : Builtin.bitOr (a * 2 ^ Int.toNat 6) v = a * 2 ^ 6 + v := or_disj 6 ha hv hv'
end
theorem setLaw21 : True := by
  k_with "my_enterC" => ((case k1 => assumption); (case k6 => k_is); (case k7 => k_is); (case k8 => (dsimp only; omega)); (case k9 => exact rfl); (case kB => exact rfl); (case kN => decide); (case c2 => exact rfl); (case c3 => exact rfl); (case c4 => exact rfl); intro g' L' h' tk' cells' hg' F' N' Y' X' T'; (k_cells Y'); (try dsimp only); (try k_fold))
  k_with "binaryOp LShift int int" => (with_reducible refine shl_bits (by assumption) (by assumption) (by omega) (by omega) (by omega) ?_)
  k_with "binaryOp BitOr int int" => (first | with_reducible refine or_int_eq (orR8 (by assumption) (by omega) (by omega)) ?_ | with_reducible refine or_int_eq (orR6 (by assumption) (by omega) (by omega)) ?_)
  k_with "binaryOp RShift int int" => (with_reducible refine shr_int_eq (by omega) ?_)
  k_with "eval ListComp" => refine Stop.out ?_
  k_with "exec Assign cons ListComp" => refine Stop.out ?_
  trivial


theorem setLaw22 : True := by
  k_with "exec For Name Name cons nil" => refine Stop.out ?_
  k_with "my_side" => first | assumption | exact trivial | omega | (dsimp only [Around.deeper, Around.in1]; omega)
  k_with "my_use" => ((case kF => k_asm); (case kN => k_asm); (case kX => k_asm); (case kT => k_asm); (case kd => walk_at "my_side"); (case ku => walk_at "my_side"); (case kp => walk_at "my_side"))
  trivial
theorem sp_regr86 : ∀ {w : World} (l : Addr) (vs : List Value) (ns : List Int) (many : Nat) (t u v : Tok), Spec PySem.Challenge.rw_qh0091_01.row.toRowW.prog w (K0 w.params) 177 ⟨[.ref l, .int 8 t, .int 6 u, .int many v], []⟩ 1 (fun h => h.IsList l vs.toArray ∧ IntsAre vs ns ∧ (∀ v ∈ ns, 0 ≤ v ∧ v < 256) ∧ ns.length ≤ 1000 ∧ many = (8 * ns.length + 5) / 6) (fun h h' v => ∃ l ys, v = .ref l ∧ h'.get? l = some (LCg.lst ys) ∧ IntsAre ys (figs ns) ∧ h.objs.size ≤ l) := by
  k_fill
  intro w l vs ns many t u v p loose mean mg mb dp un fr gd s R G hdp hu hpre hret
  obtain ⟨hl, hi, hr, hlen, hmany⟩ := hpre
  refine' enterC [(Str.ofString "row", .ref l), (Str.ofString "old", .int 8 t), (Str.ofString "new", .int 6 u), (Str.ofString "many", .int many v)] ?k1 ?k6 ?k7 ?k8 ?k9 ?kB ?kN ?_ ?c2 ?c3 ?c4
  walk_at "my_enterC"
  (rename _ = Shared.heap _ => hg1)
  rw [← hg1] at hl
  k_steps
  refine Stop.mk ?_
  (rename Fr _ _ _ _ => F1); (rename News _ _ _ _ => N1)
  with_unfolding_all refine' For_invVF F1 ?k1 ?k2 ?_
  case k1 => exact rfl
  case k2 => exact rfl
  walk1
  refine' kst_list (σ := Obj × Int × Tok) (fun c => [(_, c.1), _]) (fun _ => []) (fun c => c.1.data = .cell (some (.int c.2.1 c.2.2))) [] (fun pre c => c.2.1 = val 8 pre) (_, 0, _) rfl hl hi F1 N1 ?kf ?kk rfl ?_ ?_
  case kf => assumption
  case kk => exact List.forall_mem_nil _
  · clear F1 N1
    rintro ⟨o1, nb, t1⟩ pre post n tn u h tk own kEq kMem kOff kFacts kInv kFr kNews
    dsimp only [kstB] at kFr
    dsimp only at kNews kOff kFacts kInv
    simp only [List.cons_append, List.nil_append, List.map_cons, List.map_nil] at kNews kOff
    have kMark := kstMark
    subst kInv
    have hb := hr n kMem
    have hpr : ∀ v ∈ pre, 0 ≤ v ∧ v < 2 ^ 8 := fun v hv => hr v (by rw [kEq]; exact List.mem_append_left _ hv)
    have h0 : 0 ≤ val 8 pre := val_nonneg 8 pre fun v hv => (hpr v hv).1
    have h1 := val_lt 8 pre hpr
    have h2 : pre.length ≤ 1000 := by
      have := congrArg List.length kEq
      rw [List.length_append] at this
      omega
    k_with "state" => exact (val_snoc 8 _ _).symm
    k_steps
  · clear F1 N1
    rintro ⟨o1, nb, t1⟩ u h tk kFacts kInv kFr kNews
    dsimp only [kstB] at kFr
    dsimp only at kNews kFacts kInv
    subst kInv
    have h0 : 0 ≤ val 8 ns := val_nonneg 8 ns fun v hv => (hr v hv).1
    have h1 := val_lt 8 ns hr
    have hvl : vs.length = ns.length := hi.length
    have hmk : (many : Int) ≤ 2000 := by omega
    k_steps
    · refine Stop.mk ?_
      refine' comp_evalS (n := many) (P := fun i v => ∃ t, v = .int ((many : Int) - 1 + i * (-1)) t) (J := fun i ys => IntsAre ys ((figs ns).take i)) ?kc ?kl ?kd ?kn ?kx ?_
      case kc => exact rfl
      case kl => decide
      case kd => exact rfl
      case kn => decide
      case kx => exact rfl
      k_steps
      (rename Fr _ _ _ _ => F2); (rename News _ _ _ _ => N2); (rename IsRange _ _ _ _ _ _ _ _ => R2)
      refine Stop.mk ⟨itb_range rfl R2 (small_down (by omega) (by omega) (by omega) (by omega)) (by rw [rangeSize_downNat]; omega), by rw [sizeLine_eq]; omega, .nil, fun i ys h => by rw [h.length, List.length_take]; omega, ?_, ?_⟩
      · intro i v ys C h tk m₂ E' hi hP hJ hk hn hx hC
        obtain ⟨tv, rfl⟩ := hP
        have FC := turn_fr hk hn hC
        refine wpAny_tests_nil ⟨_, _, rfl, fun _ _ e => e, ?_⟩
        rw [if_pos rfl]
        walk1
        walk1
        refine' cx_cell FC ?a1 ?a2 ?a3 ?_
        case a1 => exact rfl
        case a2 => exact N2.get (by k_mem)
        case a3 => assumption
        walk1
        refine' cx_cell FC ?a1 ?a2 ?a3 ?_
        case a1 => exact rfl
        case a2 => exact N2.get (by k_mem)
        case a3 => assumption
        refine cx_local FC hx ?_
        walk1
        refine shr_int_eq (by omega) ?_
        walk1
        walk1
        refine' cx_cell FC ?a1 ?a2 ?a3 ?_
        case a1 => exact rfl
        case a2 => exact N2.get (by k_mem)
        case a3 => assumption
        refine shl_small (by omega) (by omega) (by omega) (by omega) ?_
        refine mod_pos (by decide) ?_
        refine ⟨_, _, rfl, fun _ _ e => e, ?_⟩
        refine regr_turn (many := (8 * ns.length + 5) / 6) hJ (by omega) ?_
        have e1 : (6 * ((many : Int) - 1 + i * (-1))).toNat = 6 * ((8 * ns.length + 5) / 6 - 1 - i) := by omega
        have e2 : ((many : Int) * 6 - (ns.length : Int) * 8).toNat = 6 * ((8 * ns.length + 5) / 6) - 8 * ns.length := by omega
        rw [e1, e2]
        rfl
      · intro D h tk ys hJ hk hD hle
        have hJ' : IntsAre ys (figs ns) := by rw [List.take_of_length_le (by unfold figs; rw [digs_length]; omega)] at hJ; exact hJ
        refine hret _ _ _ (fun b o e => hk b o (F2.keep b o (hg1 ▸ e))) ⟨D, ys, rfl, hD, hJ', ?_⟩
        have a1 := F2.above
        have a2 := ltN F2.ns.lt
        rw [hg1] at a1
        exact Nat.le_trans a1 (Nat.le_trans (Nat.le_of_lt a2) hle)
    · refine Stop.mk ?_
      refine' comp_evalS (n := many) (P := fun i v => ∃ t, v = .int ((many : Int) - 1 + i * (-1)) t) (J := fun i ys => IntsAre ys ((figs ns).take i)) ?kc ?kl ?kd ?kn ?kx ?_
      case kc => exact rfl
      case kl => decide
      case kd => exact rfl
      case kn => decide
      case kx => exact rfl
      k_steps
      (rename Fr _ _ _ _ => F2); (rename News _ _ _ _ => N2); (rename IsRange _ _ _ _ _ _ _ _ => R2)
      refine Stop.mk ⟨itb_range rfl R2 (small_down (by omega) (by omega) (by omega) (by omega)) (by rw [rangeSize_downNat]; omega), by rw [sizeLine_eq]; omega, .nil, fun i ys h => by rw [h.length, List.length_take]; omega, ?_, ?_⟩
      · intro i v ys C h tk m₂ E' hi hP hJ hk hn hx hC
        obtain ⟨tv, rfl⟩ := hP
        have FC := turn_fr hk hn hC
        refine wpAny_tests_nil ⟨_, _, rfl, fun _ _ e => e, ?_⟩
        rw [if_pos rfl]
        walk1
        walk1
        refine' cx_cell FC ?a1 ?a2 ?a3 ?_
        case a1 => exact rfl
        case a2 => exact N2.get (by k_mem)
        case a3 => assumption
        walk1
        refine' cx_cell FC ?a1 ?a2 ?a3 ?_
        case a1 => exact rfl
        case a2 => exact N2.get (by k_mem)
        case a3 => assumption
        refine cx_local FC hx ?_
        walk1
        refine shr_int_eq (by omega) ?_
        walk1
        walk1
        refine' cx_cell FC ?a1 ?a2 ?a3 ?_
        case a1 => exact rfl
        case a2 => exact N2.get (by k_mem)
        case a3 => assumption
        refine shl_small (by omega) (by omega) (by omega) (by omega) ?_
        refine mod_pos (by decide) ?_
        refine ⟨_, _, rfl, fun _ _ e => e, ?_⟩
        refine regr_turn (many := (8 * ns.length + 5) / 6) hJ (by omega) ?_
        have e1 : (6 * ((many : Int) - 1 + i * (-1))).toNat = 6 * ((8 * ns.length + 5) / 6 - 1 - i) := by omega
        have e2 : (-((many : Int) * 6 - (ns.length : Int) * 8)).toNat = 0 := by omega
        have e3 : 6 * ((8 * ns.length + 5) / 6) - 8 * ns.length = 0 := by omega
        rw [e1, e2, e3, Int.pow_zero, Int.mul_one, Int.ediv_one]
        rfl
      · intro D h tk ys hJ hk hD hle
        have hJ' : IntsAre ys (figs ns) := by rw [List.take_of_length_le (by unfold figs; rw [digs_length]; omega)] at hJ; exact hJ
        refine hret _ _ _ (fun b o e => hk b o (F2.keep b o (hg1 ▸ e))) ⟨D, ys, rfl, hD, hJ', ?_⟩
        have a1 := F2.above
        have a2 := ltN F2.ns.lt
        rw [hg1] at a1
        exact Nat.le_trans a1 (Nat.le_trans (Nat.le_of_lt a2) hle)
noncomputable def dec8 (l : List Int) : List Int := digs 8 (val 6 l / 2 ^ (6 * l.length - 8 * (6 * l.length / 8))) (6 * l.length / 8)
theorem setLaw23 : True := by
  k_with "binaryOp BitOr int int" => (with_reducible refine or_int_eq (orR6 (by assumption) (by omega) (by omega)) ?_)
  trivial
theorem sp_regr68 : ∀ {w : World} (l : Addr) (vs : List Value) (ns : List Int) (many : Nat) (t u v : Tok), Spec PySem.Challenge.rw_qh0091_01.row.toRowW.prog w (K0 w.params) 177 ⟨[.ref l, .int 6 t, .int 8 u, .int many v], []⟩ 1 (fun h => h.IsList l vs.toArray ∧ IntsAre vs ns ∧ (∀ v ∈ ns, 0 ≤ v ∧ v < 64) ∧ ns.length ≤ 1000 ∧ many = 6 * ns.length / 8) (fun h h' v => ∃ l ys, v = .ref l ∧ h'.get? l = some (LCg.lst ys) ∧ IntsAre ys (dec8 ns) ∧ h.objs.size ≤ l) := by
  intro w l vs ns many t u v p loose mean mg mb dp un fr gd s R G hdp hu hpre hret
  obtain ⟨hl, hi, hr, hlen, hmany⟩ := hpre
  refine' enterC [(Str.ofString "row", .ref l), (Str.ofString "old", .int 6 t), (Str.ofString "new", .int 8 u), (Str.ofString "many", .int many v)] ?k1 ?k6 ?k7 ?k8 ?k9 ?kB ?kN ?_ ?c2 ?c3 ?c4
  walk_at "my_enterC"
  (rename _ = Shared.heap _ => hg1)
  rw [← hg1] at hl
  k_steps
  refine Stop.mk ?_
  (rename Fr _ _ _ _ => F1); (rename News _ _ _ _ => N1)
  with_unfolding_all refine' For_invVF F1 ?k1 ?k2 ?_
  case k1 => exact rfl
  case k2 => exact rfl
  walk1
  refine' kst_list (σ := Obj × Int × Tok) (fun c => [(_, c.1), _]) (fun _ => []) (fun c => c.1.data = .cell (some (.int c.2.1 c.2.2))) [] (fun pre c => c.2.1 = val 6 pre) (_, 0, _) rfl hl hi F1 N1 ?kf ?kk rfl ?_ ?_
  case kf => assumption
  case kk => exact List.forall_mem_nil _
  · clear F1 N1
    rintro ⟨o1, nb, t1⟩ pre post n tn u h tk own kEq kMem kOff kFacts kInv kFr kNews
    dsimp only [kstB] at kFr
    dsimp only at kNews kOff kFacts kInv
    simp only [List.cons_append, List.nil_append, List.map_cons, List.map_nil] at kNews kOff
    have kMark := kstMark
    subst kInv
    have hb := hr n kMem
    have hpr : ∀ v ∈ pre, 0 ≤ v ∧ v < 2 ^ 6 := fun v hv => hr v (by rw [kEq]; exact List.mem_append_left _ hv)
    have h0 : 0 ≤ val 6 pre := val_nonneg 6 pre fun v hv => (hpr v hv).1
    have h1 := val_lt 6 pre hpr
    have h2 : pre.length ≤ 1000 := by
      have := congrArg List.length kEq
      rw [List.length_append] at this
      omega
    k_with "state" => exact (val_snoc 6 _ _).symm
    k_steps
  · clear F1 N1
    rintro ⟨o1, nb, t1⟩ u h tk kFacts kInv kFr kNews
    dsimp only [kstB] at kFr
    dsimp only at kNews kFacts kInv
    subst kInv
    have h0 : 0 ≤ val 6 ns := val_nonneg 6 ns fun v hv => (hr v hv).1
    have h1 := val_lt 6 ns hr
    have hvl : vs.length = ns.length := hi.length
    have hmk : (many : Int) ≤ 2000 := by omega
    k_steps
    all_goals first | (exfalso; omega) | skip
    · refine Stop.mk ?_
      refine' comp_evalS (n := many) (P := fun i v => ∃ t, v = .int ((many : Int) - 1 + i * (-1)) t) (J := fun i ys => IntsAre ys ((dec8 ns).take i)) ?kc ?kl ?kd ?kn ?kx ?_
      case kc => exact rfl
      case kl => decide
      case kd => exact rfl
      case kn => decide
      case kx => exact rfl
      k_steps
      (rename Fr _ _ _ _ => F2); (rename News _ _ _ _ => N2); (rename IsRange _ _ _ _ _ _ _ _ => R2)
      refine Stop.mk ⟨itb_range rfl R2 (small_down (by omega) (by omega) (by omega) (by omega)) (by rw [rangeSize_downNat]; omega), by rw [sizeLine_eq]; omega, .nil, fun i ys h => by rw [h.length, List.length_take]; omega, ?_, ?_⟩
      · intro i v ys C h tk m₂ E' hi hP hJ hk hn hx hC
        obtain ⟨tv, rfl⟩ := hP
        have FC := turn_fr hk hn hC
        refine wpAny_tests_nil ⟨_, _, rfl, fun _ _ e => e, ?_⟩
        rw [if_pos rfl]
        walk1
        walk1
        refine' cx_cell FC ?a1 ?a2 ?a3 ?_
        case a1 => exact rfl
        case a2 => exact N2.get (by k_mem)
        case a3 => assumption
        walk1
        refine' cx_cell FC ?a1 ?a2 ?a3 ?_
        case a1 => exact rfl
        case a2 => exact N2.get (by k_mem)
        case a3 => assumption
        refine cx_local FC hx ?_
        walk1
        refine shr_int_eq (by omega) ?_
        walk1
        walk1
        refine' cx_cell FC ?a1 ?a2 ?a3 ?_
        case a1 => exact rfl
        case a2 => exact N2.get (by k_mem)
        case a3 => assumption
        refine shl_small (by omega) (by omega) (by omega) (by omega) ?_
        refine mod_pos (by decide) ?_
        refine ⟨_, _, rfl, fun _ _ e => e, ?_⟩
        refine regr_turn (many := 6 * ns.length / 8) hJ (by omega) ?_
        have e1 : (8 * ((many : Int) - 1 + i * (-1))).toNat = 8 * (6 * ns.length / 8 - 1 - i) := by omega
        have e2 : (-((many : Int) * 8 - (ns.length : Int) * 6)).toNat = 6 * ns.length - 8 * (6 * ns.length / 8) := by omega
        rw [e1, e2]
        rfl
      · intro D h tk ys hJ hk hD hle
        have hJ' : IntsAre ys (dec8 ns) := by rw [List.take_of_length_le (by unfold dec8; rw [digs_length]; omega)] at hJ; exact hJ
        refine hret _ _ _ (fun b o e => hk b o (F2.keep b o (hg1 ▸ e))) ⟨D, ys, rfl, hD, hJ', ?_⟩
        have a1 := F2.above
        have a2 := ltN F2.ns.lt
        rw [hg1] at a1
        exact Nat.le_trans a1 (Nat.le_trans (Nat.le_of_lt a2) hle)
theorem sp_regr86I {w : World} (l : Addr) (vs : List Value) (ns : List Int) (M : Int) (t u v : Tok) : Spec PySem.Challenge.rw_qh0091_01.row.toRowW.prog w (K0 w.params) 177 ⟨[.ref l, .int 8 t, .int 6 u, .int M v], []⟩ 1 (fun h => h.IsList l vs.toArray ∧ IntsAre vs ns ∧ (∀ v ∈ ns, 0 ≤ v ∧ v < 256) ∧ ns.length ≤ 1000 ∧ M = (((8 * ns.length + 5) / 6 : Nat) : Int)) (fun h h' v => ∃ l ys, v = .ref l ∧ h'.get? l = some (LCg.lst ys) ∧ IntsAre ys (figs ns) ∧ h.objs.size ≤ l) := by
  intro p loose mean mg mb dp un fr gd s R G hdp hu hpre hret
  obtain ⟨h1, h2, h3, h4, rfl⟩ := hpre
  exact sp_regr86 l vs ns _ t u v p loose mean mg mb dp un fr gd s R G hdp hu ⟨h1, h2, h3, h4, rfl⟩ hret
theorem sp_regr68I {w : World} (l : Addr) (vs : List Value) (ns : List Int) (M : Int) (t u v : Tok) : Spec PySem.Challenge.rw_qh0091_01.row.toRowW.prog w (K0 w.params) 177 ⟨[.ref l, .int 6 t, .int 8 u, .int M v], []⟩ 1 (fun h => h.IsList l vs.toArray ∧ IntsAre vs ns ∧ (∀ v ∈ ns, 0 ≤ v ∧ v < 64) ∧ ns.length ≤ 1000 ∧ M = ((6 * ns.length / 8 : Nat) : Int)) (fun h h' v => ∃ l ys, v = .ref l ∧ h'.get? l = some (LCg.lst ys) ∧ IntsAre ys (dec8 ns) ∧ h.objs.size ≤ l) := by
  intro p loose mean mg mb dp un fr gd s R G hdp hu hpre hret
  obtain ⟨h1, h2, h3, h4, rfl⟩ := hpre
  exact sp_regr68 l vs ns _ t u v p loose mean mg mb dp un fr gd s R G hdp hu ⟨h1, h2, h3, h4, rfl⟩ hret
end Mine
end
section
open PySem PySem.W PyProof.Rows
namespace Mine
theorem setLaw40 : True := by
  k_with_none
  k_with "call type:type" => ((with_reducible show wpAny _ _ (call (Value.type "type") [Value.bytes _ _]) _ _ _); refine call_type_of (Tx := "bytes") rfl (by decide +kernel) ?_)
  k_with "my_enterC" => ((case k1 => assumption); (case k6 => k_is); (case k7 => k_is); (case k8 => (dsimp only; omega)); (case k9 => exact rfl); (case kB => exact rfl); (case kN => decide); (case c2 => exact rfl); (case c3 => exact rfl); (case c4 => exact rfl); intro g' L' h' tk' cells' hg' F' N' Y' X' T'; (k_cells Y'); (try dsimp only); (try k_fold))
  k_with "binaryOp LShift int int" => (with_reducible refine shl_bits (by assumption) (by assumption) (by omega) (by omega) (by omega) ?_)
  k_with "binaryOp BitOr int int" => (first | with_reducible refine or_int_eq (orR8 (by assumption) (by omega) (by omega)) ?_ | with_reducible refine or_int_eq (orR6 (by assumption) (by omega) (by omega)) ?_)
  k_with "binaryOp RShift int int" => (with_reducible refine shr_int_eq (by omega) ?_)
  k_with "eval ListComp" => refine Stop.out ?_
  k_with "exec Assign cons ListComp" => refine Stop.out ?_
  trivial


theorem setLaw41 : True := by
  k_with "my_side" => first | assumption | exact trivial | omega | (dsimp only [Around.deeper, Around.in1]; omega)
  k_with "my_use" => ((case kF => k_asm); (case kN => k_asm); (case kX => k_asm); (case kT => k_asm); (case kd => walk_at "my_side"); (case ku => walk_at "my_side"); (case kp => walk_at "my_side"))
  k_with "call ref" => ((refine' Spec.use (sp_signs _ _) ?kF ?kN ?kX ?kT ?kd ?ku ?kp ?_); walk_at "my_use"; intro v' h' tk' F' N' st' hv'; (obtain ⟨t', hv'⟩ := hv'); subst hv'; (try dsimp only); (try k_fold))
  k_with "my_useL" => ((case kF => k_asm); (case kN => k_asm); (case kX => k_asm); (case kT => k_asm); (case kd => walk_at "my_side"); (case ku => walk_at "my_side"))
  trivial
/-- the sign of a figure in the written table with the two last signs c1, c2 -/
noncomputable def sgn (c1 c2 : Nat) (v : Int) : Str := ⟨#[if v = 62 then c1 else if v = 63 then c2 else (b64c v).toNat]⟩
theorem signs_at (c1 c2 : Nat) {v : Int} (h0 : 0 ≤ v) (h1 : v < 64) : (Str.ofString "ABCDEFGHIJKLMNOPQRSTUVWXYZabcdefghijklmnopqrstuvwxyz0123456789" ++ (⟨#[c1, c2]⟩ : Str)).cps[v.toNat]? = some (if v = 62 then c1 else if v = 63 then c2 else (b64c v).toNat) := by
  show ((Str.ofString "ABCDEFGHIJKLMNOPQRSTUVWXYZabcdefghijklmnopqrstuvwxyz0123456789").cps ++ #[c1, c2])[v.toNat]? = _
  have hs : (Str.ofString "ABCDEFGHIJKLMNOPQRSTUVWXYZabcdefghijklmnopqrstuvwxyz0123456789").cps.size = 62 := by decide +kernel
  by_cases a : v < 62
  · rw [Array.getElem?_append_left (by omega), if_neg (by omega), if_neg (by omega)]
    have key : ∀ n : Fin 62, (Str.ofString "ABCDEFGHIJKLMNOPQRSTUVWXYZabcdefghijklmnopqrstuvwxyz0123456789").cps[(n : Nat)]? = some (b64c (n : Nat)).toNat := by decide +kernel
    have := key ⟨v.toNat, by omega⟩
    rw [Int.toNat_of_nonneg h0] at this
    exact this
  · rw [Array.getElem?_append_right (by omega), hs]
    by_cases b : v = 62
    · subst b; rfl
    · obtain rfl : v = 63 := by omega
      rfl
section
variable {prog : Program} {w : World} {A : Around} {E : Value → Shared → Prop} {Q : Value → Shared → Prop} {s : Shared} {t u : Tok}
theorem sign_item {x : Str} {i : Int} {c : Nat} {value slice : Expr} (h0 : 0 ≤ i) (h1 : i < 1000000) (hc : x.cps[i.toNat]? = some c) (h : Q (.str ⟨#[c]⟩ s.toks) { s with toks := s.toks + 1 })
    (hs : subscripted slice false (.str x t) (.int i u) = operate [.str x t, .int i u] (getItem (.str x t) (.int i u)) := by with_unfolding_all rfl) :
    wpAny (model prog w) A (subscriptTail value slice (.str x t) (.int i u)) Q E s := by
  have hlt : i.toNat < x.cps.size := (Array.getElem?_eq_some_iff.mp hc).1
  refine tail_any (typeIs_str s x t) slot_str_getitem.lookup (getItem_str ?_ ?_ h) hs
  · have e : (2 : Int) ^ 63 = 9223372036854775808 := by decide
    rw [e]
    simp only [Bool.or_eq_false_iff, decide_eq_false_iff_not]
    omega
  · have : seqIndex? i x.length = some i.toNat := by
      have hl : x.length = x.cps.size := rfl
      unfold seqIndex?
      simp only [hl]
      have hn : ¬ i < 0 := by omega
      simp only [hn, if_false]
      simp
      omega
    rw [this]
    exact hc
end
theorem join_ones (f : Int → Nat) (l : List Int) : Txt.join (Str.ofString "") (l.map fun v => (⟨#[f v]⟩ : Str)) = ⟨(l.map f).toArray⟩ := by
  have hgl : (Str.ofString "").cps = #[] := by decide +kernel
  have key : ∀ (l : List Int) (acc : Array Nat), (l.map fun v => (⟨#[f v]⟩ : Str)).foldl (fun acc p => acc ++ (Str.ofString "").cps ++ p.cps) acc = acc ++ (l.map f).toArray := by
    intro l
    induction l with
    | nil => intro acc; simp
    | cons a r ih =>
      intro acc
      rw [List.map_cons, List.foldl_cons, ih, hgl]
      simp
  unfold Txt.join Builtin.Str.glued
  cases l with
  | nil => rfl
  | cons a r =>
    rw [List.map_cons, List.drop_one, List.tail_cons, key]
    simp
/-- what _law_written writes: the signs' numbers -/
noncomputable def wrt (c1 c2 : Nat) (ns : List Int) : List Nat := ((figs ns).map fun v => if v = 62 then c1 else if v = 63 then c2 else (b64c v).toNat) ++ List.replicate ((4 - (figs ns).length % 4) % 4) 61
theorem pads_eq (n : Nat) : (-(n : Int)).fmod 4 = (((4 - n % 4) % 4 : Nat) : Int) := by
  rw [Int.fmod_eq_emod_of_nonneg _ (by decide)]
  omega
theorem mul_eq4 (k : Nat) (hk : k < 4) : Txt.mul (Str.ofString "=") ((k : Nat) : Int) = ⟨(List.replicate k 61).toArray⟩ := by
  have : ∀ k : Fin 4, Txt.mul (Str.ofString "=") (((k : Nat) : Nat) : Int) = ⟨(List.replicate k 61).toArray⟩ := by decide +kernel
  exact this ⟨k, hk⟩
theorem sum_ones (f : Int → Nat) (h : ∀ v, f v = 1) : ∀ l : List Int, (l.map f).sum = l.length
  | [] => rfl
  | a :: r => by rw [List.map_cons, List.sum_cons, h, sum_ones f h r, List.length_cons, Nat.add_comm]
theorem sp_written : ∀ {w : World} (l : Addr) (vs : List Value) (ns : List Int) (c1 c2 : Nat) (t : Tok), Spec PySem.Challenge.rw_qh0091_01.row.toRowW.prog w (K0 w.params) 182 ⟨[.ref l, .str ⟨#[c1, c2]⟩ t], []⟩ 2 (fun h => h.IsList l vs.toArray ∧ IntsAre vs ns ∧ (∀ v ∈ ns, 0 ≤ v ∧ v < 256) ∧ ns.length ≤ 1000) (fun h h' v => ∃ t, v = .str ⟨(wrt c1 c2 ns).toArray⟩ t) := by
  k_fill
  intro w l vs ns c1 c2 t p loose mean mg mb dp un fr gd s R G hdp hu hpre hret
  obtain ⟨hl, hi, hr, hlen⟩ := hpre
  have hlast : (⟨#[c1, c2]⟩ : Str).length ≤ 1000 := by show 2 ≤ 1000; omega
  have hvl : vs.length = ns.length := hi.length
  refine' enterC [(Str.ofString "row", .ref l), (Str.ofString "last", .str ⟨#[c1, c2]⟩ t)] ?k1 ?k6 ?k7 ?k8 ?k9 ?kB ?kN ?_ ?c2 ?c3 ?c4
  walk_at "my_enterC"
  (rename _ = Shared.heap _ => hg1)
  rw [← hg1] at hl
  k_steps
  (rename Fr _ _ _ _ => F3)
  refine' Spec.useL (sp_regr86I _ vs ns _ _ _ _) ?kF ?kN ?kX ?kT ?kd ?ku ?kp ?_
  walk_at "my_useL"
  case kp =>
    refine ⟨stays_list F3.keep hl, hi, hr, hlen, ?_⟩
    rw [Int.fdiv_eq_ediv_of_nonneg _ (by decide)]
    omega
  intro l1 ys1 h1 tk1 F4 N4 lt4 hR1
  k_lt lt4
  dsimp only
  k_steps
  refine Stop.mk ?_
  have hlf : ys1.length = (figs ns).length := hR1.length
  have hfl : (figs ns).length = (8 * ns.length + 5) / 6 := by unfold figs; rw [digs_length]
  refine' comp_evalS (n := ys1.toArray.size) (P := fun i v => ys1.toArray[i]? = some v) (J := fun i ys => StrsAre ys (((figs ns).map (sgn c1 c2)).take i)) ?kc ?kl ?kd ?kn ?kx ?_
  case kc => exact rfl
  case kl => decide
  case kd => exact rfl
  case kn => decide
  case kx => exact rfl
  k_steps
  (rename Fr _ _ _ _ => F2); (rename News _ _ _ _ => N2)
  refine Stop.mk ⟨itb_list rfl ⟨_, N2.get (by k_mem), rfl, _, rfl⟩, by rw [sizeLine_eq, List.size_toArray]; omega, .nil, fun i ys h => by rw [h.length, List.length_take]; omega, ?_, ?_⟩
  · intro i v ys C h tk m₂ E' hi1 hP hJ hk hn hx hC
    rw [List.size_toArray] at hi1
    obtain ⟨x, tx, rfl, hxx⟩ := IntsAre.at hR1 i v (by simpa using hP)
    have hrg := figs_range ns x (List.mem_of_getElem? hxx)
    have FC := turn_fr hk hn hC
    refine wpAny_tests_nil ⟨_, _, rfl, fun _ _ e => e, ?_⟩
    rw [if_pos rfl]
    walk1
    refine' cx_cell FC ?a1 ?a2 ?a3 ?_
    case a1 => exact rfl
    case a2 => exact N2.get (by k_mem)
    case a3 => assumption
    refine cx_local FC hx ?_
    refine sign_item hrg.1 (by omega) (signs_at c1 c2 hrg.1 hrg.2) ?_
    refine ⟨_, _, rfl, fun _ _ e => e, ?_⟩
    have hm : ((figs ns).map (sgn c1 c2))[i]? = some (sgn c1 c2 x) := by rw [List.getElem?_map, hxx]; rfl
    show StrsAre (ys ++ [.str (sgn c1 c2 x) _]) _
    rw [List.take_add_one, hm]
    exact StrsAre.append' hJ (.cons _ _ .nil)
  · intro D h tk ys hJ hk hD hle
    have hJ' : StrsAre ys ((figs ns).map (sgn c1 c2)) := by rw [List.take_of_length_le (by rw [List.length_map, List.size_toArray]; omega)] at hJ; exact hJ
    have F5 := Fr.after_stays F2 hk
    have N5 := news_add (o := W.listOf ys.toArray ys.length) F2 N2 hk hD hle
    have lt5 := news_below N2 hle
    k_lt lt5
    clear F2 N2
    dsimp only
    k_steps
    refine join_list ⟨_, N5.get (by k_mem), rfl, _, rfl⟩ hJ' ?_ ?_
    · have e0 : (Str.ofString "").length = 0 := by decide +kernel
      have e1 : (((figs ns).map (sgn c1 c2)).map (·.length)).sum = (figs ns).length := by
        rw [List.map_map]
        exact sum_ones _ (fun _ => rfl) _
      rw [e0, e1]
      omega
    · intro tj kj
      have ej : Txt.join (Str.ofString "") ((figs ns).map (sgn c1 c2)) = ⟨((figs ns).map fun v => if v = 62 then c1 else if v = 63 then c2 else (b64c v).toNat).toArray⟩ := join_ones _ _
      rw [ej]
      k_with "binaryOp Add str str" => refine Stop.out ?_
      k_steps
      refine Stop.mk ?_
      rw [pads_eq, mul_eq4 _ (by omega)]
      refine add_str (fun t' tk' => ?_) ?_
      · refine hret _ _ _ (stays_of (by assumption) (by assumption)) ⟨_, congrArg (fun z => Value.str z _) ?_⟩
        unfold wrt
        apply Str.ext'
        show (_ : Array Nat) ++ _ = _
        simp
      · show ((figs ns).map _).toArray.size + (List.replicate _ _).toArray.size ≤ _
        rw [List.size_toArray, List.size_toArray, List.length_map, List.length_replicate, sizeLine_eq]
        omega
end Mine
end
section
open PySem PySem.W PyProof.Rows
namespace Mine
theorem b64v_b64c {v : Int} (h : 0 ≤ v) (h' : v < 64) : b64v (b64c v) = v := by
  have key : ∀ n : Fin 64, b64v (b64c ((n : Nat) : Int)) = ((n : Nat) : Int) := by decide +kernel
  have := key ⟨v.toNat, by omega⟩
  rw [Int.toNat_of_nonneg h] at this
  exact this
theorem b64c_ne {v : Int} (h : 0 ≤ v) (h' : v < 64) : b64c v ≠ 61 := by
  intro e
  have := b64v_b64c h h'
  rw [e] at this
  have e2 : b64v 61 = 64 := by decide
  omega
/-- signs that are no base-64 signs and no padding change nothing where it is not strict -/
theorem a2bFold_noise : ∀ (data : List Int) (q l p : Int) (out : List Int), a2bFold false data (.go q l p out) = a2bFold false (data.filter fun c => decide (c = 61) || decide (b64v c < 64)) (.go q l p out)
  | [], _, _, _, _ => rfl
  | c :: r, q, l, p, out => by
    by_cases hc : c = 61
    · rw [List.filter_cons_of_pos (by simp [hc])]
      show a2bFold false r (a2bStep false q l p out c) = a2bFold false (r.filter _) (a2bStep false q l p out c)
      rw [st_pad2 hc rfl]
      exact a2bFold_noise r _ _ _ _
    · by_cases hv : b64v c < 64
      · rw [List.filter_cons_of_pos (by simp [hv])]
        show a2bFold false r (a2bStep false q l p out c) = a2bFold false (r.filter _) (a2bStep false q l p out c)
        cases hs : a2bStep false q l p out c with
        | go q' l' p' out' => exact a2bFold_noise r _ _ _ _
        | brk q' l' p' out' => rw [a2bFold_brk, a2bFold_brk]
        | err => rw [a2bFold_err, a2bFold_err]
      · rw [List.filter_cons_of_neg (by simp [hc, hv])]
        show a2bFold false r (a2bStep false q l p out c) = _
        rw [st_bad hc (by omega) rfl]
        exact a2bFold_noise r _ _ _ _
theorem go_congr {q q' l l' p : Int} {o o' : List Int} (h1 : q = q') (h2 : l = l') (h3 : o = o') : Stp.go q l p o = Stp.go q' l' p o' := by rw [h1, h2, h3]
theorem snoc_congr {a a' : List Int} {b b' : Int} (h1 : a = a') (h2 : b = b') : a ++ [b] = a' ++ [b'] := by rw [h1, h2]
/-- the figures alone: the state behind them -/
theorem a2bFold_figs (st : Bool) (F : List Int) (h : ∀ v ∈ F, 0 ≤ v ∧ v < 64) : a2bFold st (F.map b64c) (.go 0 0 0 []) = .go ((F.length % 4 : Nat) : Int) (val 6 F % 2 ^ (6 * F.length % 8)) 0 (dec8 F) := by
  induction F using snoc_ind with
  | h0 => rfl
  | h1 F v ih =>
    have hF := ih fun x hx => h x (List.mem_append_left _ hx)
    have hv := h v (by simp)
    have hb := b64v_b64c hv.1 hv.2
    have hlt : b64v (b64c v) < 64 := by omega
    have hne := b64c_ne hv.1 hv.2
    have hl : (F ++ [v]).length = F.length + 1 := by simp
    have hs := val_snoc 6 F v
    have e6 : (2 : Int) ^ 6 = 64 := rfl
    rw [e6] at hs
    rw [List.map_append, a2bFold_append, hF]
    show a2bStep st _ _ _ _ (b64c v) = _
    have q4 : F.length % 4 = 0 ∨ F.length % 4 = 1 ∨ F.length % 4 = 2 ∨ F.length % 4 = 3 := by omega
    have a2 : (2 : Int) ^ 2 = 4 := rfl
    have a4 : (2 : Int) ^ 4 = 16 := rfl
    have a0 : (2 : Int) ^ 0 = 1 := rfl
    have a8 : (2 : Int) ^ 8 = 256 := rfl
    rcases q4 with q | q | q | q
    · have m1 : 6 * F.length % 8 = 0 := by omega
      have m2 : 6 * (F.length + 1) % 8 = 6 := by omega
      have m3 : (F.length + 1) % 4 = 1 := by omega
      have m4 : 6 * F.length - 8 * (6 * F.length / 8) = 0 := by omega
      have m5 : 6 * (F.length + 1) - 8 * (6 * F.length / 8) = 6 := by omega
      have m6 : 6 * (F.length + 1) / 8 = 6 * F.length / 8 := by omega
      rw [q, st_0 (q := ((0 : Nat) : Int)) hne hlt (Or.inl rfl) rfl, hb, hl, m3]
      unfold dec8
      simp only [hl, hs, m1, m2, m4, m5, m6, a0, e6]
      refine go_congr (by rfl) (by omega) (congrArg (fun z => digs 8 z _) (by omega))
    · have m1 : 6 * F.length % 8 = 6 := by omega
      have m2 : 6 * (F.length + 1) % 8 = 4 := by omega
      have m3 : (F.length + 1) % 4 = 2 := by omega
      have m4 : 6 * F.length - 8 * (6 * F.length / 8) = 6 := by omega
      have m5 : 6 * (F.length + 1) - 8 * (6 * F.length / 8 + 1) = 4 := by omega
      have m6 : 6 * (F.length + 1) / 8 = 6 * F.length / 8 + 1 := by omega
      rw [q, st_1 (q := ((1 : Nat) : Int)) hne hlt (Or.inl rfl) rfl, hb, hl, m3]
      unfold dec8
      simp only [hl, hs, m1, m2, m4, m5, m6, digs, a8, e6, a4]
      refine go_congr (by rfl) (by omega) (snoc_congr (congrArg (fun z => digs 8 z _) (by omega)) (by omega))
    · have m1 : 6 * F.length % 8 = 4 := by omega
      have m2 : 6 * (F.length + 1) % 8 = 2 := by omega
      have m3 : (F.length + 1) % 4 = 3 := by omega
      have m4 : 6 * F.length - 8 * (6 * F.length / 8) = 4 := by omega
      have m5 : 6 * (F.length + 1) - 8 * (6 * F.length / 8 + 1) = 2 := by omega
      have m6 : 6 * (F.length + 1) / 8 = 6 * F.length / 8 + 1 := by omega
      rw [q, st_2 (q := ((2 : Nat) : Int)) hne hlt (Or.inl rfl) rfl, hb, hl, m3]
      unfold dec8
      simp only [hl, hs, m1, m2, m4, m5, m6, digs, a8, a4, a2]
      refine go_congr (by rfl) (by omega) (snoc_congr (congrArg (fun z => digs 8 z _) (by omega)) (by omega))
    · have m1 : 6 * F.length % 8 = 2 := by omega
      have m2 : 6 * (F.length + 1) % 8 = 0 := by omega
      have m3 : (F.length + 1) % 4 = 0 := by omega
      have m4 : 6 * F.length - 8 * (6 * F.length / 8) = 2 := by omega
      have m5 : 6 * (F.length + 1) - 8 * (6 * F.length / 8 + 1) = 0 := by omega
      have m6 : 6 * (F.length + 1) / 8 = 6 * F.length / 8 + 1 := by omega
      rw [q, st_3 (q := ((3 : Nat) : Int)) hne hlt (Or.inl rfl) (by decide) (by decide) (by decide), hb, hl, m3]
      unfold dec8
      simp only [hl, hs, m1, m2, m4, m5, m6, digs, a8, a2, a0]
      refine go_congr (by rfl) (by omega) (snoc_congr (congrArg (fun z => digs 8 z _) (by omega)) (by omega))
end Mine
end
section
open PySem PySem.W PyProof.Rows
namespace Mine
/-- the padding behind the figures -/
theorem a2bFold_pads (st : Bool) (q l : Int) (out : List Int) : ∀ (k : Nat) (p : Int), 0 ≤ p → (k = 0 ∨ (2 ≤ q ∧ q + p + k ≤ 4)) → a2bFold st (List.replicate k 61) (.go q l p out) = .go q l (p + k) out
  | 0, p, _, _ => by simp [a2bFold]
  | k + 1, p, hp, h => by
    rw [List.replicate_succ]
    show a2bFold st (List.replicate k 61) (a2bStep st q l p out 61) = _
    rw [st_pad1 rfl (by omega) (by omega), a2bFold_pads st q l out k (p + 1) (by omega) (by omega)]
    congr 1
    omega
/-- base 64, written well, is read: strict or not -/
theorem a2b_written (st : Bool) (F : List Int) (h : ∀ v ∈ F, 0 ≤ v ∧ v < 64) (h1 : F.length % 4 ≠ 1) : a2b st (F.map b64c ++ List.replicate ((4 - F.length % 4) % 4) 61) = some (dec8 F) := by
  unfold a2b
  rw [a2bFold_append, a2bFold_figs st F h, a2bFold_pads st _ _ _ _ 0 (by omega) (by omega)]
  dsimp only
  rw [if_neg (by omega), if_neg (by omega)]
theorem emod_split (N : Int) {a c : Int} (ha : 0 < a) (hc : 0 < c) : N / a % c * a + N % a = N % (a * c) := by
  have e1 := Int.mul_ediv_add_emod N a
  have e2 := Int.mul_ediv_add_emod (N / a) c
  have r1 := Int.emod_nonneg N (Int.ne_of_gt ha)
  have r2 := Int.emod_lt_of_pos N ha
  have r3 := Int.emod_nonneg (N / a) (Int.ne_of_gt hc)
  have r4 := Int.emod_lt_of_pos (N / a) hc
  have key : N = (N / a % c * a + N % a) + a * c * (N / a / c) := by
    have : a * (c * (N / a / c) + N / a % c) + N % a = N := by rw [e2]; exact e1
    rw [Int.mul_add] at this
    rw [Int.mul_assoc, Int.mul_comm (N / a % c) a]
    omega
  have lo : 0 ≤ N / a % c * a := Int.mul_nonneg r3 (Int.le_of_lt ha)
  have hi : (N / a % c + 1) * a ≤ c * a := Int.mul_le_mul_of_nonneg_right r4 (Int.le_of_lt ha)
  rw [Int.add_mul, Int.one_mul] at hi
  rw [Int.mul_comm c a] at hi
  have h := congrArg (fun z => z % (a * c)) key
  have h2 : (N / a % c * a + N % a) % (a * c) = N / a % c * a + N % a := Int.emod_eq_of_lt (by omega) (by omega)
  have h3 : (N / a % c * a + N % a + a * c * (N / a / c)) % (a * c) = (N / a % c * a + N % a) % (a * c) := Int.add_mul_emod_self_left _ _ _
  exact ((Eq.trans h h3).trans h2).symm
theorem val_digs (b : Nat) : ∀ (m : Nat) (N : Int), val b (digs b N m) = N % 2 ^ (b * m)
  | 0, N => by simp [digs, val, Int.emod_one]
  | m + 1, N => by
    rw [digs, val_snoc, val_digs b m, Nat.mul_add, Nat.mul_one, Nat.add_comm, Int.pow_add]
    exact emod_split N (two_pow_pos b) (two_pow_pos (b * m))
theorem dec8_figs (l : List Int) (h : ∀ v ∈ l, 0 ≤ v ∧ v < 256) : dec8 (figs l) = l := by
  have hV0 : 0 ≤ val 8 l := val_nonneg 8 l fun v hv => (h v hv).1
  have hV1 : val 8 l < 2 ^ (8 * l.length) := val_lt 8 l h
  have hlen : (figs l).length = (8 * l.length + 5) / 6 := by unfold figs; rw [digs_length]
  have h6 : 6 * ((8 * l.length + 5) / 6) = 8 * l.length + (6 * ((8 * l.length + 5) / 6) - 8 * l.length) := by omega
  have hval : val 6 (figs l) = val 8 l * 2 ^ (6 * ((8 * l.length + 5) / 6) - 8 * l.length) := by
    unfold figs
    rw [val_digs]
    refine Int.emod_eq_of_lt (Int.mul_nonneg hV0 (Int.le_of_lt (two_pow_pos _))) ?_
    conv => rhs; rw [h6, Int.pow_add]
    exact Int.mul_lt_mul_of_pos_right hV1 (two_pow_pos _)
  unfold dec8
  rw [hlen, hval]
  have e1 : 6 * ((8 * l.length + 5) / 6) / 8 = l.length := by omega
  rw [e1, Int.mul_ediv_cancel _ (Int.ne_of_gt (two_pow_pos _))]
  exact digs_val 8 l h
end Mine
end
section
open PySem PySem.W PyProof.Rows
namespace Mine
/-- which rows are not empty -/
noncomputable def sel3 (a b c : Nat) : List Nat := (if a = 0 then [] else [0]) ++ ((if b = 0 then [] else [1]) ++ (if c = 0 then [] else [2]))
/-- whose turn it is -/
noncomputable def turnOf (ns : List Int) (k : Nat) (a b c : Nat) : Nat := (sel3 a b c).getD (ns.getD (k % ns.length) 0 / 9 % ((sel3 a b c).length : Int)).toNat 3
noncomputable def sched (ns : List Int) : Nat → Nat → Nat → Nat → Nat → List Nat
  | _, 0, _, _, _ => []
  | k, f + 1, a, b, c => turnOf ns k a b c :: (if turnOf ns k a b c = 0 then sched ns (k + 1) f (a - 1) b c else if turnOf ns k a b c = 1 then sched ns (k + 1) f a (b - 1) c else sched ns (k + 1) f a b (c - 1))
/-- three rows woven by a row of turns -/
noncomputable def app {α : Type} : List Nat → List α → List α → List α → List α
  | [], _, _, _ => []
  | 0 :: T, A, B, C => (match A with | a :: A => a :: app T A B C | [] => [])
  | 1 :: T, A, B, C => (match B with | b :: B => b :: app T A B C | [] => [])
  | _ :: T, A, B, C => (match C with | c :: C => c :: app T A B C | [] => [])
/-- the turns take each row to its end -/
inductive Takes : List Nat → Nat → Nat → Nat → Prop
  | nil : Takes [] 0 0 0
  | a {T a b c} : Takes T a b c → Takes (0 :: T) (a + 1) b c
  | b {T a b c} : Takes T a b c → Takes (1 :: T) a (b + 1) c
  | c {T a b c} : Takes T a b c → Takes (2 :: T) a b (c + 1)
theorem sel3_pos {a b c : Nat} (h : 0 < a + b + c) : 0 < (sel3 a b c).length := by
  unfold sel3
  repeat' split
  all_goals first | (exfalso; omega) | simp
theorem sel3_mem {a b c j : Nat} (h : j ∈ sel3 a b c) : (j = 0 ∧ 0 < a) ∨ (j = 1 ∧ 0 < b) ∨ (j = 2 ∧ 0 < c) := by
  have one : ∀ {x y : Nat}, j ∈ (if x = 0 then [] else [y]) → j = y ∧ 0 < x := fun {x y} q => by
    by_cases e : x = 0
    · rw [if_pos e] at q; cases q
    · rw [if_neg e] at q; exact ⟨List.mem_singleton.mp q, Nat.pos_of_ne_zero e⟩
  unfold sel3 at h
  rcases List.mem_append.mp h with h | h
  · exact .inl (one h)
  · rcases List.mem_append.mp h with h | h
    · exact .inr (.inl (one h))
    · exact .inr (.inr (one h))
theorem turn_lt (ns : List Int) (k : Nat) {a b c : Nat} (h : 0 < a + b + c) : (ns.getD (k % ns.length) 0 / 9 % ((sel3 a b c).length : Int)).toNat < (sel3 a b c).length := by
  have h1 := sel3_pos h
  have h2 := Int.emod_lt_of_pos (ns.getD (k % ns.length) 0 / 9) (show (0 : Int) < ((sel3 a b c).length : Int) by omega)
  have h3 := Int.emod_nonneg (ns.getD (k % ns.length) 0 / 9) (show ((sel3 a b c).length : Int) ≠ 0 by omega)
  omega
theorem turn_get (ns : List Int) (k : Nat) {a b c : Nat} (h : 0 < a + b + c) : (sel3 a b c)[(ns.getD (k % ns.length) 0 / 9 % ((sel3 a b c).length : Int)).toNat]? = some (turnOf ns k a b c) := by
  have e : ∀ (l : List Nat) (i : Nat), i < l.length → l[i]? = some (l.getD i 3) := fun l i hi => by
    rw [List.getD_eq_getElem?_getD, List.getElem?_eq_getElem hi]; rfl
  exact e _ _ (turn_lt ns k h)
theorem turn_cases (ns : List Int) (k : Nat) {a b c : Nat} (h : 0 < a + b + c) : (turnOf ns k a b c = 0 ∧ 0 < a) ∨ (turnOf ns k a b c = 1 ∧ 0 < b) ∨ (turnOf ns k a b c = 2 ∧ 0 < c) :=
  sel3_mem (List.mem_of_getElem? (turn_get ns k h))
theorem sched_takes (ns : List Int) : ∀ (f k a b c : Nat), a + b + c = f → Takes (sched ns k f a b c) a b c
  | 0, k, a, b, c, h => by
    obtain rfl : a = 0 := by omega
    obtain rfl : b = 0 := by omega
    obtain rfl : c = 0 := by omega
    exact .nil
  | f + 1, k, a, b, c, h => by
    rcases turn_cases ns k (show 0 < a + b + c by omega) with ⟨e, p⟩ | ⟨e, p⟩ | ⟨e, p⟩
    · obtain ⟨a, rfl⟩ : ∃ a', a = a' + 1 := ⟨a - 1, by omega⟩
      rw [sched, e, if_pos rfl]
      exact .a (sched_takes ns f _ _ _ _ (by omega))
    · obtain ⟨b, rfl⟩ : ∃ a', b = a' + 1 := ⟨b - 1, by omega⟩
      rw [sched, e, if_neg (by decide), if_pos rfl]
      exact .b (sched_takes ns f _ _ _ _ (by omega))
    · obtain ⟨c, rfl⟩ : ∃ a', c = a' + 1 := ⟨c - 1, by omega⟩
      rw [sched, e, if_neg (by decide), if_neg (by decide)]
      exact .c (sched_takes ns f _ _ _ _ (by omega))
/-- the rest of the weaving -/
noncomputable def rest (ns : List Int) {α : Type} (k : Nat) (A B C : List α) : List α := app (sched ns k (A.length + B.length + C.length) A.length B.length C.length) A B C
theorem rest_nil (ns : List Int) {α : Type} (k : Nat) (A B C : List α) (h : A.length + B.length + C.length = 0) : rest ns k A B C = [] := by
  unfold rest
  rw [h, sched]
  rfl
theorem rest_a (ns : List Int) {α : Type} (k : Nat) {x : α} {A B C : List α} (h : turnOf ns k (A.length + 1) B.length C.length = 0) : rest ns k (x :: A) B C = x :: rest ns (k + 1) A B C := by
  unfold rest
  have e : (x :: A).length + B.length + C.length = (A.length + B.length + C.length) + 1 := by rw [List.length_cons]; omega
  rw [e, sched, List.length_cons, h, if_pos rfl]
  rfl
theorem rest_b (ns : List Int) {α : Type} (k : Nat) {x : α} {A B C : List α} (h : turnOf ns k A.length (B.length + 1) C.length = 1) : rest ns k A (x :: B) C = x :: rest ns (k + 1) A B C := by
  unfold rest
  have e : A.length + (x :: B).length + C.length = (A.length + B.length + C.length) + 1 := by rw [List.length_cons]; omega
  rw [e, sched, List.length_cons, h, if_neg (by decide), if_pos rfl]
  rfl
theorem rest_c (ns : List Int) {α : Type} (k : Nat) {x : α} {A B C : List α} (h : turnOf ns k A.length B.length (C.length + 1) = 2) : rest ns k A B (x :: C) = x :: rest ns (k + 1) A B C := by
  unfold rest
  have e : A.length + B.length + (x :: C).length = (A.length + B.length + C.length) + 1 := by rw [List.length_cons]; omega
  rw [e, sched, List.length_cons, h, if_neg (by decide), if_neg (by decide)]
  rfl
theorem app_ind2 {α β : Type} {M : List α → List α → List α → List α → List β → List β → List β → List β → Prop} {P : α → β → Prop} {Q : List α → List β → Prop} (inv : ∀ {x A y}, Q (x :: A) y → ∃ b B, y = b :: B ∧ P x b ∧ Q A B)
    (h0 : ∀ B1 B2 B3, Q [] B1 → Q [] B2 → Q [] B3 → M [] [] [] [] B1 B2 B3 []) (hA : ∀ x A B C W x' A' B' C' W', P x x' → M A B C W A' B' C' W' → M (x :: A) B C (x :: W) (x' :: A') B' C' (x' :: W')) (hB : ∀ x A B C W x' A' B' C' W', P x x' → M A B C W A' B' C' W' → M A (x :: B) C (x :: W) A' (x' :: B') C' (x' :: W')) (hC : ∀ x A B C W x' A' B' C' W', P x x' → M A B C W A' B' C' W' → M A B (x :: C) (x :: W) A' B' (x' :: C') (x' :: W')) :
    ∀ {T : List Nat} {a b c : Nat}, Takes T a b c → ∀ (A B C : List α) (A' B' C' : List β), A.length = a → B.length = b → C.length = c → Q A A' → Q B B' → Q C C' → M A B C (app T A B C) A' B' C' (app T A' B' C') := by
  intro T a b c h
  induction h with
  | nil =>
    intro A B C A' B' C' ha hb hc qa qb qc
    rw [List.length_eq_zero_iff] at ha hb hc
    subst ha hb hc
    exact h0 _ _ _ qa qb qc
  | a h ih =>
    intro A B C A' B' C' ha hb hc qa qb qc
    obtain ⟨x, A, rfl⟩ := List.exists_cons_of_length_eq_add_one ha
    obtain ⟨x', A', rfl, px, qa⟩ := inv qa
    exact hA _ _ _ _ _ _ _ _ _ _ px (ih A B C A' B' C' (Nat.succ.inj ha) hb hc qa qb qc)
  | b h ih =>
    intro A B C A' B' C' ha hb hc qa qb qc
    obtain ⟨x, B, rfl⟩ := List.exists_cons_of_length_eq_add_one hb
    obtain ⟨x', B', rfl, px, qb⟩ := inv qb
    exact hB _ _ _ _ _ _ _ _ _ _ px (ih A B C A' B' C' ha (Nat.succ.inj hb) hc qa qb qc)
  | c h ih =>
    intro A B C A' B' C' ha hb hc qa qb qc
    obtain ⟨x, C, rfl⟩ := List.exists_cons_of_length_eq_add_one hc
    obtain ⟨x', C', rfl, px, qc⟩ := inv qc
    exact hC _ _ _ _ _ _ _ _ _ _ px (ih A B C A' B' C' ha hb (Nat.succ.inj hc) qa qb qc)
/-- what holds of the rows holds of the woven row -/
theorem app_rel {α β : Type} {P : α → β → Prop} {Q : List α → List β → Prop} (inv : ∀ {x A y}, Q (x :: A) y → ∃ b B, y = b :: B ∧ P x b ∧ Q A B) (hn : Q [] []) (hc : ∀ {x y A B}, P x y → Q A B → Q (x :: A) (y :: B))
    {T : List Nat} {A B C : List α} {A' B' C' : List β} (h : Takes T A.length B.length C.length) (qa : Q A A') (qb : Q B B') (qc : Q C C') : Q (app T A B C) (app T A' B' C') :=
  app_ind2 (M := fun _ _ _ W _ _ _ W' => Q W W') inv (fun _ _ _ _ _ _ => hn) (fun _ _ _ _ _ _ _ _ _ _ p m => hc p m) (fun _ _ _ _ _ _ _ _ _ _ p m => hc p m) (fun _ _ _ _ _ _ _ _ _ _ p m => hc p m) h A B C A' B' C' rfl rfl rfl qa qb qc
theorem app_map {α β : Type} (f : α → β) {T : List Nat} {A B C : List α} (h : Takes T A.length B.length C.length) : app T (A.map f) (B.map f) (C.map f) = (app T A B C).map f :=
  (app_rel (P := fun x y => y = f x) (Q := fun A B => B = A.map f) (fun {x A y} e => ⟨f x, A.map f, e, rfl, rfl⟩) rfl (fun p q => by rw [p, q]; rfl) h rfl rfl rfl)
theorem app_ind {α : Type} {M : List α → List α → List α → List α → Prop} (h0 : M [] [] [] []) (hA : ∀ x A B C W, M A B C W → M (x :: A) B C (x :: W)) (hB : ∀ x A B C W, M A B C W → M A (x :: B) C (x :: W)) (hC : ∀ x A B C W, M A B C W → M A B (x :: C) (x :: W))
    {T : List Nat} {a b c : Nat} (h : Takes T a b c) (A B C : List α) (ha : A.length = a) (hb : B.length = b) (hc : C.length = c) : M A B C (app T A B C) :=
  app_ind2 (β := α) (M := fun A B C W _ _ _ _ => M A B C W) (P := Eq) (Q := Eq) (fun {x A y} e => ⟨x, A, e.symm, rfl, rfl⟩) (fun _ _ _ _ _ _ => h0) (fun _ _ _ _ _ _ _ _ _ _ _ m => hA _ _ _ _ _ m) (fun _ _ _ _ _ _ _ _ _ _ _ m => hB _ _ _ _ _ m) (fun _ _ _ _ _ _ _ _ _ _ _ m => hC _ _ _ _ _ m) h A B C A B C ha hb hc rfl rfl rfl
theorem ints_app {T : List Nat} {A B C : List Value} {A' B' C' : List Int} (h : Takes T A.length B.length C.length) (qa : IntsAre A A') (qb : IntsAre B B') (qc : IntsAre C C') : IntsAre (app T A B C) (app T A' B' C') :=
  app_rel (P := fun v n => ∃ t, v = .int n t) (Q := IntsAre) (fun {x A y} e => by cases e with | cons n t r => exact ⟨_, _, rfl, ⟨t, rfl⟩, r⟩) .nil (fun ⟨t, e⟩ q => e ▸ .cons _ t q) h qa qb qc
theorem strs_app {T : List Nat} {A B C : List Value} {A' B' C' : List Str} (h : Takes T A.length B.length C.length) (qa : StrsAre A A') (qb : StrsAre B B') (qc : StrsAre C C') : StrsAre (app T A B C) (app T A' B' C') :=
  app_rel (P := fun v n => ∃ t, v = .str n t) (Q := StrsAre) (fun {x A y} e => by cases e with | cons n t r => exact ⟨_, _, rfl, ⟨t, rfl⟩, r⟩) .nil (fun ⟨t, e⟩ q => e ▸ .cons _ t q) h qa qb qc
theorem rest_takes (ns : List Int) {α : Type} (A B C : List α) : Takes (sched ns 0 (A.length + B.length + C.length) A.length B.length C.length) A.length B.length C.length := sched_takes ns _ _ _ _ _ rfl
end Mine
end
section
open PySem PySem.W PyProof.Rows
namespace Mine
section
variable {T : List Nat} {A B C : List Int} {p : Int → Bool}
theorem app_filterA (h : Takes T A.length B.length C.length) (ha : ∀ x ∈ A, p x = true) (hb : ∀ x ∈ B, p x = false) (hc : ∀ x ∈ C, p x = false) : (app T A B C).filter p = A := by
  have := app_ind (M := fun A B C W => (∀ x ∈ A, p x = true) → (∀ x ∈ B, p x = false) → (∀ x ∈ C, p x = false) → W.filter p = A) (fun _ _ _ => rfl)
    (fun x A B C W ih ha hb hc => by rw [List.filter_cons_of_pos (ha x (.head _)), ih (fun y hy => ha y (.tail _ hy)) hb hc])
    (fun x A B C W ih ha hb hc => by rw [List.filter_cons_of_neg (by rw [hb x (.head _)]; decide), ih ha (fun y hy => hb y (.tail _ hy)) hc])
    (fun x A B C W ih ha hb hc => by rw [List.filter_cons_of_neg (by rw [hc x (.head _)]; decide), ih ha hb (fun y hy => hc y (.tail _ hy))])
    h A B C rfl rfl rfl
  exact this ha hb hc
theorem app_filterB (h : Takes T A.length B.length C.length) (ha : ∀ x ∈ A, p x = false) (hb : ∀ x ∈ B, p x = true) (hc : ∀ x ∈ C, p x = false) : (app T A B C).filter p = B := by
  have := app_ind (M := fun A B C W => (∀ x ∈ A, p x = false) → (∀ x ∈ B, p x = true) → (∀ x ∈ C, p x = false) → W.filter p = B) (fun _ _ _ => rfl)
    (fun x A B C W ih ha hb hc => by rw [List.filter_cons_of_neg (by rw [ha x (.head _)]; decide), ih (fun y hy => ha y (.tail _ hy)) hb hc])
    (fun x A B C W ih ha hb hc => by rw [List.filter_cons_of_pos (hb x (.head _)), ih ha (fun y hy => hb y (.tail _ hy)) hc])
    (fun x A B C W ih ha hb hc => by rw [List.filter_cons_of_neg (by rw [hc x (.head _)]; decide), ih ha hb (fun y hy => hc y (.tail _ hy))])
    h A B C rfl rfl rfl
  exact this ha hb hc
theorem app_filterC (h : Takes T A.length B.length C.length) (ha : ∀ x ∈ A, p x = false) (hb : ∀ x ∈ B, p x = false) (hc : ∀ x ∈ C, p x = true) : (app T A B C).filter p = C := by
  have := app_ind (M := fun A B C W => (∀ x ∈ A, p x = false) → (∀ x ∈ B, p x = false) → (∀ x ∈ C, p x = true) → W.filter p = C) (fun _ _ _ => rfl)
    (fun x A B C W ih ha hb hc => by rw [List.filter_cons_of_neg (by rw [ha x (.head _)]; decide), ih (fun y hy => ha y (.tail _ hy)) hb hc])
    (fun x A B C W ih ha hb hc => by rw [List.filter_cons_of_neg (by rw [hb x (.head _)]; decide), ih ha (fun y hy => hb y (.tail _ hy)) hc])
    (fun x A B C W ih ha hb hc => by rw [List.filter_cons_of_pos (hc x (.head _)), ih ha hb (fun y hy => hc y (.tail _ hy))])
    h A B C rfl rfl rfl
  exact this ha hb hc
theorem app_all {P : Int → Prop} (h : Takes T A.length B.length C.length) (ha : ∀ x ∈ A, P x) (hb : ∀ x ∈ B, P x) (hc : ∀ x ∈ C, P x) : ∀ x ∈ app T A B C, P x := by
  have := app_ind (M := fun A B C W => (∀ x ∈ A, P x) → (∀ x ∈ B, P x) → (∀ x ∈ C, P x) → ∀ x ∈ W, P x) (fun ha _ _ => ha)
    (fun x A B C W ih ha hb hc => List.forall_mem_cons.mpr ⟨ha x (.head _), ih (fun y hy => ha y (.tail _ hy)) hb hc⟩)
    (fun x A B C W ih ha hb hc => List.forall_mem_cons.mpr ⟨hb x (.head _), ih ha (fun y hy => hb y (.tail _ hy)) hc⟩)
    (fun x A B C W ih ha hb hc => List.forall_mem_cons.mpr ⟨hc x (.head _), ih ha hb (fun y hy => hc y (.tail _ hy))⟩)
    h A B C rfl rfl rfl
  exact this ha hb hc
end
theorem app_length {α : Type} {T : List Nat} {A B C : List α} (h : Takes T A.length B.length C.length) : (app T A B C).length = A.length + B.length + C.length :=
  app_ind (M := fun A B C W => W.length = A.length + B.length + C.length) rfl
    (fun x A B C W ih => by simp only [List.length_cons]; omega) (fun x A B C W ih => by simp only [List.length_cons]; omega) (fun x A B C W ih => by simp only [List.length_cons]; omega)
    h A B C rfl rfl rfl
/-- the three rows -/
noncomputable def rowB (l : List Int) : List Int := ((enc64 l).map smap).map fun c => c + 128
noncomputable def rowC (l : List Int) : List Int := l.map fun c => c % 32
theorem enc64_good (l : List Int) : ∀ c ∈ enc64 l, c = 61 ∨ b64v c < 64 := by
  intro n hn
  unfold enc64 at hn
  rcases List.mem_append.mp hn with h | h
  · obtain ⟨v, hv, rfl⟩ := List.mem_map.mp h
    have := figs_range l v hv
    rw [b64v_b64c this.1 this.2]
    exact Or.inr this.2
  · exact Or.inl (List.mem_replicate.mp h).2
theorem b64v_ge {c : Int} (h : c < 43 ∨ 122 < c) : 64 ≤ b64v c := by
  unfold b64v
  rw [if_neg (by omega), if_neg (by omega), if_neg (by omega), if_neg (by omega), if_neg (by omega)]
  omega
theorem smap_cases (c : Int) : (smap c = 45 ∧ c = 43) ∨ (smap c = 95 ∧ c = 47) ∨ (smap c = c ∧ c ≠ 43 ∧ c ≠ 47) := by
  unfold smap
  split
  · omega
  · split <;> omega
theorem dmap_cases (c : Int) : (dmap c = 43 ∧ c = 45) ∨ (dmap c = 47 ∧ c = 95) ∨ (dmap c = c ∧ c ≠ 45 ∧ c ≠ 95) := by
  unfold dmap
  split
  · omega
  · split <;> omega
theorem rowB_range (l : List Int) : ∀ c ∈ rowB l, 171 ≤ c ∧ c ≤ 250 := by
  intro c hc
  unfold rowB at hc
  rw [List.map_map] at hc
  obtain ⟨v, hv, rfl⟩ := List.mem_map.mp hc
  have := enc64_range l v hv
  have := smap_cases v
  show 171 ≤ smap v + 128 ∧ smap v + 128 ≤ 250
  omega
theorem rowC_range (l : List Int) : ∀ c ∈ rowC l, 0 ≤ c ∧ c < 32 := by
  intro c hc
  obtain ⟨v, hv, rfl⟩ := List.mem_map.mp hc
  omega
theorem b64v_dmap_smap {l : List Int} {c : Int} (h : c ∈ enc64 l) : dmap (smap c) = c := by
  have h1 := enc64_good l c h
  have h2 : c ≠ 45 ∧ c ≠ 95 := by
    have a : b64v 45 = 64 := by decide
    have b : b64v 95 = 64 := by decide
    constructor
    · rintro rfl; omega
    · rintro rfl; omega
  have h3 := smap_cases c
  have h4 := dmap_cases (smap c)
  omega
theorem a2b_enc64 (st : Bool) (l : List Int) (h : ∀ v ∈ l, 0 ≤ v ∧ v < 256) : a2b st (enc64 l) = some l := by
  have hl : (figs l).length = (8 * l.length + 5) / 6 := by unfold figs; rw [digs_length]
  have := a2b_written st (figs l) (figs_range l) (by omega)
  rw [dec8_figs l h] at this
  exact this
theorem a2b_noise (d : List Int) : a2b false d = a2b false (d.filter fun c => decide (c = 61) || decide (b64v c < 64)) := by
  unfold a2b
  rw [a2bFold_noise]
section
variable {T : List Nat} {l1 l2 l3 : List Int}
/-- the wire, read, gives the first row -/
theorem wire_first (h : Takes T (enc64 l1).length (rowB l2).length (rowC l3).length) (h1 : ∀ v ∈ l1, 0 ≤ v ∧ v < 256) : a2b false (app T (enc64 l1) (rowB l2) (rowC l3)) = some l1 := by
  rw [a2b_noise, app_filterA h, a2b_enc64 false l1 h1]
  · intro x hx; have := enc64_good l1 x hx; simpa using this
  · intro x hx
    have h2 := rowB_range l2 x hx
    have h3 := b64v_ge (c := x) (by omega)
    rw [decide_eq_false (by omega), decide_eq_false (by omega)]; rfl
  · intro x hx
    have h2 := rowC_range l3 x hx
    have h3 := b64v_ge (c := x) (by omega)
    rw [decide_eq_false (by omega), decide_eq_false (by omega)]; rfl
theorem filter_of_map {f : Int → Int} {p : Int → Bool} (l : List Int) : (l.map f).filter p = (l.filter (fun c => p (f c))).map f := by rw [List.filter_map]; rfl
/-- the wire turned over gives the second row -/
theorem wire_second (h : Takes T (enc64 l1).length (rowB l2).length (rowC l3).length) (h2 : ∀ v ∈ l2, 0 ≤ v ∧ v < 256) : a2b false (((app T (enc64 l1) (rowB l2) (rowC l3)).map fun c => (c + 128) % 256).map dmap) = some l2 := by
  rw [a2b_noise, List.map_map, filter_of_map, app_filterB h]
  · have e : (rowB l2).map (dmap ∘ fun c => (c + 128) % 256) = enc64 l2 := by
      unfold rowB
      rw [List.map_map, List.map_map]
      refine (List.map_congr_left fun c hc => ?_).trans (List.map_id _)
      have a := enc64_range l2 c hc
      have b := smap_cases c
      show dmap ((smap c + 128 + 128) % 256) = c
      have e : (smap c + 128 + 128) % 256 = smap c := by omega
      rw [e]
      exact b64v_dmap_smap hc
    rw [e, a2b_enc64 false l2 h2]
  · intro x hx
    have h2 := enc64_range l1 x hx
    have e : (x + 128) % 256 = x + 128 := by omega
    have a := dmap_cases (x + 128)
    show (decide (dmap ((x + 128) % 256) = 61) || decide (b64v (dmap ((x + 128) % 256)) < 64)) = false
    have h3 := b64v_ge (c := dmap (x + 128)) (by omega)
    rw [e, decide_eq_false (by omega), decide_eq_false (by omega)]; rfl
  · intro x hx
    unfold rowB at hx
    rw [List.map_map] at hx
    obtain ⟨v, hv, rfl⟩ := List.mem_map.mp hx
    have a := enc64_range l2 v hv
    have b := smap_cases v
    show (decide (dmap ((smap v + 128 + 128) % 256) = 61) || decide (b64v (dmap ((smap v + 128 + 128) % 256)) < 64)) = true
    have e : (smap v + 128 + 128) % 256 = smap v := by omega
    rw [e, b64v_dmap_smap hv]
    have := enc64_good l2 v hv
    simpa using this
  · intro x hx
    have h2 := rowC_range l3 x hx
    have e : (x + 128) % 256 = x + 128 := by omega
    have a := dmap_cases (x + 128)
    show (decide (dmap ((x + 128) % 256) = 61) || decide (b64v (dmap ((x + 128) % 256)) < 64)) = false
    have h3 := b64v_ge (c := dmap (x + 128)) (by omega)
    rw [e, decide_eq_false (by omega), decide_eq_false (by omega)]; rfl
theorem wire_ctrl (h : Takes T (enc64 l1).length (rowB l2).length (rowC l3).length) : (app T (enc64 l1) (rowB l2) (rowC l3)).filter (fun c => decide (0 ≤ c ∧ c < 32)) = rowC l3 := by
  refine app_filterC h ?_ ?_ ?_
  · intro x hx; have := enc64_range l1 x hx; exact decide_eq_false (by omega)
  · intro x hx; have := rowB_range l2 x hx; exact decide_eq_false (by omega)
  · intro x hx; have := rowC_range l3 x hx; exact decide_eq_true (by omega)
theorem wire_graph (h : Takes T (enc64 l1).length (rowB l2).length (rowC l3).length) : (app T (enc64 l1) (rowB l2) (rowC l3)).filter (fun c => decide (33 ≤ c ∧ c ≤ 126)) = enc64 l1 := by
  refine app_filterA h ?_ ?_ ?_
  · intro x hx; have := enc64_range l1 x hx; exact decide_eq_true (by omega)
  · intro x hx; have := rowB_range l2 x hx; exact decide_eq_false (by omega)
  · intro x hx; have := rowC_range l3 x hx; exact decide_eq_false (by omega)
/-- strict: a sign that is none is refused -/
theorem a2b_strict {d : List Int} {c : Int} (hc : c ∈ d) (h1 : c ≠ 61) (h2 : 64 ≤ b64v c) : a2b true d = none := by
  obtain ⟨pre, post, rfl⟩ := List.append_of_mem hc
  unfold a2b
  rw [a2bFold_append]
  cases hs : a2bFold true pre (.go 0 0 0 []) with
  | go q l p out =>
    show (match a2bFold true post (a2bStep true q l p out c) with | .go q _ p out => _ | .brk _ _ _ _ => none | .err => none) = none
    rw [st_err2 h1 h2 rfl, a2bFold_err]
  | brk q l p out => rw [a2bFold_brk]
  | err => rw [a2bFold_err]
theorem wire_strict (h : Takes T (enc64 l1).length (rowB l2).length (rowC l3).length) (h3 : l3 ≠ []) : a2b true (app T (enc64 l1) (rowB l2) (rowC l3)) = none := by
  obtain ⟨x, r, rfl⟩ := List.exists_cons_of_ne_nil h3
  have hm : x % 32 ∈ (app T (enc64 l1) (rowB l2) (rowC (x :: r))).filter (fun c => decide (0 ≤ c ∧ c < 32)) := by rw [wire_ctrl h]; exact .head _
  have hb := b64v_ge (c := x % 32) (by omega)
  exact a2b_strict (List.mem_filter.mp hm).1 (by omega) hb
end
theorem b64c_b64v {c : Int} (h : b64v c < 64) : b64c (b64v c) = c := by
  by_cases h1 : 65 ≤ c ∧ c ≤ 90
  · have e : b64v c = c - 65 := by unfold b64v; rw [if_pos h1]
    rw [e]; unfold b64c; rw [if_pos (by omega)]; omega
  by_cases h2 : 97 ≤ c ∧ c ≤ 122
  · have e : b64v c = c - 71 := by unfold b64v; rw [if_neg h1, if_pos h2]
    rw [e]; unfold b64c; rw [if_neg (by omega), if_pos (by omega)]; omega
  by_cases h3 : 48 ≤ c ∧ c ≤ 57
  · have e : b64v c = c + 4 := by unfold b64v; rw [if_neg h1, if_neg h2, if_pos h3]
    rw [e]; unfold b64c; rw [if_neg (by omega), if_neg (by omega), if_pos (by omega)]; omega
  by_cases h4 : c = 43
  · subst h4; decide
  by_cases h5 : c = 47
  · subst h5; decide
  · exfalso
    have e : b64v c = 64 := by unfold b64v; rw [if_neg h1, if_neg h2, if_neg h3, if_neg h4, if_neg h5]
    omega
theorem a2bFold_padsN (q l : Int) (out : List Int) : ∀ (k : Nat) (p : Int), a2bFold false (List.replicate k 61) (.go q l p out) = .go q l (p + k) out
  | 0, p => by simp [a2bFold]
  | k + 1, p => by
    rw [List.replicate_succ]
    show a2bFold false (List.replicate k 61) (a2bStep false q l p out 61) = _
    rw [st_pad2 rfl rfl, a2bFold_padsN q l out k (p + 1)]
    congr 1
    omega
/-- the figures that a text holds -/
noncomputable def figOf (d : List Int) : List Int := (d.filter fun c => decide (b64v (dmap c) < 64)).map fun c => b64v (dmap c)
theorem figOf_range (d : List Int) : ∀ v ∈ figOf d, 0 ≤ v ∧ v < 64 := by
  intro v hv
  obtain ⟨c, hc, rfl⟩ := List.mem_map.mp hv
  have := b64v_range (dmap c)
  have h2 := (List.mem_filter.mp hc).2
  simp only [decide_eq_true_eq] at h2
  omega
theorem page_noise (d : List Int) (h : ∀ c ∈ d, c ≠ 61) : (d.map dmap).filter (fun c => decide (c = 61) || decide (b64v c < 64)) = (figOf d).map b64c := by
  rw [filter_of_map]
  unfold figOf
  rw [List.map_map]
  have e : d.filter (fun c => decide (dmap c = 61) || decide (b64v (dmap c) < 64)) = d.filter fun c => decide (b64v (dmap c) < 64) := by
    apply List.filter_congr
    intro c hc
    have a := h c hc
    have b := dmap_cases c
    rw [decide_eq_false (p := dmap c = 61) (by omega)]
    rfl
  rw [e]
  apply List.map_congr_left
  intro c hc
  have h2 := (List.mem_filter.mp hc).2
  simp only [decide_eq_true_eq] at h2
  exact (b64c_b64v h2).symm
/-- the page read by the url-safe reader -/
theorem page_read (d : List Int) (h : ∀ c ∈ d, c ≠ 61) : a2b false ((d ++ List.replicate ((4 - (figOf d).length % 4) % 4) 61).map dmap) = if (figOf d).length % 4 = 1 then none else some (dec8 (figOf d)) := by
  have e61 : dmap 61 = 61 := by decide
  have hr : (List.replicate ((4 - (figOf d).length % 4) % 4) (61 : Int)).filter (fun c => decide (c = 61) || decide (b64v c < 64)) = List.replicate ((4 - (figOf d).length % 4) % 4) (61 : Int) := by
    apply List.filter_eq_self.mpr
    intro a ha
    rw [(List.mem_replicate.mp ha).2]
    rfl
  rw [a2b_noise, List.map_append, List.map_replicate, e61, List.filter_append, page_noise d h, hr]
  split
  · rename_i h1
    unfold a2b
    rw [a2bFold_append, a2bFold_figs false _ (figOf_range d), a2bFold_padsN]
    dsimp only
    rw [if_pos (by omega)]
  · rename_i h1
    exact a2b_written false (figOf d) (figOf_range d) h1
end Mine
end
section
open PySem PySem.W PyProof.Rows
namespace Mine
/-- what holds between the turns -/
noncomputable def WI (ns : List Int) (va vb vc : List Value) (k : Nat) (A B C W : List Value) : Prop :=
  W ++ rest ns k A B C = rest ns 0 va vb vc ∧ A.length + B.length + C.length + k = va.length + vb.length + vc.length ∧ W.length = k ∧ (∀ v ∈ A, Pl v) ∧ (∀ v ∈ B, Pl v) ∧ (∀ v ∈ C, Pl v)
section
variable {g : Heap} {L : Addr} {h : Heap} {p1 p2 p3 p4 p5 : Addr × Obj} {a : Addr} {o : Obj} {r : List (Addr × Obj)}
theorem nm1 (_ : News g L h ((a, o) :: r)) : ∃ x, x = a := ⟨a, rfl⟩
theorem nm2 (_ : News g L h (p1 :: (a, o) :: r)) : ∃ x, x = a := ⟨a, rfl⟩
theorem nm3 (_ : News g L h (p1 :: p2 :: (a, o) :: r)) : ∃ x, x = a := ⟨a, rfl⟩
theorem nm4 (_ : News g L h (p1 :: p2 :: p3 :: (a, o) :: r)) : ∃ x, x = a := ⟨a, rfl⟩
theorem nm5 (_ : News g L h (p1 :: p2 :: p3 :: p4 :: (a, o) :: r)) : ∃ x, x = a := ⟨a, rfl⟩
theorem nm6 (_ : News g L h (p1 :: p2 :: p3 :: p4 :: p5 :: (a, o) :: r)) : ∃ x, x = a := ⟨a, rfl⟩
end
theorem row_at {l : List (Addr × List Value)} {i : Nat} {v : Value} (h : (l.map fun p => Value.ref p.1).toArray[i]? = some v) : ∃ p, l[i]? = some p ∧ Value.ref p.1 = v := by
  rw [List.getElem?_toArray, List.getElem?_map] at h
  cases e : l[i]? with
  | none => rw [e] at h; cases h
  | some p => rw [e] at h; exact ⟨p, rfl, Option.some.inj h⟩
theorem fil_step {l : List (Addr × List Value)} {i : Nat} {p : Addr × List Value} (h : l[i]? = some p) : (l.take (i + 1)).filter (fun p => !p.2.isEmpty) = (l.take i).filter (fun p => !p.2.isEmpty) ++ [p].filter fun p => !p.2.isEmpty := by
  rw [List.take_add_one, h, List.filter_append]; rfl
theorem len63 {n : Nat} (h : n ≤ 100000) : ((n : Nat) : Int) < 2 ^ 63 := Int.lt_of_le_of_lt (Int.ofNat_le.mpr h) (by decide)
theorem rows_sel (la lb lc : Addr) (A B C : List Value) : (([(la, A), (lb, B), (lc, C)].filter (fun p => !p.2.isEmpty)).map fun p : Addr × List Value => Value.ref p.1) = (sel3 A.length B.length C.length).map fun j => Value.ref (if j = 0 then la else if j = 1 then lb else lc) := by
  cases A <;> cases B <;> cases C <;> rfl
theorem rows_pick {ns : List Int} {la lb lc : Addr} {A B C ys : List Value} {k : Int} {n : Nat} (hk : k = 0 + (n : Int)) (hJ : ys = (sel3 A.length B.length C.length).map fun j => Value.ref (if j = 0 then la else if j = 1 then lb else lc)) (h : 0 < A.length + B.length + C.length) :
    0 < (ys.toArray.size : Int) ∧ 0 ≤ (ns.getD (k.fmod ns.length).toNat 0).fdiv 9 % (ys.toArray.size : Int) ∧ (ns.getD (k.fmod ns.length).toNat 0).fdiv 9 % (ys.toArray.size : Int) < 2 ^ 63 ∧
    ys[((ns.getD (k.fmod ns.length).toNat 0).fdiv 9 % (ys.toArray.size : Int)).toNat]? = some (.ref (if turnOf ns n A.length B.length C.length = 0 then la else if turnOf ns n A.length B.length C.length = 1 then lb else lc)) := by
  have e1 : (k.fmod ns.length).toNat = n % ns.length := by
    rw [hk, Int.zero_add, Int.fmod_eq_emod_of_nonneg _ (Int.natCast_nonneg _), ← Int.natCast_emod]; rfl
  have e2 : ys.toArray.size = (sel3 A.length B.length C.length).length := by rw [List.size_toArray, hJ, List.length_map]
  have h0 := sel3_pos h
  have h3 : (sel3 A.length B.length C.length).length ≤ 3 := by unfold sel3; (repeat' split) <;> decide
  have hp : (0 : Int) < ((sel3 A.length B.length C.length).length : Int) := Int.ofNat_lt.mpr h0
  have h1 := Int.emod_nonneg (ns.getD (n % ns.length) 0 / 9) (Int.ne_of_gt hp)
  have h2 := Int.emod_lt_of_pos (ns.getD (n % ns.length) 0 / 9) hp
  rw [e1, Int.fdiv_eq_ediv_of_nonneg _ (by decide), e2]
  refine ⟨hp, h1, Int.lt_trans h2 (len63 (Nat.le_trans h3 (by decide))), ?_⟩
  rw [hJ, List.getElem?_map, turn_get ns n h]
  rfl
section
variable {prog : Program} {w : World} {A : Around} {E : Value → Shared → Prop} {s : Shared} {Q : Value → Shared → Prop}
theorem item_at {value slice : PySem.Expr} {l : Addr} {vs : List Value} {k : Int} {u : Tok} {v : Value} (hl : s.heap.IsList l vs.toArray) (h0 : 0 ≤ k) (hhi : k < 2 ^ 63) (hx : vs[k.toNat]? = some v) (h : Q v s)
    (hs : subscripted slice false (.ref l) (.int k u) = operate [.ref l, .int k u] (getItem (.ref l) (.int k u)) := by with_unfolding_all rfl) :
    wpAny (model prog w) A (subscriptTail value slice (.ref l) (.int k u)) Q E s :=
  tail_any hl.typeIs slot_list_getitem.lookup (wpAny_getItem_list hl h0 hhi (by simpa using hx) h) hs
end
section
variable {prog : Program} {w : World} {A₀ : Around} {E : Value → Shared → Prop} {s : Shared} {g : Heap} {L la lb lc D : Addr} {m : Str → Option Value} {news news' own : List (Addr × Obj)} {p1 p2 p3 p4 : Addr × Obj} {Q : Value → Shared → Prop} {x : Value} {xs A B C V va vb vc : List Value} {n k ea eb ec : Nat} {u : Tok} {ns : List Int}
theorem pop0 (F : Fr g L s.heap m) (N : News g L s.heap news)
    (U : Upd D (W.listOf (x :: xs).toArray n) (W.listOf xs.toArray (n + 1)) news news') (hz : xs.length ≤ 10000) (h : ∀ h', Fr g L h' m → News g L h' news' → Q x { s with heap := h' }) : wpAny (model prog w) A₀ (call (.builtin "list.pop") [.ref D, .int 0 u]) Q E s := by
  refine kl_popAt (p := []) (q := xs) (y := x) (k := 0) F N rfl ?_ rfl U ?_ h
  · unfold seqIndex?
    have : (0 : Int) < ((x :: xs).toArray.size : Int) := by rw [List.size_toArray, List.length_cons]; omega
    simp
  · rw [sizeLine_eq]
    show (x :: xs).length ≤ _
    rw [List.length_cons]; omega
theorem pick_mem (t : Nat) : ∃ R er, (if t = 0 then la else if t = 1 then lb else lc, W.listOf (R : List Value).toArray er) ∈ p1 :: p2 :: p3 :: p4 :: (lc, W.listOf C.toArray ec) :: (lb, W.listOf B.toArray eb) :: (la, W.listOf A.toArray ea) :: own := by
  by_cases h0 : t = 0
  · exact ⟨A, ea, by rw [if_pos h0]; simp⟩
  · by_cases h1 : t = 1
    · exact ⟨B, eb, by rw [if_neg h0, if_pos h1]; simp⟩
    · exact ⟨C, ec, by rw [if_neg h0, if_neg h1]; simp⟩
theorem WI_next {A' B' C' : List Value} (h : WI ns va vb vc k A B C V) (e : rest ns k A B C = x :: rest ns (k + 1) A' B' C') (el : A.length + B.length + C.length = A'.length + B'.length + C'.length + 1) (ha : ∀ v ∈ A', v ∈ A) (hb : ∀ v ∈ B', v ∈ B) (hc : ∀ v ∈ C', v ∈ C) : WI ns va vb vc (k + 1) A' B' C' (V ++ [x]) := by
  obtain ⟨w1, w2, w3, w4, w5, w6⟩ := h
  refine ⟨?_, by omega, by rw [List.length_append, w3]; rfl, fun v q => w4 v (ha v q), fun v q => w5 v (hb v q), fun v q => w6 v (hc v q)⟩
  rw [← w1, e, List.append_assoc]; rfl
theorem pop_pick (F : Fr g L s.heap m) (N : News g L s.heap (p1 :: p2 :: p3 :: p4 :: (lc, W.listOf C.toArray ec) :: (lb, W.listOf B.toArray eb) :: (la, W.listOf A.toArray ea) :: own))
    (lt : ∀ p ∈ [p1, p2, p3, p4], p.1 ≠ la ∧ p.1 ≠ lb ∧ p.1 ≠ lc) (nab : la ≠ lb) (nac : la ≠ lc) (nbc : lb ≠ lc) (ho : OwnOff own [lc, lb, la])
    (hw : WI ns va vb vc k A B C V) (hz : A.length + B.length + C.length ≤ 10000) (hp : 0 < A.length + B.length + C.length)
    (h : ∀ h' x A' B' C' ea' eb' ec', Fr g L h' m → News g L h' (p1 :: p2 :: p3 :: p4 :: (lc, W.listOf C'.toArray ec') :: (lb, W.listOf B'.toArray eb') :: (la, W.listOf A'.toArray ea') :: own) → WI ns va vb vc (k + 1) A' B' C' (V ++ [x]) → Q x { s with heap := h' }) :
    wpAny (model prog w) A₀ (call (.builtin "list.pop") [.ref (if turnOf ns k A.length B.length C.length = 0 then la else if turnOf ns k A.length B.length C.length = 1 then lb else lc), .int 0 u]) Q E s := by
  rcases turn_cases ns k hp with ⟨ht, h1⟩ | ⟨ht, h1⟩ | ⟨ht, h1⟩
  · obtain ⟨x, A, rfl⟩ := List.exists_cons_of_length_pos h1
    rw [ht, if_pos rfl]
    refine' pop0 (x := x) (xs := A) (n := ea) F N ?V1 (by rw [List.length_cons] at hz; omega) fun h' F' N' => h h' x A B C (ea + 1) eb ec F' N' (WI_next hw (rest_a ns k ht) (by rw [List.length_cons]; omega) (fun v q => .tail _ q) (fun v q => q) (fun v q => q))
    exact Upd.tail (lt _ (.head _)).1 (.tail (lt _ (.tail _ (.head _))).1 (.tail (lt _ (.tail _ (.tail _ (.head _)))).1 (.tail (lt _ (.tail _ (.tail _ (.tail _ (.head _))))).1 (.tail (Ne.symm nac) (.tail (Ne.symm nab) (.head fun p hp => ho p hp _ (.tail _ (.tail _ (.head _)))))))))
  · obtain ⟨x, B, rfl⟩ := List.exists_cons_of_length_pos h1
    rw [ht, if_neg (by decide), if_pos rfl]
    refine' pop0 (x := x) (xs := B) (n := eb) F N ?V2 (by rw [List.length_cons] at hz; omega) fun h' F' N' => h h' x A B C ea (eb + 1) ec F' N' (WI_next hw (rest_b ns k ht) (by rw [List.length_cons]; omega) (fun v q => q) (fun v q => .tail _ q) (fun v q => q))
    exact Upd.tail (lt _ (.head _)).2.1 (.tail (lt _ (.tail _ (.head _))).2.1 (.tail (lt _ (.tail _ (.tail _ (.head _)))).2.1 (.tail (lt _ (.tail _ (.tail _ (.tail _ (.head _))))).2.1 (.tail (Ne.symm nbc) (.head (List.forall_mem_cons.mpr ⟨nab, fun p hp => ho p hp _ (.tail _ (.head _))⟩))))))
  · obtain ⟨x, C, rfl⟩ := List.exists_cons_of_length_pos h1
    rw [ht, if_neg (by decide), if_neg (by decide)]
    refine' pop0 (x := x) (xs := C) (n := ec) F N ?V3 (by rw [List.length_cons] at hz; omega) fun h' F' N' => h h' x A B C ea eb (ec + 1) F' N' (WI_next hw (rest_c ns k ht) (by rw [List.length_cons]; omega) (fun v q => q) (fun v q => q) (fun v q => .tail _ q))
    exact Upd.tail (lt _ (.head _)).2.2 (.tail (lt _ (.tail _ (.head _))).2.2 (.tail (lt _ (.tail _ (.tail _ (.head _)))).2.2 (.tail (lt _ (.tail _ (.tail _ (.tail _ (.head _))))).2.2 (.head (List.forall_mem_cons.mpr ⟨nbc, List.forall_mem_cons.mpr ⟨nac, fun p hp => ho p hp _ (.head _)⟩⟩)))))
end
theorem WI_start {ns : List Int} {va vb vc : List Value} (pa : ∀ v ∈ va, Pl v) (pb : ∀ v ∈ vb, Pl v) (pc : ∀ v ∈ vc, Pl v) : WI ns va vb vc 0 va vb vc [] := ⟨rfl, rfl, rfl, pa, pb, pc⟩
end Mine
end
section
open PySem PySem.W PyProof.Rows
namespace Mine
theorem setWWov : True := by
  k_with_none
  k_with "call type:type" => ((with_reducible show wpAny _ _ (call (Value.type "type") [Value.bytes _ _]) _ _ _); refine call_type_of (Tx := "bytes") rfl (by decide +kernel) ?_)
  k_with "my_enter" => ((case k1 => assumption); (case k6 => k_is); (case k7 => k_is); (case k8 => (dsimp only; omega)); (case k9 => first | exact BindsTo.of_eq rfl | (refine' kp_binds ?kx ?ke; (case kx => exact Gd.X (by assumption)); (case ke => exact fun _ => rfl)) | exact binds_K (Gd.X (by assumption)) rfl (by k_is) rfl rfl rfl); (case c5 => decide); (case kB => exact locs rfl); (case c2 => exact rfl); (case c3 => exact rfl); (case c4 => exact rfl); intro g' L' h' tk' hg' F' N' X' T'; (dsimp only [mapOf] at F'); (try dsimp only); (try k_fold))
  k_with "eval ListComp" => refine Stop.out ?_
  k_with "pyIter ref" => refine Stop.out ?_
  k_with "my_side" => first | assumption | exact trivial | omega | (dsimp only [Around.deeper, Around.in1]; omega)
  k_with "my_use" => ((case kF => k_asm); (case kN => k_asm); (case kX => k_asm); (case kT => k_asm); (case kd => walk_at "my_side"); (case ku => walk_at "my_side"); (case kp => walk_at "my_side"))
  trivial
theorem sp_woven : ∀ {w : World} (r ra rb rc nl : Addr) (va vb vc nv : List Value) (ns : List Int) , Spec PySem.Challenge.rw_qh0091_01.row.toRowW.prog w (K0 w.params) 187 ⟨[.ref r, .ref nl], []⟩ 12 (fun h => h.IsList r [.ref ra, .ref rb, .ref rc].toArray ∧ h.IsList ra va.toArray ∧ h.IsList rb vb.toArray ∧ h.IsList rc vc.toArray ∧ h.IsList nl nv.toArray ∧ IntsAre nv ns ∧ va.length ≤ 1000 ∧ vb.length ≤ 1000 ∧ vc.length ≤ 1000 ∧ ns.length ≤ 1000 ∧ 0 < ns.length ∧ (∀ v ∈ va, Pl v) ∧ (∀ v ∈ vb, Pl v) ∧ (∀ v ∈ vc, Pl v)) (fun h h' v => ∃ l ys, ∃ n, v = .ref l ∧ h'.get? l = some (W.listOf ys.toArray n) ∧ ys = rest ns 0 va vb vc ∧ h.get? l = none) := by
  k_fill
  intro w r ra rb rc nl va vb vc nv ns p loose mean mg mb dp un fr gd s R G hdp hu hpre hret
  obtain ⟨hr, ha, hb, hc, hn, hi, za, zb, zc, zn, zp, pa, pb, pc⟩ := hpre
  refine' enterG [(Str.ofString "numbers", .ref nl), (Str.ofString "rows", .ref r)] ?k1 ?k6 ?k7 ?k8 ?k9 ?kB ?_ ?c5 ?c2 ?c3 ?c4
  walk_at "my_enter"
  (rename _ = Shared.heap _ => hg1)
  (rename Frag.In _ _ => X1); (rename Top _ _ _ _ _ _ => T1)
  rw [← hg1] at hr ha hb hc hn
  k_steps
  refine Stop.mk ?_
  refine' comp_evalS (n := [Value.ref ra, .ref rb, .ref rc].toArray.size) (P := fun i v => [Value.ref ra, .ref rb, .ref rc].toArray[i]? = some v) (J := fun i ys => IntsAre ys ([(va.length : Int), vb.length, vc.length].take i)) ?kc ?kl ?kd ?kn ?kx ?_
  case kc => exact rfl
  case kl => decide
  case kd => exact rfl
  case kn => decide
  case kx => exact rfl
  k_steps
  (rename Fr _ _ _ _ => F2); (rename News _ _ _ _ => N2)
  refine Stop.mk ⟨itb_list rfl (stays_list F2.keep hr), by rw [sizeLine_eq]; show 3 ≤ _; omega, .nil, fun i ys h => by rw [h.length, List.length_take]; omega, ?_, ?_⟩
  · intro i v ys C h tk m₂ E' hi1 hP hJ hk hn1 hx hC
    have FC := turn_fr hk hn1 hC
    refine wpAny_tests_nil ⟨_, _, rfl, fun _ _ e => e, ?_⟩
    rw [if_pos rfl]
    walk1
    refine' cx_builtin FC ?b1 ?b2 ?b3 ?b4 ?b5 ?_
    case b1 => exact X1.keeps F2.keep
    case b2 => exact T1.keeps F2.keep
    case b3 => k_is
    case b4 => exact rfl
    case b5 => decide
    walk1
    walk1
    walk1
    walk1
    have h3 : ∀ (n : Nat), n ≤ 1000 → ((n : Nat) : Int) < 2 ^ 63 := fun n h => Int.lt_of_le_of_lt (Int.ofNat_le.mpr h) (by decide)
    rcases i with _ | _ | _ | i
    · obtain rfl : Value.ref ra = v := Option.some.inj hP
      refine len_list (stays_list hk (stays_list F2.keep ha)) (by rw [List.size_toArray]; exact h3 _ za) ?_
      refine ⟨_, _, rfl, fun _ _ e => e, IntsAre.append hJ ?_⟩
      rw [List.size_toArray]; exact .cons _ _ .nil
    · obtain rfl : Value.ref rb = v := Option.some.inj hP
      refine len_list (stays_list hk (stays_list F2.keep hb)) (by rw [List.size_toArray]; exact h3 _ zb) ?_
      refine ⟨_, _, rfl, fun _ _ e => e, IntsAre.append hJ ?_⟩
      rw [List.size_toArray]; exact .cons _ _ .nil
    · obtain rfl : Value.ref rc = v := Option.some.inj hP
      refine len_list (stays_list hk (stays_list F2.keep hc)) (by rw [List.size_toArray]; exact h3 _ zc) ?_
      refine ⟨_, _, rfl, fun _ _ e => e, IntsAre.append hJ ?_⟩
      rw [List.size_toArray]; exact .cons _ _ .nil
    · exact absurd hi1 (by show ¬ _ < 3; omega)
  · intro D h tk y0 hJ hk hD hle
    replace hJ : IntsAre y0 [(va.length : Int), vb.length, vc.length] := hJ
    have F5 := Fr.after_stays F2 hk
    have N5 := news_add (o := W.listOf y0.toArray y0.length) F2 N2 hk hD hle
    have lt5 := news_below N2 hle
    k_lt lt5
    clear F2 N2
    dsimp only
    k_steps
    refine Stop.mk ?_
    (rename Fr _ _ _ _ => F1); (rename News _ _ _ _ => N1); (rename IsRange _ _ _ _ _ _ _ _ => R1)
    clear hJ F5 N5
    obtain ⟨lw, rfl⟩ := nm2 N1
    obtain ⟨ll, rfl⟩ := nm3 N1
    obtain ⟨lc, rfl⟩ := nm4 N1
    obtain ⟨lb, rfl⟩ := nm5 N1
    obtain ⟨la, rfl⟩ := nm6 N1
    refine' kst_range (n := va.length + vb.length + vc.length) (σ := List Value × List Value × List Value × List Value × Nat × Nat × Nat × Nat) (fun c => [_, (_, W.listOf c.2.2.2.1.toArray c.2.2.2.2.2.2.2), _, (_, W.listOf c.2.2.1.toArray c.2.2.2.2.2.2.1), (_, W.listOf c.2.1.toArray c.2.2.2.2.2.1), (_, W.listOf c.1.toArray c.2.2.2.2.1)]) (fun _ => []) (fun _ => True) [Str.ofString "full"]
      (fun pre c => WI ns va vb vc pre.length c.1 c.2.1 c.2.2.1 c.2.2.2.1) (va, vb, vc, [], _, _, _, _) rfl R1 ?r1 ?r2 F1 N1 trivial ?kk ?kp ?_ ?_
    case r1 => exact small_one (by omega) (by omega) (by omega) (by omega)
    case r2 => rw [rangeSize_nat]; omega
    case kk => exact List.forall_mem_nil _
    case kp => exact WI_start pa pb pc
    · clear F1 N1
      rintro ⟨A, B, C, V, ea, eb, ec, ew⟩ pre k tn u h tk own kEq kLt kOff kFacts kInv kFr kNews
      dsimp only [kstB] at kFr
      dsimp only at kNews kOff kFacts kInv
      simp only [List.cons_append, List.nil_append, List.map_cons, List.map_nil] at kNews kOff
      have kMark := kstMark
      obtain ⟨w1, w2, w3, w4, w5, w6⟩ := id kInv
      walk1
      have hrows : ∀ p ∈ [(la, A), (lb, B), (lc, C)], h.IsList p.1 p.2.toArray ∧ ∀ v ∈ p.2, Pl v := by
        refine List.forall_mem_cons.mpr ⟨⟨⟨_, kNews.get (by k_mem), rfl, _, rfl⟩, w4⟩, List.forall_mem_cons.mpr ⟨⟨⟨_, kNews.get (by k_mem), rfl, _, rfl⟩, w5⟩, List.forall_mem_cons.mpr ⟨⟨⟨_, kNews.get (by k_mem), rfl, _, rfl⟩, w6⟩, List.forall_mem_nil _⟩⟩⟩
      refine' comp_assignN (n := 3) (P := fun i v => ([(la, A), (lb, B), (lc, C)].map fun p : Addr × List Value => Value.ref p.1).toArray[i]? = some v) (J := fun i ys => ys = (([(la, A), (lb, B), (lc, C)].take i).filter (fun p => !p.2.isEmpty)).map fun p : Addr × List Value => Value.ref p.1) kFr kNews (fun Q hq => nameX_L kFr rfl hq rfl rfl (by decide)) (itb_list (its := [Value.ref la, .ref lb, .ref lc].toArray) rfl ⟨_, kNews.get (by k_mem), rfl, _, rfl⟩) ?kz rfl ?t1 ?ks ?kc ?kl ?kd ?kn ?kx ?ky ?kp ?t2 ?t3
      case ks => exact rfl
      case kc => exact rfl
      case kl => decide
      case kd => exact rfl
      case kn => decide
      case kx => exact rfl
      case ky => exact rfl
      case kp => exact rfl
      case kz => rw [sizeLine_eq]; omega
      case t1 =>
        intro i ys e
        rw [e, List.length_map]
        exact Nat.le_trans (List.length_filter_le _ _) (by rw [List.length_take]; omega)
      case t2 =>
        intro i v ys C1 h1 tk1 m₂ E' hi1 hP hJ hk hn1 hx hC
        have FC := turn_fr hk hn1 hC
        refine wpAny_tests_one ?_
        walk1
        refine cx_local FC hx ?_
        obtain ⟨p, hp, rfl⟩ := row_at hP
        have hpm := List.mem_of_getElem? hp
        walk1
        walk1
        refine wpAny_newList ?_ (by rw [sizeLine_eq]; exact Nat.zero_le _)
        have k12 : h1.StaysIn (h1.push { cls := .type "list", data := .seq ([] : List Value).toArray }) := fun b o e => Heap.get?_push_of_some _ e
        refine ne_nil (stays_list k12 (stays_list hk (hrows p hpm).1)) ⟨_, Heap.get?_push_size _ rfl, rfl, 0, rfl⟩ (hrows p hpm).2 (by (dsimp only [Around.deeper, Around.in1]; omega)) ?_
        walk1
        refine ⟨_, _, rfl, fun _ _ e => k12 _ _ e, ?_⟩
        have eJ := fil_step hp
        cases hpe : p.2.isEmpty with
        | true =>
          rw [if_neg (by decide)]
          rw [hJ, eJ, List.filter_cons_of_neg (by rw [hpe]; decide), List.filter_nil, List.append_nil]
        | false =>
          rw [if_pos (by decide)]
          refine cx_local (Fr.after_stays FC k12) hx ?_
          refine ⟨_, _, rfl, fun _ _ e => e, ?_⟩
          rw [hJ, eJ, List.filter_cons_of_pos (by rw [hpe]; decide), List.filter_nil, List.map_append]
          rfl
      case t3 =>
        intro D1 h1 tk1 ys hJ F2 N2 lt2
        k_lt lt2
        dsimp only
        k_steps
        have hyl : ys.length ≤ 3 := by rw [hJ, List.length_map]; exact Nat.le_trans (List.length_filter_le _ _) (List.length_take_le 3 _)
        refine len_list (items := ys.toArray) ⟨_, N2.get (by k_mem), rfl, _, rfl⟩ (by rw [List.size_toArray]; exact len63 (Nat.le_trans hyl (by decide))) ?_
        rw [show ([(la, A), (lb, B), (lc, C)].take 3) = [(la, A), (lb, B), (lc, C)] from rfl, rows_sel] at hJ
        obtain ⟨q1, q2, q3, q4⟩ := rows_pick (ns := ns) kEq hJ (by omega)
        refine mod_pos q1 ?_
        refine item_at ⟨_, N2.get (by k_mem), rfl, _, rfl⟩ q2 q3 q4 ?_
        clear q1 q2 q3 q4
        obtain ⟨R, er, hm⟩ := pick_mem (la := la) (lb := lb) (lc := lc) (A := A) (B := B) (C := C) (ea := ea) (eb := eb) (ec := ec) (own := own) (p1 := (D1, W.listOf ys.toArray ys.length)) (p2 := (D, W.listOf y0.toArray y0.length)) (p3 := (lw, W.listOf V.toArray ew)) (p4 := (ll, LCg.lst [Value.ref la, .ref lb, .ref lc])) (turnOf ns pre.length A.length B.length C.length)
        iterate 5 walk1
        refine' pop_pick (p1 := (D1, W.listOf ys.toArray ys.length)) (p2 := (D, W.listOf y0.toArray y0.length)) (p3 := (lw, W.listOf V.toArray ew)) (p4 := (ll, LCg.lst [Value.ref la, .ref lb, .ref lc])) (A := A) (B := B) (C := C) (ea := ea) (eb := eb) (ec := ec) ?gF ?gN ?gl (neLt (by omega)) (neLt (by omega)) (neLt (by omega)) ?go kInv (by omega) (by omega) ?_
        case gF => assumption
        case gN => exact N2
        (rename _ ≠ _ ∧ _ ≠ _ ∧ _ ≠ _ => hne)
        case gl => exact List.forall_mem_cons.mpr ⟨⟨neGt (by omega), neGt (by omega), neGt (by omega)⟩, List.forall_mem_cons.mpr ⟨⟨neGt (by omega), neGt (by omega), neGt (by omega)⟩, List.forall_mem_cons.mpr ⟨⟨neGt (by omega), neGt (by omega), neGt (by omega)⟩, List.forall_mem_cons.mpr ⟨⟨Ne.symm hne.2.2, Ne.symm hne.2.1, Ne.symm hne.1⟩, List.forall_mem_nil _⟩⟩⟩⟩
        case go => exact fun p hp b hb => kOff p hp b (List.mem_cons_of_mem _ (List.mem_cons_of_mem _ (List.mem_cons_of_mem _ hb)))
        intro h2 x A' B' C' ea' eb' ec' F3 N3 hw'
        have hsz : V.toArray.size ≤ 3000 := by rw [List.size_toArray]; omega
        clear hm
        k_steps
    · clear F1 N1
      rintro ⟨A, B, C, V, ea, eb, ec, ew⟩ u h tk kFacts kInv kFr kNews
      dsimp only [kstB] at kFr
      dsimp only at kNews kFacts kInv
      have kMark := kstMark
      obtain ⟨w1, w2, w3, w4, w5, w6⟩ := kInv
      k_steps
      have hl0 : (rangeKs 0 (va.length + vb.length + vc.length)).length = va.length + vb.length + vc.length := rangeKs_length _ _
      rw [rest_nil ns _ A B C (by omega), List.append_nil] at w1
      exact hret _ _ _ (stays_of (by assumption) (by assumption)) ⟨lw, V, ew, rfl, kNews.get (by k_mem), w1, hg1 ▸ (kNews (lw, W.listOf V.toArray ew) (by k_mem)).2.2⟩
end Mine
end
section
open PySem PySem.Calls PySem.W PyProof.Rows
namespace Mine
section
variable {prog : Program} {w : World} {K : Frag} {E : Value → Shared → Prop} {Q : Value → Shared → Prop} {s s' : Shared} {g h G : Heap} {L : Addr} {m mg mb : Str → Option Value} {news : List (Addr × Obj)} {p : Program} {loose : List Str} {mean : ExcName → Option Value} {env : Env} {dp un : Nat} {gd : Option (List Code)} {e t : Addr} {vs : List Value} {cls : Value}
theorem bel (F : Fr g L h m) (hf : env.frame = some L) (hk : env.scope.kind = .function) : Below ((⟨none, dp, some [], gd, un⟩ : Around).deeper env) g [env] h := by
  obtain ⟨oL, es, ep, hL, hd, _⟩ := F.ns
  exact ⟨rfl, F.keep, ⟨by rw [hk]; decide, ⟨L, oL, hf, Heap.get?_none_of_le F.above, hL, fun vs q => by rw [hd] at q; cases q⟩, trivial⟩⟩
theorem SpecR.useE {f : Addr} {kw : List (Str × Value)} {d : Nat} {pre : Heap → Prop} {P : Heap → Heap → Value → Prop} {Err : Prop} (S : SpecR prog w K f ⟨vs, kw⟩ d pre P Err)
    (F : Fr g L s.heap m) (N : News g L s.heap news) (X : K.In g) (T : Top p loose mean mg mb g) (hf : env.frame = some L) (hk : env.scope.kind = .function) (hd : dp + 1 + d < recursionLimit) (hu : un + 3 + 8 * d + 8 < cLine) (hp : pre s.heap)
    (h : ∀ v h' tk', Fr g L h' m → News g L h' news → s.heap.StaysIn h' → P s.heap h' v → Q v { s with heap := h', toks := tk' })
    (hE : ∀ e t vs h' tk', Err → RaisedS g s.heap [env] e (.ref 39) t vs [] h' → s.heap.UpToSlots h' → E (.ref e) { s with heap := h', toks := tk' }) :
    wpAny (model prog w) ((⟨none, dp, some [], gd, un⟩ : Around).deeper env) (call (.ref f) vs kw) Q E s :=
  wpAny_call (S p loose mean mg mb (dp + 1) (un + 3) [env] gd g s _ ⟨X.keeps F.keep, T.keeps F.keep⟩ (bel F hf hk) hd hu hp
    (fun v h' tk' k hP => h v h' tk' (Fr.after_stays F k) (News.after_stays N k) k hP) hE)
/-- a raise out of a callee, caught in the frame itself -/
theorem catchE {A : Around} {Q : Flow → Shared → Prop} {x : Str} {np pos : Pos} {b₀ : Stmt} {suite : List Stmt} {rest : List ExceptHandler} {c : Value}
    (R : RaisedS g G [env] e cls t vs [] s'.heap) (U : G.UpToSlots s'.heap) (F : Fr g L G m) (N : News g L G news) (X : K.In g) (hf : env.frame = some L) (hA : A.frames = some [env])
    (hx : exmOne K cls c = some true) (hn : ∀ (h : Heap) (s : Shared) (Q : Value → Shared → Prop) (E : Value → Shared → Prop), s.heap = h → Fr g L h m → Q c s → wpAny (model prog w) (A.mark (some (.ref e))) (eval (.Name x np) env) Q E s)
    (k : ∀ h', Fr g L h' m → News g L h' news → wpAny (model prog w) (A.mark (some (.ref e))) (execs (b₀ :: suite) env) Q (fun _ _ => False) { s' with heap := h' }) :
    wpAny (model prog w) A (noteFrame (.ref e) env) (fun _ s₂ => wpAny (model prog w) A (setFlight (.ref e) none) (fun _ s₃ =>
      wpAny (model prog w) A (handleBy (.ref e) env (.ExceptHandler (some (.Name x np)) none (b₀ :: suite) pos :: rest)) Q E s₃) E s₂) E s' := by
  obtain ⟨⟨B, hB, hBG, _, hfl, _⟩, _⟩ := R
  refine wpAny_looks_onW hA hf hfl fun h₄ hheld₄ sm₄ => ?_
  refine wpAny_landsW hheld₄ fun h₅ hfl₅ sm₅ => ?_
  have U₅ : G.UpToSlots h₅ := U.trans (sm₄.trans sm₅)
  have F₅ : Fr g L h₅ m := ⟨U₅.ns F.ns, fun b o q => hfl₅.1 b o (hB b o q), F.above⟩
  refine wpAny_handleBy_cons (codeAny_handlers_test (hn h₅ _ _ _ rfl F₅ ?_)) (by intro q; cases q)
  have LT : Looks (model prog w) h₅ (typeOf (.ref e)) cls := by
    obtain ⟨ob, hob, hc⟩ := hfl₅.there
    subst hc
    exact (Looks.ld hob).andThen .now
  refine (exm_one (X.keeps F₅.keep) LT hx).here ?_
  refine codeAny_handlers_suite ?_
  refine lands_againW hfl₅ fun h₆ hfl₆ sm₆ => ?_
  have U₆ : G.UpToSlots h₆ := U₅.trans sm₆
  have F₆ : Fr g L h₆ m := ⟨U₆.ns F.ns, fun b o q => hfl₆.1 b o (hB b o q), F.above⟩
  have N₆ : News g L h₆ news := fun q hq => ⟨hfl₆.1 _ _ (hBG _ _ (N q hq).1 fun hm => by
    obtain ⟨env', he, hf'⟩ := List.mem_filterMap.mp hm
    rw [List.mem_singleton.mp he, hf] at hf'
    exact (N q hq).2.1 (Option.some.inj hf').symm), (N q hq).2⟩
  exact wpAny_mono (k h₆ F₆ N₆) (fun _ _ q => q) fun _ _ q => q.elim
end
/-- the names that matter -/
noncomputable def mapOn : List (Str × Value) → (Str → Option Value) → Str → Option Value
  | [], m => m
  | (n, v) :: r, m => fun y => if y = n then some v else mapOn r m y
theorem mapOn_eq : ∀ {l : List (Str × Value)} {m : Str → Option Value}, (∀ p ∈ l, m p.1 = some p.2) → mapOn l m = m
  | [], _, _ => rfl
  | (n, v) :: r, m, h => by
    funext y
    show (if y = n then some v else mapOn r m y) = m y
    rw [mapOn_eq fun p hp => h p (.tail _ hp)]
    by_cases q : y = n
    · rw [if_pos q, q]; exact (h _ (.head _)).symm
    · rw [if_neg q]
theorem Fr.on {g h : Heap} {L : Addr} {m : Str → Option Value} (F : Fr g L h m) (l : List (Str × Value)) (hl : ∀ p ∈ l, m p.1 = some p.2) : Fr g L h (mapOn l m) := (mapOn_eq hl).symm ▸ F
theorem News.sub {g h : Heap} {L : Addr} {l l' : List (Addr × Obj)} (N : News g L h l) (k : ∀ p ∈ l', p ∈ l) : News g L h l' := fun p hp => N p (k p hp)
end Mine
end
section
open PySem PySem.Calls PySem.W PyProof.Rows
namespace Mine
noncomputable abbrev LAW := PySem.Challenge.rw_qh0091_01.row.toRowW.prog
noncomputable abbrev lawEnv (L : Addr) : Env := envOfC (Str.ofString "law") d0.scope L 192 (.ref 191)
noncomputable abbrev lawA (dp un : Nat) (gd : Option (List Code)) (L : Addr) : Around := (⟨none, dp, some [], gd, un⟩ : Around).deeper (lawEnv L)
noncomputable def nsOf (l : List Int) : List Int := [753, 720, 190, 23] ++ l.take 16
noncomputable def rowOf (r : Int) (l : List Int) : List Int := (l.filter fun x => decide (x % 3 = r)).map fun x => x / 3 % 256
noncomputable def wordOf (l : List Int) : List Int := (l.filter fun x => decide (x % 3 = 2)).map fun x => 64 + x / 3 % 64
noncomputable def one1 (c : Int) : Str := ⟨#[c.toNat]⟩
noncomputable def cellN : Obj := { cls := .type "cell", data := .cell none }
end Mine
end
section
open PySem PySem.W PyProof.Rows Builtin.Str
namespace Mine
/-- where a text holds the sign c -/
noncomputable def spots (l : List Nat) (c : Nat) (a n : Nat) : List Nat := (List.range' a n).filter fun i => decide (l[i]? = some c)
theorem spots_succ (l : List Nat) (c a n : Nat) : spots l c a (n + 1) = (if l[a]? = some c then [a] else []) ++ spots l c (a + 1) n := by
  unfold spots
  rw [List.range'_succ]
  by_cases h : l[a]? = some c
  · rw [List.filter_cons_of_pos (by simpa using h), if_pos h]; rfl
  · rw [List.filter_cons_of_neg (by simpa using h), if_neg h]; rfl
theorem occ_one (l : List Nat) (c : Nat) : occurrences ⟨l.toArray⟩ ⟨#[c]⟩ 0 l.length (l.length + 1) = spots l c 0 l.length := by
  rw [StrLaws.occ_eq, Nat.sub_zero]
  have sub : ∀ i, i + 1 ≤ l.length → (subAt ⟨l.toArray⟩ ⟨#[c]⟩ i = true ↔ l[i]? = some c) := fun i hi => by
    unfold subAt
    show (l.toArray.extract i (i + 1) == #[c]) = true ↔ _
    rw [beq_iff_eq, List.extract_toArray, ← Array.toList_inj]
    show (l.extract i (i + 1)) = [c] ↔ _
    rw [List.extract_eq_take_drop, Nat.add_sub_cancel_left]
    rw [List.take_one, List.head?_drop]
    cases q : l[i]? with
    | none => simp
    | some x => simp
  have key : ∀ (n a : Nat) (found : Array Nat) (fr : Nat), a + n = l.length + 1 → found.size ≤ a → fr ≤ a →
      (forIn (List.range' a n) (found, fr) (StrLaws.occBody ⟨l.toArray⟩ ⟨#[c]⟩ l.length (l.length + 1))).run.fst.toList = found.toList ++ spots l c a (n - 1) := by
    intro n
    induction n with
    | zero => intro a found fr _ _ _; simp [spots]
    | succ n ih =>
      intro a found fr h1 h2 h3
      rw [List.range'_succ, List.forIn_cons]
      by_cases hm : a + 1 ≤ l.length ∧ l[a]? = some c
      · have hc : ((found.size < l.length + 1 ∧ fr ≤ a) ∧ a + 1 ≤ l.length) ∧ subAt ⟨l.toArray⟩ ⟨#[c]⟩ a = true := ⟨⟨⟨by omega, h3⟩, hm.1⟩, (sub a hm.1).mpr hm.2⟩
        have e : StrLaws.occBody ⟨l.toArray⟩ ⟨#[c]⟩ l.length (l.length + 1) a (found, fr) = pure (ForInStep.yield (found.push a, a + 1)) := if_pos hc
        rw [e]
        obtain ⟨k, rfl⟩ : ∃ k, n = k + 1 := ⟨n - 1, by omega⟩
        refine (ih (a + 1) (found.push a) (a + 1) (by omega) (by rw [Array.size_push]; omega) (Nat.le_refl _)).trans ?_
        rw [Nat.add_sub_cancel, Nat.add_sub_cancel, spots_succ, if_pos hm.2, Array.toList_push, List.append_assoc]
      · have hc : ¬ (((found.size < l.length + 1 ∧ fr ≤ a) ∧ a + 1 ≤ l.length) ∧ subAt ⟨l.toArray⟩ ⟨#[c]⟩ a = true) := fun q => hm ⟨q.1.2, (sub a q.1.2).mp q.2⟩
        have e : StrLaws.occBody ⟨l.toArray⟩ ⟨#[c]⟩ l.length (l.length + 1) a (found, fr) = pure (ForInStep.yield (found, fr)) := if_neg hc
        rw [e]
        refine (ih (a + 1) found fr (by omega) (by omega) (by omega)).trans ?_
        rw [Nat.add_sub_cancel]
        cases n with
        | zero => simp [spots]
        | succ k =>
          rw [spots_succ, if_neg (fun q => hm ⟨by omega, q⟩), Nat.add_sub_cancel]; rfl
  exact (key (l.length + 1) 0 #[] 0 (by omega) (Nat.le_refl _) (Nat.le_refl _)).trans (by simp)
/-- all parts, one behind the other -/
noncomputable def runs (parts : List Str) : List Nat := (parts.map fun p => p.cps.toList).flatten
theorem glued_nil (parts : List Str) : glued ⟨#[]⟩ parts = ⟨(runs parts).toArray⟩ := by
  have key : ∀ (l : List Str) (acc : Array Nat), l.foldl (fun acc p => acc ++ (#[] : Array Nat) ++ p.cps) acc = acc ++ (runs l).toArray := by
    intro l
    induction l with
    | nil => intro acc; simp [runs]
    | cons a r ih =>
      intro acc
      rw [List.foldl_cons, ih]
      apply Array.ext'
      simp [runs]
  unfold glued
  cases parts with
  | nil => rfl
  | cons a r =>
    show (⟨r.foldl (fun acc p => acc ++ (#[] : Array Nat) ++ p.cps) a.cps⟩ : Str) = _
    rw [key]
    simp [runs]
theorem runs_cons (p : Str) (r : List Str) : runs (p :: r) = p.cps.toList ++ runs r := by simp [runs]
theorem parts_filter (l : List Nat) (c : Nat) : ∀ (n a s : Nat), a + n = l.length → s ≤ a →
    runs (((s :: (spots l c a n).map (· + 1)).zip (spots l c a n ++ [l.length])).map fun p => strSub ⟨l.toArray⟩ p.1 p.2) = l.extract s a ++ (l.drop a).filter fun x => decide (x ≠ c) := by
  intro n
  induction n with
  | zero =>
    intro a s h1 h2
    have : a = l.length := by omega
    subst this
    simp [spots, runs, strSub]
  | succ n ih =>
    intro a s h1 h2
    have hlt : a < l.length := by omega
    have hd : l.drop a = l[a] :: l.drop (a + 1) := List.drop_eq_getElem_cons hlt
    rw [spots_succ, List.getElem?_eq_getElem hlt]
    by_cases hc : l[a] = c
    · rw [if_pos (by rw [hc])]
      have h := ih (a + 1) (a + 1) (by omega) (Nat.le_refl _)
      rw [hd, List.filter_cons_of_neg (by simp [hc])]
      rw [List.extract_eq_take_drop, Nat.sub_self, List.take_zero, List.nil_append] at h
      rw [← h]
      show runs (strSub ⟨l.toArray⟩ s a :: _) = _
      rw [runs_cons]
      have e1 : (strSub ⟨l.toArray⟩ s a).cps.toList = l.extract s a := by simp [strSub]
      rw [e1]
      rfl
    · rw [if_neg (fun q => hc (Option.some.inj q)), List.nil_append, ih (a + 1) s (by omega) (by omega), hd, List.filter_cons_of_pos (by simp [hc])]
      have : l.extract s (a + 1) = l.extract s a ++ [l[a]] := by
        rw [List.extract_eq_take_drop, List.extract_eq_take_drop]
        have e : a + 1 - s = (a - s) + 1 := by omega
        rw [e, List.take_add_one, List.getElem?_drop]
        have e2 : s + (a - s) = a := by omega
        rw [e2, List.getElem?_eq_getElem hlt]; rfl
      rw [this, List.append_assoc]; rfl
theorem replace_one (l : List Nat) (c : Nat) : Txt.replace ⟨l.toArray⟩ ⟨#[c]⟩ ⟨#[]⟩ = ⟨(l.filter fun x => decide (x ≠ c)).toArray⟩ := by
  have hl : (⟨l.toArray⟩ : Str).length = l.length := List.size_toArray
  have hp := parts_filter l c l.length 0 0 (by omega) (Nat.le_refl _)
  have h0 : (l.extract 0 0 : List Nat) = [] := by simp
  rw [h0, List.nil_append, List.drop_zero] at hp
  unfold Txt.replace
  rw [hl, occ_one]
  split
  · rename_i h
    have he : spots l c 0 l.length = [] := by
      rcases Bool.or_eq_true_iff.mp h with q | q
      · simpa using q
      · exact absurd (Bool.and_eq_true_iff.mp q).1 (fun z => Bool.noConfusion z)
    rw [he] at hp
    rw [← hp]
    simp [runs, strSub]
  · rw [glued_nil]
    unfold partsBetween
    rw [hl]
    exact congrArg (fun z : List Nat => (⟨z.toArray⟩ : Str)) hp
end Mine
end
section
open PySem PySem.W PyProof.Rows
namespace Mine
theorem bInts_arr {l : List Int} (h : ∀ n ∈ l, 0 ≤ n ∧ n < 256) : KBw.bInts (byteArr l) = l := by
  unfold KBw.bInts byteArr
  rw [List.toList_toArray, List.map_map]
  refine (List.map_congr_left fun n hn => ?_).trans (List.map_id _)
  have := h n hn
  show ((n.toNat.toUInt8.toNat : Nat) : Int) = n
  have e : n.toNat.toUInt8.toNat = n.toNat := by
    show n.toNat % 256 = n.toNat
    omega
  rw [e]; omega
theorem arr_of_bInts {b : Array UInt8} {l : List Int} (h : KBw.bInts b = l) : b = byteArr l := by
  subst h
  unfold KBw.bInts byteArr
  rw [List.map_map]
  apply Array.ext'
  rw [List.toList_toArray]
  refine ((List.map_congr_left fun c _ => ?_).trans (List.map_id _)).symm
  show ((c.toNat : Int).toNat).toUInt8 = c
  rw [Int.toNat_natCast]
  exact UInt8.ofNat_toNat
theorem row_range (r : Int) (l : List Int) : ∀ n ∈ rowOf r l, 0 ≤ n ∧ n < 256 := by
  intro n hn
  obtain ⟨x, _, rfl⟩ := List.mem_map.mp hn
  omega
theorem row_length (r : Int) (l : List Int) : (rowOf r l).length ≤ l.length := by
  unfold rowOf; rw [List.length_map]; exact List.length_filter_le _ _
theorem word_range (l : List Int) : ∀ n ∈ wordOf l, 64 ≤ n ∧ n < 128 := by
  intro n hn
  obtain ⟨x, _, rfl⟩ := List.mem_map.mp hn
  omega
theorem word_length (l : List Int) : (wordOf l).length ≤ l.length := by
  unfold wordOf; rw [List.length_map]; exact List.length_filter_le _ _
theorem word_ne (l : List Int) : wordOf (nsOf l) ≠ [] := by
  unfold wordOf nsOf
  simp
theorem ns_length (l : List Int) : (nsOf l).length ≤ 20 ∧ 0 < (nsOf l).length := by
  unfold nsOf
  rw [List.length_append, List.length_take]
  have : ([753, 720, 190, 23] : List Int).length = 4 := rfl
  omega
theorem enc64_byte (l : List Int) : ∀ n ∈ enc64 l, 0 ≤ n ∧ n < 256 := fun n hn => by have := enc64_range l n hn; omega
theorem enc64_length (l : List Int) : (enc64 l).length ≤ 2 * l.length + 4 := by
  unfold enc64 figs
  rw [List.length_append, List.length_map, List.length_replicate, digs_length]
  omega
theorem wrt_plain (r : List Int) : wrt 43 47 r = (enc64 r).map Int.toNat := by
  unfold wrt enc64
  rw [List.map_append, List.map_map, List.map_replicate]
  refine congrArg (fun z => z ++ _) (List.map_congr_left fun v hv => ?_)
  have := figs_range r v hv
  show (if v = 62 then 43 else if v = 63 then 47 else (b64c v).toNat) = (b64c v).toNat
  by_cases h : v = 62
  · subst h; rfl
  · rw [if_neg h]
    by_cases h' : v = 63
    · subst h'; rfl
    · rw [if_neg h']
theorem wrt_safe (r : List Int) : wrt 45 95 r = ((enc64 r).map smap).map Int.toNat := by
  unfold wrt enc64
  have e61 : smap 61 = 61 := by decide
  rw [List.map_append, List.map_append, List.map_map, List.map_map, List.map_replicate, List.map_replicate, e61]
  refine congrArg (fun z => z ++ _) (List.map_congr_left fun v hv => ?_)
  have := figs_range r v hv
  have key : ∀ n : Fin 64, (if ((n : Nat) : Int) = 62 then 45 else if ((n : Nat) : Int) = 63 then 95 else (b64c ((n : Nat) : Int)).toNat) = (smap (b64c ((n : Nat) : Int))).toNat := by decide +kernel
  have k := key ⟨v.toNat, by omega⟩
  rw [Int.toNat_of_nonneg this.1] at k
  exact k
theorem smap_byte {l : List Int} : ∀ n ∈ (enc64 l).map smap, 43 ≤ n ∧ n ≤ 122 := by
  intro n hn
  obtain ⟨c, hc, rfl⟩ := List.mem_map.mp hn
  have := enc64_range l c hc
  have := smap_cases c
  omega
theorem trans_safe {tb : Array UInt8} (h : ∀ n : Fin 256, tb.getD n 0 = if n = 43 then 45 else if n = 47 then 95 else (n : Nat).toUInt8) (l : List Int) : trans tb (byteArr (enc64 l)) = byteArr ((enc64 l).map smap) := by
  have e : ∀ c ∈ enc64 l, tb.getD c.toNat c.toNat.toUInt8 = (smap c).toNat.toUInt8 := fun c hc => by
    have hr := enc64_range l c hc
    have hk := h ⟨c.toNat, by omega⟩
    have hsz : c.toNat < tb.size := by
      by_cases q : c.toNat < tb.size
      · exact q
      · exfalso
        have : tb.getD c.toNat 0 = 0 := by unfold Array.getD; rw [dif_neg q]
        rw [this] at hk
        have key : ∀ n : Fin 256, 43 ≤ (n : Nat) → (0 : UInt8) ≠ if n = 43 then 45 else if n = 47 then 95 else (n : Nat).toUInt8 := by decide +kernel
        exact key ⟨c.toNat, by omega⟩ (by show 43 ≤ c.toNat; omega) hk
    have e1 : tb.getD c.toNat c.toNat.toUInt8 = tb.getD c.toNat 0 := by unfold Array.getD; rw [dif_pos hsz, dif_pos hsz]
    rw [e1, hk]
    have key : ∀ n : Fin 256, (if n = 43 then 45 else if n = 47 then 95 else (n : Nat).toUInt8 : UInt8) = (smap ((n : Nat) : Int)).toNat.toUInt8 := by decide +kernel
    have k := key ⟨c.toNat, by omega⟩
    rw [Int.toNat_of_nonneg (by omega)] at k
    exact k
  unfold trans byteArr
  apply Array.ext'
  rw [Array.toList_map, List.toList_toArray, List.toList_toArray, List.map_map, List.map_map]
  refine List.map_congr_left fun c hc => ?_
  have hr := enc64_range l c hc
  show tb.getD c.toNat.toUInt8.toNat c.toNat.toUInt8 = (smap c).toNat.toUInt8
  have e2 : c.toNat.toUInt8.toNat = c.toNat := by
    show c.toNat % 256 = c.toNat
    omega
  rw [e2]
  exact e c hc
theorem text_bytes (l : List Int) : ((⟨(l.map Int.toNat).toArray⟩ : Str).cps.map (·.toUInt8)) = byteArr l := by
  unfold byteArr
  apply Array.ext'
  simp
end Mine
end
section
open PySem PySem.W PyProof.Rows
namespace Mine
theorem bytes_len : typeLookup (.type "bytes") "__len__" = pure (some (.builtin "bytes.__len__")) := by rw [typeLookup_type, builtinLookup_eq_fast]; kernel_rfl
section
variable {prog : Program} {w : World} {A : Around} {E : Value → Shared → Prop} {s : Shared}
noncomputable def OctAt (b : Array UInt8) (i : Nat) (v : Value) : Prop := ∃ c u, b[i]? = some c ∧ v = .int (c.toNat : Int) u
/-- a list is filled with the octets of some bytes -/
theorem fill_bytes {R : Result → Shared → Prop} (hh : A.handled = none) (x : Array UInt8) (t : Tok) (S : Addr) (res : Value) (c₀ : Nat) (hS : s.heap.get? S = some { cls := .type "list", data := .seq #[] c₀ })
    (hR : ∀ h' tk acc' c', (∀ b o, b ≠ S → s.heap.get? b = some o → h'.get? b = some o) → h'.get? S = some { cls := .type "list", dict := none, data := .seq acc' c', slots := #[] } →
      ItemsOf (OctAt x) acc' x.size → R (.ok (.ret res)) { s with heap := h', toks := tk }) (hn : x.size ≤ sizeLine) :
    wpAny (model prog w) A.in1 (Builtin.List.listExtendWith (.ref S) (.bytes x t) res)
      (fun fin s' => match fin with | .done f => R (.ok f) s' | .again c' => c'.quiet = true ∧ codeAny (model prog w) A c' R s') (fun e s' => R (.error e) s') s := by
  have hSI : S ≠ s.heap.objs.size := Nat.ne_of_lt (Heap.lt_size hS)
  have hSf : S ∉ [s.heap.objs.size] := fun hm => hSI (List.mem_singleton.mp hm)
  unfold Builtin.List.listExtendWith
  refine wpAny_bind (wpAny_typeOf (T := "bytes") (v := .bytes x t) rfl ?_)
  have h1 : Builtin.List.listSameRef (.ref S) (.bytes x t) = false := rfl
  have h2 : (Value.type "bytes" == Value.type "list") = false := by decide
  have h3 : (Value.type "bytes" == Value.type "tuple") = false := by decide
  simp only [h1, h2, h3, Bool.or_false, Bool.false_eq_true, if_false]
  refine wpAny_bind (KBw.pyIter_bytes ?_)
  refine wpAny_bind (wpAny_holding ?_)
  unfold Builtin.List.listLengthHint
  refine wpAny_bind (wpAny_specialOf (T := "bytes") (v := .bytes x t) rfl bytes_len ?_)
  wp_delta
  refine wpAny_bind (wpAny_isInstance (T := "bytes") (v := .bytes x t) (b := true) rfl (by rw [isSubtype_type]; kernel_rfl) ?_)
  show wpAny _ _ (typeOf (Value.bytes x t) >>= _) _ _ _
  refine wpAny_bind (wpAny_typeOf (T := "bytes") (v := .bytes x t) rfl ?_)
  refine wpAny_pure ?_
  rw [if_neg (by decide)]
  have W := KBw.walks (prog := prog) (w := w) (A := A.in1) hh s.heap.objs.size x t
  refine wpAny_pure ⟨plainId_quiet F.plain_extend_loop _, codeAny_extend_loopS W.toS hn _ hSf _ x.size 0 _ _ _ rfl (Nat.zero_le _) ⟨_, Heap.get?_push_size _ rfl, rfl, rfl⟩ (Heap.get?_push_of_some _ hS) (ItemsOf.nil _) fun s' acc' c' hm hS' hacc => ?_⟩
  rw [Moved.eq_with hm]
  refine hR s'.heap s'.toks acc' c' (fun b ob hb e => hm.heap b ob (fun hmem => ?_) (Heap.get?_push_of_some _ e)) hS' hacc
  rcases List.mem_cons.mp hmem with e' | hmem
  · exact hb e'
  · exact absurd (Heap.lt_size e) (by rw [List.mem_singleton.mp hmem]; exact Nat.lt_irrefl _)
theorem init_bytes {R : Result → Shared → Prop} (hh : A.handled = none) (x : Array UInt8) (t : Tok) (S : Addr) (hS : s.heap.get? S = some { cls := .type "list", data := .seq #[] })
    (hR : ∀ h' tk acc' c', (∀ b o, b ≠ S → s.heap.get? b = some o → h'.get? b = some o) → h'.get? S = some { cls := .type "list", dict := none, data := .seq acc' c', slots := #[] } →
      ItemsOf (OctAt x) acc' x.size → R (.ok (.ret .none)) { s with heap := h', toks := tk }) (hn : x.size ≤ sizeLine) :
    wpAny (model prog w) A.in1 (Builtin.«list.__init__» ⟨[.ref S, .bytes x t], []⟩)
      (fun fin s' => match fin with | .done f => R (.ok f) s' | .again c' => c'.quiet = true ∧ codeAny (model prog w) A c' R s') (fun e s' => R (.error e) s') s := by
  show wpAny _ _ (do let old ← Builtin.List.listItems (.ref S); Builtin.List.listUpdate (.ref S) (fun _ => #[]); letGo old.toList.reverse; Builtin.List.listExtendWith (.ref S) (.bytes x t) .none) _ _ s
  refine wpAny_bind ?_
  unfold Builtin.List.listItems
  refine wpAny_bind (wpAny_seqItems hS rfl (wpAny_pure ?_))
  show wpAny _ _ (updateSeq S (fun _ => #[]) >>= fun _ => letGo (#[] : Array Value).toList.reverse >>= fun _ => Builtin.List.listExtendWith (.ref S) (.bytes x t) .none) _ _ s
  refine wpAny_bind (wpAny_updateSeq hS rfl ?_)
  have hS₂ := Heap.get?_update_self (Obj.mapSeq (fun _ => (#[] : Array Value))) hS rfl
  have oth : ∀ b o, b ≠ S → s.heap.get? b = some o → (s.heap.update S (Obj.mapSeq (fun _ => (#[] : Array Value)))).get? b = some o :=
    fun b o hb e => (Heap.get?_update_other _ _ (Ne.symm hb)).trans e
  refine wpAny_bind (wpAny_letGo ?_)
  exact fill_bytes (hn := hn) hh x t S .none _ hS₂ fun h' tk acc' c' hk hS' hacc => hR h' tk acc' c' (fun b o hb e => hk b o hb (oth b o hb e)) hS' hacc
theorem list_bytes {Q : Value → Shared → Prop} (hh : A.handled = none) (x : Array UInt8) (t : Tok)
    (hQ : ∀ h' tk acc' c', (∀ b o, s.heap.get? b = some o → h'.get? b = some o) →
      h'.get? s.heap.objs.size = some { cls := .type "list", dict := none, data := .seq acc' c', slots := #[] } → ItemsOf (OctAt x) acc' x.size → Q (.ref s.heap.objs.size) { s with heap := h', toks := tk }) (hn : x.size ≤ sizeLine) :
    wpAny (model prog w) A (call (.type "list") [.bytes x t]) Q E s := by
  refine callType_codes (Q₁ := fun obj s₁ => obj = .ref s.heap.objs.size ∧ s₁ = { s with heap := s.heap.push { cls := .type "list", data := .seq #[] } }) F.called_list (F.typeCall_list_1 _) F.entry_list_init
    (code_list_new _ ⟨rfl, rfl⟩) fun obj s₁ h₁ => ?_
  obtain ⟨rfl, rfl⟩ := h₁
  have hS : (s.heap.push { cls := .type "list", data := .seq #[] }).get? s.heap.objs.size = some { cls := .type "list", data := .seq #[] } := Heap.get?_push_size _ rfl
  refine ⟨⟨_, hS, rfl⟩, F.args_list_init_2 _ _, init_bytes (A := A.in1) (hn := hn) hh x t _ hS fun h' tk acc' c' hk hS' hacc => ?_⟩
  exact ⟨rfl, hQ h' tk acc' c' (fun b o e => hk b o (Nat.ne_of_lt (Heap.lt_size e)) (Heap.get?_push_of_some _ e)) hS' hacc⟩
end
/-- list(bytes), list(text): a new list of the ledger -/
theorem ints_of_items {x : Array UInt8} {acc : Array Value} (h : ItemsOf (OctAt x) acc x.size) : IntsAre acc.toList (KBw.bInts x) := by
  have key : ∀ (l : List UInt8) (vs : List Value), vs.length = l.length → (∀ (j : Nat) v, vs[j]? = some v → ∃ c u, l[j]? = some c ∧ v = .int (c.toNat : Int) u) → IntsAre vs (l.map fun c => (c.toNat : Int)) := by
    intro l
    induction l with
    | nil => intro vs hl _; rw [List.length_eq_zero_iff.mp hl]; exact .nil
    | cons a r ih =>
      intro vs hl hv
      obtain ⟨v, vs, rfl⟩ := List.exists_cons_of_length_eq_add_one hl
      obtain ⟨c, u, hc, rfl⟩ := hv 0 v rfl
      obtain rfl := Option.some.inj hc
      exact .cons _ _ (ih vs (Nat.succ.inj hl) fun j v hj => hv (j + 1) v hj)
  exact key x.toList acc.toList (by simp [h.1]) fun j v hj => by
    obtain ⟨c, u, hc, e⟩ := h.2 j v (by simpa using hj)
    exact ⟨c, u, by simpa using hc, e⟩
theorem strs_of_items {x : Str} {acc : Array Value} (h : ItemsOf (SignAt x) acc x.cps.size) : StrsAre acc.toList (x.cps.toList.map fun c => ⟨#[c]⟩) := by
  have key : ∀ (l : List Nat) (vs : List Value), vs.length = l.length → (∀ (j : Nat) v, vs[j]? = some v → ∃ c u, l[j]? = some c ∧ v = .str ⟨#[c]⟩ u) → StrsAre vs (l.map fun c => ⟨#[c]⟩) := by
    intro l
    induction l with
    | nil => intro vs hl _; rw [List.length_eq_zero_iff.mp hl]; exact .nil
    | cons a r ih =>
      intro vs hl hv
      obtain ⟨v, vs, rfl⟩ := List.exists_cons_of_length_eq_add_one hl
      obtain ⟨c, u, hc, rfl⟩ := hv 0 v rfl
      obtain rfl := Option.some.inj hc
      exact .cons _ _ (ih vs (Nat.succ.inj hl) fun j v hj => hv (j + 1) v hj)
  exact key x.cps.toList acc.toList (by simp [h.1]) fun j v hj => by
    obtain ⟨c, u, hc, e⟩ := h.2 j v (by simpa using hj)
    exact ⟨c, u, by simpa using hc, e⟩
section
variable {prog : Program} {w : World} {A : Around} {E : Value → Shared → Prop} {s : Shared} {Q : Value → Shared → Prop} {g : Heap} {L : Addr} {m : Str → Option Value} {news : List (Addr × Obj)} {t : Tok}
theorem list_bytesK {x : Array UInt8} (F : Fr g L s.heap m) (N : News g L s.heap news) (hh : A.handled = none) (hn : x.size ≤ 100000)
    (h : ∀ D h' tk' ys n, Fr g L h' m → News g L h' ((D, W.listOf ys.toArray n) :: news) → (∀ p ∈ news, p.1 < D) → IntsAre ys (KBw.bInts x) → Q (.ref D) { s with heap := h', toks := tk' }) :
    wpAny (model prog w) A (call (.type "list") [.bytes x t]) Q E s :=
  list_bytes (hn := by rw [sizeLine_eq]; omega) hh x t fun h' tk acc c hk hS hi => h _ h' tk acc.toList c (Fr.after_stays F hk) (news_add F N hk (by rw [Array.toArray_toList]; exact hS) (Nat.le_refl _)) (news_below N (Nat.le_refl _)) (ints_of_items hi)
theorem list_strK {x : Str} (F : Fr g L s.heap m) (N : News g L s.heap news) (hh : A.handled = none) (hn : x.cps.size ≤ 100000)
    (h : ∀ D h' tk' ys n, Fr g L h' m → News g L h' ((D, W.listOf ys.toArray n) :: news) → (∀ p ∈ news, p.1 < D) → StrsAre ys (x.cps.toList.map fun c => ⟨#[c]⟩) → Q (.ref D) { s with heap := h', toks := tk' }) :
    wpAny (model prog w) A (call (.type "list") [.str x t]) Q E s :=
  call_list_str (hn := by rw [sizeLine_eq]; omega) hh x t fun h' tk acc c hk hS hi => h _ h' tk acc.toList c (Fr.after_stays F hk) (news_add F N hk (by rw [Array.toArray_toList]; exact hS) (Nat.le_refl _)) (news_below N (Nat.le_refl _)) (strs_of_items hi)
end
end Mine
end
section
open PySem PySem.Calls PySem.W PyProof.Rows
namespace Mine
/-- a call whose answer is a list that did not stand -/
theorem Spec.useF {prog : Program} {w : World} {E : Value → Shared → Prop} {Q : Value → Shared → Prop} {s : Shared} {g : Heap} {L : Addr} {m : Str → Option Value} {news : List (Addr × Obj)} {K : Frag} {p : Program} {loose : List Str} {mean : ExcName → Option Value} {mg mb : Str → Option Value} {f : Addr} {vs : List Value} {kw : List (Str × Value)} {d : Nat} {pre : Heap → Prop} {R : List Value → Prop} {dp un : Nat} {fr : Option (List Env)} {gd : Option (List Code)}
    (S : Spec prog w K f ⟨vs, kw⟩ d pre (fun h h' v => ∃ l ys n, v = .ref l ∧ h'.get? l = some (W.listOf ys.toArray n) ∧ R ys ∧ h.get? l = none))
    (F : Fr g L s.heap m) (N : News g L s.heap news) (X : K.In g) (T : Top p loose mean mg mb g) (hd : dp + d < recursionLimit) (hu : un + 8 * d + 8 < cLine) (hp : pre s.heap)
    (h : ∀ l ys n h' tk', Fr g L h' m → News g L h' ((l, W.listOf ys.toArray n) :: news) → R ys → Q (.ref l) { s with heap := h', toks := tk' }) : wpAny (model prog w) ⟨none, dp, fr, gd, un⟩ (call (.ref f) vs kw) Q E s :=
  Spec.use S F N X T hd hu hp fun v h' tk' F' N' st hv => by
    obtain ⟨l, ys, n, rfl, ho, hR, hs⟩ := hv
    refine h l ys n h' tk' F' (fun q hq => ?_) hR
    rcases List.mem_cons.mp hq with rfl | hq
    · refine ⟨ho, fun e => ?_, ?_⟩
      · obtain ⟨oL, _, _, hL, _⟩ := F.ns
        have e' : l = L := e
        have : s.heap.get? l = some oL := e' ▸ hL
        rw [hs] at this; cases this
      · cases q : g.get? l with
        | none => rfl
        | some o => have := F.keep l o q; rw [hs] at this; cases this
    · exact N' q hq
theorem ints_pl : ∀ {vs : List Value} {ns : List Int}, IntsAre vs ns → ∀ v ∈ vs, Pl v
  | _, _, .nil => fun _ h => nomatch h
  | _, _, .cons _ _ r => List.forall_mem_cons.mpr ⟨pl_int _ _, ints_pl r⟩
theorem strs_pl : ∀ {vs : List Value} {ss : List Str}, StrsAre vs ss → (∀ x ∈ ss, PyData.canLay0 (.str x) = true) → ∀ v ∈ vs, Pl v
  | _, _, .nil, _ => fun _ h => nomatch h
  | _, _, .cons _ _ r, h => List.forall_mem_cons.mpr ⟨pl_str _ _ (h _ (.head _)), strs_pl r fun x hx => h x (.tail _ hx)⟩
theorem arr_at {l : List Int} {i : Nat} {c : UInt8} (hr : ∀ n ∈ l, 0 ≤ n ∧ n < 256) (h : (byteArr l)[i]? = some c) : l[i]? = some (c.toNat : Int) := by
  have e := congrArg (fun z : List Int => z[i]?) (bInts_arr hr)
  have e2 : (KBw.bInts (byteArr l))[i]? = some (c.toNat : Int) := by
    unfold KBw.bInts
    rw [List.getElem?_map, Array.getElem?_toList, h]; rfl
  exact e.symm.trans e2
theorem ints_take {l : List Int} {i : Nat} {x y : Int} {ys : List Value} {t : Tok} (hJ : IntsAre ys (l.take i)) (h : l[i]? = some y) (e : x = y) : IntsAre (ys ++ [.int x t]) (l.take (i + 1)) := by
  rw [List.take_add_one, h, e]
  exact IntsAre.append hJ (.cons _ _ .nil)
theorem strs_take {l : List Str} {i : Nat} {x y : Str} {ys : List Value} {t : Tok} (hJ : StrsAre ys (l.take i)) (h : l[i]? = some y) (e : x = y) : StrsAre (ys ++ [.str x t]) (l.take (i + 1)) := by
  rw [List.take_add_one, h, e]
  exact StrsAre.append' hJ (.cons _ _ .nil)
theorem StrsAre.at' : ∀ {vs : List Value} {ss : List Str}, StrsAre vs ss → ∀ (i : Nat) (v : Value), vs[i]? = some v → ∃ x t, v = .str x t ∧ ss[i]? = some x
  | _, _, .nil, i, v, h => by cases h
  | _, _, .cons x t r, 0, v, h => ⟨x, t, (Option.some.inj h).symm, rfl⟩
  | _, _, .cons x t r, i + 1, v, h => StrsAre.at' r i v h
/-- the codes on the wire -/
noncomputable def Wire (ns r1 r2 wd : List Int) : List Int := app (sched ns 0 ((enc64 r1).length + (rowB r2).length + (rowC wd).length) (enc64 r1).length (rowB r2).length (rowC wd).length) (enc64 r1) (rowB r2) (rowC wd)
/-- what is shown of it -/
noncomputable def Shown (ns r1 r2 wd : List Int) : List Str := app (sched ns 0 ((enc64 r1).length + (rowB r2).length + (rowC wd).length) (enc64 r1).length (rowB r2).length (rowC wd).length) ((enc64 r1).map fun c => (⟨#[c.toNat]⟩ : Str)) (((enc64 r2).map smap).map fun c => (⟨#[33, c.toNat]⟩ : Str)) (wd.map fun c => (⟨#[94, (64 + c % 32).toNat]⟩ : Str))
theorem rowB_length (l : List Int) : (rowB l).length = (enc64 l).length := by unfold rowB; rw [List.length_map, List.length_map]
theorem rowC_length (l : List Int) : (rowC l).length = l.length := List.length_map _
theorem wire_takes (ns r1 r2 wd : List Int) : Takes (sched ns 0 ((enc64 r1).length + (rowB r2).length + (rowC wd).length) (enc64 r1).length (rowB r2).length (rowC wd).length) (enc64 r1).length (rowB r2).length (rowC wd).length := sched_takes ns _ _ _ _ _ rfl
/-- unctrl of the wire, code by code -/
theorem wire_shown (ns r1 r2 wd : List Int) : (Wire ns r1 r2 wd).map unc = Shown ns r1 r2 wd := by
  unfold Wire Shown
  rw [← app_map unc (wire_takes ns r1 r2 wd)]
  have ea : (enc64 r1).map unc = (enc64 r1).map fun c => (⟨#[c.toNat]⟩ : Str) := List.map_congr_left fun c hc => by
    have := enc64_range r1 c hc
    exact unc_2 (by omega) (by omega)
  have eb : (rowB r2).map unc = ((enc64 r2).map smap).map fun c => (⟨#[33, c.toNat]⟩ : Str) := by
    unfold rowB
    rw [List.map_map]
    refine List.map_congr_left fun c hc => ?_
    have := smap_byte c hc
    show unc (c + 128) = _
    rw [unc_3 (by omega), Int.add_sub_cancel]
  have ec : (rowC wd).map unc = wd.map fun c => (⟨#[94, (64 + c % 32).toNat]⟩ : Str) := by
    unfold rowC
    rw [List.map_map]
    refine List.map_congr_left fun c _ => ?_
    show unc (c % 32) = _
    rw [unc_1 (by omega), Int.add_comm]
  rw [ea, eb, ec]
theorem wire_length (ns r1 r2 wd : List Int) : (Wire ns r1 r2 wd).length = (enc64 r1).length + (enc64 r2).length + wd.length := by
  unfold Wire
  rw [app_length (wire_takes ns r1 r2 wd), rowB_length, rowC_length]
theorem wire_cases (ns r1 r2 wd : List Int) : ∀ x ∈ Wire ns r1 r2 wd, (33 ≤ x ∧ x < 127) ∨ (161 ≤ x ∧ x < 255) ∨ (0 ≤ x ∧ x < 32) :=
  app_all (wire_takes ns r1 r2 wd) (fun x hx => by have := enc64_range r1 x hx; omega) (fun x hx => by have := rowB_range r2 x hx; omega) (fun x hx => by have := rowC_range wd x hx; omega)
theorem shown_small (ns r1 r2 wd : List Int) : ∀ x ∈ Shown ns r1 r2 wd, x.cps.size ≤ 2 ∧ ∀ c ∈ x.cps, c < 128 := by
  rw [← wire_shown]
  intro x hx
  obtain ⟨b, hb, rfl⟩ := List.mem_map.mp hx
  rcases wire_cases ns r1 r2 wd b hb with h | h | h
  · rw [unc_2 (by omega) (by omega)]; refine ⟨(show 1 ≤ 2 by decide), fun c hc => ?_⟩; simp at hc; omega
  · rw [unc_3 (by omega)]; refine ⟨Nat.le_refl 2, fun c hc => ?_⟩; simp at hc; omega
  · rw [unc_1 (by omega)]; refine ⟨Nat.le_refl 2, fun c hc => ?_⟩; simp at hc; omega
theorem small_lay {x : Str} (h : ∀ c ∈ x.cps, c < 128) : PyData.canLay0 (.str x) = true := by
  rw [PyData.canLay0]
  unfold PyData.strOk
  rw [Array.all_eq_true_iff_forall_mem]
  exact fun c hc => decide_eq_true (Nat.lt_trans (h c hc) (by decide))
end Mine
end
section
open PySem PySem.Calls PySem.W PyProof.Rows
namespace Mine
theorem setKS1 : K0 = K0 ∧ PySem.Challenge.rw_qh0091_01 = PySem.Challenge.rw_qh0091_01 := by
  k_with_none
  k_fill
  k_with "call type:type" => ((with_reducible show wpAny _ _ (call (Value.type "type") [Value.bytes _ _]) _ _ _); refine call_type_of (Tx := "bytes") rfl (by decide +kernel) ?_)
  k_with "my_enterC" => ((case k1 => assumption); (case k6 => k_is); (case k7 => k_is); (case k8 => (dsimp only; omega)); (case k9 => exact rfl); (case kB => exact rfl); (case kN => decide); (case c2 => exact rfl); (case c3 => exact rfl); (case c4 => exact rfl); intro g' L' h' tk' cells' hg' F' N' Y' X' T'; (k_cells Y'); (try dsimp only); (try k_fold))
  k_with "eval ListComp" => refine Stop.out ?_
  k_with "exec Assign cons ListComp" => refine Stop.out ?_
  k_with "call ref" => refine Stop.out ?_
  k_with "call type:bytes" => refine Stop.out ?_
  k_with "my_side" => first | assumption | exact trivial | omega | (dsimp only [Around.deeper, Around.in1]; omega)
  k_with "my_use" => ((case kF => k_asm); (case kN => k_asm); (case kX => k_asm); (case kT => k_asm); (case kd => walk_at "my_side"); (case ku => walk_at "my_side"))
  k_with "my_lit" => (unfold lawEnv; generalize hsc : d0.scope = sc; (conv at hsc => (lhs; whnf)); subst hsc; (conv => (enter [3, 1]; whnf)))
  exact ⟨rfl, rfl⟩
theorem ns_length' (l : List Int) : (nsOf l).length ≤ 20 ∧ 0 < (nsOf l).length := by
  unfold nsOf
  rw [List.length_append, List.length_take]
  have : ([753, 720, 190, 23] : List Int).length = 4 := rfl
  omega
theorem row_yes {r x : Int} {l : List Int} {i : Nat} {ys : List Value} {t : Tok} (hx : l[i]? = some x) (hJ : IntsAre ys (rowOf r (l.take i))) (h : x.fmod 3 = r) : IntsAre (ys ++ [.int ((x.fdiv 3).fmod 256) t]) (rowOf r (l.take (i + 1))) := by
  rw [Int.fmod_eq_emod_of_nonneg _ (by decide)] at h
  rw [Int.fmod_eq_emod_of_nonneg _ (by decide), Int.fdiv_eq_ediv_of_nonneg _ (by decide)]
  unfold rowOf at hJ ⊢
  rw [List.take_add_one, hx, List.filter_append, List.map_append]
  refine IntsAre.append hJ ?_
  show IntsAre _ (([x].filter fun x => decide (x % 3 = r)).map _)
  rw [List.filter_cons_of_pos (by simpa using h)]
  exact .cons _ _ .nil
theorem row_no {r x : Int} {l : List Int} {i : Nat} {ys : List Value} (hx : l[i]? = some x) (hJ : IntsAre ys (rowOf r (l.take i))) (h : x.fmod 3 ≠ r) : IntsAre ys (rowOf r (l.take (i + 1))) := by
  rw [Int.fmod_eq_emod_of_nonneg _ (by decide)] at h
  have e : rowOf r (l.take (i + 1)) = rowOf r (l.take i) := by
    unfold rowOf
    rw [List.take_add_one, hx, List.filter_append]
    show List.map _ (_ ++ [x].filter fun x => decide (x % 3 = r)) = _
    rw [List.filter_cons_of_neg (by simpa using h), List.filter_nil, List.append_nil]
  rw [e]; exact hJ
theorem word_yes {x : Int} {l : List Int} {i : Nat} {ys : List Value} {y : Str} {t : Tok} (hx : l[i]? = some x) (hJ : StrsAre ys ((wordOf (l.take i)).map one1)) (h : x.fmod 3 = 2) (e : y = one1 (64 + (x.fdiv 3).fmod 64)) : StrsAre (ys ++ [.str y t]) ((wordOf (l.take (i + 1))).map one1) := by
  subst e
  rw [Int.fmod_eq_emod_of_nonneg _ (by decide)] at h
  rw [Int.fmod_eq_emod_of_nonneg _ (by decide), Int.fdiv_eq_ediv_of_nonneg _ (by decide)]
  unfold wordOf at hJ ⊢
  rw [List.take_add_one, hx, List.filter_append, List.map_append, List.map_append]
  refine StrsAre.append' hJ ?_
  show StrsAre _ ((([x].filter fun x => decide (x % 3 = 2)).map _).map one1)
  rw [List.filter_cons_of_pos (by simpa using h)]
  exact .cons _ _ .nil
theorem word_no {x : Int} {l : List Int} {i : Nat} {ys : List Value} (hx : l[i]? = some x) (hJ : StrsAre ys ((wordOf (l.take i)).map one1)) (h : x.fmod 3 ≠ 2) : StrsAre ys ((wordOf (l.take (i + 1))).map one1) := by
  rw [Int.fmod_eq_emod_of_nonneg _ (by decide)] at h
  have e : wordOf (l.take (i + 1)) = wordOf (l.take i) := by
    unfold wordOf
    rw [List.take_add_one, hx, List.filter_append]
    show List.map _ (_ ++ [x].filter fun x => decide (x % 3 = 2)) = _
    rw [List.filter_cons_of_neg (by simpa using h), List.filter_nil, List.append_nil]
  rw [e]; exact hJ
theorem law_1 {w : World} (l : Addr) (vs : List Value) (ns : List Int) {p : Program} {loose : List Str} {mean : ExcName → Option Value} {mg mb : Str → Option Value} {dp un : Nat} {gd : Option (List Code)} {s : Shared} {R : Result → Shared → Prop}
    (G : Gd (K0 w.params) p loose mean mg mb s.heap) (hdp : dp + 20 < recursionLimit) (hu : un + 300 < cLine) (hl : s.heap.IsList l vs.toArray) (hi : IntsAre vs ns) (hln : ns.length ≤ 1000)
    (cont : ∀ (L : Addr) (g h : Heap) (tk : Nat) (m : Str → Option Value) (oc : Obj) (Dn Df Ds Dw : Addr) (vn y1 y2 y3 : List Value) (nn n1 n2 n3 : Nat), g = s.heap → Fr g L h m → News g L h [(L + 1, oc), (Dn, W.listOf vn.toArray nn), (Df, W.listOf y1.toArray n1), (Ds, W.listOf y2.toArray n2), (Dw, W.listOf y3.toArray n3)] → (K0 w.params).In g → Top p loose mean mg mb g →
      oc.data = .cell none → IntsAre vn (nsOf ns) → IntsAre y1 (rowOf 0 (nsOf ns)) → IntsAre y2 (rowOf 1 (nsOf ns)) → StrsAre y3 ((wordOf (nsOf ns)).map one1) →
      (∀ q ∈ [(Str.ofString "numbers", Value.ref Dn), (Str.ofString "first", .ref Df), (Str.ofString "second", .ref Ds), (Str.ofString "word", .ref Dw)], m q.1 = some q.2) →
      wpAny (model LAW w) (lawA dp un gd L) (execs (d0.body.drop 4) (lawEnv L)) (fun f s' => R (.ok (.ret (match f with | .ret v => v | _ => .none))) s') (fun _ _ => False) { s with heap := h, toks := tk }) :
    codeAny (model LAW w) ⟨none, dp, some [], gd, un⟩ (.call (.ref 192) ⟨[.ref l], []⟩) R s := by
  refine' enterC [(Str.ofString "script", .ref l)] ?k1 ?k6 ?k7 ?k8 ?k9 ?kB ?kN ?_ ?c2 ?c3 ?c4
  (case k1 => assumption)
  (case k6 => k_is)
  (case k7 => k_is)
  (case k8 => (dsimp only; omega))
  (case k9 => exact rfl)
  (case kB => exact rfl)
  (case kN => decide)
  (case c2 => exact rfl)
  (case c3 => exact rfl)
  (case c4 => exact rfl); intro g' L' h' tk' cells' hg' F' N' Y' X' T'; (k_cells Y')
  (try dsimp only)
  (try k_fold)
  (rename _ = Shared.heap _ => hg1)
  rw [← hg1] at hl
  refine wpAny_noRaise ?_
  k_steps
  refine Stop.mk ?_
  (rename IntsAre _ ([753, 720, 190, 23] ++ List.take 16 ns) => hn); (rename Fr _ _ _ _ => F1); (rename News _ _ _ _ => N1)
  (rename Frag.In _ _ => X1); (rename Top _ _ _ _ _ _ => T1)
  change IntsAre _ (nsOf ns) at hn
  obtain ⟨zn, zp⟩ := ns_length' ns
  have hwl := hn.length
  refine' comp_assignN (J := fun i ys => IntsAre ys (rowOf 0 ((nsOf ns).take i))) F1 N1 (fun Q hq => nameX_L F1 rfl hq rfl rfl (by decide)) (itb_list rfl ⟨_, N1.get (by k_mem), rfl, _, rfl⟩) ?kz .nil ?t1 ?ks ?kc ?kl ?kd ?kn ?kx ?ky ?kp ?t2 ?t3
  case ks => exact rfl
  case kc => exact rfl
  case kl => decide
  case kd => exact rfl
  case kn => decide
  case kx => exact rfl
  case ky => exact rfl
  case kp => exact rfl
  case kz => rw [sizeLine_eq, List.size_toArray]; omega
  case t1 =>
    intro i ys e
    rw [e.length]
    exact Nat.le_trans (row_length _ _) (by rw [List.length_take]; omega)
  case t2 =>
    intro i v ys C h tk m₂ E' hi1 hP hJ hk hn1 hx hC
    obtain ⟨x, tx, rfl, hxx⟩ := IntsAre.at hn i v (by simpa using hP)
    have FC := turn_fr hk hn1 hC
    refine wpAny_tests_one ?_
    walk1
    walk1
    refine cx_local FC hx ?_
    k_steps
    all_goals first | exact (fun _ _ e => e) | rfl | exact row_yes hxx hJ (by assumption) | exact row_no hxx hJ (by assumption)
  case t3 =>
  intro Df h1 tk1 y1 hJ1 F2 N2 lt2
  k_lt lt2
  rw [List.size_toArray, List.take_of_length_le (by omega)] at hJ1
  clear F1 N1
  dsimp only
  k_steps
  refine Stop.mk ?_
  refine' comp_assignN (J := fun i ys => IntsAre ys (rowOf 1 ((nsOf ns).take i))) F2 N2 (fun Q hq => nameX_L F2 rfl hq rfl rfl (by decide)) (itb_list rfl ⟨_, N2.get (by k_mem), rfl, _, rfl⟩) ?kz .nil ?t1 ?ks ?kc ?kl ?kd ?kn ?kx ?ky ?kp ?t2 ?t3
  case ks => exact rfl
  case kc => exact rfl
  case kl => decide
  case kd => exact rfl
  case kn => decide
  case kx => exact rfl
  case ky => exact rfl
  case kp => exact rfl
  case kz => rw [sizeLine_eq, List.size_toArray]; omega
  case t1 =>
    intro i ys e
    rw [e.length]
    exact Nat.le_trans (row_length _ _) (by rw [List.length_take]; omega)
  case t2 =>
    intro i v ys C h tk m₂ E' hi1 hP hJ hk hn1 hx hC
    obtain ⟨x, tx, rfl, hxx⟩ := IntsAre.at hn i v (by simpa using hP)
    have FC := turn_fr hk hn1 hC
    refine wpAny_tests_one ?_
    walk1
    walk1
    refine cx_local FC hx ?_
    k_steps
    all_goals first | exact (fun _ _ e => e) | rfl | exact row_yes hxx hJ (by assumption) | exact row_no hxx hJ (by assumption)
  case t3 =>
  intro Ds h2 tk2 y2 hJ2 F3 N3 lt3
  k_lt lt3
  rw [List.size_toArray, List.take_of_length_le (by omega)] at hJ2
  clear F2 N2
  dsimp only
  k_steps
  refine Stop.mk ?_
  refine' comp_assignN (J := fun i ys => StrsAre ys ((wordOf ((nsOf ns).take i)).map one1)) F3 N3 (fun Q hq => nameX_L F3 rfl hq rfl rfl (by decide)) (itb_list rfl ⟨_, N3.get (by k_mem), rfl, _, rfl⟩) ?kz .nil ?t1 ?ks ?kc ?kl ?kd ?kn ?kx ?ky ?kp ?t2 ?t3
  case ks => exact rfl
  case kc => exact rfl
  case kl => decide
  case kd => exact rfl
  case kn => decide
  case kx => exact rfl
  case ky => exact rfl
  case kp => exact rfl
  case kz => rw [sizeLine_eq, List.size_toArray]; omega
  case t1 =>
    intro i ys e
    rw [e.length, List.length_map]
    exact Nat.le_trans (word_length _) (by rw [List.length_take]; omega)
  case t2 =>
    intro i v ys C h tk m₂ E' hi1 hP hJ hk hn1 hx hC
    obtain ⟨x, tx, rfl, hxx⟩ := IntsAre.at hn i v (by simpa using hP)
    have FC := turn_fr hk hn1 hC
    refine wpAny_tests_one ?_
    walk1
    walk1
    refine cx_local FC hx ?_
    k_steps
    all_goals first | exact (fun _ _ e => e) | rfl | exact word_no hxx hJ (by assumption) | skip
    refine' cx_builtin FC ?b1 ?b2 ?b3 ?b4 ?b5 ?_
    case b1 => exact X1.keeps F3.keep
    case b2 => exact T1.keeps F3.keep
    case b3 => k_is
    case b4 => exact rfl
    case b5 => decide
    k_steps
    all_goals first | exact (fun _ _ e => e) | rfl | exact word_yes hxx hJ (by assumption) rfl
  case t3 =>
  intro Dw h3 tk3 y3 hJ3 F4 N4 lt4
  k_lt lt4
  rw [List.size_toArray, List.take_of_length_le (by omega)] at hJ3
  clear F3 N3
  exact cont _ _ _ _ _ _ _ _ _ _ _ _ _ _ _ _ _ _ hg1 F4 (News.sub N4 (List.forall_mem_cons.mpr ⟨by k_mem, List.forall_mem_cons.mpr ⟨by k_mem, List.forall_mem_cons.mpr ⟨by k_mem, List.forall_mem_cons.mpr ⟨by k_mem, List.forall_mem_cons.mpr ⟨by k_mem, List.forall_mem_nil _⟩⟩⟩⟩⟩)) X1 T1 (by assumption) hn hJ1 hJ2 hJ3 (List.forall_mem_cons.mpr ⟨rfl, List.forall_mem_cons.mpr ⟨rfl, List.forall_mem_cons.mpr ⟨rfl, List.forall_mem_cons.mpr ⟨rfl, List.forall_mem_nil _⟩⟩⟩⟩)
end Mine
end
section
open PySem PySem.Calls PySem.W PyProof.Rows
namespace Mine
theorem setKS2 : K0 = K0 ∧ PySem.Challenge.rw_qh0091_01 = PySem.Challenge.rw_qh0091_01 := by
  k_with_none
  k_fill
  k_with "call type:type" => ((with_reducible show wpAny _ _ (call (Value.type "type") [Value.bytes _ _]) _ _ _); refine call_type_of (Tx := "bytes") rfl (by decide +kernel) ?_)
  k_with "my_enterC" => ((case k1 => assumption); (case k6 => k_is); (case k7 => k_is); (case k8 => (dsimp only; omega)); (case k9 => exact rfl); (case kB => exact rfl); (case kN => decide); (case c2 => exact rfl); (case c3 => exact rfl); (case c4 => exact rfl); intro g' L' h' tk' cells' hg' F' N' Y' X' T'; (k_cells Y'); (try dsimp only); (try k_fold))
  k_with "eval ListComp" => refine Stop.out ?_
  k_with "exec Assign cons ListComp" => refine Stop.out ?_
  k_with "call ref" => refine Stop.out ?_
  k_with "call type:bytes" => refine Stop.out ?_
  k_with "my_side" => first | assumption | exact trivial | omega | (dsimp only [Around.deeper, Around.in1]; omega)
  k_with "my_use" => ((case kF => k_asm); (case kN => k_asm); (case kX => k_asm); (case kT => k_asm); (case kd => walk_at "my_side"); (case ku => walk_at "my_side"))
  k_with "my_lit" => (unfold lawEnv; generalize hsc : d0.scope = sc; (conv at hsc => (lhs; whnf)); subst hsc; (conv => (enter [3, 1]; whnf)))
  exact ⟨rfl, rfl⟩
section
variable {prog : Program} {w : World} {A : Around} {E : Value → Shared → Prop} {s : Shared} {t u : Tok} {Q : Value → Shared → Prop}
theorem ne_same {b : Array UInt8} (h : Q (.bool false) s) : wpAny (model prog w) A (compareOp .NotEq (.bytes b t) (.bytes b u)) Q E s := ne_bytes (by
  have : (b.toList != b.toList) = false := by simp
  rw [this]; exact h)
theorem encode_ints {l : List Int} (hr : ∀ n ∈ l, 0 ≤ n ∧ n < 128) (hz : l.length ≤ 1000) (h : Q (.bytes (byteArr l) s.toks) { s with toks := s.toks + 1 }) :
    wpAny (model prog w) A (call (.builtin "str.encode") [.str ⟨(l.map Int.toNat).toArray⟩ t, .str (Str.ofString "ascii") u]) Q E s := by
  refine call_encode (fun c hc => ?_) ?_ ?_
  · have hc : c ∈ (l.map Int.toNat).toArray := hc
    rw [List.mem_toArray] at hc
    obtain ⟨n, hn, rfl⟩ := List.mem_map.mp hc
    have := hr n hn
    omega
  · show ((l.map Int.toNat).toArray).size ≤ _
    rw [List.size_toArray, List.length_map, sizeLine_eq]; omega
  · rw [text_bytes]; exact h
end
theorem enc_small (l : List Int) : ∀ n ∈ enc64 l, 0 ≤ n ∧ n < 128 := fun n hn => by have := enc64_range l n hn; omega
theorem enc_smallS (l : List Int) : ∀ n ∈ (enc64 l).map smap, 0 ≤ n ∧ n < 128 := fun n hn => by have := smap_byte n hn; omega
theorem setK2S2 : True := by
  k_with "getMethod str" => (with_reducible refine gm_encode ?_)
  k_with "call builtin:str.encode" => (refine' encode_ints ?hr ?hz ?_; (case hr => first | exact enc_small _ | exact enc_smallS _); (case hz => (try rw [List.length_map]); refine Nat.le_trans (enc64_length _) ?_; omega))
  k_with "compareOp NotEq bytes bytes" => (with_reducible refine ne_same ?_)
  trivial
theorem law_2 {w : World} {p : Program} {loose : List Str} {mean : ExcName → Option Value} {mg mb : Str → Option Value} {dp un : Nat} {gd : Option (List Code)} {s : Shared} {g : Heap} {L Df Ds : Addr} {m : Str → Option Value} {y1 y2 : List Value} {n1 n2 : Nat} {r1 r2 : List Int} {Q : Flow → Shared → Prop} {rest : List (Addr × Obj)}
    (X : (K0 w.params).In g) (T : Top p loose mean mg mb g) (F : Fr g L s.heap m) (N : News g L s.heap ((Df, W.listOf y1.toArray n1) :: (Ds, W.listOf y2.toArray n2) :: rest))
    (hdp : dp + 20 < recursionLimit) (hu : un + 300 < cLine) (hf : m (Str.ofString "first") = some (.ref Df)) (hs : m (Str.ofString "second") = some (.ref Ds)) (h1 : IntsAre y1 r1) (h2 : IntsAre y2 r2)
    (b1 : ∀ v ∈ r1, 0 ≤ v ∧ v < 256) (b2 : ∀ v ∈ r2, 0 ≤ v ∧ v < 256) (z1 : r1.length ≤ 20) (z2 : r2.length ≤ 20)
    (cont : ∀ (h : Heap) (tk : Nat) (m' : Str → Option Value) (t1 t2 t3 t4 : Tok), Fr g L h m' → News g L h rest → (∀ y, y ≠ Str.ofString "plain" → y ≠ Str.ofString "safe" → y ≠ Str.ofString "one" → y ≠ Str.ofString "two" → m' y = m y) →
      m' (Str.ofString "plain") = some (.str ⟨((enc64 r1).map Int.toNat).toArray⟩ t1) → m' (Str.ofString "safe") = some (.str ⟨(((enc64 r2).map smap).map Int.toNat).toArray⟩ t2) →
      m' (Str.ofString "one") = some (.bytes (byteArr (enc64 r1)) t3) → m' (Str.ofString "two") = some (.bytes (byteArr ((enc64 r2).map smap)) t4) →
      wpAny (model LAW w) (lawA dp un gd L) (execs (d0.body.drop 9) (lawEnv L)) Q (fun _ _ => False) { s with heap := h, toks := tk }) :
    wpAny (model LAW w) (lawA dp un gd L) (execs (d0.body.drop 4) (lawEnv L)) Q (fun _ _ => False) s := by
  obtain ⟨h0, gn0, dr0, tk0, os0⟩ := s
  dsimp only at F N
  have F0 := Fr.on F [(Str.ofString "first", .ref Df), (Str.ofString "second", .ref Ds)] (List.forall_mem_cons.mpr ⟨hf, List.forall_mem_cons.mpr ⟨hs, List.forall_mem_nil _⟩⟩)
  have hm0 : mapOn [(Str.ofString "first", .ref Df), (Str.ofString "second", .ref Ds)] m = m := mapOn_eq (List.forall_mem_cons.mpr ⟨hf, List.forall_mem_cons.mpr ⟨hs, List.forall_mem_nil _⟩⟩)
  clear F
  walk_at "my_lit"
  k_steps
  refine Stop.mk ?_
  refine' Spec.use (sp_written Df y1 r1 43 47 _) ?kF ?kN ?kX ?kT ?kd ?ku ?kp ?_
  walk_at "my_use"
  case kp => exact ⟨⟨_, N.get (by k_mem), rfl, _, rfl⟩, h1, b1, by omega⟩
  intro v5 h5 tk5 F5 N5 st5 hv5
  obtain ⟨t5, rfl⟩ := hv5
  rw [wrt_plain]
  dsimp only
  clear N
  k_steps
  refine Stop.mk ?_
  (rename News _ _ _ _ => N6)
  refine' Spec.use (sp_written Ds y2 r2 45 95 _) ?kF ?kN ?kX ?kT ?kd ?ku ?kp ?_
  walk_at "my_use"
  case kp => exact ⟨⟨_, N6.get (by k_mem), rfl, _, rfl⟩, h2, b2, by omega⟩
  intro v6 h6 tk6 F6 N7 st6 hv6
  obtain ⟨t6, rfl⟩ := hv6
  rw [wrt_safe]
  dsimp only
  clear N6
  k_steps
  refine Stop.mk ?_
  (rename Fr _ _ _ _ => F8); (rename News _ _ _ _ => N8)
  refine bytes_K F8 N8 (by k_mem) (ns := r1) h1 b1 (by omega) rfl ?_
  intro t9 h9 tk9 F9 N9 st9
  dsimp only
  clear F8 N8
  k_steps
  refine Stop.mk ?_
  refine' Spec.use (sp_b64encode _ _) ?kF ?kN ?kX ?kT ?kd ?ku ?kp ?_
  walk_at "my_use"
  case kp => rw [byteArr_size]; omega
  intro v10 h10 tk10 F10 N10 st10 hv10
  obtain ⟨t10, rfl⟩ := hv10
  rw [bInts_arr b1]
  dsimp only
  clear F9 N9
  k_steps
  refine Stop.mk ?_
  (rename Fr _ _ _ _ => F11); (rename News _ _ _ _ => N11)
  refine bytes_K F11 N11 (by k_mem) (ns := r2) h2 b2 (by omega) rfl ?_
  intro t12 h12 tk12 F12 N12 st12
  dsimp only
  clear F11 N11
  k_steps
  refine Stop.mk ?_
  refine' Spec.use (sp_usencode _ _) ?kF ?kN ?kX ?kT ?kd ?ku ?kp ?_
  walk_at "my_use"
  case kp => rw [byteArr_size]; omega
  intro v13 h13 tk13 F13 N13 st13 hv13
  obtain ⟨tb, t13, htb, rfl⟩ := hv13
  rw [bInts_arr b2, trans_safe htb]
  dsimp only
  clear F12 N12
  k_with "execs cons" => refine Stop.out ?_
  k_steps
  refine Stop.mk ?_
  refine wpAny_execs_cons ?_
  k_steps
  refine Stop.mk ?_
  (rename Fr _ _ _ _ => F14); (rename News _ _ _ _ => N14)
  refine cont _ _ _ t5 t6 t10 t13 F14 (News.sub N14 fun p hp => .tail _ (.tail _ hp)) ?_ rfl rfl rfl rfl
  intro y a b c d
  rw [if_neg d, if_neg c, if_neg b, if_neg a, hm0]
end Mine
end
section
open PySem PySem.Calls PySem.W PyProof.Rows
namespace Mine
theorem setKS3 : K0 = K0 ∧ PySem.Challenge.rw_qh0091_01 = PySem.Challenge.rw_qh0091_01 := by
  k_with_none
  k_fill
  k_with "call type:type" => ((with_reducible show wpAny _ _ (call (Value.type "type") [Value.bytes _ _]) _ _ _); refine call_type_of (Tx := "bytes") rfl (by decide +kernel) ?_)
  k_with "my_enterC" => ((case k1 => assumption); (case k6 => k_is); (case k7 => k_is); (case k8 => (dsimp only; omega)); (case k9 => exact rfl); (case kB => exact rfl); (case kN => decide); (case c2 => exact rfl); (case c3 => exact rfl); (case c4 => exact rfl); intro g' L' h' tk' cells' hg' F' N' Y' X' T'; (k_cells Y'); (try dsimp only); (try k_fold))
  k_with "eval ListComp" => refine Stop.out ?_
  k_with "exec Assign cons ListComp" => refine Stop.out ?_
  k_with "call ref" => refine Stop.out ?_
  k_with "call type:bytes" => refine Stop.out ?_
  k_with "my_side" => first | assumption | exact trivial | omega | (dsimp only [Around.deeper, Around.in1]; omega)
  k_with "my_use" => ((case kF => k_asm); (case kN => k_asm); (case kX => k_asm); (case kT => k_asm); (case kd => walk_at "my_side"); (case ku => walk_at "my_side"))
  k_with "my_lit" => (unfold lawEnv; generalize hsc : d0.scope = sc; (conv at hsc => (lhs; whnf)); subst hsc; (conv => (enter [3, 1]; whnf)))
  exact ⟨rfl, rfl⟩
theorem setK3S3 : True := by
  k_with "call type:list" => refine Stop.out ?_
  trivial
theorem law_3 {w : World} {p : Program} {loose : List Str} {mean : ExcName → Option Value} {mg mb : Str → Option Value} {dp un : Nat} {gd : Option (List Code)} {s : Shared} {g : Heap} {L Dn Dw : Addr} {m : Str → Option Value} {vn y3 : List Value} {nn n3 : Nat} {ns r1 r2 wd : List Int} {Q : Flow → Shared → Prop} {rst : List (Addr × Obj)} {t1 t2 t3 t4 : Tok}
    (X : (K0 w.params).In g) (T : Top p loose mean mg mb g) (F : Fr g L s.heap m) (N : News g L s.heap ((Dn, W.listOf vn.toArray nn) :: (Dw, W.listOf y3.toArray n3) :: rst))
    (hdp : dp + 20 < recursionLimit) (hu : un + 300 < cLine) (hn : IntsAre vn ns) (hw : StrsAre y3 (wd.map one1)) (zn : ns.length ≤ 20) (zp : 0 < ns.length) (b3 : ∀ n ∈ wd, 64 ≤ n ∧ n < 128) (z1 : r1.length ≤ 20) (z2 : r2.length ≤ 20) (z3 : wd.length ≤ 20)
    (m1 : m (Str.ofString "numbers") = some (.ref Dn)) (m2 : m (Str.ofString "word") = some (.ref Dw))
    (m3 : m (Str.ofString "plain") = some (.str ⟨((enc64 r1).map Int.toNat).toArray⟩ t1)) (m4 : m (Str.ofString "safe") = some (.str ⟨(((enc64 r2).map smap).map Int.toNat).toArray⟩ t2))
    (m5 : m (Str.ofString "one") = some (.bytes (byteArr (enc64 r1)) t3)) (m6 : m (Str.ofString "two") = some (.bytes (byteArr ((enc64 r2).map smap)) t4))
    (cont : ∀ (h : Heap) (tk : Nat) (m' : Str → Option Value) (Dwi : Addr) (wv : List Value) (nwi : Nat), Fr g L h m' → News g L h ((Dwi, W.listOf wv.toArray nwi) :: (Dn, W.listOf vn.toArray nn) :: (Dw, W.listOf y3.toArray n3) :: rst) →
      IntsAre wv (Wire ns r1 r2 wd) → (∀ y, y ≠ Str.ofString "wire" → m' y = m y) → m' (Str.ofString "wire") = some (.ref Dwi) →
      wpAny (model LAW w) (lawA dp un gd L) (execs (d0.body.drop 10) (lawEnv L)) Q (fun _ _ => False) { s with heap := h, toks := tk }) :
    wpAny (model LAW w) (lawA dp un gd L) (execs (d0.body.drop 9) (lawEnv L)) Q (fun _ _ => False) s := by
  obtain ⟨h0, gn0, dr0, tk0, os0⟩ := s
  dsimp only at F N
  have hms : ∀ q ∈ [(Str.ofString "numbers", Value.ref Dn), (Str.ofString "word", .ref Dw), (Str.ofString "plain", .str ⟨((enc64 r1).map Int.toNat).toArray⟩ t1), (Str.ofString "safe", .str ⟨(((enc64 r2).map smap).map Int.toNat).toArray⟩ t2), (Str.ofString "one", .bytes (byteArr (enc64 r1)) t3), (Str.ofString "two", .bytes (byteArr ((enc64 r2).map smap)) t4)], m q.1 = some q.2 :=
    List.forall_mem_cons.mpr ⟨m1, List.forall_mem_cons.mpr ⟨m2, List.forall_mem_cons.mpr ⟨m3, List.forall_mem_cons.mpr ⟨m4, List.forall_mem_cons.mpr ⟨m5, List.forall_mem_cons.mpr ⟨m6, List.forall_mem_nil _⟩⟩⟩⟩⟩⟩
  have F0 := Fr.on F _ hms
  have hm0 := mapOn_eq hms
  clear F
  walk_at "my_lit"
  k_steps
  refine Stop.mk ?_
  have e1 := enc64_length r1
  have e2 := enc64_length r2
  refine list_bytesK F0 N rfl (by rw [byteArr_size]; omega) ?_
  intro D1 h1 tk1 va na F1 N1 lt1 ha
  rw [bInts_arr (enc64_byte r1)] at ha
  k_lt lt1
  clear F0 N
  dsimp only
  k_steps
  refine Stop.mk ?_
  have hB : ∀ n ∈ (enc64 r2).map smap, 0 ≤ n ∧ n < 256 := fun n hn => by have := smap_byte n hn; omega
  have lB : (rowB r2).length = (enc64 r2).length := by unfold rowB; rw [List.length_map, List.length_map]
  refine' comp_evalN (J := fun i ys => IntsAre ys ((rowB r2).take i)) F1 N1 (fun Q hq => nameX_L F1 rfl hq rfl rfl (by decide)) (itb_bytes rfl) ?kz .nil ?t1 ?kc ?kl ?kd ?kn ?kx ?t2 ?t3
  case kc => exact rfl
  case kl => decide
  case kd => exact rfl
  case kn => decide
  case kx => exact rfl
  case kz => rw [sizeLine_eq, byteArr_size, List.length_map]; omega
  case t1 => intro i ys e; rw [e.length, List.length_take]; omega
  case t2 =>
    intro i v ys C h tk m₂ E' hi1 hP hJ hk hn1 hx hC
    obtain ⟨c, uc, hc, rfl⟩ := hP
    have hc' := arr_at hB hc
    have hcr := smap_byte _ (List.mem_of_getElem? hc')
    have FC := turn_fr hk hn1 hC
    have NC := News.nil (h := h) (h₀ := h1) (L := C)
    have XC : (K0 w.params).In h1 := X.keeps F1.keep
    have TC := T.keeps F1.keep
    refine wpAny_tests_nil ⟨_, _, rfl, fun _ _ e => e, ?_⟩
    rw [if_pos rfl]
    k_steps
    refine Stop.mk ?_
    refine' Spec.use (sp_alt _ _) FC NC XC TC ?kd ?ku ⟨by omega, by omega⟩ ?_
    case kd => walk_at "my_side"
    case ku => walk_at "my_side"
    intro v4 h4 tk4 F4 N4 st4 hv4
    obtain ⟨t4, rfl⟩ := hv4
    refine ⟨_, _, rfl, st4, ?_⟩
    have hcB : (rowB r2)[i]? = some ((c.toNat : Int) + 128) := by unfold rowB; rw [List.getElem?_map, hc']; rfl
    exact ints_take hJ hcB rfl
  case t3 =>
    intro D2 h2 tk2 vb hb F2 N2 lt2
    rw [List.take_of_length_le (by rw [byteArr_size, List.length_map]; omega)] at hb
    k_lt lt2
    clear F1 N1
    dsimp only
    k_steps
    refine Stop.mk ?_
    have lC : (rowC wd).length = wd.length := List.length_map _
    have lw : y3.length = wd.length := by rw [hw.length, List.length_map]
    refine' comp_evalN (J := fun i ys => IntsAre ys ((rowC wd).take i)) F2 N2 (fun Q hq => nameX_L F2 rfl hq rfl rfl (by decide)) (itb_list rfl ⟨_, N2.get (by k_mem), rfl, _, rfl⟩) ?kz .nil ?t1 ?kc ?kl ?kd ?kn ?kx ?t2 ?t3
    case kc => exact rfl
    case kl => decide
    case kd => exact rfl
    case kn => decide
    case kx => exact rfl
    case kz => rw [sizeLine_eq, List.size_toArray]; omega
    case t1 => intro i ys e; rw [e.length, List.length_take]; omega
    case t2 =>
      intro i v ys C h tk m₂ E' hi1 hP hJ hk hn1 hx hC
      obtain ⟨sx, tx, rfl, hxx⟩ := StrsAre.at' hw i v (by simpa using hP)
      obtain ⟨c, hc', rfl⟩ : ∃ c, wd[i]? = some c ∧ one1 c = sx := by
        rw [List.getElem?_map] at hxx
        cases q : wd[i]? with
        | none => rw [q] at hxx; cases hxx
        | some c => rw [q] at hxx; exact ⟨c, rfl, Option.some.inj hxx⟩
      have hcr := b3 _ (List.mem_of_getElem? hc')
      have FC := turn_fr hk hn1 hC
      have NC := News.nil (h := h) (h₀ := h2) (L := C)
      have XC : (K0 w.params).In h2 := X.keeps F2.keep
      have TC := T.keeps F2.keep
      refine wpAny_tests_nil ⟨_, _, rfl, fun _ _ e => e, ?_⟩
      rw [if_pos rfl]
      unfold one1 at hx
      k_steps
      refine Stop.mk ?_
      refine' Spec.use (sp_ctrl c.toNat _) FC NC XC TC ?kd ?ku trivial ?_
      case kd => walk_at "my_side"
      case ku => walk_at "my_side"
      intro v4 h4 tk4 F4 N4 st4 hv4
      obtain ⟨t4, rfl⟩ := hv4
      dsimp only
      k_steps
      all_goals first | exact st4 | rfl | skip
      have hcC : (rowC wd)[i]? = some (c % 32) := by unfold rowC; rw [List.getElem?_map, hc']; rfl
      exact ints_take hJ hcC (by omega)
    case t3 =>
      intro D3 h3 tk3 vc hcc F3 N3 lt3
      rw [List.size_toArray, List.take_of_length_le (by omega)] at hcc
      k_lt lt3
      clear F2 N2
      dsimp only
      k_steps
      refine Stop.mk ?_
      (rename Fr _ _ _ _ => F5); (rename News _ _ _ _ => N5)
      have la : va.length = (enc64 r1).length := ha.length
      have lb : vb.length = (rowB r2).length := hb.length
      have lc : vc.length = (rowC wd).length := hcc.length
      refine' Spec.useF (sp_woven _ D1 D2 D3 Dn va vb vc vn ns) F5 N5 X T ?kd ?ku ?kp ?_
      case kd => walk_at "my_side"
      case ku => walk_at "my_side"
      case kp => exact ⟨⟨_, N5.get (by k_mem), rfl, _, rfl⟩, ⟨_, N5.get (by k_mem), rfl, _, rfl⟩, ⟨_, N5.get (by k_mem), rfl, _, rfl⟩, ⟨_, N5.get (by k_mem), rfl, _, rfl⟩, ⟨_, N5.get (by k_mem), rfl, _, rfl⟩, hn, by omega, by omega, by omega, by omega, zp, ints_pl ha, ints_pl hb, ints_pl hcc⟩
      intro Dwi wv nwi h6 tk6 F6 N6 hwv
      have hW : IntsAre wv (Wire ns r1 r2 wd) := by
        subst hwv
        unfold rest Wire
        rw [la, lb, lc]
        exact ints_app (by rw [la, lb, lc]; exact rest_takes ns _ _ _) ha hb hcc
      clear hwv
      k_with "execs cons" => refine Stop.out ?_
      dsimp only
      k_steps
      refine Stop.mk ?_
      (rename Fr _ _ _ _ => F7); (rename News _ _ _ _ => N7)
      refine cont _ _ _ Dwi wv nwi F7 (News.sub N7 ?_) hW ?_ rfl
      · intro q hq
        rcases List.mem_cons.mp hq with rfl | hq
        · exact .head _
        · exact .tail _ (.tail _ (.tail _ (.tail _ (.tail _ hq))))
      · intro y hy
        rw [if_neg hy, hm0]
end Mine
end
section
open PySem PySem.Calls PySem.W PyProof.Rows
namespace Mine
theorem setKS3b : K0 = K0 ∧ PySem.Challenge.rw_qh0091_01 = PySem.Challenge.rw_qh0091_01 := by
  k_with_none
  k_fill
  k_with "call type:type" => ((with_reducible show wpAny _ _ (call (Value.type "type") [Value.bytes _ _]) _ _ _); refine call_type_of (Tx := "bytes") rfl (by decide +kernel) ?_)
  k_with "my_enterC" => ((case k1 => assumption); (case k6 => k_is); (case k7 => k_is); (case k8 => (dsimp only; omega)); (case k9 => exact rfl); (case kB => exact rfl); (case kN => decide); (case c2 => exact rfl); (case c3 => exact rfl); (case c4 => exact rfl); intro g' L' h' tk' cells' hg' F' N' Y' X' T'; (k_cells Y'); (try dsimp only); (try k_fold))
  k_with "eval ListComp" => refine Stop.out ?_
  k_with "exec Assign cons ListComp" => refine Stop.out ?_
  k_with "call ref" => refine Stop.out ?_
  k_with "call type:bytes" => refine Stop.out ?_
  k_with "my_side" => first | assumption | exact trivial | omega | (dsimp only [Around.deeper, Around.in1]; omega)
  k_with "my_use" => ((case kF => k_asm); (case kN => k_asm); (case kX => k_asm); (case kT => k_asm); (case kd => walk_at "my_side"); (case ku => walk_at "my_side"))
  k_with "my_lit" => (unfold lawEnv; generalize hsc : d0.scope = sc; (conv at hsc => (lhs; whnf)); subst hsc; (conv => (enter [3, 1]; whnf)))
  exact ⟨rfl, rfl⟩
theorem setK3b : True := by
  k_with "call type:list" => refine Stop.out ?_
  trivial
theorem law_3b {w : World} {p : Program} {loose : List Str} {mean : ExcName → Option Value} {mg mb : Str → Option Value} {dp un : Nat} {gd : Option (List Code)} {s : Shared} {g : Heap} {L Dn Dw : Addr} {m : Str → Option Value} {vn y3 : List Value} {nn n3 : Nat} {ns r1 r2 wd : List Int} {Q : Flow → Shared → Prop} {rst : List (Addr × Obj)} {t1 t2 : Tok}
    (X : (K0 w.params).In g) (T : Top p loose mean mg mb g) (F : Fr g L s.heap m) (N : News g L s.heap ((Dn, W.listOf vn.toArray nn) :: (Dw, W.listOf y3.toArray n3) :: rst))
    (hdp : dp + 20 < recursionLimit) (hu : un + 300 < cLine) (hn : IntsAre vn ns) (hw : StrsAre y3 (wd.map one1)) (zn : ns.length ≤ 20) (zp : 0 < ns.length) (b3 : ∀ n ∈ wd, 64 ≤ n ∧ n < 128) (z1 : r1.length ≤ 20) (z2 : r2.length ≤ 20) (z3 : wd.length ≤ 20)
    (m1 : m (Str.ofString "numbers") = some (.ref Dn)) (m2 : m (Str.ofString "word") = some (.ref Dw))
    (m3 : m (Str.ofString "plain") = some (.str ⟨((enc64 r1).map Int.toNat).toArray⟩ t1)) (m4 : m (Str.ofString "safe") = some (.str ⟨(((enc64 r2).map smap).map Int.toNat).toArray⟩ t2))
    (cont : ∀ (h : Heap) (tk : Nat) (m' : Str → Option Value) (Dg Dsh : Addr) (gv sv : List Value) (ng nsh : Nat), Fr g L h m' → News g L h ((Dsh, W.listOf sv.toArray nsh) :: (Dg, W.listOf gv.toArray ng) :: rst) →
      StrsAre gv (wd.map fun c => one1 (64 + c % 32)) → StrsAre sv (Shown ns r1 r2 wd) → (∀ y, y ≠ Str.ofString "great" → y ≠ Str.ofString "shown" → m' y = m y) → m' (Str.ofString "great") = some (.ref Dg) → m' (Str.ofString "shown") = some (.ref Dsh) →
      wpAny (model LAW w) (lawA dp un gd L) (execs (d0.body.drop 12) (lawEnv L)) Q (fun _ _ => False) { s with heap := h, toks := tk }) :
    wpAny (model LAW w) (lawA dp un gd L) (execs (d0.body.drop 10) (lawEnv L)) Q (fun _ _ => False) s := by
  obtain ⟨h0, gn0, dr0, tk0, os0⟩ := s
  dsimp only at F N
  have hms : ∀ q ∈ [(Str.ofString "numbers", Value.ref Dn), (Str.ofString "word", .ref Dw), (Str.ofString "plain", .str ⟨((enc64 r1).map Int.toNat).toArray⟩ t1), (Str.ofString "safe", .str ⟨(((enc64 r2).map smap).map Int.toNat).toArray⟩ t2)], m q.1 = some q.2 :=
    List.forall_mem_cons.mpr ⟨m1, List.forall_mem_cons.mpr ⟨m2, List.forall_mem_cons.mpr ⟨m3, List.forall_mem_cons.mpr ⟨m4, List.forall_mem_nil _⟩⟩⟩⟩
  have F0 := Fr.on F _ hms
  have hm0 := mapOn_eq hms
  clear F
  have e1 := enc64_length r1
  have e2 := enc64_length r2
  have lw : y3.length = wd.length := by rw [hw.length, List.length_map]
  walk_at "my_lit"
  k_steps
  refine Stop.mk ?_
  refine' comp_assignN (J := fun i ys => StrsAre ys ((wd.map fun c => one1 (64 + c % 32)).take i)) F0 N (fun Q hq => nameX_L F0 rfl hq rfl rfl (by decide)) (itb_list rfl ⟨_, N.get (by k_mem), rfl, _, rfl⟩) ?kz .nil ?t1 ?ks ?kc ?kl ?kd ?kn ?kx ?ky ?kp ?t2 ?t3
  case ks => exact rfl
  case kc => exact rfl
  case kl => decide
  case kd => exact rfl
  case kn => decide
  case kx => exact rfl
  case ky => exact rfl
  case kp => exact rfl
  case kz => rw [sizeLine_eq, List.size_toArray]; omega
  case t1 => intro i ys e; rw [e.length, List.length_take]; omega
  case t2 =>
    intro i v ys C h tk m₂ E' hi1 hP hJ hk hn1 hx hC
    obtain ⟨sx, tx, rfl, hxx⟩ := StrsAre.at' hw i v (by simpa using hP)
    obtain ⟨c, hc', rfl⟩ : ∃ c, wd[i]? = some c ∧ one1 c = sx := by
      rw [List.getElem?_map] at hxx
      cases q : wd[i]? with
      | none => rw [q] at hxx; cases hxx
      | some c => rw [q] at hxx; exact ⟨c, rfl, Option.some.inj hxx⟩
    have hcr := b3 _ (List.mem_of_getElem? hc')
    have FC := turn_fr hk hn1 hC
    refine wpAny_tests_nil ⟨_, _, rfl, fun _ _ e => e, ?_⟩
    rw [if_pos rfl]
    unfold one1 at hx
    k_steps
    refine' cx_builtin FC ?b1 ?b2 ?b3 ?b4 ?b5 ?_
    case b1 => exact X.keeps F0.keep
    case b2 => exact T.keeps F0.keep
    case b3 => k_is
    case b4 => exact rfl
    case b5 => decide
    k_steps
    refine' cx_builtin FC ?b1 ?b2 ?b3 ?b4 ?b5 ?_
    case b1 => exact X.keeps F0.keep
    case b2 => exact T.keeps F0.keep
    case b3 => k_is
    case b4 => exact rfl
    case b5 => decide
    k_steps
    all_goals first | exact (fun _ _ e => e) | rfl | skip
    refine strs_take hJ (by rw [List.getElem?_map, hc']; rfl) ?_
    rw [Int.fmod_eq_emod_of_nonneg _ (by decide), Int.toNat_of_nonneg (by omega)]
    rfl
  case t3 =>
    intro Dg h1 tk1 gv hg F1 N1 lt1
    rw [List.size_toArray, List.take_of_length_le (by rw [List.length_map]; omega)] at hg
    k_lt lt1
    clear F0 N
    dsimp only
    k_steps
    refine Stop.mk ?_
    refine list_strK F1 N1 rfl ?_ ?_
    · show (((enc64 r1).map Int.toNat).toArray).size ≤ _
      rw [List.size_toArray, List.length_map]; omega
    intro D1 h2 tk2 va na F2 N2 lt2 ha
    k_lt lt2
    clear F1 N1
    dsimp only
    k_steps
    refine Stop.mk ?_
    rw [show ((⟨((enc64 r1).map Int.toNat).toArray⟩ : Str).cps.toList.map fun c => (⟨#[c]⟩ : Str)) = (enc64 r1).map fun c => (⟨#[c.toNat]⟩ : Str) from by
      show (List.map Int.toNat (enc64 r1)).toArray.toList.map _ = _
      rw [List.toList_toArray, List.map_map]; rfl] at ha
    have hS2 : ∀ c ∈ (enc64 r2).map smap, 43 ≤ c ∧ c ≤ 122 := smap_byte
    refine' comp_evalN (J := fun i ys => StrsAre ys ((((enc64 r2).map smap).map fun c => (⟨#[33, c.toNat]⟩ : Str)).take i)) F2 N2 (fun Q hq => nameX_L F2 rfl hq rfl rfl (by decide)) (itb_str rfl ?ka) ?kz .nil ?t1 ?kc ?kl ?kd ?kn ?kx ?t2 ?t3
    case kc => exact rfl
    case kl => decide
    case kd => exact rfl
    case kn => decide
    case kx => exact rfl
    case ka =>
      rw [Array.all_eq_true_iff_forall_mem]
      intro c hc
      have hc : c ∈ (((enc64 r2).map smap).map Int.toNat).toArray := hc
      rw [List.mem_toArray] at hc
      obtain ⟨x, hx, rfl⟩ := List.mem_map.mp hc
      have := hS2 x hx
      exact decide_eq_true (by omega)
    case kz => rw [sizeLine_eq]; show ((((enc64 r2).map smap).map Int.toNat).toArray).size ≤ _; rw [List.size_toArray, List.length_map, List.length_map]; omega
    case t1 => intro i ys e; rw [e.length, List.length_take]; omega
    case t2 =>
      intro i v ys C h tk m₂ E' hi1 hP hJ hk hn1 hx hC
      obtain ⟨c0, uc, hc, rfl⟩ := hP
      obtain ⟨c, hc', rfl⟩ : ∃ c, ((enc64 r2).map smap)[i]? = some c ∧ c.toNat = c0 := by
        have hc : (((enc64 r2).map smap).map Int.toNat)[i]? = some c0 := by simpa using hc
        rw [List.getElem?_map] at hc
        cases q : ((enc64 r2).map smap)[i]? with
        | none => rw [q] at hc; cases hc
        | some c => rw [q] at hc; exact ⟨c, rfl, Option.some.inj hc⟩
      have FC := turn_fr hk hn1 hC
      refine wpAny_tests_nil ⟨_, _, rfl, fun _ _ e => e, ?_⟩
      rw [if_pos rfl]
      k_steps
      all_goals first | exact (fun _ _ e => e) | rfl | skip
      exact strs_take hJ (by rw [List.getElem?_map, hc']; rfl) (cat1 "!" 33 _)
    case t3 =>
      intro D2 h3 tk3 vb hb F3 N3 lt3
      rw [List.take_of_length_le (by rw [List.length_map, List.length_map]; show _ ≤ ((((enc64 r2).map smap).map Int.toNat).toArray).size; rw [List.size_toArray, List.length_map, List.length_map]; exact Nat.le_refl _)] at hb
      k_lt lt3
      clear F2 N2
      k_steps
      refine Stop.mk ?_
      have lg : gv.length = wd.length := by rw [hg.length, List.length_map]
      refine' comp_evalN (J := fun i ys => StrsAre ys ((wd.map fun c => (⟨#[94, (64 + c % 32).toNat]⟩ : Str)).take i)) F3 N3 (fun Q hq => nameX_L F3 rfl hq rfl rfl (by decide)) (itb_list rfl ⟨_, N3.get (a := Dg) (by k_mem), rfl, _, rfl⟩) ?kz .nil ?t1 ?kc ?kl ?kd ?kn ?kx ?t2 ?t3
      case kc => exact rfl
      case kl => decide
      case kd => exact rfl
      case kn => decide
      case kx => exact rfl
      case kz => rw [sizeLine_eq, List.size_toArray]; omega
      case t1 => intro i ys e; rw [e.length, List.length_take]; omega
      case t2 =>
        intro i v ys C h tk m₂ E' hi1 hP hJ hk hn1 hx hC
        obtain ⟨sx, tx, rfl, hxx⟩ := StrsAre.at' hg i v (by simpa using hP)
        obtain ⟨c, hc', rfl⟩ : ∃ c, wd[i]? = some c ∧ one1 (64 + c % 32) = sx := by
          rw [List.getElem?_map] at hxx
          cases q : wd[i]? with
          | none => rw [q] at hxx; cases hxx
          | some c => rw [q] at hxx; exact ⟨c, rfl, Option.some.inj hxx⟩
        have FC := turn_fr hk hn1 hC
        refine wpAny_tests_nil ⟨_, _, rfl, fun _ _ e => e, ?_⟩
        rw [if_pos rfl]
        unfold one1 at hx
        k_steps
        all_goals first | exact (fun _ _ e => e) | rfl | skip
        exact strs_take hJ (by rw [List.getElem?_map, hc']; rfl) (cat1 "^" 94 _)
      case t3 =>
        intro D3 h4 tk4 vc hcc F4 N4 lt4
        rw [List.size_toArray, List.take_of_length_le (by rw [List.length_map]; omega)] at hcc
        k_lt lt4
        clear F3 N3
        k_steps
        refine Stop.mk ?_
        (rename Fr _ _ _ _ => F5); (rename News _ _ _ _ => N5)
        have la : va.length = (enc64 r1).length := by rw [ha.length, List.length_map]
        have lb : vb.length = (rowB r2).length := by rw [hb.length, List.length_map, List.length_map, rowB_length]
        have lc : vc.length = (rowC wd).length := by rw [hcc.length, List.length_map, rowC_length]
        have lB := rowB_length r2
        have lC := rowC_length wd
        refine' Spec.useF (sp_woven _ D1 D2 D3 Dn va vb vc vn ns) F5 N5 X T ?kd ?ku ?kp ?_
        case kd => walk_at "my_side"
        case ku => walk_at "my_side"
        case kp =>
          refine ⟨⟨_, N5.get (by k_mem), rfl, _, rfl⟩, ⟨_, N5.get (by k_mem), rfl, _, rfl⟩, ⟨_, N5.get (by k_mem), rfl, _, rfl⟩, ⟨_, N5.get (by k_mem), rfl, _, rfl⟩, ⟨_, N5.get (by k_mem), rfl, _, rfl⟩, hn, by omega, by omega, by omega, by omega, zp, strs_pl ha ?_, strs_pl hb ?_, strs_pl hcc ?_⟩
          · intro x hx
            obtain ⟨c, hc, rfl⟩ := List.mem_map.mp hx
            have := enc64_range r1 c hc
            exact small_lay fun n hn => by simp at hn; omega
          · intro x hx
            obtain ⟨c, hc, rfl⟩ := List.mem_map.mp hx
            have := hS2 c hc
            exact small_lay fun n hn => by simp at hn; omega
          · intro x hx
            obtain ⟨c, hc, rfl⟩ := List.mem_map.mp hx
            exact small_lay fun n hn => by simp at hn; omega
        intro Dsh sv nsh h6 tk6 F6 N6 hsv
        have hS : StrsAre sv (Shown ns r1 r2 wd) := by
          subst hsv
          unfold rest Shown
          rw [la, lb, lc]
          exact strs_app (by rw [la, lb, lc]; exact rest_takes ns _ _ _) ha hb hcc
        clear hsv
        k_with "execs cons" => refine Stop.out ?_
        dsimp only
        k_steps
        refine Stop.mk ?_
        (rename Fr _ _ _ _ => F7); (rename News _ _ _ _ => N7)
        refine cont _ _ _ Dg Dsh gv sv gv.length nsh F7 (News.sub N7 ?_) hg hS ?_ rfl rfl
        · intro q hq
          rcases List.mem_cons.mp hq with rfl | hq
          · exact .head _
          · rcases List.mem_cons.mp hq with rfl | hq
            · exact .tail _ (.tail _ (.tail _ (.tail _ (.tail _ (.head _)))))
            · exact .tail _ (.tail _ (.tail _ (.tail _ (.tail _ (.tail _ (.tail _ (.tail _ hq)))))))
        · intro y hy1 hy2
          rw [if_neg hy2, if_neg hy1, hm0]
end Mine
end
section
open PySem PySem.Calls PySem.W PyProof.Rows
namespace Mine
theorem setKS3c : K0 = K0 ∧ PySem.Challenge.rw_qh0091_01 = PySem.Challenge.rw_qh0091_01 := by
  k_with_none
  k_fill
  k_with "call type:type" => ((with_reducible show wpAny _ _ (call (Value.type "type") [Value.bytes _ _]) _ _ _); refine call_type_of (Tx := "bytes") rfl (by decide +kernel) ?_)
  k_with "my_enterC" => ((case k1 => assumption); (case k6 => k_is); (case k7 => k_is); (case k8 => (dsimp only; omega)); (case k9 => exact rfl); (case kB => exact rfl); (case kN => decide); (case c2 => exact rfl); (case c3 => exact rfl); (case c4 => exact rfl); intro g' L' h' tk' cells' hg' F' N' Y' X' T'; (k_cells Y'); (try dsimp only); (try k_fold))
  k_with "eval ListComp" => refine Stop.out ?_
  k_with "exec Assign cons ListComp" => refine Stop.out ?_
  k_with "call ref" => refine Stop.out ?_
  k_with "call type:bytes" => refine Stop.out ?_
  k_with "my_side" => first | assumption | exact trivial | omega | (dsimp only [Around.deeper, Around.in1]; omega)
  k_with "my_use" => ((case kF => k_asm); (case kN => k_asm); (case kX => k_asm); (case kT => k_asm); (case kd => walk_at "my_side"); (case ku => walk_at "my_side"))
  k_with "my_lit" => (unfold lawEnv; generalize hsc : d0.scope = sc; (conv at hsc => (lhs; whnf)); subst hsc; (conv => (enter [3, 1]; whnf)))
  exact ⟨rfl, rfl⟩
theorem sp_unctrl {w : World} (b : Int) (t : Tok) : Spec PySem.Challenge.rw_qh0091_01.row.toRowW.prog w (K0 w.params) 165 ⟨[.int b t], []⟩ 3 (fun _ => (33 ≤ b ∧ b < 127) ∨ (161 ≤ b ∧ b < 255) ∨ (0 ≤ b ∧ b < 32)) (fun _ _ v => ∃ t, v = .str (unc b) t) := by
  intro p loose mean mg mb dp un fr gd s R G hdp hu hpre hret
  rcases hpre with h | h | h
  · exact sp_unctrl_a b t p loose mean mg mb dp un fr gd s R G hdp hu h hret
  · exact sp_unctrl_b b t p loose mean mg mb dp un fr gd s R G hdp hu h hret
  · exact sp_unctrl_c b t p loose mean mg mb dp un fr gd s R G hdp hu h hret
theorem law_3c {w : World} {p : Program} {loose : List Str} {mean : ExcName → Option Value} {mg mb : Str → Option Value} {dp un : Nat} {gd : Option (List Code)} {s : Shared} {g : Heap} {L Dwi Dsh : Addr} {m : Str → Option Value} {wv sv : List Value} {nwi nsh : Nat} {W1 : List Int} {Q : Flow → Shared → Prop} {rst : List (Addr × Obj)}
    (X : (K0 w.params).In g) (T : Top p loose mean mg mb g) (F : Fr g L s.heap m) (N : News g L s.heap ((Dwi, W.listOf wv.toArray nwi) :: (Dsh, W.listOf sv.toArray nsh) :: rst))
    (hdp : dp + 20 < recursionLimit) (hu : un + 300 < cLine) (hw : IntsAre wv W1) (hs : StrsAre sv (W1.map unc)) (hc : ∀ x ∈ W1, (33 ≤ x ∧ x < 127) ∨ (161 ≤ x ∧ x < 255) ∨ (0 ≤ x ∧ x < 32)) (zw : W1.length ≤ 1000) (hl : ∀ x ∈ W1.map unc, PyData.canLay0 (.str x) = true)
    (m1 : m (Str.ofString "wire") = some (.ref Dwi)) (m2 : m (Str.ofString "shown") = some (.ref Dsh))
    (cont : ∀ (h : Heap) (tk : Nat), Fr g L h m → News g L h ((Dwi, W.listOf wv.toArray nwi) :: (Dsh, W.listOf sv.toArray nsh) :: rst) →
      wpAny (model LAW w) (lawA dp un gd L) (execs (d0.body.drop 13) (lawEnv L)) Q (fun _ _ => False) { s with heap := h, toks := tk }) :
    wpAny (model LAW w) (lawA dp un gd L) (execs (d0.body.drop 12) (lawEnv L)) Q (fun _ _ => False) s := by
  obtain ⟨h0, gn0, dr0, tk0, os0⟩ := s
  dsimp only at F N
  have hms : ∀ q ∈ [(Str.ofString "wire", Value.ref Dwi), (Str.ofString "shown", .ref Dsh)], m q.1 = some q.2 :=
    List.forall_mem_cons.mpr ⟨m1, List.forall_mem_cons.mpr ⟨m2, List.forall_mem_nil _⟩⟩
  have F0 := Fr.on F _ hms
  have hm0 := mapOn_eq hms
  clear F
  have lw : wv.length = W1.length := hw.length
  walk_at "my_lit"
  k_steps
  refine Stop.mk ?_
  refine' comp_evalN (J := fun i ys => StrsAre ys ((W1.map unc).take i)) F0 N (fun Q hq => nameX_L F0 rfl hq rfl rfl (by decide)) (itb_list rfl ⟨_, N.get (by k_mem), rfl, _, rfl⟩) ?kz .nil ?t1 ?kc ?kl ?kd ?kn ?kx ?t2 ?t3
  case kc => exact rfl
  case kl => decide
  case kd => exact rfl
  case kn => decide
  case kx => exact rfl
  case kz => rw [sizeLine_eq, List.size_toArray]; omega
  case t1 => intro i ys e; rw [e.length, List.length_take]; omega
  case t2 =>
    intro i v ys C h tk m₂ E' hi1 hP hJ hk hn1 hx hC
    obtain ⟨x, tx, rfl, hxx⟩ := IntsAre.at hw i v (by simpa using hP)
    have hcx := hc x (List.mem_of_getElem? hxx)
    have FC := turn_fr hk hn1 hC
    have NC := News.nil (h := h) (h₀ := h0) (L := C)
    have XC : (K0 w.params).In h0 := X.keeps F0.keep
    have TC := T.keeps F0.keep
    refine wpAny_tests_nil ⟨_, _, rfl, fun _ _ e => e, ?_⟩
    rw [if_pos rfl]
    k_steps
    refine Stop.mk ?_
    refine' Spec.use (sp_unctrl _ _) FC NC XC TC ?kd ?ku hcx ?_
    case kd => walk_at "my_side"
    case ku => walk_at "my_side"
    intro v4 h4 tk4 F4 N4 st4 hv4
    obtain ⟨t4, rfl⟩ := hv4
    refine ⟨_, _, rfl, st4, ?_⟩
    exact strs_take hJ (by rw [List.getElem?_map, hxx]; rfl) rfl
  case t3 =>
    intro D1 h1 tk1 zs hz F1 N1 lt1
    rw [List.size_toArray, List.take_of_length_le (by rw [List.length_map]; omega)] at hz
    k_lt lt1
    clear F0 N
    k_with "compareOp NotEq ref ref" => refine Stop.out ?_
    k_with "execs cons" => refine Stop.out ?_
    dsimp only
    k_steps
    refine Stop.mk ?_
    refine ne_strs ⟨_, N1.get (by k_mem), rfl, _, rfl⟩ ⟨_, N1.get (by k_mem), rfl, _, rfl⟩ hz hs hl (show un + 3 + 64 < cLine by omega) ?_
    k_steps
    refine Stop.mk ?_
    (rename Fr _ _ _ _ => F7); (rename News _ _ _ _ => N7)
    exact cont _ _ (hm0 ▸ F7) (News.sub N7 fun q hq => .tail _ hq)
end Mine
end
section
open PySem PySem.Calls PySem.W PyProof.Rows
namespace Mine
theorem setK0dS3d : K0 = K0 ∧ PySem.Challenge.rw_qh0091_01 = PySem.Challenge.rw_qh0091_01 := by
  k_with_none
  k_fill
  k_with "call type:type" => ((with_reducible show wpAny _ _ (call (Value.type "type") [Value.bytes _ _]) _ _ _); refine call_type_of (Tx := "bytes") rfl (by decide +kernel) ?_)
  k_with "my_enterC" => ((case k1 => assumption); (case k6 => k_is); (case k7 => k_is); (case k8 => (dsimp only; omega)); (case k9 => exact rfl); (case kB => exact rfl); (case kN => decide); (case c2 => exact rfl); (case c3 => exact rfl); (case c4 => exact rfl); intro g' L' h' tk' cells' hg' F' N' Y' X' T'; (k_cells Y'); (try dsimp only); (try k_fold))
  k_with "eval ListComp" => refine Stop.out ?_
  k_with "exec Assign cons ListComp" => refine Stop.out ?_
  k_with "call ref" => refine Stop.out ?_
  k_with "call type:bytes" => refine Stop.out ?_
  k_with "my_side" => first | assumption | exact trivial | omega | (dsimp only [Around.deeper, Around.in1]; omega)
  k_with "my_use" => ((case kF => k_asm); (case kN => k_asm); (case kX => k_asm); (case kT => k_asm); (case kd => walk_at "my_side"); (case ku => walk_at "my_side"))
  k_with "my_lit" => (unfold lawEnv; generalize hsc : d0.scope = sc; (conv at hsc => (lhs; whnf)); subst hsc; (conv => (enter [3, 1]; whnf)))
  exact ⟨rfl, rfl⟩
theorem ne_same2 {prog : Program} {w : World} {A : Around} {E : Value → Shared → Prop} {s : Shared} {t u : Tok} {Q : Value → Shared → Prop} {b : Array UInt8} (h : Q (.bool false) s) : wpAny (model prog w) A (compareOp .NotEq (.bytes b t) (.bytes b u)) Q E s := ne_bytes (by
  have : (b.toList != b.toList) = false := by simp
  rw [this]; exact h)
theorem fil_yes {l : List Int} {i : Nat} {x : Int} {q : Int → Bool} (h : l[i]? = some x) (hq : q x = true) : (l.take (i + 1)).filter q = (l.take i).filter q ++ [x] := by
  rw [List.take_add_one, h, List.filter_append]
  exact congrArg (fun z => _ ++ z) (List.filter_cons_of_pos hq)
theorem fil_no {l : List Int} {i : Nat} {x : Int} {q : Int → Bool} (h : l[i]? = some x) (hq : q x = false) : (l.take (i + 1)).filter q = (l.take i).filter q := by
  rw [List.take_add_one, h, List.filter_append]
  have : ([x] : List Int).filter q = [] := List.filter_cons_of_neg (by rw [hq]; decide)
  exact (congrArg (fun z => _ ++ z) this).trans (List.append_nil _)
theorem wire_ctrl' (ns r1 r2 wd : List Int) : ((Wire ns r1 r2 wd).filter fun c => decide (0 ≤ c ∧ c < 32)).map unc = wd.map fun c => (⟨#[94, (64 + c % 32).toNat]⟩ : Str) := by
  have h := wire_ctrl (wire_takes ns r1 r2 wd)
  unfold Wire
  rw [h]
  unfold rowC
  rw [List.map_map]
  refine List.map_congr_left fun c _ => ?_
  show unc (c % 32) = _
  rw [unc_1 (by omega), Int.add_comm]
theorem setK3d : True := by
  k_with "compareOp NotEq bytes bytes" => (with_reducible refine ne_same2 ?_)
  k_with "compareOp NotEq ref ref" => refine Stop.out ?_
  trivial
theorem law_3d {w : World} {p : Program} {loose : List Str} {mean : ExcName → Option Value} {mg mb : Str → Option Value} {dp un : Nat} {gd : Option (List Code)} {s : Shared} {g : Heap} {L Dwi Df Ds Dg : Addr} {m : Str → Option Value} {wv y1 y2 gv : List Value} {nwi n1 n2 ng : Nat} {ns r1 r2 wd : List Int} {Q : Flow → Shared → Prop} {rst : List (Addr × Obj)}
    (X : (K0 w.params).In g) (T : Top p loose mean mg mb g) (F : Fr g L s.heap m) (N : News g L s.heap ((Dwi, W.listOf wv.toArray nwi) :: (Df, W.listOf y1.toArray n1) :: (Ds, W.listOf y2.toArray n2) :: (Dg, W.listOf gv.toArray ng) :: rst))
    (hdp : dp + 20 < recursionLimit) (hu : un + 300 < cLine) (hw : IntsAre wv (Wire ns r1 r2 wd)) (h1 : IntsAre y1 r1) (h2 : IntsAre y2 r2) (hg : StrsAre gv (wd.map fun c => one1 (64 + c % 32)))
    (b1 : ∀ v ∈ r1, 0 ≤ v ∧ v < 256) (b2 : ∀ v ∈ r2, 0 ≤ v ∧ v < 256) (z1 : r1.length ≤ 20) (z2 : r2.length ≤ 20) (z3 : wd.length ≤ 20) (hne : wd ≠ [])
    (m1 : m (Str.ofString "wire") = some (.ref Dwi)) (m2 : m (Str.ofString "first") = some (.ref Df)) (m3 : m (Str.ofString "second") = some (.ref Ds)) (m4 : m (Str.ofString "great") = some (.ref Dg))
    (cont : ∀ (h : Heap) (tk : Nat), Fr g L h m → News g L h rst → wpAny (model LAW w) (lawA dp un gd L) (execs (d0.body.drop 18) (lawEnv L)) Q (fun _ _ => False) { s with heap := h, toks := tk }) :
    wpAny (model LAW w) (lawA dp un gd L) (execs (d0.body.drop 13) (lawEnv L)) Q (fun _ _ => False) s := by
  obtain ⟨h0, gn0, dr0, tk0, os0⟩ := s
  dsimp only at F N
  have hms : ∀ q ∈ [(Str.ofString "wire", Value.ref Dwi), (Str.ofString "first", .ref Df), (Str.ofString "second", .ref Ds), (Str.ofString "great", .ref Dg)], m q.1 = some q.2 :=
    List.forall_mem_cons.mpr ⟨m1, List.forall_mem_cons.mpr ⟨m2, List.forall_mem_cons.mpr ⟨m3, List.forall_mem_cons.mpr ⟨m4, List.forall_mem_nil _⟩⟩⟩⟩
  have F0 := Fr.on F _ hms
  have hm0 := mapOn_eq hms
  clear F
  have e1 := enc64_length r1
  have e2 := enc64_length r2
  have lW := wire_length ns r1 r2 wd
  have cW := wire_cases ns r1 r2 wd
  have rW : ∀ v ∈ Wire ns r1 r2 wd, 0 ≤ v ∧ v < 256 := fun v hv => by have := cW v hv; omega
  have lw : wv.length = (Wire ns r1 r2 wd).length := hw.length
  walk_at "my_lit"
  k_steps
  refine Stop.mk ?_
  refine bytes_K F0 N (by k_mem) hw rW (by omega) rfl ?_
  intro t1 h3 tk1 F1 N1 st1
  clear F0 N
  dsimp only
  k_steps
  refine Stop.mk ?_
  have i1 : KBw.bInts (byteArr (Wire ns r1 r2 wd)) = Wire ns r1 r2 wd := bInts_arr rW
  have d1 : a2b false (Wire ns r1 r2 wd) = some r1 := wire_first (wire_takes ns r1 r2 wd) b1
  refine' SpecR.useE (sp_b64decode _ _) F1 N1 X T rfl rfl (by omega) (by omega) ?hp ?ok ?er
  case hp => rw [byteArr_size]; omega
  case er => intro e t vs h' tk' hE; rw [i1, d1] at hE; cases hE
  rintro v h4 tk2 F2 N2 st2 ⟨out, t2, ho, rfl⟩
  rw [i1, d1] at ho
  obtain rfl := Option.some.inj ho
  clear F1 N1
  dsimp only
  k_steps
  refine Stop.mk ?_
  refine bytes_K F2 N2 (by k_mem) h1 b1 (by omega) rfl ?_
  intro t3 h5 tk3 F3 N3 st3
  clear F2 N2
  dsimp only
  k_steps
  refine Stop.mk ?_
  refine' comp_evalN (J := fun i ys => IntsAre ys (((Wire ns r1 r2 wd).map fun c => (c + 128) % 256).take i)) F3 N3 (fun Q hq => nameX_L F3 rfl hq rfl rfl (by decide)) (itb_list rfl ⟨_, N3.get (a := Dwi) (by k_mem), rfl, _, rfl⟩) ?kz1 .nil ?t11 ?kc1 ?kl1 ?kd1 ?kn1 ?kx1 ?t21 ?t31
  case kc1 => exact rfl
  case kl1 => decide
  case kd1 => exact rfl
  case kn1 => decide
  case kx1 => exact rfl
  case kz1 => rw [sizeLine_eq, List.size_toArray]; omega
  case t11 => intro i ys e; rw [e.length, List.length_take]; omega
  case t21 =>
    intro i v ys C h tk m₂ E' hi1 hP hJ hk hn1 hx hC
    obtain ⟨x, tx, rfl, hxx⟩ := IntsAre.at hw i v (by simpa using hP)
    have hcx := cW x (List.mem_of_getElem? hxx)
    have FC := turn_fr hk hn1 hC
    refine wpAny_tests_nil ⟨_, _, rfl, fun _ _ e => e, ?_⟩
    rw [if_pos rfl]
    k_steps
    all_goals first | exact (fun _ _ e => e) | rfl | skip
    refine ints_take hJ (by rw [List.getElem?_map, hxx]; rfl) ?_
    exact Int.fmod_eq_emod_of_nonneg _ (by decide)
  case t31 =>
  intro D1 h6 tk6 v1 hv1 F4 N4 lt4
  rw [List.size_toArray, List.take_of_length_le (by rw [List.length_map]; omega)] at hv1
  k_lt lt4
  clear F3 N3
  k_steps
  refine Stop.mk ?_
  have r2W : ∀ v ∈ (Wire ns r1 r2 wd).map (fun c => (c + 128) % 256), 0 ≤ v ∧ v < 256 := fun v hv => by
    obtain ⟨c, _, rfl⟩ := List.mem_map.mp hv
    omega
  refine bytes_K F4 N4 (by k_mem) hv1 r2W (by rw [List.length_map]; omega) rfl ?_
  intro t7 h7 tk7 F5 N5 st7
  clear F4 N4
  dsimp only
  k_steps
  refine Stop.mk ?_
  have i2 := bInts_arr r2W
  have d2 := wire_second (wire_takes ns r1 r2 wd) (l2 := r2) b2
  refine' SpecR.useE (sp_usdecode _ _) F5 N5 X T rfl rfl (by omega) (by omega) ?hp2 ?ok2 ?er2
  case hp2 => rw [byteArr_size, List.length_map]; omega
  case er2 => intro e t vs h' tk' hE; rw [i2] at hE; have := d2.symm.trans hE; cases this
  rintro v h8 tk8 F6 N6 st8 ⟨out, t8, ho, rfl⟩
  rw [i2] at ho
  obtain rfl := Option.some.inj (d2.symm.trans ho)
  clear F5 N5
  dsimp only
  k_steps
  refine Stop.mk ?_
  refine bytes_K F6 N6 (by k_mem) h2 b2 (by omega) rfl ?_
  intro t9 h9 tk9 F7 N7 st9
  clear F6 N6
  dsimp only
  k_steps
  refine Stop.mk ?_
  refine' comp_evalN (J := fun i ys => StrsAre ys ((((Wire ns r1 r2 wd).take i).filter fun c => decide (0 ≤ c ∧ c < 32)).map unc)) F7 N7 (fun Q hq => nameX_L F7 rfl hq rfl rfl (by decide)) (itb_list rfl ⟨_, N7.get (a := Dwi) (by k_mem), rfl, _, rfl⟩) ?kz2 .nil ?t12 ?kc2 ?kl2 ?kd2 ?kn2 ?kx2 ?t22 ?t32
  case kc2 => exact rfl
  case kl2 => decide
  case kd2 => exact rfl
  case kn2 => decide
  case kx2 => exact rfl
  case kz2 => rw [sizeLine_eq, List.size_toArray]; omega
  case t12 =>
    intro i ys e
    rw [e.length, List.length_map]
    exact Nat.le_trans (List.length_filter_le _ _) (by rw [List.length_take]; omega)
  case t22 =>
    intro i v ys C h tk m₂ E' hi1 hP hJ hk hn1 hx hC
    obtain ⟨x, tx, rfl, hxx⟩ := IntsAre.at hw i v (by simpa using hP)
    have hcx := cW x (List.mem_of_getElem? hxx)
    have FC := turn_fr hk hn1 hC
    have NC := News.nil (h := h) (h₀ := h9) (L := C)
    have XC : (K0 w.params).In h9 := X.keeps F7.keep
    have TC := T.keeps F7.keep
    refine wpAny_tests_one ?_
    walk1
    k_steps
    refine Stop.mk ?_
    refine' Spec.use (sp_isctrl _ _) FC NC XC TC ?sd2u1 ?su2u1 trivial ?_
    case sd2u1 => walk_at "my_side"
    case su2u1 => walk_at "my_side"
    intro v4 h4 tk4 F4 N4 st4 hv4
    subst hv4
    dsimp only
    walk1
    refine ⟨_, _, rfl, st4, ?_⟩
    by_cases hq : 0 ≤ x ∧ x < 32
    · rw [decide_eq_true hq, if_pos rfl]
      k_steps
      refine cx_local F4 hx ?_
      k_steps
      refine Stop.mk ?_
      refine' Spec.use (sp_unctrl _ _) ?sF2u2 ?sN2u2 XC TC ?sd2u2 ?su2u2 hcx ?_
      case sF2u2 => exact F4
      case sN2u2 => exact N4
      case sd2u2 => walk_at "my_side"
      case su2u2 => walk_at "my_side"
      intro v5 h5 tk5 F5 N5 st5 hv5
      obtain ⟨t5, rfl⟩ := hv5
      refine ⟨_, _, rfl, st5, ?_⟩
      show StrsAre _ _
      rw [fil_yes hxx (decide_eq_true hq), List.map_append]
      exact StrsAre.append' hJ (.cons _ _ .nil)
    · rw [decide_eq_false hq, if_neg (by decide)]
      show StrsAre _ _
      rw [fil_no hxx (decide_eq_false hq)]
      exact hJ
  case t32 =>
  intro D2 h10 tk10 v2 hv2 F8 N8 lt8
  rw [List.size_toArray, List.take_of_length_le (by omega), wire_ctrl' ns r1 r2 wd] at hv2
  k_lt lt8
  clear F7 N7
  k_steps
  refine Stop.mk ?_
  have lg : gv.length = wd.length := by rw [hg.length, List.length_map]
  refine' comp_evalN (J := fun i ys => StrsAre ys ((wd.map fun c => (⟨#[94, (64 + c % 32).toNat]⟩ : Str)).take i)) F8 N8 (fun Q hq => nameX_L F8 rfl hq rfl rfl (by decide)) (itb_list rfl ⟨_, N8.get (a := Dg) (by k_mem), rfl, _, rfl⟩) ?kz3 .nil ?t13 ?kc3 ?kl3 ?kd3 ?kn3 ?kx3 ?t23 ?t33
  case kc3 => exact rfl
  case kl3 => decide
  case kd3 => exact rfl
  case kn3 => decide
  case kx3 => exact rfl
  case kz3 => rw [sizeLine_eq, List.size_toArray]; omega
  case t13 => intro i ys e; rw [e.length, List.length_take]; omega
  case t23 =>
    intro i v ys C h tk m₂ E' hi1 hP hJ hk hn1 hx hC
    obtain ⟨sx, tx, rfl, hxx⟩ := StrsAre.at' hg i v (by simpa using hP)
    obtain ⟨c, hc', rfl⟩ : ∃ c, wd[i]? = some c ∧ one1 (64 + c % 32) = sx := by
      rw [List.getElem?_map] at hxx
      cases q : wd[i]? with
      | none => rw [q] at hxx; cases hxx
      | some c => rw [q] at hxx; exact ⟨c, rfl, Option.some.inj hxx⟩
    have FC := turn_fr hk hn1 hC
    refine wpAny_tests_nil ⟨_, _, rfl, fun _ _ e => e, ?_⟩
    rw [if_pos rfl]
    unfold one1 at hx
    k_steps
    all_goals first | exact (fun _ _ e => e) | rfl | skip
    exact strs_take hJ (by rw [List.getElem?_map, hc']; rfl) (cat1 "^" 94 _)
  case t33 =>
  intro D3 h11 tk11 v3 hv3 F9 N9 lt9
  rw [List.size_toArray, List.take_of_length_le (by rw [List.length_map]; omega)] at hv3
  k_lt lt9
  clear F8 N8
  k_steps
  refine Stop.mk ?_
  refine ne_strs ⟨_, N9.get (a := D2) (by k_mem), rfl, _, rfl⟩ ⟨_, N9.get (a := D3) (by k_mem), rfl, _, rfl⟩ hv2 hv3 ?_ (show un + 3 + 64 < cLine by omega) ?_
  · intro x hx
    obtain ⟨c, hc, rfl⟩ := List.mem_map.mp hx
    exact small_lay fun n hn => by simp at hn; omega
  k_steps
  refine Stop.mk ?_
  refine' comp_evalN (J := fun i ys => IntsAre ys (((Wire ns r1 r2 wd).take i).filter fun c => decide (33 ≤ c ∧ c ≤ 126))) F9 N9 (fun Q hq => nameX_L F9 rfl hq rfl rfl (by decide)) (itb_list rfl ⟨_, N9.get (a := Dwi) (by k_mem), rfl, _, rfl⟩) ?kz4 .nil ?t14 ?kc4 ?kl4 ?kd4 ?kn4 ?kx4 ?t24 ?t34
  case kc4 => exact rfl
  case kl4 => decide
  case kd4 => exact rfl
  case kn4 => decide
  case kx4 => exact rfl
  case kz4 => rw [sizeLine_eq, List.size_toArray]; omega
  case t14 =>
    intro i ys e
    rw [e.length]
    exact Nat.le_trans (List.length_filter_le _ _) (by rw [List.length_take]; omega)
  case t24 =>
    intro i v ys C h tk m₂ E' hi1 hP hJ hk hn1 hx hC
    obtain ⟨x, tx, rfl, hxx⟩ := IntsAre.at hw i v (by simpa using hP)
    have FC := turn_fr hk hn1 hC
    have NC := News.nil (h := h) (h₀ := h11) (L := C)
    have XC : (K0 w.params).In h11 := X.keeps F9.keep
    have TC := T.keeps F9.keep
    refine wpAny_tests_one ?_
    walk1
    k_steps
    refine Stop.mk ?_
    refine' Spec.use (sp_isgraph _ _) FC NC XC TC ?sd4u3 ?su4u3 trivial ?_
    case sd4u3 => walk_at "my_side"
    case su4u3 => walk_at "my_side"
    intro v4 h4 tk4 F4 N4 st4 hv4
    subst hv4
    dsimp only
    walk1
    refine ⟨_, _, rfl, st4, ?_⟩
    by_cases hq : 33 ≤ x ∧ x ≤ 126
    · rw [decide_eq_true hq, if_pos rfl]
      refine cx_local F4 hx ?_
      refine ⟨_, _, rfl, fun _ _ e => e, ?_⟩
      show IntsAre _ _
      rw [fil_yes hxx (decide_eq_true hq)]
      exact IntsAre.append hJ (.cons _ _ .nil)
    · rw [decide_eq_false hq, if_neg (by decide)]
      show IntsAre _ _
      rw [fil_no hxx (decide_eq_false hq)]
      exact hJ
  case t34 =>
  intro D4 h12 tk12 v4 hv4 F10 N10 lt10
  rw [List.size_toArray, List.take_of_length_le (by omega)] at hv4
  replace hv4 : IntsAre v4 (enc64 r1) := by
    have q := wire_graph (wire_takes ns r1 r2 wd)
    exact q ▸ hv4
  k_lt lt10
  clear F9 N9
  k_steps
  refine Stop.mk ?_
  refine bytes_K F10 N10 (by k_mem) hv4 (enc64_byte r1) (by omega) rfl ?_
  intro t13 h13 tk13 F11 N11 st13
  clear F10 N10
  dsimp only
  k_steps
  refine Stop.mk ?_
  have i3 := bInts_arr (enc64_byte r1)
  refine' SpecR.useE (sp_b64decodeV _ _) F11 N11 X T rfl rfl (by omega) (by omega) ?hp3 ?ok3 ?er3
  case hp3 => rw [byteArr_size]; omega
  case er3 => intro e t vs h' tk' hE; rw [i3, a2b_enc64 true r1 b1] at hE; cases hE
  rintro v h14 tk14 F12 N12 st14 ⟨out, t14, ho, rfl⟩
  rw [i3, a2b_enc64 true r1 b1] at ho
  obtain rfl := Option.some.inj ho
  clear F11 N11
  dsimp only
  k_steps
  refine Stop.mk ?_
  refine bytes_K F12 N12 (by k_mem) h1 b1 (by omega) rfl ?_
  intro t15 h15 tk15 F13 N13 st15
  clear F12 N12
  dsimp only
  k_steps
  refine wpAny_Try_except ?_
  k_steps
  refine Stop.mk ?_
  refine bytes_K F13 N13 (by k_mem) hw rW (by omega) rfl ?_
  intro t16 h16 tk16 F14 N14 st16
  clear F13 N13
  dsimp only
  k_steps
  refine Stop.mk ?_
  have d4 : a2b true (Wire ns r1 r2 wd) = none := wire_strict (wire_takes ns r1 r2 wd) hne
  refine' SpecR.useE (sp_b64decodeV _ _) F14 N14 X T rfl rfl (by omega) (by omega) ?hp4 ?ok4 ?er4
  case hp4 => rw [byteArr_size]; omega
  case ok4 =>
    rintro v h17 tk17 F15 N15 st17 ⟨out, t17, ho, rfl⟩
    rw [i1, d4] at ho
    cases ho
  case er4 =>
    intro e t vs h17 tk17 hE R U
    refine catchE R U F14 N14 X rfl rfl (c := .type "ValueError") (by kernel_rfl) ?_ ?_
    · intro h s Q E hh Fh hq
      subst hh
      exact nameX_B Fh X (topRead_of T) (by k_is) (by boot_fast) (by decide) hq rfl rfl
    · intro h18 F16 N16
      k_with "execs cons" => refine Stop.out ?_
      refine wpAny_execs_cons ?_
      k_steps
      refine Stop.mk ?_
      dsimp only
      have F17 : Fr g L h18 m := hm0 ▸ F16
      have N17 := News.sub (l' := rst) N16 fun q hq => .tail _ (.tail _ (.tail _ (.tail _ (.tail _ (.tail _ (.tail _ (.tail _ hq)))))))
      with_reducible have c := cont h18 tk17 F17 N17
      clear cont
      unfold lawEnv at c
      generalize hsc : d0.scope = sc at c
      conv at hsc => (lhs; whnf)
      subst hsc
      conv at c => (enter [3, 1]; whnf)
      with_reducible exact c
end Mine
end
section
open PySem PySem.Calls PySem.W PyProof.Rows
namespace Mine
theorem setKS4 : K0 = K0 ∧ PySem.Challenge.rw_qh0091_01 = PySem.Challenge.rw_qh0091_01 := by
  k_with_none
  k_fill
  k_with "call type:type" => ((with_reducible show wpAny _ _ (call (Value.type "type") [Value.bytes _ _]) _ _ _); refine call_type_of (Tx := "bytes") rfl (by decide +kernel) ?_)
  k_with "my_enterC" => ((case k1 => assumption); (case k6 => k_is); (case k7 => k_is); (case k8 => (dsimp only; omega)); (case k9 => exact rfl); (case kB => exact rfl); (case kN => decide); (case c2 => exact rfl); (case c3 => exact rfl); (case c4 => exact rfl); intro g' L' h' tk' cells' hg' F' N' Y' X' T'; (k_cells Y'); (try dsimp only); (try k_fold))
  k_with "eval ListComp" => refine Stop.out ?_
  k_with "exec Assign cons ListComp" => refine Stop.out ?_
  k_with "call ref" => refine Stop.out ?_
  k_with "call type:bytes" => refine Stop.out ?_
  k_with "my_side" => first | assumption | exact trivial | omega | (dsimp only [Around.deeper, Around.in1]; omega)
  k_with "my_use" => ((case kF => k_asm); (case kN => k_asm); (case kX => k_asm); (case kT => k_asm); (case kd => walk_at "my_side"); (case ku => walk_at "my_side"))
  k_with "my_lit" => (unfold lawEnv; generalize hsc : d0.scope = sc; (conv at hsc => (lhs; whnf)); subst hsc; (conv => (enter [3, 1]; whnf)))
  exact ⟨rfl, rfl⟩
/-- the table of places, i signs in -/
noncomputable def DD (as : List Str) : Nat → List (PyData × PyData)
  | 0 => [(.str (Str.ofString "-"), .int 62), (.str (Str.ofString "_"), .int 63)]
  | i + 1 => PyProof.V.putD (.str (as.getD i ⟨#[]⟩)) (.int i) (DD as i)
theorem DD_length (as : List Str) : ∀ i, (DD as i).length ≤ i + 2
  | 0 => Nat.le_refl _
  | i + 1 => Nat.le_trans (PyProof.V.putD_length_le _ _ _) (Nat.succ_le_succ (DD_length as i))
theorem DD_succ {as : List Str} {i : Nat} {a : Str} (h : as[i]? = some a) : DD as (i + 1) = PyProof.V.putD (.str a) (.int i) (DD as i) := by
  show PyProof.V.putD (.str (as.getD i ⟨#[]⟩)) _ _ = _
  rw [List.getD_eq_getElem?_getD, h]; rfl
noncomputable def sgs : List Str := signs (Str.ofString "ABCDEFGHIJKLMNOPQRSTUVWXYZabcdefghijklmnopqrstuvwxyz0123456789" ++ Str.ofString "+/")
theorem sgs_length : sgs.length = 64 := by decide +kernel
theorem join_pos {prog : Program} {w : World} {A : Around} {E : Value → Shared → Prop} {s : Shared} {x : Str} {t : Tok} {Q : Value → Shared → Prop} {D : Addr} {items : Array Value} {ys : List Str} (hl : s.heap.IsList D items) (hi : StrsAre items.toList ys) (hok : (ys.map (·.length)).sum + ys.length * x.length ≤ 16777216)
    (h : ∀ t' k, s.toks ≤ k → Q (.str (Txt.join x ys) t') { s with toks := k }) : wpAny (model prog w) A (call (.builtin "str.join") [.str x t, .ref D]) Q E s := by
  obtain ⟨l, hv, ht⟩ := strsAre_values hi
  have e : items = (strValues l).toArray := by rw [← hv]
  subst e ht
  have hj := joinOk_of hok
  have hj2 := hj
  unfold JoinOk at hj2
  rw [Bool.not_eq_true'] at hj2
  have hf := joinFit_length hj2
  refine call_meets PySem.F.slot_str_join (typeIs_str _ _ _) PySem.F.entry_str_join (PySem.F.args_str_join_2 _ _) (meets_str_join_list x t D l hj2) ⟨hl, ?_⟩
  match l, h, hf with
  | [], h, hf => exact ⟨hf, h _ _ (Nat.le_succ _)⟩
  | [p], h, _ => exact h p.2 s.toks (Nat.le_refl _)
  | _ :: _ :: _, h, hf => exact ⟨hf, h _ _ (Nat.le_succ _)⟩
theorem join_all (S : List (List Nat)) : Txt.join (Str.ofString "") (S.map fun c => (⟨c.toArray⟩ : Str)) = ⟨S.flatten.toArray⟩ := by
  have e : Str.ofString "" = ⟨#[]⟩ := by decide +kernel
  rw [e]
  refine (glued_nil _).trans ?_
  unfold runs
  rw [List.map_map]
  exact congrArg (fun z : List (List Nat) => (⟨z.flatten.toArray⟩ : Str)) ((List.map_congr_left fun c _ => rfl).trans (List.map_id _))
/-- the table tells the figures -/
noncomputable def lkOk (c : Nat) : Bool := match PySem.Spec.lookup (.str ⟨#[c]⟩) (DD sgs 64) with
  | some (.int i) => decide (i = b64v (dmap c)) && decide (b64v (dmap c) < 64)
  | none => decide (64 ≤ b64v (dmap c))
  | _ => false
theorem lk_all : ∀ n : Fin 128, lkOk n = true := by decide +kernel
theorem lk_yes {c : Nat} (h : c < 128) (hv : b64v (dmap c) < 64) : PySem.Spec.lookup (.str ⟨#[c]⟩) (DD sgs 64) = some (.int (b64v (dmap c))) := by
  have k := lk_all ⟨c, h⟩
  unfold lkOk at k
  dsimp only at k
  split at k
  · rename_i i e
    rw [e]
    have := (Bool.and_eq_true_iff.mp k).1
    rw [of_decide_eq_true this]
  · have := of_decide_eq_true k; omega
  · cases k
theorem lk_no {c : Nat} (h : c < 128) (hv : ¬ b64v (dmap c) < 64) : PySem.Spec.lookup (.str ⟨#[c]⟩) (DD sgs 64) = none := by
  have k := lk_all ⟨c, h⟩
  unfold lkOk at k
  dsimp only at k
  split at k
  · have := of_decide_eq_true (Bool.and_eq_true_iff.mp k).2; omega
  · rename_i e; exact e
  · cases k
theorem flat_len : ∀ S : List (List Nat), (∀ c ∈ S, c.length ≤ 2) → (S.map List.length).sum ≤ 2 * S.length
  | [], _ => Nat.le_refl _
  | a :: r, h => by
    have h1 := h a (.head _)
    have h2 := flat_len r fun c hc => h c (.tail _ hc)
    rw [List.map_cons, List.sum_cons, List.length_cons]
    omega
theorem flat_int {v : Value} {i : Int} (h : PyProof.V.Flat v (.int i)) : ∃ t, v = .int i t := by
  have q := h default
  cases q with
  | int i t => exact ⟨t, rfl⟩
theorem fig_take {pg : List Nat} {i c : Nat} (h : pg[i]? = some c) : figOf ((pg.take (i + 1)).map fun c : Nat => (c : Int)) = figOf ((pg.take i).map fun c : Nat => (c : Int)) ++ if b64v (dmap c) < 64 then [b64v (dmap c)] else [] := by
  unfold figOf
  rw [List.take_add_one, h, List.map_append, List.filter_append, List.map_append]
  congr 1
  show List.map _ (List.filter _ [((c : Nat) : Int)]) = _
  by_cases hv : b64v (dmap c) < 64
  · rw [List.filter_cons_of_pos (by simpa using hv), if_pos hv]; rfl
  · rw [List.filter_cons_of_neg (by simpa using hv), if_neg hv]; rfl
theorem setK4S4 : True := by
  k_with "call ref" => ((refine' Spec.use (sp_signs _ _) ?kF ?kN ?kX ?kT ?kd ?ku ?kp ?_); (case kp => ((show (Str.ofString "+/").length ≤ 1000); decide +kernel)); walk_at "my_use"; intro v' h' tk' F' N' st' hv'; (obtain ⟨t', hv'⟩ := hv'); subst hv'; (try dsimp only); (try k_fold))
  k_with "call type:enumerate" => refine Stop.out ?_
  k_with "call builtin:str.join" => refine Stop.out ?_
  k_with "call builtin:str.replace" => refine Stop.out ?_
  trivial
theorem law_4 {w : World} {p : Program} {loose : List Str} {mean : ExcName → Option Value} {mg mb : Str → Option Value} {dp un : Nat} {gd : Option (List Code)} {s : Shared} {g : Heap} {L Dsh : Addr} {m : Str → Option Value} {oc : Obj} {sh : List Value} {n : Nat} {S : List (List Nat)} {Q : Flow → Shared → Prop}
    (X : (K0 w.params).In g) (T : Top p loose mean mg mb g) (F : Fr g L s.heap m) (N : News g L s.heap [(L + 1, oc), (Dsh, W.listOf sh.toArray n)]) (hoc : oc.data = .cell none) (hne : @Ne Nat (L + 1) Dsh)
    (hdp : dp + 20 < recursionLimit) (hu : un + 300 < cLine) (hsh : m (Str.ofString "shown") = some (.ref Dsh)) (hS : StrsAre sh (S.map fun c => ⟨c.toArray⟩)) (hz : S.length ≤ 1000) (hz2 : ∀ c ∈ S, c.length ≤ 2 ∧ ∀ x ∈ c, x < 128)
    (cont : ∀ (h : Heap) (tk : Nat) (m : Str → Option Value) (Dg : Addr) (fs : List Value) (nf : Nat) (tp : Tok), Fr g L h m → News g L h [(Dg, W.listOf fs.toArray nf)] →
      m (Str.ofString "page") = some (.str ⟨(S.flatten.filter fun x => decide (x ≠ 61)).toArray⟩ tp) → m (Str.ofString "figures") = some (.ref Dg) → IntsAre fs (figOf ((S.flatten.filter fun x => decide (x ≠ 61)).map fun c : Nat => (c : Int))) →
      wpAny (model LAW w) (lawA dp un gd L) (execs (d0.body.drop 22) (lawEnv L)) Q (fun _ _ => False) { s with heap := h, toks := tk }) :
    wpAny (model LAW w) (lawA dp un gd L) (execs (d0.body.drop 18) (lawEnv L)) Q (fun _ _ => False) s := by
  obtain ⟨h0, gn0, dr0, tk0, os0⟩ := s
  dsimp only at F N
  have F0 := Fr.on F [(Str.ofString "shown", .ref Dsh)] (List.forall_mem_cons.mpr ⟨hsh, List.forall_mem_nil _⟩)
  clear F
  walk_at "my_lit"
  k_steps
  dsimp only at *
  k_steps
  refine Stop.mk ?_
  refine' Spec.use (sp_signs _ _) ?kF ?kN ?kX ?kT ?kd ?ku ?kp ?_
  walk_at "my_use"
  case kp => (show (Str.ofString "+/").length ≤ 1000); decide +kernel
  intro v1 h1 tk1 F1 N1 st1 hv1
  obtain ⟨t1, rfl⟩ := hv1
  dsimp only
  k_steps
  refine Stop.mk ?_
  (rename Obj.IsDictOf _ _ _ => hD0); (rename PyProof.V.FlatPairs _ _ _ => hf0); (rename _ = Data.cell (some _) => hcell); (rename Fr _ _ _ _ => F2); (rename News _ _ _ _ => N2)
  refine call_enum_str rfl F2 N2 fun h2 e F3 N3 src => ?_
  refine src _ rfl _ _ _ _ (fun i m' nx => ∃ o kvs, nx = [(h0.objs.size, o), (L + 1, _), (Dsh, W.listOf sh.toArray n)] ∧ o.IsDictOf (PySem.strKind LAW w) kvs ∧ PyProof.V.FlatPairs PyData.str kvs (DD sgs i) ∧ m' (Str.ofString "shown") = some (.ref Dsh)) ⟨_, _, rfl, hD0, hf0, rfl⟩ ?_ ?_
  · rintro i a t v m₁ news₁ s₁ own ⟨h3, tk3, rfl⟩ ha ⟨u, rfl⟩ ⟨o, kvs, rfl, hD, hf, hm⟩ _ hoff F4 N4
    have kOff : OwnOff own [h0.objs.size, L + 1, Dsh] := fun p hp b hb => by
      rcases List.mem_cons.mp hb with rfl | hb
      · exact hoff p hp _ (.head _)
      · rcases List.mem_cons.mp hb with rfl | hb
        · exact hoff p hp _ (.tail _ (.head _))
        · rw [List.mem_singleton.mp hb]; exact hoff p hp _ (.tail _ (.tail _ (.head _)))
    have hil : i < 64 := sgs_length ▸ (List.getElem?_eq_some_iff.mp ha).1
    have hDl := DD_length sgs i
    replace N4 := News.sub N4 (l' := [(h0.objs.size, o), (L + 1, _), (Dsh, W.listOf sh.toArray n)] ++ own) (fun p hp => (List.mem_append.mp hp).elim (fun q => List.mem_append_right _ q) (fun q => List.mem_append_left _ q))
    simp only [List.cons_append, List.nil_append] at N4
    clear F2 N2 F3 N3 hD0 hf0
    dsimp only at F4 N4 ⊢
    k_steps
    refine' setItem_K PyProof.V.same_str (PySem.strKind_is _ _ a u) (PyProof.V.Flat.int _ _) F4 N4 (UpdF.head ?U) hD hf ?_ ?z
    case U => exact List.forall_mem_cons.mpr ⟨neLt (by omega), List.forall_mem_cons.mpr ⟨neLt (by omega), fun p hp => kOff p hp _ (.head _)⟩⟩
    case z => rw [sizeLine_eq]; omega
    intro h' o' F' N' hd' hf'
    dsimp only
    k_steps
    refine ⟨rfl, h', _, _, [(h0.objs.size, o'), (L + 1, _), (Dsh, W.listOf sh.toArray n)], rfl, F', News.sub N' (fun p hp => (List.mem_append.mp hp).elim (fun q => List.mem_append_right [_, _, _] q) (fun q => List.mem_append_left own q)), rfl, ⟨o', _, rfl, hd', ?_, ?_⟩⟩
    · rw [DD_succ (as := sgs) ha]; exact hf'
    · exact hm
  · rintro h3 tk3 m3 news3 F4 N4 _ ⟨o, kvs, rfl, hD, hf, hm⟩
    have F5 := Fr.on F4 [(Str.ofString "shown", .ref Dsh)] (List.forall_mem_cons.mpr ⟨hm, List.forall_mem_nil _⟩)
    clear F4 F3 F2 N3 N2
    dsimp only at N4 ⊢
    k_steps
    refine Stop.mk ?_
    refine join_pos ⟨_, N4.get (by k_mem), rfl, _, rfl⟩ hS ?_ ?_
    · have e0 : (Str.ofString "").length = 0 := by decide +kernel
      rw [e0, Nat.mul_zero, Nat.add_zero, List.map_map]
      have h3 : ((fun x : Str => x.length) ∘ fun c : List Nat => (⟨c.toArray⟩ : Str)) = List.length := funext fun c => List.size_toArray
      rw [h3]
      have := flat_len S fun c hc => (hz2 c hc).1
      omega
    · intro t' k' hk'
      have hk2 : 0 < k' := Nat.lt_of_lt_of_le (Nat.succ_pos _) hk'
      dsimp only
      k_steps
      refine Stop.mk ?_
      have eeq : Str.ofString "=" = ⟨#[61]⟩ := by decide +kernel
      have een : Str.ofString "" = ⟨#[]⟩ := by decide +kernel
      rw [join_all, eeq, een]
      refine SC.replaceW (Nat.pos_iff_ne_zero.mp hk2) (Nat.succ_ne_zero _) (Nat.ne_of_lt (Nat.lt_succ_self _)) (by decide) ?_ (by decide) ?_
      · show (S.flatten.toArray).size ≤ _
        rw [List.size_toArray, List.length_flatten]
        have h2 : (S.map List.length).sum ≤ 2 * S.length := flat_len S fun c hc => (hz2 c hc).1
        omega
      intro t6 k6
      rw [replace_one]
      generalize hpg : S.flatten.filter (fun x => decide (x ≠ 61)) = pg
      have hpl : pg.length ≤ 2000 := by
        rw [← hpg]
        refine Nat.le_trans (List.length_filter_le _ _) ?_
        rw [List.length_flatten]
        have h2 : (S.map List.length).sum ≤ 2 * S.length := flat_len S fun c hc => (hz2 c hc).1
        omega
      have hpc : ∀ c ∈ pg, c < 128 ∧ c ≠ 61 := by
        intro c hc
        rw [← hpg] at hc
        obtain ⟨h1, h2⟩ := List.mem_filter.mp hc
        obtain ⟨q, hq, hcq⟩ := List.mem_flatten.mp h1
        exact ⟨(hz2 q hq).2 c hcq, of_decide_eq_true h2⟩
      dsimp only
      k_steps
      refine Stop.mk ?_
      (rename Fr _ _ _ _ => F6); (rename News _ _ _ _ => N6); (rename (_ == sysModules) = false => hsys)
      refine' comp_assignN (J := fun i ys => IntsAre ys (figOf ((pg.take i).map fun c : Nat => (c : Int)))) F6 N6 (fun Q hq => nameX_L F6 rfl hq rfl rfl (by decide)) (itb_str rfl ?ka) ?kz .nil ?t1 ?ks ?kc ?kl ?kd ?kn ?kx ?ky ?kp ?t2 ?t3
      case ks => exact rfl
      case kc => exact rfl
      case kl => decide
      case kd => exact rfl
      case kn => decide
      case kx => exact rfl
      case ky => exact rfl
      case kp => exact rfl
      case ka =>
        rw [Array.all_eq_true_iff_forall_mem]
        intro c hc
        exact decide_eq_true (hpc c (by simpa using hc)).1
      case kz => rw [sizeLine_eq]; show (pg.toArray).size ≤ _; rw [List.size_toArray]; omega
      case t1 =>
        intro i ys e
        rw [e.length]
        unfold figOf
        rw [List.length_map]
        exact Nat.le_trans (List.length_filter_le _ _) (by rw [List.length_map, List.length_take]; omega)
      case t2 =>
        intro i v ys C h tk m₂ E' hi1 hP hJ hk hn1 hx hC
        obtain ⟨c, uc, hc, rfl⟩ := hP
        replace hc : pg[i]? = some c := by simpa using hc
        have hcm := hpc c (List.mem_of_getElem? hc)
        have FC := turn_fr hk hn1 hC
        have TB : StrTab LAW w h h0.objs.size (DD sgs 64) := ⟨hsys, kvs, PySem.Heap.dictOf_iff.mpr ⟨o, hk _ _ (N6.get (by k_mem)), hD⟩, sgs_length ▸ hf⟩
        refine wpAny_tests_one ?_
        walk1
        refine cx_local FC hx ?_
        refine' cx_cell FC ?a1 ?a2 ?a3 ?_
        case a1 => exact rfl
        case a2 => exact N6.get (by k_mem)
        case a3 => exact hcell
        refine in_strTab TB ?_
        walk1
        refine ⟨_, _, rfl, fun _ _ e => e, ?_⟩
        by_cases hv : b64v (dmap c) < 64
        · rw [lk_yes hcm.1 hv, if_pos (show (some _).isSome = true from rfl)]
          walk1
          refine' cx_cell FC ?a4 ?a5 ?a6 ?_
          case a4 => exact rfl
          case a5 => exact N6.get (by k_mem)
          case a6 => exact hcell
          refine cx_local FC hx ?_
          refine item_strTab TB (lk_yes hcm.1 hv) ?_
          intro v9 hv9
          obtain ⟨t9, rfl⟩ := flat_int hv9
          refine ⟨_, _, rfl, fun _ _ e => e, ?_⟩
          show IntsAre _ _
          rw [fig_take hc, if_pos hv]
          exact IntsAre.append hJ (.cons _ _ .nil)
        · rw [lk_no hcm.1 hv, if_neg (by decide)]
          show IntsAre _ _
          rw [fig_take hc, if_neg hv, List.append_nil]
          exact hJ
      case t3 =>
        intro Dg h7 tk7 y7 hJ7 F7 N7 lt7
        rw [List.take_of_length_le (by show pg.length ≤ (pg.toArray).size; rw [List.size_toArray]; exact Nat.le_refl _), ← hpg] at hJ7
        refine cont _ _ _ Dg y7 _ t6 F7 (News.sub N7 (List.forall_mem_cons.mpr ⟨by k_mem, List.forall_mem_nil _⟩)) ?_ rfl hJ7
        rw [hpg]; rfl
end Mine
end
section
open PySem PySem.Calls PySem.W PyProof.Rows
namespace Mine
theorem setKS5 : K0 = K0 ∧ PySem.Challenge.rw_qh0091_01 = PySem.Challenge.rw_qh0091_01 := by
  k_with_none
  k_fill
  k_with "call type:type" => ((with_reducible show wpAny _ _ (call (Value.type "type") [Value.bytes _ _]) _ _ _); refine call_type_of (Tx := "bytes") rfl (by decide +kernel) ?_)
  k_with "my_enterC" => ((case k1 => assumption); (case k6 => k_is); (case k7 => k_is); (case k8 => (dsimp only; omega)); (case k9 => exact rfl); (case kB => exact rfl); (case kN => decide); (case c2 => exact rfl); (case c3 => exact rfl); (case c4 => exact rfl); intro g' L' h' tk' cells' hg' F' N' Y' X' T'; (k_cells Y'); (try dsimp only); (try k_fold))
  k_with "eval ListComp" => refine Stop.out ?_
  k_with "exec Assign cons ListComp" => refine Stop.out ?_
  k_with "call ref" => refine Stop.out ?_
  k_with "call type:bytes" => refine Stop.out ?_
  k_with "my_side" => first | assumption | exact trivial | omega | (dsimp only [Around.deeper, Around.in1]; omega)
  k_with "my_use" => ((case kF => k_asm); (case kN => k_asm); (case kX => k_asm); (case kT => k_asm); (case kd => walk_at "my_side"); (case ku => walk_at "my_side"))
  k_with "my_lit" => (unfold lawEnv; generalize hsc : d0.scope = sc; (conv at hsc => (lhs; whnf)); subst hsc; (conv => (enter [3, 1]; whnf)))
  exact ⟨rfl, rfl⟩
theorem page_ints {pg : List Nat} (k : Nat) (h : ∀ c ∈ pg, c < 128 ∧ c ≠ 61) : KBw.bInts ((⟨(pg ++ List.replicate k 61).toArray⟩ : Str).cps.map (·.toUInt8)) = (pg.map fun c : Nat => (c : Int)) ++ List.replicate k 61 := by
  have e : pg ++ List.replicate k 61 = ((pg.map fun c : Nat => (c : Int)) ++ List.replicate k 61).map Int.toNat := by
    rw [List.map_append, List.map_map, List.map_replicate]
    exact congrArg (fun z => z ++ List.replicate k 61) ((List.map_congr_left fun c _ => rfl).trans (List.map_id _)).symm
  rw [e, text_bytes, bInts_arr]
  intro n hn
  rcases List.mem_append.mp hn with q | q
  · obtain ⟨c, hc, rfl⟩ := List.mem_map.mp q
    have := h c hc
    omega
  · rw [(List.mem_replicate.mp q).2]; omega
theorem page_a2b {pg : List Nat} (h : ∀ c ∈ pg, c < 128 ∧ c ≠ 61) : a2b false ((KBw.bInts ((⟨(pg ++ List.replicate ((4 - (figOf (pg.map fun c : Nat => (c : Int))).length % 4) % 4) 61).toArray⟩ : Str).cps.map (·.toUInt8))).map dmap) = if (figOf (pg.map fun c : Nat => (c : Int))).length % 4 = 1 then none else some (dec8 (figOf (pg.map fun c : Nat => (c : Int)))) := by
  rw [page_ints _ h]
  exact page_read _ fun c hc => by
    obtain ⟨x, hx, rfl⟩ := List.mem_map.mp hc
    have := h x hx
    omega
theorem eq_same {prog : Program} {w : World} {A : Around} {E : Value → Shared → Prop} {s : Shared} {t u : Tok} {Q : Value → Shared → Prop} {b : Array UInt8} (h : Q (.bool true) s) : wpAny (model prog w) A (compareOp .Eq (.bytes b t) (.bytes b u)) Q E s := eq_bytes (by
  have : (b.toList == b.toList) = true := by simp
  rw [this]; exact h)
theorem txt_add (a b : List Nat) : (⟨a.toArray⟩ : Str) ++ ⟨b.toArray⟩ = ⟨(a ++ b).toArray⟩ := by
  apply Str.ext'
  show (_ : Array Nat) ++ _ = _
  simp
theorem setK5 : True := by
  k_with "compareOp Eq bytes bytes" => (with_reducible refine eq_same ?_)
  trivial
theorem law_5 {w : World} {p : Program} {loose : List Str} {mean : ExcName → Option Value} {mg mb : Str → Option Value} {dp un : Nat} {gd : Option (List Code)} {s : Shared} {g : Heap} {L Dg : Addr} {m : Str → Option Value} {fs : List Value} {nf : Nat} {tp : Tok} {pg : List Nat} {Q : Flow → Shared → Prop}
    (X : (K0 w.params).In g) (T : Top p loose mean mg mb g) (F : Fr g L s.heap m) (N : News g L s.heap [(Dg, W.listOf fs.toArray nf)])
    (hdp : dp + 20 < recursionLimit) (hu : un + 300 < cLine) (hpg : m (Str.ofString "page") = some (.str ⟨pg.toArray⟩ tp)) (hfg : m (Str.ofString "figures") = some (.ref Dg)) (hfs : IntsAre fs (figOf (pg.map fun c : Nat => (c : Int))))
    (hc : ∀ c ∈ pg, c < 128 ∧ c ≠ 61) (hz : pg.length ≤ 1000) (done : ∀ (h : Heap) (tk : Nat), g.StaysIn h → Q (.ret (.bool true)) { s with heap := h, toks := tk }) :
    wpAny (model LAW w) (lawA dp un gd L) (execs (d0.body.drop 22) (lawEnv L)) Q (fun _ _ => False) s := by
  obtain ⟨h0, gn0, dr0, tk0, os0⟩ := s
  dsimp only at F N
  have F0 := Fr.on F [(Str.ofString "page", .str ⟨pg.toArray⟩ tp), (Str.ofString "figures", .ref Dg)] (List.forall_mem_cons.mpr ⟨hpg, List.forall_mem_cons.mpr ⟨hfg, List.forall_mem_nil _⟩⟩)
  clear F
  have hfl : fs.length = (figOf (pg.map fun c : Nat => (c : Int))).length := hfs.length
  have hfz : (figOf (pg.map fun c : Nat => (c : Int))).length ≤ 1000 := by
    unfold figOf
    rw [List.length_map]
    exact Nat.le_trans (List.length_filter_le _ _) (by rw [List.length_map]; exact hz)
  have hsz : fs.toArray.size ≤ 1000 := by rw [List.size_toArray]; omega
  walk_at "my_lit"
  walk1
  refine wpAny_Try_except ?_
  k_with "binaryOp Add str str" => refine Stop.out ?_
  k_steps
  refine Stop.mk ?_
  rw [pads_eq, mul_eq4 _ (by omega)]
  generalize hk4 : (4 - (figOf (pg.map fun c : Nat => (c : Int))).length % 4) % 4 = k4
  have hk5 : k4 < 4 := by omega
  refine add_str (fun t1 tk1 => ?_) ?_
  rotate_left
  · show pg.toArray.size + (List.replicate k4 61).toArray.size ≤ _
    rw [List.size_toArray, List.size_toArray, List.length_replicate, sizeLine_eq]; omega
  rw [txt_add]
  dsimp only
  k_steps
  refine Stop.mk ?_
  (rename Fr _ _ _ _ => F2); (rename News _ _ _ _ => N2)
  have hpa := page_a2b hc
  rw [hk4] at hpa
  refine' SpecR.useE (sp_usdecodeS _ _) F2 N2 X T rfl rfl (by omega) (by omega) ?hp ?ok ?er
  case hp =>
    refine ⟨fun c hcm => ?_, ?_⟩
    · have hcm : c ∈ (pg ++ List.replicate k4 61).toArray := hcm
      rw [List.mem_toArray] at hcm
      rcases List.mem_append.mp hcm with q | q
      · exact (hc c q).1
      · rw [(List.mem_replicate.mp q).2]; decide
    · show (pg ++ List.replicate k4 61).toArray.size ≤ _
      rw [List.size_toArray, List.length_append, List.length_replicate]; omega
  case ok =>
    rintro v h3 tk3 F3 N3 st3 ⟨out, t3, ho, rfl⟩
    rw [hpa] at ho
    have hf1 : (figOf (pg.map fun c : Nat => (c : Int))).length % 4 ≠ 1 := fun q => by rw [if_pos q] at ho; cases ho
    rw [if_neg hf1] at ho
    obtain rfl := Option.some.inj ho
    dsimp only
    k_steps
    · refine Stop.mk ?_
      (rename Fr _ _ _ _ => F5); (rename News _ _ _ _ => N5)
      refine' Spec.useL (sp_regr68I Dg fs (figOf (pg.map fun c : Nat => (c : Int))) _ _ _ _) ?kF ?kN ?kX ?kT ?kd ?ku ?kp ?_
      walk_at "my_use"
      case kp => exact ⟨⟨_, N5.get (by k_mem), rfl, _, rfl⟩, hfs, figOf_range _, hfz, by rw [Int.fdiv_eq_ediv_of_nonneg _ (by decide)]; omega⟩
      intro l1 ys1 h6 tk6 F6 N6 lt6 hR1
      dsimp only
      clear F5 N5
      k_steps
      refine Stop.mk ?_
      (rename Fr _ _ _ _ => F7); (rename News _ _ _ _ => N7)
      refine bytes_K F7 N7 (by k_mem) (ns := dec8 (figOf (pg.map fun c : Nat => (c : Int)))) hR1 (fun n hn => by have := digs_range 8 _ _ n hn; omega) (by unfold dec8; rw [digs_length]; omega) rfl ?_
      intro t8 h8 tk8 F8 N8 st8
      dsimp only
      k_steps
      exact done _ _ F8.keep
    · exfalso
      (rename Int.fmod _ 4 = 1 => hbad)
      rw [Int.fmod_eq_emod_of_nonneg _ (by decide)] at hbad
      omega
  case er =>
    intro e t vs h3 tk3 hE R U
    rw [hpa] at hE
    have hf1 : (figOf (pg.map fun c : Nat => (c : Int))).length % 4 = 1 := by
      by_cases q : (figOf (pg.map fun c : Nat => (c : Int))).length % 4 = 1
      · exact q
      · rw [if_neg q] at hE; cases hE
    refine catchE R U F2 N2 X rfl rfl (c := .type "ValueError") (by kernel_rfl) ?_ ?_
    · intro h s Q E hh Fh hq
      subst hh
      exact nameX_B Fh X (topRead_of T) (by k_is) (by boot_fast) (by decide) hq rfl rfl
    · intro h4 F4 N4
      dsimp only
      k_steps
      have e1 : (((figOf (pg.map fun c : Nat => (c : Int))).length : Int).fmod 4 == 1) = true := by
        rw [Int.fmod_eq_emod_of_nonneg _ (by decide)]
        exact beq_iff_eq.mpr (by omega)
      rw [e1]
      exact done _ _ F4.keep
end Mine
end
section
open PySem PySem.Calls PySem.W PyProof.Rows
namespace Mine
/-- the law, whole -/
theorem sp_law {w : World} (l : Addr) (vs : List Value) (ns : List Int) {p : Program} {loose : List Str} {mean : ExcName → Option Value} {mg mb : Str → Option Value} {dp un : Nat} {gd : Option (List Code)} {s : Shared} {R : Result → Shared → Prop}
    (G : Gd (K0 w.params) p loose mean mg mb s.heap) (hdp : dp + 20 < recursionLimit) (hu : un + 300 < cLine) (hl : s.heap.IsList l vs.toArray) (hi : IntsAre vs ns) (hln : ns.length ≤ 1000)
    (hret : ∀ h' tk', s.heap.StaysIn h' → R (.ok (.ret (.bool true))) { s with heap := h', toks := tk' }) : codeAny (model LAW w) ⟨none, dp, some [], gd, un⟩ (.call (.ref 192) ⟨[.ref l], []⟩) R s := by
  obtain ⟨zn, zp⟩ := ns_length ns
  have za := row_length 0 (nsOf ns)
  have zb := row_length 1 (nsOf ns)
  have zc := word_length (nsOf ns)
  have ra := row_range 0 (nsOf ns)
  have rb := row_range 1 (nsOf ns)
  have rc := word_range (nsOf ns)
  have hne := word_ne ns
  refine law_1 l vs ns G hdp hu hl hi hln ?_
  intro L g h1 tk1 m1 oc Dn Df Ds Dw vn y1 y2 y3 nn n1 n2 n3 hg F1 N1 X T hoc hn h1a h2a hwd hm1
  have q1 := hm1 _ (.head _)
  have q2 := hm1 _ (.tail _ (.head _))
  have q3 := hm1 _ (.tail _ (.tail _ (.head _)))
  have q4 := hm1 _ (.tail _ (.tail _ (.tail _ (.head _))))
  refine law_2 (n1 := n1) (n2 := n2) (rest := [(L + 1, oc), (Dn, W.listOf vn.toArray nn), (Df, W.listOf y1.toArray n1), (Ds, W.listOf y2.toArray n2), (Dw, W.listOf y3.toArray n3)]) X T F1 (News.sub N1 ?_) hdp hu q2 q3 h1a h2a ra rb (by omega) (by omega) ?_
  · intro q hq
    rcases List.mem_cons.mp hq with rfl | hq
    · exact .tail _ (.tail _ (.head _))
    · rcases List.mem_cons.mp hq with rfl | hq
      · exact .tail _ (.tail _ (.tail _ (.head _)))
      · exact hq
  intro h2 tk2 m2 t1 t2 t3 t4 F2 N2 keep2 p1 p2 p3 p4
  have s1 := (keep2 (Str.ofString "numbers") (by decide) (by decide) (by decide) (by decide)).trans q1
  have s2 := (keep2 (Str.ofString "first") (by decide) (by decide) (by decide) (by decide)).trans q2
  have s3 := (keep2 (Str.ofString "second") (by decide) (by decide) (by decide) (by decide)).trans q3
  have s4 := (keep2 (Str.ofString "word") (by decide) (by decide) (by decide) (by decide)).trans q4
  refine law_3 (nn := nn) (n3 := n3) (rst := [(L + 1, oc), (Df, W.listOf y1.toArray n1), (Ds, W.listOf y2.toArray n2)]) X T F2 (News.sub N2 ?_) hdp hu hn hwd zn zp rc (by omega) (by omega) (by omega) s1 s4 p1 p2 p3 p4 ?_
  · intro q hq
    rcases List.mem_cons.mp hq with rfl | hq
    · exact .tail _ (.head _)
    · rcases List.mem_cons.mp hq with rfl | hq
      · exact .tail _ (.tail _ (.tail _ (.tail _ (.head _))))
      · rcases List.mem_cons.mp hq with rfl | hq
        · exact .head _
        · rcases List.mem_cons.mp hq with rfl | hq
          · exact .tail _ (.tail _ (.head _))
          · rw [List.mem_singleton.mp hq]; exact .tail _ (.tail _ (.tail _ (.head _)))
  intro h3 tk3 m3 Dwi wv nwi F3 N3 hW keep3 p5
  refine law_3b (nn := nn) (n3 := n3) (rst := [(Dwi, W.listOf wv.toArray nwi), (L + 1, oc), (Df, W.listOf y1.toArray n1), (Ds, W.listOf y2.toArray n2)]) X T F3 (News.sub N3 ?_) hdp hu hn hwd zn zp rc (by omega) (by omega) (by omega)
    ((keep3 _ (by decide)).trans s1) ((keep3 _ (by decide)).trans s4) ((keep3 _ (by decide)).trans p1) ((keep3 _ (by decide)).trans p2) ?_
  · intro q hq
    rcases List.mem_cons.mp hq with rfl | hq
    · exact .tail _ (.head _)
    · rcases List.mem_cons.mp hq with rfl | hq
      · exact .tail _ (.tail _ (.head _))
      · rcases List.mem_cons.mp hq with rfl | hq
        · exact .head _
        · exact .tail _ (.tail _ (.tail _ hq))
  intro h4 tk4 m4 Dg Dsh gv sv ng nsh F4 N4 hG hS keep4 p6 p7
  have u1 : m4 (Str.ofString "wire") = some (.ref Dwi) := (keep4 _ (by decide) (by decide)).trans p5
  have u2 : m4 (Str.ofString "first") = some (.ref Df) := (keep4 _ (by decide) (by decide)).trans ((keep3 _ (by decide)).trans s2)
  have u3 : m4 (Str.ofString "second") = some (.ref Ds) := (keep4 _ (by decide) (by decide)).trans ((keep3 _ (by decide)).trans s3)
  have lW := wire_length (nsOf ns) (rowOf 0 (nsOf ns)) (rowOf 1 (nsOf ns)) (wordOf (nsOf ns))
  have e1 := enc64_length (rowOf 0 (nsOf ns))
  have e2 := enc64_length (rowOf 1 (nsOf ns))
  have hsw := wire_shown (nsOf ns) (rowOf 0 (nsOf ns)) (rowOf 1 (nsOf ns)) (wordOf (nsOf ns))
  have hss := shown_small (nsOf ns) (rowOf 0 (nsOf ns)) (rowOf 1 (nsOf ns)) (wordOf (nsOf ns))
  refine law_3c (nwi := nwi) (nsh := nsh) (W1 := Wire (nsOf ns) (rowOf 0 (nsOf ns)) (rowOf 1 (nsOf ns)) (wordOf (nsOf ns))) (rst := [(Dg, W.listOf gv.toArray ng), (L + 1, oc), (Df, W.listOf y1.toArray n1), (Ds, W.listOf y2.toArray n2)]) X T F4 (News.sub N4 ?_) hdp hu hW (hsw ▸ hS) (wire_cases _ _ _ _) (by omega) (fun x hx => small_lay (hss x (hsw ▸ hx)).2) u1 p7 ?_
  · intro q hq
    rcases List.mem_cons.mp hq with rfl | hq
    · exact .tail _ (.tail _ (.head _))
    · rcases List.mem_cons.mp hq with rfl | hq
      · exact .head _
      · rcases List.mem_cons.mp hq with rfl | hq
        · exact .tail _ (.head _)
        · exact .tail _ (.tail _ (.tail _ hq))
  intro h5 tk5 F5 N5
  refine law_3d (nwi := nwi) (n1 := n1) (n2 := n2) (ng := ng) (rst := [(L + 1, oc), (Dsh, W.listOf sv.toArray nsh)]) X T F5 (News.sub N5 ?_) hdp hu hW h1a h2a hG ra rb (by omega) (by omega) (by omega) hne u1 u2 u3 p6 ?_
  · intro q hq
    rcases List.mem_cons.mp hq with rfl | hq
    · exact .head _
    · rcases List.mem_cons.mp hq with rfl | hq
      · exact .tail _ (.tail _ (.tail _ (.tail _ (.head _))))
      · rcases List.mem_cons.mp hq with rfl | hq
        · exact .tail _ (.tail _ (.tail _ (.tail _ (.tail _ (.head _)))))
        · rcases List.mem_cons.mp hq with rfl | hq
          · exact .tail _ (.tail _ (.head _))
          · rcases List.mem_cons.mp hq with rfl | hq
            · exact .tail _ (.tail _ (.tail _ (.head _)))
            · rw [List.mem_singleton.mp hq]; exact .tail _ (.head _)
  intro h6 tk6 F6 N6
  have hLD : @Ne Nat (L + 1) Dsh := fun e => by
    have a1 := (N6 _ (.head _)).1
    have a2 := (N6 _ (.tail _ (.head _))).1
    have e' : L + 1 = Dsh := e
    rw [e', a2] at a1
    have a3 : W.listOf sv.toArray nsh = oc := Option.some.inj a1
    rw [← a3] at hoc
    cases hoc
  have hShl : (Shown (nsOf ns) (rowOf 0 (nsOf ns)) (rowOf 1 (nsOf ns)) (wordOf (nsOf ns))).length = (Wire (nsOf ns) (rowOf 0 (nsOf ns)) (rowOf 1 (nsOf ns)) (wordOf (nsOf ns))).length := by rw [← hsw, List.length_map]
  generalize Shown (nsOf ns) (rowOf 0 (nsOf ns)) (rowOf 1 (nsOf ns)) (wordOf (nsOf ns)) = SH at *
  have hSm : (SH.map fun x => x.cps.toList).map (fun c => (⟨c.toArray⟩ : Str)) = SH := by
    rw [List.map_map]
    exact (List.map_congr_left fun x _ => rfl).trans (List.map_id _)
  have hz2 : ∀ c ∈ SH.map fun x => x.cps.toList, c.length ≤ 2 ∧ ∀ x ∈ c, x < 128 := by
    intro c hc
    obtain ⟨x, hx, rfl⟩ := List.mem_map.mp hc
    obtain ⟨a, b⟩ := hss x hx
    exact ⟨by rw [Array.length_toList]; exact a, fun y hy => b y (by simpa using hy)⟩
  have hS4 : StrsAre sv ((SH.map fun x => x.cps.toList).map fun c => ⟨c.toArray⟩) := hSm.symm ▸ hS
  have hn4 : (SH.map fun x => x.cps.toList).length ≤ 1000 := by rw [List.length_map]; omega
  with_reducible refine law_4 (oc := oc) (n := nsh) (S := SH.map fun x => x.cps.toList) X T F6 N6 hoc hLD hdp hu p7 hS4 hn4 hz2 ?_
  intro h7 tk7 m7 Dq fs nf tp F7 N7 pp pf hfs
  refine law_5 X T F7 N7 hdp hu pp pf hfs ?_ ?_ ?_
  · intro c hc
    obtain ⟨a, b⟩ := List.mem_filter.mp hc
    obtain ⟨q, hq, hcq⟩ := List.mem_flatten.mp a
    exact ⟨(hz2 q hq).2 c hcq, of_decide_eq_true b⟩
  · refine Nat.le_trans (List.length_filter_le _ _) ?_
    rw [List.length_flatten]
    have := flat_len (SH.map fun x => x.cps.toList) fun c hc => (hz2 c hc).1
    rw [List.length_map] at this
    omega
  · intro h tk st
    exact hret h tk (hg ▸ st)
end Mine
end
section
open PySem PySem.Calls PySem.W PyProof.Rows
namespace Mine
theorem fillFFin : K0 = K0 ∧ PySem.Challenge.rw_qh0091_01 = PySem.Challenge.rw_qh0091_01 := by
  k_with_none
  k_fill
  exact ⟨rfl, rfl⟩
theorem d0_name : d0.name = Str.ofString "law" := by kernel_rfl
theorem fin0 : PySem.Challenge.rw_qh0091_01.Holds := by
  refine hd ?_
  intro w s₀ s₁ mg mb G Y fa o pm cd doc dV kV ho hd1 hcd hD hmg hg args vals as hpre hlay hrd hwl hlo
  have KX := kIn_of Y
  have X := (Ground.X G).1
  have V := (Ground.X G).2
  refine Ground.open G ?_
  intro T B D TE TW
  wrow_args hpre hlay hrd hwl hlo
  rw [d0_name] at hmg
  have hf : mg (Str.ofString "law") = some (.ref 192) := mg_of KX T.g (by k_is)
  obtain rfl : fa = 192 := by
    have q := hf.symm.trans hmg
    exact (Value.ref.inj (Option.some.inj q)).symm
  (rename IntsAre _ _ => hI); (rename Heap.IsList _ _ _ => hL); (rename ¬ _ < _ => hcond)
  refine wpAny_call ?_
  refine sp_law _ _ _ ⟨KX, T⟩ (show 1 + claimMargin + 20 < recursionLimit by decide +kernel) (show 4 + 300 < cLine by decide +kernel) hL hI (by omega) ?_
  intro h' tk' st
  refine GoodW.toG ⟨.inl ⟨.bool true, .bool true, [], rfl, ?_, ?_, ?_, ?_⟩, st, rfl, hg⟩
  all_goals first | (intro _; rfl) | exact .bool _ | rfl | (intro h; exact ⟨List.nodup_nil, fun _ h => nomatch h⟩) | kernel_rfl
end Mine
end
theorem PySem.Challenge.cw_qh0091_01_holds : PySem.Challenge.rw_qh0091_01.Holds := by
  exact Mine.fin0
