import PyProof.Rows.All
import Wide.All
import OpenK.AllK
import Wide.FinOn
import PySem.Challenge.RW_ik0186_01
open PySem PySem.W PyProof.Rows PySem.Calls
set_option Elab.async false
set_option linter.all false
namespace Mine
noncomputable def hd.nth : List Stmt → Nat → Stmt
  | [], _ => .Pass ⟨0, 0, 0, 0⟩
  | s :: _, 0 => s
  | _ :: l, n + 1 => hd.nth l n
noncomputable def hd.fo (i : Nat) (md : String) (t : Nat) (code : Addr) : Obj := match hd.nth PySem.Challenge.pw_ik0186_01.main.body i with
  | .FunctionDef name params body _ _ _ scope _ _ _ => ⟨.type "function", none, .func { name := name, qualname := name, params := params, body := .stmts body, scope := scope, globals := 3, closure := [], defaults := .none, kwdefaults := .none, pyModule := .str (Str.ofString md) t, code := .ref code }, #[]⟩
  | _ => ⟨.none, none, .plain, #[]⟩
noncomputable def hd.mo (i j : Nat) (code : Addr) : Obj := match hd.nth PySem.Challenge.pw_ik0186_01.main.body i with
  | .ClassDef _ _ _ cb _ _ _ _ _ _ _ => (match hd.nth cb j with
    | .FunctionDef name params body _ _ _ scope _ _ _ => ⟨.type "function", none, .func { name := name, qualname := Str.ofString "_Example.__init__", params := params, body := .stmts body, scope := scope, globals := 3, closure := [], defaults := .none, kwdefaults := .none, pyModule := .str (Str.ofString "cpy313.pickletools") 351, code := .ref code }, #[]⟩
    | _ => ⟨.none, none, .plain, #[]⟩)
  | _ => ⟨.none, none, .plain, #[]⟩
noncomputable def hd.co (n : String) (t line argc flags : Nat) (a b c d e : Value) (u t' : Nat) : Obj := ⟨.type "code", none, .fields #[.str (Str.ofString n) t, .str (Str.ofString n) (t + 1), .str (Str.ofString "/claim/cut.py") (t + 2), .int line 0, .int argc 0, .int 0 0, .int 0 0, .int flags 0, a, .bool true, .int 181 0, b, .none, c, d, e, .int u 0, .int line 0, .str (Str.ofString "/claim/cut.py") t'], #[]⟩
noncomputable def hd.de (P : Params) (n : String) (t : Nat) (v : Value) : DictEntry := ⟨PyData.keyHash P (Str.ofString n), .str (Str.ofString n) t, v⟩
noncomputable def hd.heap_39 : Params → Frag := fun P =>
  (nat_lit 3, ⟨.type "dict", none, .dict (hd.de P "__name__" 165 (.str (Str.ofString "law_ik0186_01") 415) :: hd.de P "__doc__" 166 (.none) :: hd.de P "__package__" 167 (.none) :: hd.de P "__loader__" 168 (.builtin "__main__.__loader__#opaque") :: hd.de P "__spec__" 169 (.none) :: hd.de P "__annotations__" 170 (.ref 6) :: hd.de P "__builtins__" 171 (.ref 4) :: hd.de P "__file__" 173 (.str (Str.ofString "/claim/cut.py") 172) :: hd.de P "__cached__" 174 (.none) :: hd.de P "_wall" 193 (.ref 21) :: hd.de P "_plain_name" 204 (.ref 28) :: hd.de P "ABCMeta" 230 (.ref 45) :: hd.de P "_ABCLike" 273 (.ref 78) :: hd.de P "_abc_plain_meta" 280 (.ref 87) :: hd.de P "fspath" 292 (.ref 94) :: hd.de P "_check_arg_types" 305 (.ref 101) :: hd.de P "_get_sep" 314 (.ref 108) :: hd.de P "join" 325 (.ref 115) :: hd.de P "basename" 334 (.ref 122) :: hd.de P "dirname" 344 (.ref 129) :: hd.de P "commonpath" 350 (.ref 134) :: hd.de P "read_uint1" 360 (.ref 141) :: hd.de P "read_string1" 369 (.ref 148) :: hd.de P "_Example" 398 (.ref 165) :: hd.de P "sorted_list_difference" 414 (.ref 176) :: hd.de P "_law_taken" 425 (.ref 183) :: hd.de P "_law_stream" 433 (.ref 190) :: hd.de P "_law_name" 441 (.ref 197) :: hd.de P "_law_grown" 447 (.ref 202) :: hd.de P "_law_spelled" 457 (.ref 209) :: hd.de P "_law_line" 465 (.ref 216) :: hd.de P "_law_signs" 474 (.ref 223) :: hd.de P "_law_sides" 480 (.ref 228) :: hd.de P "_law_square" 486 (.ref 233) :: hd.de P "_law_minors" 492 (.ref 238) :: hd.de P "_law_due" 504 (.ref 245) :: hd.de P "law" 510 (.ref 250) :: []).toArray 37, #[]⟩) ::
  (nat_lit 93, hd.co "fspath" 283 35 1 3 (.ref 88) (.ref 89) (.ref 90) (.ref 91) (.ref 92) 290 291) ::
  (nat_lit 94, hd.fo 9 "os" 281 93) ::
  (nat_lit 100, hd.co "_check_arg_types" 295 52 1 7 (.ref 95) (.ref 96) (.ref 97) (.ref 98) (.ref 99) 303 304) ::
  (nat_lit 101, hd.fo 11 "cpy313.genericpath" 293 100) ::
  (nat_lit 107, hd.co "_get_sep" 308 64 1 3 (.ref 102) (.ref 103) (.ref 104) (.ref 105) (.ref 106) 312 313) ::
  (nat_lit 108, hd.fo 13 "cpy313.posixpath" 306 107) ::
  (nat_lit 114, hd.co "join" 315 69 1 7 (.ref 109) (.ref 110) (.ref 111) (.ref 112) (.ref 113) 323 324) ::
  (nat_lit 115, hd.fo 14 "cpy313.posixpath" 306 114) ::
  (nat_lit 121, hd.co "basename" 326 86 1 3 (.ref 116) (.ref 117) (.ref 118) (.ref 119) (.ref 120) 332 333) ::
  (nat_lit 122, hd.fo 15 "cpy313.posixpath" 306 121) ::
  (nat_lit 128, hd.co "dirname" 335 91 1 3 (.ref 123) (.ref 124) (.ref 125) (.ref 126) (.ref 127) 342 343) ::
  (nat_lit 129, hd.fo 16 "cpy313.posixpath" 306 128) ::
  (nat_lit 133, hd.co "commonpath" 345 99 1 3 (.ref 130) (.ref 131) .none .none (.ref 132) 348 349) ::
  (nat_lit 134, hd.fo 17 "cpy313.posixpath" 306 133) ::
  (nat_lit 140, hd.co "read_uint1" 353 129 1 3 (.ref 135) (.ref 136) (.ref 137) (.ref 138) (.ref 139) 358 359) ::
  (nat_lit 141, hd.fo 19 "cpy313.pickletools" 351 140) ::
  (nat_lit 147, hd.co "read_string1" 361 134 1 3 (.ref 142) (.ref 143) (.ref 144) (.ref 145) (.ref 146) 367 368) ::
  (nat_lit 148, hd.fo 20 "cpy313.pickletools" 351 147) ::
  (nat_lit 161, ⟨.type "code", none, .fields #[.str (Str.ofString "__init__") 382, .str (Str.ofString "_Example.__init__") 383, .str (Str.ofString "/claim/cut.py") 384, .int 143 0, .int 2 0, .int 0 0, .int 0 0, .int 3 0, .ref 156, .bool true, .int 181 0, .ref 157, .none, .ref 158, .ref 159, .ref 160, .int 387 0, .int 143 0, .str (Str.ofString "/claim/cut.py") 388], #[]⟩) ::
  (nat_lit 162, hd.mo 21 0 161) ::
  (nat_lit 164, ⟨.type "dict", none, .dict (hd.de P "__module__" 377 (.str (Str.ofString "cpy313.pickletools") 351) :: hd.de P "__firstlineno__" 381 (.int 141 380) :: hd.de P "__init__" 389 (.ref 162) :: hd.de P "__static_attributes__" 391 (.ref 163) :: hd.de P "__dict__" 393 (.ref 166) :: hd.de P "__weakref__" 395 (.ref 167) :: hd.de P "__doc__" 396 .none :: []).toArray 4, #[]⟩) ::
  (nat_lit 165, ⟨.type "type", none, .cls { name := Str.ofString "_Example", bases := [.type "object"], mro := [.ref 165, .type "object"], ns := 164, qualname := Str.ofString "_Example" }, #[none, none, some (.str (Str.ofString "_Example") 370), some (.str (Str.ofString "_Example") 378), some (.builtin "object.__new__"), some (.bool true)]⟩) ::
  (nat_lit 175, hd.co "sorted_list_difference" 401 146 2 3 (.ref 170) (.ref 171) (.ref 172) (.ref 173) (.ref 174) 412 413) ::
  (nat_lit 176, hd.fo 23 "cpy313.unittest.util" 399 175) ::
  (nat_lit 182, hd.co "_law_taken" 417 179 2 3 (.ref 177) (.ref 178) (.ref 179) (.ref 180) (.ref 181) 423 424) ::
  (nat_lit 183, hd.fo 25 "law_ik0186_01" 415 182) ::
  (nat_lit 189, hd.co "_law_stream" 426 183 1 3 (.ref 184) (.ref 185) (.ref 186) (.ref 187) (.ref 188) 431 432) ::
  (nat_lit 190, hd.fo 26 "law_ik0186_01" 415 189) ::
  (nat_lit 196, hd.co "_law_name" 434 187 2 3 (.ref 191) (.ref 192) (.ref 193) (.ref 194) (.ref 195) 439 440) ::
  (nat_lit 197, hd.fo 27 "law_ik0186_01" 415 196) ::
  (nat_lit 201, hd.co "_law_grown" 442 189 1 3 (.ref 198) (.ref 199) .none .none (.ref 200) 445 446) ::
  (nat_lit 202, hd.fo 28 "law_ik0186_01" 415 201) ::
  (nat_lit 208, hd.co "_law_spelled" 448 199 1 3 (.ref 203) (.ref 204) (.ref 205) (.ref 206) (.ref 207) 455 456) ::
  (nat_lit 209, hd.fo 29 "law_ik0186_01" 415 208) ::
  (nat_lit 215, hd.co "_law_line" 458 205 1 3 (.ref 210) (.ref 211) (.ref 212) (.ref 213) (.ref 214) 463 464) ::
  (nat_lit 216, hd.fo 30 "law_ik0186_01" 415 215) ::
  (nat_lit 222, hd.co "_law_signs" 466 211 2 3 (.ref 217) (.ref 218) (.ref 219) (.ref 220) (.ref 221) 472 473) ::
  (nat_lit 223, hd.fo 31 "law_ik0186_01" 415 222) ::
  (nat_lit 227, hd.co "_law_sides" 475 216 2 3 (.ref 224) (.ref 225) .none .none (.ref 226) 478 479) ::
  (nat_lit 228, hd.fo 32 "law_ik0186_01" 415 227) ::
  (nat_lit 232, hd.co "_law_square" 481 218 1 3 (.ref 229) (.ref 230) .none .none (.ref 231) 484 485) ::
  (nat_lit 233, hd.fo 33 "law_ik0186_01" 415 232) ::
  (nat_lit 237, hd.co "_law_minors" 487 221 1 3 (.ref 234) (.ref 235) .none .none (.ref 236) 490 491) ::
  (nat_lit 238, hd.fo 34 "law_ik0186_01" 415 237) ::
  (nat_lit 244, hd.co "_law_due" 493 230 1 3 (.ref 239) (.ref 240) (.ref 241) (.ref 242) (.ref 243) 502 503) ::
  (nat_lit 245, hd.fo 35 "law_ik0186_01" 415 244) ::
  (nat_lit 249, hd.co "law" 505 238 1 3 (.ref 246) (.ref 247) .none .none (.ref 248) 508 509) ::
  (nat_lit 250, hd.fo 36 "law_ik0186_01" 415 249) :: []

noncomputable def hd.view_39 : Program := view PySem.Challenge.pw_ik0186_01 [0, 2, 4, 6, 7, 9, 11, 13, 14, 15, 16, 17, 19, 20, 21, 23, 25, 26, 27, 28, 29, 30, 31, 32, 33, 34, 35, 36]
noncomputable def hd.at : List Addr := [3, 93, 94, 100, 101, 107, 108, 114, 115, 121, 122, 128, 129, 133, 134, 140, 141, 147, 148, 161, 162, 164, 165, 175, 176, 182, 183, 189, 190, 196, 197, 201, 202, 208, 209, 215, 216, 222, 223, 227, 228, 232, 233, 237, 238, 244, 245, 249, 250]
noncomputable abbrev hd.hook : Hook := kmHook hd.heap_39 hd.at (fun _ => by kernel_rfl) [185]
noncomputable abbrev hd.p : Program := PySem.Challenge.rw_ik0186_01.row.prog
noncomputable abbrev hd.s (x : String) : Str := Str.ofString x
noncomputable def hd.st (i : Nat) : Stmt := hd.nth PySem.Challenge.pw_ik0186_01.main.body i
noncomputable def hd.ms (i j : Nat) : Stmt := match hd.st i with
  | .ClassDef _ _ _ cb _ _ _ _ _ _ _ => hd.nth cb j
  | s => s
noncomputable def hd.fu (cls : Value) (s : Stmt) (q : String) (g : Addr) (md cd : Value) : Obj := match s with
  | .FunctionDef name params body _ _ _ scope _ _ _ => ⟨cls, none, .func { name := name, qualname := Str.ofString q, params := params, body := .stmts body, scope := scope, globals := g, closure := [], defaults := .none, kwdefaults := .none, pyModule := md, code := cd }, #[]⟩
  | _ => ⟨.none, none, .plain, #[]⟩
noncomputable def hd.t0 (P : Params) : BT := let n := BT.node; let e := BT.nil; let f := fun o => BT.node o .nil .nil
  n (boot_o_0 P)
 (n (boot_o_1 P)
 (n (boot_o_3 P)
 (f (boot_o_7 P))
 (f ⟨(.type "tuple"), none, (.seq #[] 0), #[]⟩))
 (n (boot_o_5 P)
 (f (boot_o_9 P))
 (f ⟨(.type "code"), none, (.fields #[(.str (hd.s "<module>") 182), (.str (hd.s "<module>") 183), (.str (hd.s "/claim/cut.py") 184), (.int 1 0), (.int 0 0), (.int 0 0), (.int 0 0), (.int 0 0), (.ref 11), (.bool false), (.int 181 0), (.ref 12), .none, .none, .none, .none, (.int 185 0), (.int 1 0), (.str (hd.s "/claim/cut.py") 186)]), #[]⟩)))
 (n (boot_o_2 P)
 (n (boot_o_4 P)
 (f (boot_o_8 P))
 (f ⟨.none, none, (.fields #[]), #[]⟩))
 (n (boot_o_6 P)
 (f (boot_o_10 P))
 (f ⟨(.type "frame"), none, .plain, #[(some (.ref 13)), (some (.ref 3)), (some (.ref 3)), none, (some (.str (hd.s "__main__") 164)), none, (some (.ref 0))]⟩)))
noncomputable def hd.t1 (P : Params) : BT := let n := BT.node; let e := BT.nil; let f := fun o => BT.node o .nil .nil
  n (boot_o_0 P)
 (n (boot_o_1 P)
 (n ⟨(.type "dict"), none, (.dict #[hd.de P "__name__" 165 (.str (hd.s "law_ik0186_01") 415), hd.de P "__doc__" 166 .none, hd.de P "__package__" 167 .none, hd.de P "__loader__" 168 (.builtin "__main__.__loader__#opaque"), hd.de P "__spec__" 169 .none, hd.de P "__annotations__" 170 (.ref 6), hd.de P "__builtins__" 171 (.ref 4), hd.de P "__file__" 173 (.str (hd.s "/claim/cut.py") 172), hd.de P "__cached__" 174 .none, hd.de P "_wall" 193 (.ref 21), hd.de P "_plain_name" 204 (.ref 28), hd.de P "ABCMeta" 230 (.ref 45), hd.de P "_ABCLike" 273 (.ref 78), hd.de P "_abc_plain_meta" 280 (.ref 87), hd.de P "fspath" 292 (.ref 94), hd.de P "_check_arg_types" 305 (.ref 101), hd.de P "_get_sep" 314 (.ref 108), hd.de P "join" 325 (.ref 115), hd.de P "basename" 334 (.ref 122), hd.de P "dirname" 344 (.ref 129), hd.de P "commonpath" 350 (.ref 134), hd.de P "read_uint1" 360 (.ref 141), hd.de P "read_string1" 369 (.ref 148), hd.de P "_Example" 398 (.ref 165), hd.de P "sorted_list_difference" 414 (.ref 176), hd.de P "_law_taken" 425 (.ref 183), hd.de P "_law_stream" 433 (.ref 190), hd.de P "_law_name" 441 (.ref 197), hd.de P "_law_grown" 447 (.ref 202), hd.de P "_law_spelled" 457 (.ref 209), hd.de P "_law_line" 465 (.ref 216), hd.de P "_law_signs" 474 (.ref 223), hd.de P "_law_sides" 480 (.ref 228), hd.de P "_law_square" 486 (.ref 233), hd.de P "_law_minors" 492 (.ref 238), hd.de P "_law_due" 504 (.ref 245), hd.de P "law" 510 (.ref 250)] 37), #[]⟩
 (n (boot_o_7 P)
 (n ⟨(.type "tuple"), none, (.seq #[] 0), #[]⟩
 (n ⟨(.type "dict"), none, (.dict #[hd.de P "__module__" 214 (.str (hd.s "abc") 205), hd.de P "__qualname__" 216 (.str (hd.s "ABCMeta") 215), hd.de P "__firstlineno__" 218 (.int 11 217), hd.de P "register" 226 (.ref 42), hd.de P "__static_attributes__" 227 (.ref 43)] 5), #[]⟩
 (n ⟨.none, none, (.fields #[]), #[]⟩
 (f (hd.fu .none (hd.st 16) "dirname" 0 .none .none))
 (f ⟨(.type "tuple"), none, (.seq #[] 0), #[]⟩))
 (n ⟨(.type "tuple"), none, (.seq #[] 0), #[]⟩
 (f ⟨(.type "tuple"), none, (.seq #[] 0), #[]⟩)
 (f (hd.fu (.type "function") (hd.st 31) "_law_signs" 3 (.str (hd.s "law_ik0186_01") 415) (.ref 222)))))
 (n ⟨(.type "builtin_function_or_method"), none, (.fields #[(.builtin "object.__init_subclass__"), (.ref 45)]), #[]⟩
 (n ⟨(.type "super"), none, (.fields #[(.ref 78), (.ref 78), (.ref 78)]), #[]⟩
 (f ⟨.none, none, (.fields #[]), #[]⟩)
 (f (hd.fu .none (hd.st 29) "_law_spelled" 0 .none .none)))
 (n ⟨(.type "tuple"), none, (.seq #[(.str (hd.s "a") 318), (.str (hd.s "p") 319), (.str (hd.s "sep") 320), (.str (hd.s "path") 321), (.str (hd.s "b") 322)] 0), #[]⟩
 (f ⟨(.type "code"), none, (.fields #[(.str (hd.s "sorted_list_difference") 401), (.str (hd.s "sorted_list_difference") 402), (.str (hd.s "/claim/cut.py") 403), (.int 146 0), (.int 2 0), (.int 0 0), (.int 0 0), (.int 3 0), (.ref 170), (.bool true), (.int 181 0), (.ref 171), .none, (.ref 172), (.ref 173), (.ref 174), (.int 412 0), (.int 146 0), (.str (hd.s "/claim/cut.py") 413)]), #[]⟩)
 (f ⟨(.type "tuple"), none, (.seq #[] 0), #[]⟩))))
 (n ⟨.none, none, (.fields #[]), #[]⟩
 (n ⟨(.type "tuple"), none, (.seq #[] 0), #[]⟩
 (n ⟨(.type "tuple"), none, (.seq #[(.str (hd.s "cls") 265), (.str (hd.s "subclass") 266)] 0), #[]⟩
 (f ⟨(.type "tuple"), none, (.seq #[] 0), #[]⟩)
 (f ⟨.none, none, (.fields #[]), #[]⟩))
 (n ⟨.none, none, (.fields #[]), #[]⟩
 (f ⟨(.type "getset_descriptor"), none, (.fields #[(.str (hd.s "__weakref__") 394), (.ref 165), (.builtin "ExceptionGroup.__weakref__"), .none]), #[]⟩)
 (f (hd.fu .none (hd.st 33) "_law_square" 0 .none .none))))
 (n ⟨(.type "tuple"), none, (.seq #[] 0), #[]⟩
 (n (hd.fu (.type "function") (hd.st 7) "_abc_plain_meta" 3 (.str (hd.s "collections.abc") 231) (.ref 86))
 (f ⟨(.type "dict"), none, (.dict #[hd.de P "__module__" 377 (.str (hd.s "cpy313.pickletools") 351), hd.de P "__qualname__" 379 (.str (hd.s "_Example") 378), hd.de P "__firstlineno__" 381 (.int 141 380), hd.de P "__init__" 389 (.ref 162), hd.de P "__static_attributes__" 391 (.ref 163)] 5), #[]⟩)
 (f ⟨(.type "code"), none, (.fields #[(.str (hd.s "_law_line") 458), (.str (hd.s "_law_line") 459), (.str (hd.s "/claim/cut.py") 460), (.int 205 0), (.int 1 0), (.int 0 0), (.int 0 0), (.int 3 0), (.ref 210), (.bool true), (.int 181 0), (.ref 211), .none, (.ref 212), (.ref 213), (.ref 214), (.int 463 0), (.int 205 0), (.str (hd.s "/claim/cut.py") 464)]), #[]⟩))
 (n ⟨(.type "tuple"), none, (.seq #[] 0), #[]⟩
 (f (hd.fu (.type "function") (hd.st 25) "_law_taken" 3 (.str (hd.s "law_ik0186_01") 415) (.ref 182)))
 (f ⟨.none, none, (.fields #[]), #[]⟩)))))
 (n ⟨(.type "tuple"), none, (.seq #[] 0), #[]⟩
 (n (hd.fu .none (hd.st 0) "_wall" 0 .none .none)
 (n ⟨(.type "frame"), none, .plain, #[(some (.ref 34)), (some (.ref 3)), (some (.ref 31)), none, (some (.str (hd.s "abc") 205)), none, (some (.ref 0))]⟩
 (n ⟨(.type "code"), none, (.fields #[(.str (hd.s "__subclasscheck__") 254), (.str (hd.s "_ABCLike.__subclasscheck__") 255), (.str (hd.s "/claim/cut.py") 256), (.int 24 0), (.int 2 0), (.int 0 0), (.int 0 0), (.int 3 0), (.ref 62), (.bool true), (.int 181 0), (.ref 63), .none, (.ref 64), (.ref 65), (.ref 66), (.int 259 0), (.int 24 0), (.str (hd.s "/claim/cut.py") 260)]), #[]⟩
 (f ⟨.none, none, (.fields #[]), #[]⟩)
 (f (hd.fu .none (hd.st 27) "_law_name" 0 .none .none)))
 (n (hd.fu .none (hd.st 11) "_check_arg_types" 0 .none .none)
 (f ⟨(.type "tuple"), none, (.seq #[(.str (hd.s "value") 390)] 0), #[]⟩)
 (f ⟨(.type "code"), none, (.fields #[(.str (hd.s "_law_sides") 475), (.str (hd.s "_law_sides") 476), (.str (hd.s "/claim/cut.py") 477), (.int 216 0), (.int 2 0), (.int 0 0), (.int 0 0), (.int 3 0), (.ref 224), (.bool true), (.int 181 0), (.ref 225), .none, .none, .none, (.ref 226), (.int 478 0), (.int 216 0), (.str (hd.s "/claim/cut.py") 479)]), #[]⟩)))
 (n ⟨(.type "tuple"), none, (.seq #[] 0), #[]⟩
 (n ⟨(.type "tuple"), none, (.seq #[(.str (hd.s "C") 277)] 0), #[]⟩
 (f ⟨(.type "code"), none, (.fields #[(.str (hd.s "read_string1") 361), (.str (hd.s "read_string1") 362), (.str (hd.s "/claim/cut.py") 363), (.int 134 0), (.int 1 0), (.int 0 0), (.int 0 0), (.int 3 0), (.ref 142), (.bool true), (.int 181 0), (.ref 143), .none, (.ref 144), (.ref 145), (.ref 146), (.int 367 0), (.int 134 0), (.str (hd.s "/claim/cut.py") 368)]), #[]⟩)
 (f ⟨.none, none, (.fields #[]), #[]⟩))
 (n (hd.fu (.type "function") (hd.st 14) "join" 3 (.str (hd.s "cpy313.posixpath") 306) (.ref 114))
 (f ⟨(.type "tuple"), none, (.seq #[(.str (hd.s "stream") 420), (.str (hd.s "count") 421), (.str (hd.s "taken") 422)] 0), #[]⟩)
 (f (hd.fu .none (hd.st 35) "_law_due" 0 .none .none)))))
 (n ⟨(.type "code"), none, (.fields #[(.str (hd.s "_plain_name") 196), (.str (hd.s "_plain_name") 197), (.str (hd.s "/claim/cut.py") 198), (.int 5 0), (.int 2 0), (.int 0 0), (.int 0 0), (.int 3 0), (.ref 22), (.bool true), (.int 181 0), (.ref 23), .none, (.ref 24), (.ref 25), (.ref 26), (.int 202 0), (.int 5 0), (.str (hd.s "/claim/cut.py") 203)]), #[]⟩
 (n ⟨(.type "tuple"), none, (.seq #[] 0), #[]⟩
 (n (hd.fu (.type "function") (hd.ms 6 2) "_ABCLike.register" 3 (.str (hd.s "collections.abc") 231) (.ref 74))
 (f (hd.fu .none (hd.st 19) "read_uint1" 0 .none .none))
 (f ⟨(.type "tuple"), none, (.seq #[] 0), #[]⟩))
 (n ⟨(.type "code"), none, (.fields #[(.str (hd.s "_get_sep") 308), (.str (hd.s "_get_sep") 309), (.str (hd.s "/claim/cut.py") 310), (.int 64 0), (.int 1 0), (.int 0 0), (.int 0 0), (.int 3 0), (.ref 102), (.bool true), (.int 181 0), (.ref 103), .none, (.ref 104), (.ref 105), (.ref 106), (.int 312 0), (.int 64 0), (.str (hd.s "/claim/cut.py") 313)]), #[]⟩
 (f ⟨.none, none, (.fields #[]), #[]⟩)
 (f ⟨.none, none, (.fields #[]), #[]⟩)))
 (n (hd.fu .none (hd.ms 6 0) "_ABCLike.__instancecheck__" 0 .none .none)
 (n ⟨(.type "tuple"), none, (.seq #[] 0), #[]⟩
 (f ⟨(.type "frame"), none, .plain, #[(some (.ref 154)), (some (.ref 3)), (some (.ref 151)), none, (some (.str (hd.s "cpy313.pickletools") 351)), none, (some (.ref 0))]⟩)
 (f ⟨(.type "tuple"), none, (.seq #[(.str (hd.s "line") 469), (.str (hd.s "other") 470), (.str (hd.s "shared") 471)] 0), #[]⟩))
 (n ⟨(.type "tuple"), none, (.seq #[] 0), #[]⟩
 (f ⟨(.type "tuple"), none, (.seq #[(.str (hd.s "stream") 430)] 0), #[]⟩)
 (e))))))
 (n (boot_o_5 P)
 (n (boot_o_9 P)
 (n ⟨(.type "tuple"), none, (.seq #[(.str (hd.s "k") 190)] 0), #[]⟩
 (n ⟨.none, none, (.fields #[(.int 13 0), (.int 4 0), (.ref 41)]), #[]⟩
 (n ⟨(.type "tuple"), none, (.seq #[] 0), #[]⟩
 (f (hd.fu (.type "function") (hd.st 16) "dirname" 3 (.str (hd.s "cpy313.posixpath") 306) (.ref 128)))
 (f ⟨(.type "tuple"), none, (.seq #[(.str (hd.s "number") 437), (.str (hd.s "place") 438)] 0), #[]⟩))
 (n ⟨(.type "tuple"), none, (.seq #[(.str (hd.s "funcname") 298), (.str (hd.s "args") 299), (.str (hd.s "hasstr") 300), (.str (hd.s "hasbytes") 301), (.str (hd.s "s") 302)] 0), #[]⟩
 (f ⟨(.type "code"), none, (.fields #[(.str (hd.s "__init__") 382), (.str (hd.s "_Example.__init__") 383), (.str (hd.s "/claim/cut.py") 384), (.int 143 0), (.int 2 0), (.int 0 0), (.int 0 0), (.int 3 0), (.ref 156), (.bool true), (.int 181 0), (.ref 157), .none, (.ref 158), (.ref 159), (.ref 160), (.int 387 0), (.int 143 0), (.str (hd.s "/claim/cut.py") 388)]), #[]⟩)
 (f ⟨.none, none, (.fields #[]), #[]⟩)))
 (n ⟨(.type "builtin_function_or_method"), none, (.fields #[(.builtin "type.__prepare__"), (.type "type")]), #[]⟩
 (n ⟨(.type "tuple"), none, (.seq #[] 0), #[]⟩
 (f ⟨(.type "tuple"), none, (.seq #[] 0), #[]⟩)
 (f (hd.fu (.type "function") (hd.st 29) "_law_spelled" 3 (.str (hd.s "law_ik0186_01") 415) (.ref 208))))
 (n (hd.fu .none (hd.st 14) "join" 0 .none .none)
 (f ⟨(.type "tuple"), none, (.seq #[] 0), #[]⟩)
 (f ⟨(.type "tuple"), none, (.seq #[(.str (hd.s "weights") 496), (.str (hd.s "product") 497), (.str (hd.s "total") 498), (.str (hd.s "near") 499), (.str (hd.s "far") 500), (.str (hd.s "count") 501)] 0), #[]⟩))))
 (n ⟨(.type "tuple"), none, (.seq #[] 0), #[]⟩
 (n ⟨(.type "code"), none, (.fields #[(.str (hd.s "register") 219), (.str (hd.s "ABCMeta.register") 220), (.str (hd.s "/claim/cut.py") 221), (.int 13 0), (.int 2 0), (.int 0 0), (.int 0 0), (.int 3 0), (.ref 36), (.bool true), (.int 181 0), (.ref 37), .none, (.ref 38), (.ref 39), (.ref 40), (.int 224 0), (.int 13 0), (.str (hd.s "/claim/cut.py") 225)]), #[]⟩
 (n (hd.fu .none (hd.ms 6 2) "_ABCLike.register" 0 .none .none)
 (f ⟨(.type "tuple"), none, (.seq #[(.str (hd.s "f") 356), (.str (hd.s "data") 357)] 0), #[]⟩)
 (f ⟨(.type "code"), none, (.fields #[(.str (hd.s "_law_grown") 442), (.str (hd.s "_law_grown") 443), (.str (hd.s "/claim/cut.py") 444), (.int 189 0), (.int 1 0), (.int 0 0), (.int 0 0), (.int 3 0), (.ref 198), (.bool true), (.int 181 0), (.ref 199), .none, .none, .none, (.ref 200), (.int 445 0), (.int 189 0), (.str (hd.s "/claim/cut.py") 446)]), #[]⟩))
 (n ⟨(.type "tuple"), none, (.seq #[] 0), #[]⟩
 (f ⟨(.type "builtin_function_or_method"), none, (.fields #[(.builtin "object.__init_subclass__"), (.ref 165)]), #[]⟩)
 (f (hd.fu (.type "function") (hd.st 33) "_law_square" 3 (.str (hd.s "law_ik0186_01") 415) (.ref 232)))))
 (n ⟨(.type "tuple"), none, (.seq #[(.str (hd.s "cls") 248), (.str (hd.s "instance") 249), (.str (hd.s "C") 250)] 0), #[]⟩
 (n ⟨.none, none, (.fields #[]), #[]⟩
 (f ⟨.none, none, (.fields #[(.int 143 0), (.int 4 0), (.ref 161)]), #[]⟩)
 (f ⟨(.type "tuple"), none, (.seq #[] 0), #[]⟩))
 (n ⟨(.type "code"), none, (.fields #[(.str (hd.s "basename") 326), (.str (hd.s "basename") 327), (.str (hd.s "/claim/cut.py") 328), (.int 86 0), (.int 1 0), (.int 0 0), (.int 0 0), (.int 3 0), (.ref 116), (.bool true), (.int 181 0), (.ref 117), .none, (.ref 118), (.ref 119), (.ref 120), (.int 332 0), (.int 86 0), (.str (hd.s "/claim/cut.py") 333)]), #[]⟩
 (f ⟨.none, none, (.fields #[]), #[]⟩)
 (f ⟨(.type "code"), none, (.fields #[(.str (hd.s "law") 505), (.str (hd.s "law") 506), (.str (hd.s "/claim/cut.py") 507), (.int 238 0), (.int 1 0), (.int 0 0), (.int 0 0), (.int 3 0), (.ref 246), (.bool true), (.int 181 0), (.ref 247), .none, .none, .none, (.ref 248), (.int 508 0), (.int 238 0), (.str (hd.s "/claim/cut.py") 509)]), #[]⟩)))))
 (n ⟨(.type "code"), none, (.fields #[(.str (hd.s "<module>") 182), (.str (hd.s "<module>") 183), (.str (hd.s "/claim/cut.py") 184), (.int 1 0), (.int 0 0), (.int 0 0), (.int 0 0), (.int 0 0), (.ref 11), (.bool false), (.int 181 0), (.ref 12), .none, .none, .none, .none, (.int 185 0), (.int 1 0), (.str (hd.s "/claim/cut.py") 186)]), #[]⟩
 (n (hd.fu (.type "function") (hd.st 0) "_wall" 3 (.str (hd.s "__main__") 164) (.ref 20))
 (n ⟨.none, none, (.fields #[]), #[]⟩
 (n ⟨(.type "tuple"), none, (.seq #[] 0), #[]⟩
 (f ⟨(.type "code"), none, (.fields #[(.str (hd.s "commonpath") 345), (.str (hd.s "commonpath") 346), (.str (hd.s "/claim/cut.py") 347), (.int 99 0), (.int 1 0), (.int 0 0), (.int 0 0), (.int 3 0), (.ref 130), (.bool true), (.int 181 0), (.ref 131), .none, .none, .none, (.ref 132), (.int 348 0), (.int 99 0), (.str (hd.s "/claim/cut.py") 349)]), #[]⟩)
 (f (hd.fu (.type "function") (hd.st 27) "_law_name" 3 (.str (hd.s "law_ik0186_01") 415) (.ref 196))))
 (n (hd.fu (.type "function") (hd.st 11) "_check_arg_types" 3 (.str (hd.s "cpy313.genericpath") 293) (.ref 100))
 (f ⟨(.type "type"), none, (.cls { name := (hd.s "_Example"), bases := [(.type "object")], mro := [(.ref 165), (.type "object")], ns := 164, qualname := (hd.s "_Example") }), #[none, none, (some (.str (hd.s "_Example") 370)), (some (.str (hd.s "_Example") 378)), (some (.builtin "object.__new__")), (some (.bool true))]⟩)
 (f ⟨(.type "tuple"), none, (.seq #[] 0), #[]⟩)))
 (n ⟨(.type "code"), none, (.fields #[(.str (hd.s "_ABCLike") 235), (.str (hd.s "_ABCLike") 236), (.str (hd.s "/claim/cut.py") 237), (.int 16 0), (.int 0 0), (.int 0 0), (.int 0 0), (.int 0 0), (.ref 51), (.bool false), (.int 181 0), (.ref 52), .none, .none, .none, .none, (.int 238 0), (.int 16 0), (.str (hd.s "/claim/cut.py") 239)]), #[]⟩
 (n (hd.fu .none (hd.st 7) "_abc_plain_meta" 0 .none .none)
 (f ⟨(.type "tuple"), none, (.seq #[] 0), #[]⟩)
 (f ⟨(.type "tuple"), none, (.seq #[] 0), #[]⟩))
 (n ⟨.none, none, (.fields #[]), #[]⟩
 (f (hd.fu .none (hd.st 25) "_law_taken" 0 .none .none))
 (f (hd.fu (.type "function") (hd.st 35) "_law_due" 3 (.str (hd.s "law_ik0186_01") 415) (.ref 244))))))
 (n ⟨(.type "tuple"), none, (.seq #[(.type "type")] 0), #[]⟩
 (n ⟨(.type "type"), none, (.cls { name := (hd.s "ABCMeta"), bases := [(.type "type")], mro := [(.ref 45), (.type "type"), (.type "object")], ns := 44, qualname := (hd.s "ABCMeta"), subclasses := [(.ref 78)] }), #[(some (.ref 29)), none, (some (.str (hd.s "ABCMeta") 207)), (some (.str (hd.s "ABCMeta") 215)), (some (.builtin "type.__new__")), (some (.bool true))]⟩
 (n ⟨(.type "dict"), none, (.dict #[hd.de P "__module__" 240 (.str (hd.s "collections.abc") 231), hd.de P "__firstlineno__" 244 (.int 16 243), hd.de P "__instancecheck__" 253 (.ref 61), hd.de P "__subclasscheck__" 261 (.ref 68), hd.de P "register" 269 (.ref 75), hd.de P "__static_attributes__" 270 (.ref 76), hd.de P "__doc__" 271 .none] 2), #[]⟩
 (f (hd.fu (.type "function") (hd.st 19) "read_uint1" 3 (.str (hd.s "cpy313.pickletools") 351) (.ref 140)))
 (f ⟨(.type "tuple"), none, (.seq #[(.str (hd.s "numbers") 451), (.str (hd.s "texts") 452), (.str (hd.s "place") 453), (.str (hd.s "over") 454)] 0), #[]⟩))
 (n ⟨(.type "tuple"), none, (.seq #[] 0), #[]⟩
 (f ⟨(.type "tuple"), none, (.seq #[] 0), #[]⟩)
 (f ⟨(.type "code"), none, (.fields #[(.str (hd.s "_law_minors") 487), (.str (hd.s "_law_minors") 488), (.str (hd.s "/claim/cut.py") 489), (.int 221 0), (.int 1 0), (.int 0 0), (.int 0 0), (.int 3 0), (.ref 234), (.bool true), (.int 181 0), (.ref 235), .none, .none, .none, (.ref 236), (.int 490 0), (.int 221 0), (.str (hd.s "/claim/cut.py") 491)]), #[]⟩)))
 (n (hd.fu (.type "function") (hd.ms 6 0) "_ABCLike.__instancecheck__" 3 (.str (hd.s "collections.abc") 231) (.ref 60))
 (n ⟨(.type "code"), none, (.fields #[(.str (hd.s "fspath") 283), (.str (hd.s "fspath") 284), (.str (hd.s "/claim/cut.py") 285), (.int 35 0), (.int 1 0), (.int 0 0), (.int 0 0), (.int 3 0), (.ref 88), (.bool true), (.int 181 0), (.ref 89), .none, (.ref 90), (.ref 91), (.ref 92), (.int 290 0), (.int 35 0), (.str (hd.s "/claim/cut.py") 291)]), #[]⟩
 (f ⟨.none, none, (.fields #[]), #[]⟩)
 (f (hd.fu .none (hd.st 31) "_law_signs" 0 .none .none)))
 (n ⟨(.type "tuple"), none, (.seq #[(.str (hd.s "p") 338), (.str (hd.s "sep") 339), (.str (hd.s "i") 340), (.str (hd.s "head") 341)] 0), #[]⟩
 (f ⟨(.type "code"), none, (.fields #[(.str (hd.s "_law_stream") 426), (.str (hd.s "_law_stream") 427), (.str (hd.s "/claim/cut.py") 428), (.int 183 0), (.int 1 0), (.int 0 0), (.int 0 0), (.int 3 0), (.ref 184), (.bool true), (.int 181 0), (.ref 185), .none, (.ref 186), (.ref 187), (.ref 188), (.int 431 0), (.int 183 0), (.str (hd.s "/claim/cut.py") 432)]), #[]⟩)
 (e)))))))
 (n (boot_o_2 P)
 (n (boot_o_4 P)
 (n (boot_o_8 P)
 (n ⟨.none, none, (.fields #[]), #[]⟩
 (n ⟨(.type "tuple"), none, (.seq #[] 0), #[]⟩
 (n ⟨(.type "tuple"), none, (.seq #[(.str (hd.s "cls") 257), (.str (hd.s "C") 258)] 0), #[]⟩
 (f ⟨(.type "code"), none, (.fields #[(.str (hd.s "dirname") 335), (.str (hd.s "dirname") 336), (.str (hd.s "/claim/cut.py") 337), (.int 91 0), (.int 1 0), (.int 0 0), (.int 0 0), (.int 3 0), (.ref 123), (.bool true), (.int 181 0), (.ref 124), .none, (.ref 125), (.ref 126), (.ref 127), (.int 342 0), (.int 91 0), (.str (hd.s "/claim/cut.py") 343)]), #[]⟩)
 (f ⟨.none, none, (.fields #[]), #[]⟩))
 (n ⟨.none, none, (.fields #[]), #[]⟩
 (f (hd.fu .none (hd.ms 21 0) "_Example.__init__" 0 .none .none))
 (f ⟨(.type "tuple"), none, (.seq #[] 0), #[]⟩)))
 (n ⟨(.type "tuple"), none, (.seq #[(.ref 45)] 0), #[]⟩
 (n ⟨(.type "builtin_function_or_method"), none, (.fields #[(.builtin "object.__init_subclass__"), (.ref 78)]), #[]⟩
 (f ⟨(.type "tuple"), none, (.seq #[(.str (hd.s "f") 364), (.str (hd.s "n") 365), (.str (hd.s "data") 366)] 0), #[]⟩)
 (f ⟨(.type "code"), none, (.fields #[(.str (hd.s "_law_spelled") 448), (.str (hd.s "_law_spelled") 449), (.str (hd.s "/claim/cut.py") 450), (.int 199 0), (.int 1 0), (.int 0 0), (.int 0 0), (.int 3 0), (.ref 203), (.bool true), (.int 181 0), (.ref 204), .none, (.ref 205), (.ref 206), (.ref 207), (.int 455 0), (.int 199 0), (.str (hd.s "/claim/cut.py") 456)]), #[]⟩))
 (n ⟨(.type "tuple"), none, (.seq #[] 0), #[]⟩
 (f (hd.fu (.type "function") (hd.st 23) "sorted_list_difference" 3 (.str (hd.s "cpy313.unittest.util") 399) (.ref 175)))
 (f ⟨.none, none, (.fields #[]), #[]⟩))))
 (n ⟨(.type "tuple"), none, (.seq #[(.str (hd.s "x") 199), (.str (hd.s "what") 200), (.str (hd.s "kind") 201)] 0), #[]⟩
 (n (hd.fu .none (hd.ms 4 0) "ABCMeta.register" 0 .none .none)
 (n ⟨(.type "tuple"), none, (.seq #[] 0), #[]⟩
 (f ⟨.none, none, (.fields #[]), #[]⟩)
 (f (hd.fu .none (hd.st 28) "_law_grown" 0 .none .none)))
 (n ⟨(.type "tuple"), none, (.seq #[(.str (hd.s "path") 311)] 0), #[]⟩
 (f ⟨(.type "super"), none, (.fields #[(.ref 165), (.ref 165), (.ref 165)]), #[]⟩)
 (f ⟨(.type "code"), none, (.fields #[(.str (hd.s "_law_square") 481), (.str (hd.s "_law_square") 482), (.str (hd.s "/claim/cut.py") 483), (.int 218 0), (.int 1 0), (.int 0 0), (.int 0 0), (.int 3 0), (.ref 229), (.bool true), (.int 181 0), (.ref 230), .none, .none, .none, (.ref 231), (.int 484 0), (.int 218 0), (.str (hd.s "/claim/cut.py") 485)]), #[]⟩)))
 (n ⟨.none, none, (.fields #[]), #[]⟩
 (n ⟨(.type "tuple"), none, (.seq #[] 0), #[]⟩
 (f ⟨(.type "tuple"), none, (.seq #[] 0), #[]⟩)
 (f (hd.fu (.type "function") (hd.st 30) "_law_line" 3 (.str (hd.s "law_ik0186_01") 415) (.ref 215))))
 (n (hd.fu .none (hd.st 15) "basename" 0 .none .none)
 (f ⟨(.type "tuple"), none, (.seq #[] 0), #[]⟩)
 (f (hd.fu .none (hd.st 36) "law" 0 .none .none))))))
 (n ⟨.none, none, (.fields #[(.int 1 0), (.int 0 0), (.ref 20), (.int 5 0), (.int 0 0), (.ref 27), (.int 11 0), (.int 0 0), (.ref 34), (.int 16 0), (.int 0 0), (.ref 53), (.int 31 0), (.int 0 0), (.ref 86), (.int 35 0), (.int 0 0), (.ref 93), (.int 52 0), (.int 0 0), (.ref 100), (.int 64 0), (.int 0 0), (.ref 107), (.int 69 0), (.int 0 0), (.ref 114), (.int 86 0), (.int 0 0), (.ref 121), (.int 91 0), (.int 0 0), (.ref 128), (.int 99 0), (.int 0 0), (.ref 133), (.int 129 0), (.int 0 0), (.ref 140), (.int 134 0), (.int 0 0), (.ref 147), (.int 141 0), (.int 0 0), (.ref 154), (.int 146 0), (.int 0 0), (.ref 175), (.int 179 0), (.int 0 0), (.ref 182), (.int 183 0), (.int 0 0), (.ref 189), (.int 187 0), (.int 0 0), (.ref 196), (.int 189 0), (.int 0 0), (.ref 201), (.int 199 0), (.int 0 0), (.ref 208), (.int 205 0), (.int 0 0), (.ref 215), (.int 211 0), (.int 0 0), (.ref 222), (.int 216 0), (.int 0 0), (.ref 227), (.int 218 0), (.int 0 0), (.ref 232), (.int 221 0), (.int 0 0), (.ref 237), (.int 230 0), (.int 0 0), (.ref 244), (.int 238 0), (.int 0 0), (.ref 249)]), #[]⟩
 (n ⟨(.type "code"), none, (.fields #[(.str (hd.s "_wall") 187), (.str (hd.s "_wall") 188), (.str (hd.s "/claim/cut.py") 189), (.int 1 0), (.int 1 0), (.int 0 0), (.int 0 0), (.int 3 0), (.ref 15), (.bool true), (.int 181 0), (.ref 16), .none, (.ref 17), (.ref 18), (.ref 19), (.int 191 0), (.int 1 0), (.str (hd.s "/claim/cut.py") 192)]), #[]⟩
 (n ⟨(.type "tuple"), none, (.seq #[] 0), #[]⟩
 (n (hd.fu (.type "function") (hd.ms 6 1) "_ABCLike.__subclasscheck__" 3 (.str (hd.s "collections.abc") 231) (.ref 67))
 (f (hd.fu .none (hd.st 17) "commonpath" 0 .none .none))
 (f ⟨(.type "code"), none, (.fields #[(.str (hd.s "_law_name") 434), (.str (hd.s "_law_name") 435), (.str (hd.s "/claim/cut.py") 436), (.int 187 0), (.int 2 0), (.int 0 0), (.int 0 0), (.int 3 0), (.ref 191), (.bool true), (.int 181 0), (.ref 192), .none, (.ref 193), (.ref 194), (.ref 195), (.int 439 0), (.int 187 0), (.str (hd.s "/claim/cut.py") 440)]), #[]⟩))
 (n ⟨(.type "code"), none, (.fields #[(.str (hd.s "_check_arg_types") 295), (.str (hd.s "_check_arg_types") 296), (.str (hd.s "/claim/cut.py") 297), (.int 52 0), (.int 1 0), (.int 0 0), (.int 0 0), (.int 7 0), (.ref 95), (.bool true), (.int 181 0), (.ref 96), .none, (.ref 97), (.ref 98), (.ref 99), (.int 303 0), (.int 52 0), (.str (hd.s "/claim/cut.py") 304)]), #[]⟩
 (f ⟨(.type "dict"), none, (.dict #[hd.de P "__module__" 377 (.str (hd.s "cpy313.pickletools") 351), hd.de P "__firstlineno__" 381 (.int 141 380), hd.de P "__init__" 389 (.ref 162), hd.de P "__static_attributes__" 391 (.ref 163), hd.de P "__dict__" 393 (.ref 166), hd.de P "__weakref__" 395 (.ref 167), hd.de P "__doc__" 396 .none] 4), #[]⟩)
 (f (hd.fu (.type "function") (hd.st 32) "_law_sides" 3 (.str (hd.s "law_ik0186_01") 415) (.ref 227)))))
 (n ⟨.none, none, (.fields #[(.int 18 0), (.int 4 0), (.ref 60), (.int 24 0), (.int 4 0), (.ref 67), (.int 29 0), (.int 4 0), (.ref 74)]), #[]⟩
 (n ⟨(.type "tuple"), none, (.seq #[] 0), #[]⟩
 (f (hd.fu (.type "function") (hd.st 20) "read_string1" 3 (.str (hd.s "cpy313.pickletools") 351) (.ref 147)))
 (f ⟨(.type "tuple"), none, (.seq #[(.str (hd.s "path") 461), (.str (hd.s "line") 462)] 0), #[]⟩))
 (n ⟨(.type "tuple"), none, (.seq #[] 0), #[]⟩
 (f ⟨(.type "tuple"), none, (.seq #[] 0), #[]⟩)
 (f ⟨(.type "code"), none, (.fields #[(.str (hd.s "_law_due") 493), (.str (hd.s "_law_due") 494), (.str (hd.s "/claim/cut.py") 495), (.int 230 0), (.int 1 0), (.int 0 0), (.int 0 0), (.int 3 0), (.ref 239), (.bool true), (.int 181 0), (.ref 240), .none, (.ref 241), (.ref 242), (.ref 243), (.int 502 0), (.int 230 0), (.str (hd.s "/claim/cut.py") 503)]), #[]⟩))))
 (n (hd.fu (.type "function") (hd.st 2) "_plain_name" 3 (.str (hd.s "os") 194) (.ref 27))
 (n ⟨(.type "dict"), none, (.dict #[hd.de P "__module__" 214 (.str (hd.s "abc") 205), hd.de P "__firstlineno__" 218 (.int 11 217), hd.de P "register" 226 (.ref 42), hd.de P "__static_attributes__" 227 (.ref 43), hd.de P "__doc__" 228 .none] 2), #[]⟩
 (n ⟨(.type "tuple"), none, (.seq #[] 0), #[]⟩
 (f ⟨(.type "code"), none, (.fields #[(.str (hd.s "read_uint1") 353), (.str (hd.s "read_uint1") 354), (.str (hd.s "/claim/cut.py") 355), (.int 129 0), (.int 1 0), (.int 0 0), (.int 0 0), (.int 3 0), (.ref 135), (.bool true), (.int 181 0), (.ref 136), .none, (.ref 137), (.ref 138), (.ref 139), (.int 358 0), (.int 129 0), (.str (hd.s "/claim/cut.py") 359)]), #[]⟩)
 (f ⟨.none, none, (.fields #[]), #[]⟩))
 (n (hd.fu (.type "function") (hd.st 13) "_get_sep" 3 (.str (hd.s "cpy313.posixpath") 306) (.ref 107))
 (f ⟨(.type "tuple"), none, (.seq #[(.str (hd.s "expected") 404), (.str (hd.s "actual") 405), (.str (hd.s "i") 406), (.str (hd.s "j") 407), (.str (hd.s "missing") 408), (.str (hd.s "unexpected") 409), (.str (hd.s "e") 410), (.str (hd.s "a") 411)] 0), #[]⟩)
 (f (hd.fu .none (hd.st 34) "_law_minors" 0 .none .none))))
 (n ⟨(.type "code"), none, (.fields #[(.str (hd.s "__instancecheck__") 245), (.str (hd.s "_ABCLike.__instancecheck__") 246), (.str (hd.s "/claim/cut.py") 247), (.int 18 0), (.int 2 0), (.int 0 0), (.int 0 0), (.int 3 0), (.ref 55), (.bool true), (.int 181 0), (.ref 56), .none, (.ref 57), (.ref 58), (.ref 59), (.int 251 0), (.int 18 0), (.str (hd.s "/claim/cut.py") 252)]), #[]⟩
 (n (hd.fu .none (hd.st 9) "fspath" 0 .none .none)
 (f ⟨(.type "tuple"), none, (.seq #[] 0), #[]⟩)
 (f ⟨(.type "tuple"), none, (.seq #[] 0), #[]⟩))
 (n ⟨.none, none, (.fields #[]), #[]⟩
 (f (hd.fu .none (hd.st 26) "_law_stream" 0 .none .none))
 (e))))))
 (n (boot_o_6 P)
 (n (boot_o_10 P)
 (n ⟨(.type "tuple"), none, (.seq #[] 0), #[]⟩
 (n ⟨(.type "code"), none, (.fields #[(.str (hd.s "ABCMeta") 209), (.str (hd.s "ABCMeta") 210), (.str (hd.s "/claim/cut.py") 211), (.int 11 0), (.int 0 0), (.int 0 0), (.int 0 0), (.int 0 0), (.ref 32), (.bool false), (.int 181 0), (.ref 33), .none, .none, .none, .none, (.int 212 0), (.int 11 0), (.str (hd.s "/claim/cut.py") 213)]), #[]⟩
 (n (hd.fu .none (hd.ms 6 1) "_ABCLike.__subclasscheck__" 0 .none .none)
 (f ⟨(.type "tuple"), none, (.seq #[] 0), #[]⟩)
 (f ⟨(.type "tuple"), none, (.seq #[] 0), #[]⟩))
 (n ⟨(.type "tuple"), none, (.seq #[] 0), #[]⟩
 (f (hd.fu (.type "function") (hd.ms 21 0) "_Example.__init__" 3 (.str (hd.s "cpy313.pickletools") 351) (.ref 161)))
 (f (hd.fu .none (hd.st 32) "_law_sides" 0 .none .none))))
 (n ⟨(.type "dict"), none, (.dict #[hd.de P "__module__" 240 (.str (hd.s "collections.abc") 231), hd.de P "__qualname__" 242 (.str (hd.s "_ABCLike") 241), hd.de P "__firstlineno__" 244 (.int 16 243), hd.de P "__instancecheck__" 253 (.ref 61), hd.de P "__subclasscheck__" 261 (.ref 68), hd.de P "register" 269 (.ref 75), hd.de P "__static_attributes__" 270 (.ref 76)] 7), #[]⟩
 (n ⟨.none, none, (.fields #[]), #[]⟩
 (f (hd.fu .none (hd.st 20) "read_string1" 0 .none .none))
 (f ⟨(.type "tuple"), none, (.seq #[] 0), #[]⟩))
 (n ⟨(.type "code"), none, (.fields #[(.str (hd.s "join") 315), (.str (hd.s "join") 316), (.str (hd.s "/claim/cut.py") 317), (.int 69 0), (.int 1 0), (.int 0 0), (.int 0 0), (.int 7 0), (.ref 109), (.bool true), (.int 181 0), (.ref 110), .none, (.ref 111), (.ref 112), (.ref 113), (.int 323 0), (.int 69 0), (.str (hd.s "/claim/cut.py") 324)]), #[]⟩
 (f ⟨.none, none, (.fields #[]), #[]⟩)
 (f ⟨(.type "tuple"), none, (.seq #[] 0), #[]⟩))))
 (n (hd.fu .none (hd.st 2) "_plain_name" 0 .none .none)
 (n (hd.fu (.type "function") (hd.ms 4 0) "ABCMeta.register" 3 (.str (hd.s "abc") 205) (.ref 41))
 (n ⟨(.type "code"), none, (.fields #[(.str (hd.s "register") 262), (.str (hd.s "_ABCLike.register") 263), (.str (hd.s "/claim/cut.py") 264), (.int 29 0), (.int 2 0), (.int 0 0), (.int 0 0), (.int 3 0), (.ref 69), (.bool true), (.int 181 0), (.ref 70), .none, (.ref 71), (.ref 72), (.ref 73), (.int 267 0), (.int 29 0), (.str (hd.s "/claim/cut.py") 268)]), #[]⟩
 (f ⟨(.type "tuple"), none, (.seq #[] 0), #[]⟩)
 (f (hd.fu (.type "function") (hd.st 28) "_law_grown" 3 (.str (hd.s "law_ik0186_01") 415) (.ref 201))))
 (n (hd.fu .none (hd.st 13) "_get_sep" 0 .none .none)
 (f ⟨(.type "tuple"), none, (.seq #[] 0), #[]⟩)
 (f ⟨(.type "tuple"), none, (.seq #[] 0), #[]⟩)))
 (n ⟨(.type "tuple"), none, (.seq #[] 0), #[]⟩
 (n ⟨(.type "tuple"), none, (.seq #[(.str (hd.s "path") 286), (.str (hd.s "kind") 287), (.str (hd.s "hook") 288), (.str (hd.s "given") 289)] 0), #[]⟩
 (f ⟨(.type "code"), none, (.fields #[(.str (hd.s "_Example") 372), (.str (hd.s "_Example") 373), (.str (hd.s "/claim/cut.py") 374), (.int 141 0), (.int 0 0), (.int 0 0), (.int 0 0), (.int 0 0), (.ref 152), (.bool false), (.int 181 0), (.ref 153), .none, .none, .none, .none, (.int 375 0), (.int 141 0), (.str (hd.s "/claim/cut.py") 376)]), #[]⟩)
 (f ⟨.none, none, (.fields #[]), #[]⟩))
 (n (hd.fu (.type "function") (hd.st 15) "basename" 3 (.str (hd.s "cpy313.posixpath") 306) (.ref 121))
 (f ⟨(.type "tuple"), none, (.seq #[(.str (hd.s "octets") 429)] 0), #[]⟩)
 (f (hd.fu (.type "function") (hd.st 36) "law" 3 (.str (hd.s "law_ik0186_01") 415) (.ref 249)))))))
 (n ⟨(.type "frame"), none, .plain, #[(some (.ref 13)), (some (.ref 3)), (some (.ref 3)), none, (some (.str (hd.s "__main__") 164)), none, (some (.ref 0))]⟩
 (n ⟨(.type "tuple"), none, (.seq #[] 0), #[]⟩
 (n ⟨(.type "tuple"), none, (.seq #[(.str (hd.s "cls") 222), (.str (hd.s "subclass") 223)] 0), #[]⟩
 (n ⟨.none, none, (.fields #[]), #[]⟩
 (f (hd.fu (.type "function") (hd.st 17) "commonpath" 3 (.str (hd.s "cpy313.posixpath") 306) (.ref 133)))
 (f ⟨(.type "tuple"), none, (.seq #[] 0), #[]⟩))
 (n ⟨(.type "tuple"), none, (.seq #[] 0), #[]⟩
 (f ⟨(.type "getset_descriptor"), none, (.fields #[(.str (hd.s "__dict__") 392), (.ref 165), (.builtin "function.__dict__"), (.builtin "function.__dict__#set")]), #[]⟩)
 (f ⟨.none, none, (.fields #[]), #[]⟩)))
 (n ⟨(.type "frame"), none, .plain, #[(some (.ref 53)), (some (.ref 3)), (some (.ref 50)), none, (some (.str (hd.s "collections.abc") 231)), none, (some (.ref 0))]⟩
 (n ⟨(.type "code"), none, (.fields #[(.str (hd.s "_abc_plain_meta") 274), (.str (hd.s "_abc_plain_meta") 275), (.str (hd.s "/claim/cut.py") 276), (.int 31 0), (.int 1 0), (.int 0 0), (.int 0 0), (.int 3 0), (.ref 81), (.bool true), (.int 181 0), (.ref 82), .none, (.ref 83), (.ref 84), (.ref 85), (.int 278 0), (.int 31 0), (.str (hd.s "/claim/cut.py") 279)]), #[]⟩
 (f ⟨(.type "builtin_function_or_method"), none, (.fields #[(.builtin "type.__prepare__"), (.type "type")]), #[]⟩)
 (f (hd.fu .none (hd.st 30) "_law_line" 0 .none .none)))
 (n ⟨(.type "tuple"), none, (.seq #[(.str (hd.s "p") 329), (.str (hd.s "sep") 330), (.str (hd.s "i") 331)] 0), #[]⟩
 (f ⟨(.type "code"), none, (.fields #[(.str (hd.s "_law_taken") 417), (.str (hd.s "_law_taken") 418), (.str (hd.s "/claim/cut.py") 419), (.int 179 0), (.int 2 0), (.int 0 0), (.int 0 0), (.int 3 0), (.ref 177), (.bool true), (.int 181 0), (.ref 178), .none, (.ref 179), (.ref 180), (.ref 181), (.int 423 0), (.int 179 0), (.str (hd.s "/claim/cut.py") 424)]), #[]⟩)
 (f ⟨(.type "tuple"), none, (.seq #[] 0), #[]⟩))))
 (n ⟨(.type "builtin_function_or_method"), none, (.fields #[(.builtin "type.__prepare__"), (.type "type")]), #[]⟩
 (n ⟨(.type "super"), none, (.fields #[(.ref 45), (.ref 45), (.ref 45)]), #[]⟩
 (n ⟨(.type "type"), none, (.cls { name := (hd.s "_ABCLike"), bases := [(.ref 45)], mro := [(.ref 78), (.ref 45), (.type "type"), (.type "object")], ns := 77, qualname := (hd.s "_ABCLike") }), #[(some (.ref 48)), none, (some (.str (hd.s "_ABCLike") 233)), (some (.str (hd.s "_ABCLike") 241)), (some (.builtin "type.__new__")), (some (.bool true))]⟩
 (f ⟨(.type "tuple"), none, (.seq #[] 0), #[]⟩)
 (f ⟨(.type "tuple"), none, (.seq #[] 0), #[]⟩))
 (n ⟨.none, none, (.fields #[]), #[]⟩
 (f (hd.fu .none (hd.st 23) "sorted_list_difference" 0 .none .none))
 (f (hd.fu (.type "function") (hd.st 34) "_law_minors" 3 (.str (hd.s "law_ik0186_01") 415) (.ref 237)))))
 (n ⟨(.type "tuple"), none, (.seq #[] 0), #[]⟩
 (n (hd.fu (.type "function") (hd.st 9) "fspath" 3 (.str (hd.s "os") 281) (.ref 93))
 (f ⟨(.type "tuple"), none, (.seq #[(.str (hd.s "self") 385), (.str (hd.s "value") 386)] 0), #[]⟩)
 (f ⟨(.type "code"), none, (.fields #[(.str (hd.s "_law_signs") 466), (.str (hd.s "_law_signs") 467), (.str (hd.s "/claim/cut.py") 468), (.int 211 0), (.int 2 0), (.int 0 0), (.int 0 0), (.int 3 0), (.ref 217), (.bool true), (.int 181 0), (.ref 218), .none, (.ref 219), (.ref 220), (.ref 221), (.int 472 0), (.int 211 0), (.str (hd.s "/claim/cut.py") 473)]), #[]⟩))
 (n ⟨(.type "tuple"), none, (.seq #[] 0), #[]⟩
 (f (hd.fu (.type "function") (hd.st 26) "_law_stream" 3 (.str (hd.s "law_ik0186_01") 415) (.ref 189)))
 (e)))))))
noncomputable abbrev hd.h1 (P : Params) : Heap := absHeap (hd.t1 P) 251 {}
noncomputable abbrev hd.env : Env := { scope := hd.p.main.scope, locals := mainNs, globals := mainNs, cells := [], code := .ref 13, frame := some 14 }
noncomputable abbrev hd.c : Code := .body (behindTheImports hd.p) hd.env
noncomputable abbrev hd.bk : List Frame := [topFrame ⟨0, 0, 0, 0⟩]
set_option maxRecDepth 100000 in
theorem hd.pre : ∀ (w : World) (os : OsState), topGo treeTable hd.p w 11 (some (.ref 6)) 12 ⟨boot_heap w.params, #[], boot_drawn, boot_toks, os⟩ (topStub hd.p) = some (⟨absHeap (hd.t0 w.params) 15 {}, #[], ⟨0, 0, 0, 0⟩, 187, os⟩, ⟨denote treeTable hd.c, hd.c, ⟨0, 0, 0, 0⟩, hd.bk⟩) := by
  intro w os
  kernel_rfl
set_option maxRecDepth 100000 in
theorem hd.block : ∀ (w : World) (os : OsState), segRun treeTable hd.p w 11 (some (.ref 6)) 1 1 ⟨absHeap (hd.t0 w.params) 15 {}, #[], ⟨0, 0, 0, 0⟩, 187, os⟩ (blockOf (behindTheImports hd.p) hd.env hd.c ⟨0, 0, 0, 0⟩ hd.bk) = some (.next, ⟨absHeap (hd.t0 w.params) 15 {}, #[], ⟨0, 0, 0, 0⟩, 187, os⟩, hd.c, ⟨0, 0, 0, 0⟩) := by
  intro w os
  kernel_rfl
set_option maxRecDepth 100000 in
theorem hd.go (w : World) (os : OsState) : segRunT treeTable hd.p w 11 (some (.ref 6)) 1 1572 ⟨hd.t0 w.params, 15, {}, #[], ⟨0, 0, 0, 0⟩, 187, os⟩ ⟨(execs (behindTheImports hd.p) hd.env).wrap doneF deadEnd id id, hd.c, ⟨0, 0, 0, 0⟩, hd.bk⟩ = some (.next, ⟨hd.t1 w.params, 251, {}, #[], ⟨0, 0, 0, 0⟩, 511, os⟩, hd.c, ⟨238, 0, 254, 81⟩) := by
  rw [Fast.te10110043849684766642, Fast.te14364793385576792824, Fast.te12563942051412417395]
  kernel_rfl
set_option maxRecDepth 100000 in
theorem hd.fin (w : World) (os : OsState) : topRun treeTable hd.p w 11 (some (.ref 6)) 2 ⟨hd.h1 w.params, #[], ⟨0, 0, 0, 0⟩, 511, os⟩ ⟨doneF .next, hd.c, ⟨238, 0, 254, 81⟩, hd.bk⟩ = some ⟨hd.h1 w.params, #[], ⟨0, 0, 0, 0⟩, 511, os⟩ := by
  kernel_rfl
theorem hd.run (w : World) (os : OsState) : topRun treeTable hd.p w 11 (some (.ref 6)) (12 + (1 + (1572 + 2))) ⟨boot_heap w.params, #[], boot_drawn, boot_toks, os⟩ (topStub hd.p) = some ⟨hd.h1 w.params, #[], ⟨0, 0, 0, 0⟩, 511, os⟩ := by
  refine go_top (hd.pre w os) (piece_block (hd.block w os) ?_)
  rw [← List.append_nil (behindTheImports hd.p)]
  exact piece_app (segRun_of (hd.go w os)) (piece_nil (hd.fin w os))
noncomputable abbrev hd.xt (s : Shared) : Bool := xlAt hd.view_39 [] s && recOk (RowW.records PySem.Challenge.rw_ik0186_01.row.toRowW) s
set_option maxRecDepth 100000 in
theorem hd.first (w : World) (os : OsState) : (staticsOk (importedModules hd.p.main.body) (boot_heap w.params) (hd.h1 w.params) && namesBound hd.p (hd.h1 w.params) && gensDone ⟨hd.h1 w.params, #[], ⟨0, 0, 0, 0⟩, 511, os⟩ && laidKept (boot_heap w.params) (hd.h1 w.params)) = true := by
  kernel_rfl
set_option maxRecDepth 100000 in
theorem hd.look (w : World) (os : OsState) : openSeen hd.view_39 [] (importedModules hd.p.main.body) hd.xt true ⟨hd.h1 w.params, #[], ⟨0, 0, 0, 0⟩, 511, os⟩ = openGood hd.view_39 [] := by
  rw [Fast.te4187177175401517315]
  kernel_rfl
set_option maxRecDepth 100000 in
theorem hd.seen (w : World) (os : OsState) : hd.hook.obs ⟨hd.h1 w.params, #[], ⟨0, 0, 0, 0⟩, 511, os⟩ = hd.hook.val w := by
  kernel_rfl
set_option maxRecDepth 100000 in
theorem hd.size (w : World) : ((boot_heap w.params).isNs mainGlobals && (Array.mk [] : Array GenState).size == 0, (boot_heap w.params).objs.size, (boot_heap w.params).nsMap mainGlobals "__annotations__") = (true, 11, some (.ref 6)) := by
  kernel_rfl
set_option maxRecDepth 100000 in
theorem hd.open0 : opening hd.p = plainProg hd.p.main.scope.names := by kernel_rfl
set_option maxRecDepth 100000 in
theorem hd.fence (s : Shared) : fenceModules? hd.p s = some s := by kernel_rfl
theorem hd.left : LeftO PySem.Challenge.rw_ik0186_01.row.prog hd.view_39 [] hd.xt hd.hook.obs hd.hook.val 3268 :=
  LeftO.of_pieces (H₀ := boot_heap) (H₁ := hd.h1) (boot_open hd.open0 rfl hd.fence) hd.size hd.run rfl fun w => funext fun os => Prod.ext (hd.first w os) (Prod.ext (hd.look w os) (hd.seen w os))
noncomputable abbrev hd.lk (bare : List Str) : Look := { strict := false, foot := none, bare := bare }
theorem hd.road_app {lk : Look} {b : List Stmt} : ∀ {a : List Stmt}, noRoadLSs lk a = true → noRoadLSs lk b = true → noRoadLSs lk (a ++ b) = true
  | [], _, h => h
  | s :: a, h, k =>
    have h : (noRoadLS lk s && noRoadLSs lk a) = true := h
    show (noRoadLS lk s && noRoadLSs lk (a ++ b)) = true from look_both (Bool.and_eq_true_iff.mp h).1 (hd.road_app (Bool.and_eq_true_iff.mp h).2 k)
set_option maxRecDepth 100000 in
theorem hd.road0 : noRoadLSs (hd.lk []) (hd.p.main.body.take 24) = true := by
  rw [Fast.te8326940854005059898]
  kernel_rfl
set_option maxRecDepth 100000 in
theorem hd.road1 : noRoadLSs (hd.lk []) (hd.p.main.body.drop 24) = true := by
  rw [Fast.te8326940854005059898]
  kernel_rfl
set_option maxRecDepth 100000 in
theorem hd.out0 : readsOut hd.p hd.p.main.body ("vars" : Str) = false := by
  unfold readsOut
  rw [Fast.te17119622794617984870]
  kernel_rfl
set_option maxRecDepth 100000 in
theorem hd.out1 : readsOut hd.p hd.p.main.body ("dir" : Str) = false := by
  unfold readsOut
  rw [Fast.te17119622794617984870]
  kernel_rfl
set_option maxRecDepth 100000 in
theorem hd.out2 : readsOut hd.p hd.p.main.body ("locals" : Str) = false := by
  unfold readsOut
  rw [Fast.te17119622794617984870]
  kernel_rfl
set_option maxRecDepth 100000 in
theorem hd.strict : (!(importedModules hd.p.main.body).all cThrough.contains) = false := by
  kernel_rfl
theorem hd.bare : (["vars", "dir", "locals"] : List Str).filter (readsOut hd.p hd.p.main.body) = [] := by
  rw [List.filter_cons_of_neg (by rw [hd.out0]; decide), List.filter_cons_of_neg (by rw [hd.out1]; decide), List.filter_cons_of_neg (by rw [hd.out2]; decide)]
  rfl
theorem hd.road : noRoadLSs { strict := !(importedModules hd.p.main.body).all cThrough.contains, foot := none, bare := (["vars", "dir", "locals"] : List Str).filter (readsOut hd.p hd.p.main.body) } hd.p.main.body = true := by
  rw [hd.strict, hd.bare]
  exact (congrArg (noRoadLSs (hd.lk [])) (List.take_append_drop 24 hd.p.main.body)).symm.trans (hd.road_app hd.road0 hd.road1)
set_option maxRecDepth 100000 in
theorem hd.reso : namesResolve hd.p = true := by
  rw [Fast.te8377067652309620493]
  kernel_rfl
set_option maxRecDepth 100000 in
theorem hd.meet : (namesMeet hd.p hd.p.main.body fun _ n => attrL n) = true := by
  rw [Fast.te17119622794617984870]
  kernel_rfl
set_option maxRecDepth 100000 in
theorem hd.cls : (noClassBlock PySem.Challenge.rw_ik0186_01.prog PySem.Challenge.rw_ik0186_01.footing) = true := by
  rw [Fast.te8179353310426384613]
  kernel_rfl
set_option maxRecDepth 100000 in
theorem hd.foot : (noRoadLSs { strict := true, foot := some PySem.Challenge.rw_ik0186_01.bound', writes := PySem.Challenge.rw_ik0186_01.writes, may := PySem.Challenge.rw_ik0186_01.may } PySem.Challenge.rw_ik0186_01.footing) = true := by
  rw [Fast.te8326940854005059898]
  kernel_rfl
set_option maxRecDepth 100000 in
theorem hd.nams : (PySem.Challenge.rw_ik0186_01.namesIt) = true := by
  rw [Fast.te16286561074155671207]
  kernel_rfl
set_option maxRecDepth 100000 in
theorem hd.bnd : (PySem.Challenge.rw_ik0186_01.bound'.all fun n => !builtinNamed n || PySem.Challenge.rw_ik0186_01.about == [n] || !PySem.Challenge.rw_ik0186_01.reads n) = true := by
  rw [Fast.named_eq]
  kernel_rfl
set_option maxRecDepth 100000 in
theorem hd.meet1 : (namesMeet PySem.Challenge.rw_ik0186_01.prog PySem.Challenge.rw_ik0186_01.footing (fun sc n => (!(["type", "isinstance", "issubclass", "getattr", "hasattr"] : List Str).contains n || sc.names.lookup n == some .globalImplicit) && (PySem.Challenge.rw_ik0186_01.may != some n || sc.kind == .module || sc.names.lookup n == some .globalImplicit))) = true := by
  rw [Fast.te17119622794617984870]
  kernel_rfl
set_option maxRecDepth 100000 in
theorem hd.own : (PySem.Challenge.rw_ik0186_01.own.all fun n => !builtinNamed n) = true := by
  rw [Fast.named_eq]
  kernel_rfl
set_option maxRecDepth 100000 in
theorem hd.meet2 : (namesMeet PySem.Challenge.rw_ik0186_01.prog PySem.Challenge.rw_ik0186_01.above fun _ n => !PySem.Challenge.rw_ik0186_01.own.contains n) = true := by
  rw [Fast.te17119622794617984870]
  kernel_rfl
set_option maxRecDepth 100000 in
theorem hd.meet3 : (namesMeet PySem.Challenge.rw_ik0186_01.prog PySem.Challenge.rw_ik0186_01.footing fun sc n => sc.kind == .module || sc.names.lookup n != some .globalExplicit) = true := by
  rw [Fast.te17119622794617984870]
  kernel_rfl
set_option maxRecDepth 100000 in
theorem hd.said : PySem.Challenge.rw_ik0186_01.wellSaid = true := by
  unfold OpenLaw.wellSaid OpenRow.wellSaid OpenRow.partSaid looksOpen
  repeat' with_reducible refine look_both ?_ ?_
  all_goals first | with_reducible exact hd.road | with_reducible exact hd.reso | with_reducible exact hd.meet | with_reducible exact hd.cls | with_reducible exact hd.foot | with_reducible exact hd.nams | with_reducible exact hd.bnd | with_reducible exact hd.meet1 | with_reducible exact hd.own | with_reducible exact hd.meet2 | with_reducible exact hd.meet3 | kernel_rfl
set_option maxRecDepth 100000 in
theorem hd.whole : hd.p.tablesWhole = true := by
  show TablesWhole.wProgram TablesWhole.holds hd.p = true
  unfold TablesWhole.wProgram
  rw [Fast.te6116379765354995101]
  kernel_rfl
theorem sub_nil {α : Type} {l : List α} : ∀ p ∈ ([] : List α), p ∈ l := fun _ h => nomatch h
theorem sub_cons {α : Type} {a : α} {l l' : List α} (h : a ∈ l) (t : ∀ p ∈ l', p ∈ l) : ∀ p ∈ a :: l', p ∈ l := fun p hp => by
  rcases List.mem_cons.mp hp with rfl | hp
  · exact h
  · exact t p hp
theorem subs_app {α : Type} {l1 l2 l : List α} (h : ∀ p ∈ l1, p ∈ l) (t : ∀ p ∈ l2, p ∈ l) : ∀ p ∈ l1 ++ l2, p ∈ l := fun p hp => (List.mem_append.mp hp).elim (h p) (t p)
theorem sub_keep {α : Type} {a : α} {l l' : List α} (t : ∀ p ∈ l', p ∈ l) : ∀ p ∈ a :: l', p ∈ a :: l := fun p hp => by
  rcases List.mem_cons.mp hp with rfl | hp
  · exact List.mem_cons_self
  · exact List.mem_cons_of_mem _ (t p hp)
theorem sub_skip {α : Type} {a : α} {l l' : List α} (t : ∀ p ∈ l', p ∈ l) : ∀ p ∈ l', p ∈ a :: l := fun p hp => List.mem_cons_of_mem _ (t p hp)
theorem sub_keepA {α : Type} {l1 l l' : List α} (t : ∀ p ∈ l', p ∈ l) : ∀ p ∈ l1 ++ l', p ∈ l1 ++ l := fun p hp => (List.mem_append.mp hp).elim (fun h => List.mem_append_left _ h) fun h => List.mem_append_right _ (t p h)
theorem sub_refl {α : Type} {l : List α} : ∀ p ∈ l, p ∈ l := fun _ h => h
noncomputable abbrev fnSc (ns : List (Str × NameKind)) (g c : Bool) (mr : List (Str × Const)) : Scope := { kind := .function, names := ns, isGenerator := g, isCoroutine := c, more := mr }

noncomputable abbrev Con (w : World) (loose : List Str) (mean : ExcName → Option Value) (mg mb : Str → Option Value) (k : Nat) (f : Addr) (led : List (Addr × Obj)) (vs : List Value) (Post : Heap → Heap → Value → Prop) : Prop :=
  ∀ (dp un : Nat) (gd : Option (List Code)) (cn : Str) (ns : List (Str × NameKind)) (ig ic : Bool) (mr : List (Str × Const)) (a : Addr) (ccd : Value) (cl : List (Str × Addr)) (outer : List Env) (A₀ : Around) (base h₀ : Heap) (L : Addr) (m : Str → Option Value) (s : Shared) (Q E : Value → Shared → Prop),
    Below A₀ base outer h₀ → Fr h₀ L s.heap m → (Mine.hd.heap_39 w.params).In h₀ → News h₀ L s.heap led → Top topProg loose mean mg mb h₀ →
    dp + k < recursionLimit → un + 8 * k < cLine → (∀ (v : Value) (h' : Heap) (tk' : Nat), s.heap.StaysIn h' → Post s.heap h' v → Q v { s with heap := h', toks := tk' }) →
    wpAny (model PySem.Challenge.rw_ik0186_01.row.prog w) (ktrTop dp un gd cn (fnSc ns ig ic mr) L a ccd cl outer) (call (.ref f) vs) Q E s

section
variable {w : World} {loose : List Str} {mean : ExcName → Option Value} {mg mb : Str → Option Value} {led news : List (Addr × Obj)} {f : Addr} {k : Nat} {vs : List Value} {Post : Heap → Heap → Value → Prop}
  {dp un : Nat} {gd : Option (List Code)} {cn : Str} {ns : List (Str × NameKind)} {ig ic : Bool} {mr : List (Str × Const)} {a : Addr} {ccd : Value} {cl : List (Str × Addr)} {outer : List Env} {A₀ : Around} {base h₀ : Heap} {L : Addr} {m : Str → Option Value} {s : Shared} {Q E : Value → Shared → Prop}

theorem news_sub {h : Heap} {l l' : List (Addr × Obj)} (N : News h₀ L h l) (hs : ∀ p ∈ l', p ∈ l) : News h₀ L h l' := fun p hp => N p (hs p hp)
theorem con_use (C : Con w loose mean mg mb k f led vs Post) (B : Below A₀ base outer h₀) (F : Fr h₀ L s.heap m) (X : (Mine.hd.heap_39 w.params).In h₀) (N : News h₀ L s.heap news) (T : Top topProg loose mean mg mb h₀)
    (hs : ∀ p ∈ led, p ∈ news) (hd : dp + k < recursionLimit) (hu : un + 8 * k < cLine)
    (ret : ∀ (v : Value) (h' : Heap) (tk' : Nat), Fr h₀ L h' m → News h₀ L h' news → s.heap.StaysIn h' → Post s.heap h' v → Q v { s with heap := h', toks := tk' }) :
    wpAny (model PySem.Challenge.rw_ik0186_01.row.prog w) (ktrTop dp un gd cn (fnSc ns ig ic mr) L a ccd cl outer) (call (.ref f) vs) Q E s :=
  C _ _ _ _ _ _ _ _ _ _ _ _ _ _ _ _ _ _ _ _ B F X (news_sub N hs) T hd hu fun v h' tk' hst hp => ret v h' tk' (F.keeps hst) (fun p hp => ⟨hst _ _ (N p hp).1, (N p hp).2⟩) hst hp

theorem con_useC (B : Below A₀ base outer h₀) (F : Fr h₀ L s.heap m) (X : (Mine.hd.heap_39 w.params).In h₀) (N : News h₀ L s.heap news) (T : Top topProg loose mean mg mb h₀)
    (hs : ∀ p ∈ led, p ∈ news) (hd : dp + k < recursionLimit) (hu : un + 8 * k < cLine) (C : Con w loose mean mg mb k f led vs Post)
    (ret : ∀ (v : Value) (h' : Heap) (tk' : Nat), Fr h₀ L h' m → News h₀ L h' news → s.heap.StaysIn h' → Post s.heap h' v → Q v { s with heap := h', toks := tk' }) :
    wpAny (model PySem.Challenge.rw_ik0186_01.row.prog w) (ktrTop dp un gd cn (fnSc ns ig ic mr) L a ccd cl outer) (call (.ref f) vs) Q E s :=
  con_use C B F X N T hs hd hu ret
theorem and_t1 {a : Prop} (h : a ∧ True) : a := h.1
theorem and_t2 {a b : Prop} (h : a ∧ b ∧ True) : a ∧ b := ⟨h.1, h.2.1⟩
theorem stays_of {H H' g : Heap} {L' : Addr} {m' : Str → Option Value} (G : GSub H g (led.map (·.1))) (N : News h₀ L H led) (F' : Fr g L' H' m') (N' : News g L' H' news) (hs : ∀ p ∈ led, p ∈ news) : H.StaysIn H' := fun b o e => by
  by_cases hb : b ∈ led.map (·.1)
  · obtain ⟨p, hp, rfl⟩ := List.mem_map.mp hb
    have h1 := (N p hp).1
    rw [e] at h1
    cases h1
    exact (N' p (hs p hp)).1
  · exact F'.keep b o (G b o e hb)
theorem leave_con {H g : Heap} {L' : Addr} {m' : Str → Option Value} {R : Result → Shared → Prop} {v : Value} {s' : Shared} (G : GSub H g (led.map (·.1))) (N : News h₀ L H led) (F' : Fr g L' s'.heap m') (N' : News g L' s'.heap news) (hs : ∀ p ∈ led, p ∈ news)
    (k : H.StaysIn s'.heap → R (.ok (.ret v)) s') : LeaveK h₀ L m g R v s' :=
  ⟨L', m', news, F', N', fun _ _ => k (stays_of G N F' N' hs)⟩
end
local macro_rules | `(tactic| walk_at $s:str) => `(tactic| k_extra $s)
local macro_rules | `(tactic| k_lt $h:ident) => `(tactic| (replace $h := allLt_of $h; dsimp only [AllLt] at $h:ident))
local macro_rules | `(tactic| k_room) => `(tactic| k_extra "k_room")
local macro_rules | `(tactic| k_ne) => `(tactic| k_extra "k_ne")
local macro_rules | `(tactic| k_all) => `(tactic| k_extra "k_all")
local macro_rules | `(tactic| lcg_off) => `(tactic| k_extra "lcg_off")
local macro_rules | `(tactic| lcg_src) => `(tactic| k_extra "lcg_src")
theorem kw_fill : PySem.Challenge.rw_ik0186_01 = PySem.Challenge.rw_ik0186_01 ∧ Mine.hd.heap_39 = Mine.hd.heap_39 := by
  k_fill
  exact ⟨rfl, rfl⟩
section
variable {prog : Program} {w : World} {A₀ A : Around} {s : Shared} {base h₀ : Heap} {outer : List Env} {L : Addr} {m : Str → Option Value} {env : Env} {news : List (Addr × Obj)} {K : Frag} {p : Program} {loose : List Str} {mean : ExcName → Option Value} {mg mb : Str → Option Value}
  {R : Result → Shared → Prop} {name qual : Str} {params : Arguments} {body : List Stmt} {scope : Scope} {dV kV doc pm cdv ct oc : Value} {an od : Option Addr} {osl : Array (Option Value)} {f : Addr} {args : Args} {binds : List (Str × Value)}

theorem enter_cells (B : Below A₀ base outer h₀) (F : Fr h₀ L s.heap m) (X₀ : K.In h₀) (N : News h₀ L s.heap news) (T : Top p loose mean mg mb h₀) (hA : A.frames = some (env :: outer)) (hf : env.frame = some L) (hke : env.scope.kind = .function)
    (ho : K.lookup f = some ⟨oc, od, .func (fnOf name qual params body scope dV kV doc pm an cdv ct), osl⟩) (hcd : codeIn K cdv qual = true) (hroom : A.depth < recursionLimit)
    (hbind : BindsTo s (fnOf name qual params body scope dV kV doc pm an cdv ct) args binds) (hkind : (binds.all fun y => scope.names.lookup y.1 == some .local || scope.names.lookup y.1 == some .cell) = true)
    (hnd : ((cellsFrom 0 scope.names []).map (·.1)).Nodup)
    (h : ∀ g L' h₁ tk cells, Fr h₀ L g m → Fr g L' h₁ (bindL (envOfC qual scope L' f cdv).kindOf binds fun _ => none) → News g L' h₁ (cells ++ news) →
      CellsAre (bindC (envOfC qual scope L' f cdv).kindOf binds fun _ => none) (cellsFrom (L' + 1) scope.names []) cells → Below A base (env :: outer) g → K.In g → Top p loose mean mg mb g → (∀ p ∈ news, p.1 < L') → GSub s.heap g (news.map (·.1)) →
      wpAny (model prog w) (A.deeper (envOfC qual scope L' f cdv)) (execs body (envOfC qual scope L' f cdv))
        (fun fl s' => LeaveK h₀ L m g R (match fl with | .ret v => v | _ => .none) s')
        (fun e s' => wpAny (model prog w) (A.deeper (envOfC qual scope L' f cdv)) (leaving (envOfC qual scope L' f cdv) e) (fun _ s'' => R (.error e) s'') (fun e' s'' => R (.error e') s'') s')
        { s with heap := h₁, toks := tk })
    (hco : scope.isCoroutine = false) (hgen : scope.isGenerator = false) (hk : scope.kind = .function) : codeAny (model prog w) A (.call (.ref f) args) R s := by
  have X := X₀.keeps F.keep
  obtain ⟨FG, BG, st, lv⟩ := groundX (R := R) B F N hA hf hke
  refine codeAny_call_function (fd := fnX name qual params body scope [] dV kV doc pm an cdv ct) hroom (X _ _ ho) rfl hco hgen rfl (codeRec_of X hcd) (hbind _ _ _ _ ?_)
  refine wpAny_newFunctionEnv_cells hk (kindsX hkind _) fun env' he s' x => ?_
  subst he
  have old := x.toInCall.keep
  refine ⟨(T.nolimit.keeps F.keep).keeps old, codeAny_func ?_⟩
  obtain ⟨h₁, tk, rfl, _⟩ := x.done
  obtain ⟨cells, NC, Y⟩ := Cl.news (h₀ := s.heap) (Nat.le_refl _) fun n c hm => ⟨x.cell n c (lookup_of_mem_nodup (cellsFrom_names scope.names 0 (s.heap.objs.size + 1) [] [] rfl ▸ hnd) hm), x.above n c hm⟩
  have NG : News (hideAll s.heap (news.map (·.1))) s.heap.objs.size h₁ (cells ++ news) := by
    intro q hq
    rcases List.mem_append.mp hq with hq | hq
    · refine ⟨(NC q hq).1, (NC q hq).2.1, ?_⟩
      cases e : (hideAll s.heap (news.map (·.1))).get? q.1 with
      | none => rfl
      | some o => exact absurd (of_hideAll _ e) (by rw [(NC q hq).2.2]; exact nofun)
    · exact ⟨old _ _ (N q hq).1, Nat.ne_of_lt (Heap.lt_size (N q hq).1), hideAll_none _ (List.mem_map_of_mem hq)⟩
  exact wpAny_mono (h _ s.heap.objs.size h₁ tk cells FG ⟨x.toInCall.ns, fun b o e => old b o (of_hideAll _ e), Nat.le_of_eq (hideAll_size _ _)⟩ NG Y BG (X₀.keeps st) (T.keeps st) (fun q hq => Heap.lt_size (N q hq).1) fun b o e n => hideAll_get _ e n)
    (fun fl s' hl => lv _ _ hl) fun _ _ y => y

theorem enter_rest {vs : List Value} {bindsD : Addr → List (Str × Value)}
    (B : Below A₀ base outer h₀) (F : Fr h₀ L s.heap m) (X₀ : K.In h₀) (N : News h₀ L s.heap news) (T : Top p loose mean mg mb h₀) (hA : A.frames = some (env :: outer)) (hf : env.frame = some L) (hke : env.scope.kind = .function)
    (ho : K.lookup f = some ⟨oc, od, .func (fnOf name qual params body scope dV kV doc pm an cdv ct), osl⟩) (hcd : codeIn K cdv qual = true) (hroom : A.depth < recursionLimit)
    (hp : bindArgs (fnOf name qual params body scope dV kV doc pm an cdv ct) args = (alloc ({ cls := .type "tuple", data := .seq vs.toArray } : Obj) >>= fun D => pure (bindsD D)))
    (hloc : ∀ D, ∀ y ∈ bindsD D, scope.names.lookup y.1 = some .local)
    (h : ∀ D g L' h₁, (∀ p ∈ news, p.1 < D) → Fr h₀ L g m → Fr g L' h₁ (fun y => (bindsD D).reverse.lookup y) → News g L' h₁ ((D, ({ cls := .type "tuple", data := .seq vs.toArray } : Obj)) :: news) → Below A base (env :: outer) g → K.In g → Top p loose mean mg mb g → GSub s.heap g (news.map (·.1)) →
      wpAny (model prog w) (A.deeper (envOf qual scope L' f cdv)) (execs body (envOf qual scope L' f cdv))
        (fun fl s' => LeaveK h₀ L m g R (match fl with | .ret v => v | _ => .none) s')
        (fun e s' => wpAny (model prog w) (A.deeper (envOf qual scope L' f cdv)) (leaving (envOf qual scope L' f cdv) e) (fun _ s'' => R (.error e) s'') (fun e' s'' => R (.error e') s'') s')
        { s with heap := h₁, toks := s.toks + (bindsD D).length })
    (hco : scope.isCoroutine = false) (hgen : scope.isGenerator = false) (hk : scope.kind = .function)
    (hcell : ∀ x ∈ scope.names, x.2 ≠ .cell) : codeAny (model prog w) A (.call (.ref f) args) R s := by
  have X := X₀.keeps F.keep
  obtain ⟨FG, BG, st, lv⟩ := groundX (R := R) B F N hA hf hke
  refine codeAny_call_function (fd := fnOf name qual params body scope dV kV doc pm an cdv ct) (body := body) hroom (X _ _ ho) rfl hco hgen rfl (codeRec_of X hcd) ?_
  rw [hp]
  refine wpAny_bind (wpAny_alloc (wpAny_pure ?_))
  refine wpAny_newFunctionEnv hcell (hloc _) (fun h₁ hns hsb => ⟨((T.nolimit.keeps F.keep).push _).fresh _ hsb, codeAny_func ?_⟩) hk
  have XG := X₀.keeps st
  have TG := T.keeps st
  have up : ∀ b o, s.heap.get? b = some o → (s.heap.push ({ cls := .type "tuple", data := .seq vs.toArray } : Obj)).get? b = some o := fun b o e => Heap.get?_push_of_some _ e
  have old : ∀ b o, (s.heap.push ({ cls := .type "tuple", data := .seq vs.toArray } : Obj)).get? b = some o → h₁.get? b = some o := fun b o e => hsb.extBut b o (Nat.ne_of_lt (Heap.lt_size e)) (Heap.get?_push_of_some _ e)
  have hsz : (s.heap.push ({ cls := .type "tuple", data := .seq vs.toArray } : Obj)).objs.size = s.heap.objs.size + 1 := Heap.size_push ..
  refine wpAny_mono (h s.heap.objs.size (hideAll s.heap (news.map (·.1))) _ h₁ (fun q hq => Heap.lt_size (N q hq).1) FG ⟨hns, fun b o e => old b o (up b o (of_hideAll _ e)), ?_⟩ (fun q hq => ?_) BG XG TG fun b o e n => hideAll_get _ e n) (fun fl s' hl => lv _ _ hl) fun _ _ y => y
  · rw [hsz, hideAll_size]; exact Nat.le_succ _
  · rcases List.mem_cons.mp hq with rfl | hq
    · refine ⟨old _ _ (Heap.get?_push_size _ rfl), by rw [hsz]; exact Nat.ne_of_lt (Nat.lt_succ_self _), ?_⟩
      cases e : (hideAll s.heap (news.map (·.1))).get? s.heap.objs.size with
      | none => rfl
      | some o => exact absurd (Heap.lt_size (of_hideAll _ e)) (Nat.lt_irrefl _)
    · exact ⟨old _ _ (up _ _ (N q hq).1), by rw [hsz]; exact Nat.ne_of_lt (Nat.lt_succ_of_lt (Heap.lt_size (N q hq).1)), hideAll_none _ (List.mem_map_of_mem hq)⟩
end
section
theorem fresh_of {H H' g : Heap} {L' : Addr} {led news : List (Addr × Obj)} {D : Addr} {o : Obj} (G : GSub H g (led.map (·.1))) (N : News g L' H' news) (hm : (D, o) ∈ news) (hn : D ∉ led.map (·.1)) : H.get? D = none := by
  cases e : H.get? D with
  | none => rfl
  | some x => have := (N _ hm).2.2; rw [G D x e hn] at this; cases this
end
inductive NewTxt (P : List Value → Prop) (H h' : Heap) (v : Value) : Prop
  | mk (D : Addr) (k : Nat) (ys : List Value) (e : v = .ref D) (h0 : H.get? D = none) (hg : h'.get? D = some (W.listOf (List.toArray ys) k)) (hT : P ys) : NewTxt P H h' v
theorem kw_b_use_1 : True := by
  (k_with "k_room" => (ktr_room))
  (k_with "con sub" => (first | exact List.forall_mem_nil _ | k_extra "sub" | (simp only [List.forall_mem_cons]; refine ⟨?_, ?_⟩ <;> first | exact List.forall_mem_nil _ | k_mem | k_extra "con sub") | k_sub))
  (k_with "con enter" => ((refine wpAny_call ?_; (refine' code_defG (by assumption) (by assumption) (by assumption) (by assumption) (by assumption) (by exact rfl) (by exact rfl) (by exact rfl) (by k_is) (by k_is) (by k_room) (by first | exact BindsTo.of_eq rfl | exact binds_K (by k_in) rfl (by k_is) rfl rfl rfl | fail "k_enter: no rule for these arguments") (by exact locs rfl) ?_ (by exact rfl) (by exact rfl) (by exact rfl) (by decide); k_whole))))
  (k_with "con start" => ((dsimp only [Con, fnSc]; intros; rename_i hret)))
  (k_with "LeaveK" => ((k_dflt (refine' leave_con (by with_reducible assumption) (by assumption) (by k_asm) (by k_asm) (by k_extra "con sub") ?_; k_whole); intro _; (try dsimp only))))
  (k_with "con enterC" => ((refine wpAny_call ?_; (refine' enter_cells (by assumption) (by assumption) (by assumption) (by assumption) (by assumption) (by exact rfl) (by exact rfl) (by exact rfl) (by k_is) (by k_is) (by k_room) (by exact BindsTo.of_eq rfl) (by exact rfl) (by decide +kernel) ?_ (by exact rfl) (by exact rfl) (by exact rfl); k_whole))))
  (k_with "con enterR" => ((refine wpAny_call ?_; (refine' enter_rest (by assumption) (by assumption) (by assumption) (by assumption) (by assumption) (by exact rfl) (by exact rfl) (by exact rfl) (by k_is) (by k_is) (by k_room) (by exact rfl) (by exact fun _ => locs rfl) ?_ (by exact rfl) (by exact rfl) (by exact rfl) (by decide); k_whole))))
  (k_with "callWith" => ((k_here; (with_reducible show wpAny _ _ (callWith _ (Value.builtin _) (_ :: _) (backTo _ (starEach (_ :: _) _)) []) _ _ _); (with_reducible refine' callWith_method1 ?_ (by k_dflt (exact rfl)) (by k_dflt (exact rfl))))))
  (k_with "mem at" => (with_reducible (first | exact List.mem_cons_self | exact List.Mem.head _ | (refine List.mem_cons_of_mem _ ?_; k_extra "mem at") | (refine List.mem_append_left _ ?_; k_extra "mem at") | (refine List.mem_append_right _ ?_; k_extra "mem at"))))
  (k_with "mem in" => (with_reducible (first | assumption | (refine List.mem_cons_of_mem _ ?_; k_extra "mem in") | (refine List.mem_append_right _ ?_; k_extra "mem in") | (refine List.mem_append_left _ ?_; k_extra "mem in"))))
  (k_with "sub" => (with_reducible (first | exact sub_nil | exact sub_refl | (refine sub_cons ?_ ?_; (focus k_extra "mem at"); k_extra "sub") | (refine subs_app ?_ ?_; (focus k_extra "sub"); k_extra "sub") | (intro _ _; k_extra "mem in"))))
  trivial
section
open Heap
variable {prog : Program} {w : World} {M : Model} {A A₀ : Around} {E : Value → Shared → Prop} {s : Shared} {base g G : Heap} {outer : List Env} {env : Env} {L e : Addr} {m : Str → Option Value} {news : List (Addr × Obj)} {ctx fl : Value} {α : Type}
structure NewIx (h h' : Heap) (e : Addr) (ctx : Value) : Prop where
  keeps : ∀ b o, h.get? b = some o → h'.get? b = some o
  new : h.get? e = none
  there : ∃ oe vs, h'.get? e = some oe ∧ oe.cls = .type "IndexError" ∧ oe.data = .fields vs ∧ vs[1]? = some .none ∧ vs[2]? = some ctx
theorem newIx_of {h h' : Heap} (x : Heap.NewExc h h' e "IndexError") : NewIx h h' e .none := by
  obtain ⟨ob, t, h1, h2, h3⟩ := x.there
  exact ⟨x.keeps, x.new, ob, _, h1, h2, h3, rfl, rfl⟩
theorem f_entry_unchain : entryFor table "proto.unchain" = some Builtin.«proto.unchain» := entryFor_of_tree (by kernel_rfl)
theorem f_plain_unchain : plainId "proto.unchain" = true := by decide +kernel
theorem code_unchain {e1 : Addr} {v sl : Value} {oe : Obj} {vs : Array Value} {Q : Value → Shared → Prop} (h1 : s.heap.get? e1 = some oe) (hd : oe.data = .fields vs) (h2 : vs[2]? = some .none) (h : Q .none s) :
    codeAny (model prog w) A (.builtin "proto.unchain" ⟨[v, .ref e1, sl, .bool false], []⟩) (fun r s' => match r with | .ok (.ret v) => Q v s' | .ok _ => False | .error e => E e s') s := by
  refine codeAny_builtin f_entry_unchain ?_
  rw [Around.under_plainId f_plain_unchain _]
  show wpAny (model prog w) A.in1 (field (.ref e1) 2 >>= _) _ _ s
  refine wpAny_bind (wpAny_field h1 hd h2 ?_)
  show wpAny (model prog w) A.in1 (ret Value.none) _ _ s
  exact wpAny_pure h
theorem raise_ixH {msg : String} {e1 : Addr} {oe : Obj} {vs : Array Value} {Q : α → Shared → Prop} (hh : A.handled = some (.ref e1)) (h1 : s.heap.get? e1 = some oe) (hd : oe.data = .fields vs) (h2 : vs[2]? = some .none)
    (h : ∀ h' tk e, NewIx s.heap h' e (.ref e1) → E (.ref e) { s with heap := h', toks := tk }) : wpAny (model prog w) A (raiseErrorWords "IndexError" msg : Sem α) Q E s := by
  unfold raiseErrorWords
  refine wpAny_bind (wpAny_mkText (wpAny_bind ?_))
  unfold newExc newTuple
  refine wpAny_bind (wpAny_newObj_type ?_)
  refine wpAny_bind (m := firstArgMember _ _) (wpAny_of_eq (a := Value.none) (by simp only [firstArgMember, plainExc_IndexError.first]; rfl) ?_)
  rw [plainExc_IndexError.own]
  refine wpAny_newObj_type ?_
  unfold raiseNew
  refine wpAny_bind (wpAny_handled ?_)
  rw [hh]
  generalize hH1 : s.heap.push { cls := .type "tuple", dict := none, data := .seq _ } = H1
  have k1 : ∀ b o, s.heap.get? b = some o → H1.get? b = some o := fun b o hb => hH1 ▸ Heap.get?_push_of_some _ hb
  have hs1 : H1.objs.size = s.heap.objs.size + 1 := by rw [← hH1, Heap.size_push]
  have k2 : ∀ b o, s.heap.get? b = some o → (H1.push _).get? b = some o := fun b o hb => Heap.get?_push_of_some { cls := .type "IndexError", dict := none, data := .fields (#[Value.ref s.heap.objs.size, Value.none, Value.none, Value.none, Value.bool false, Value.none] ++ #[]) } (k1 b o hb)
  have hne : e1 ≠ H1.objs.size := by have := Heap.lt_size h1; rw [hs1]; exact Nat.ne_of_lt (Nat.lt_succ_of_lt this)
  dsimp only
  rw [if_pos (by simp [hne])]
  refine wpAny_bind (wpAny_holding (wpAny_runValue (code_unchain (k2 _ _ h1) hd h2 ?_)))
  have hn := Heap.get?_push_size H1 (o := { cls := .type "IndexError", dict := none, data := .fields (#[Value.ref s.heap.objs.size, Value.none, Value.none, Value.none, Value.bool false, Value.none] ++ #[]) }) rfl
  unfold updateField
  refine wpAny_bind (wpAny_bind (wpAny_load hn ?_))
  dsimp only
  rw [if_pos (by simp)]
  refine wpAny_update hn (wpAny_throw (h _ _ _ ⟨fun b o hb => ?_, ?_, _, _, Heap.get?_update_self _ hn rfl, rfl, rfl, rfl, rfl⟩))
  · refine (Heap.get?_update_other _ _ ?_).trans (k2 b o hb)
    have := Heap.lt_size hb
    rw [hs1]; exact Nat.ne_of_gt (Nat.lt_succ_of_lt this)
  · exact Heap.get?_none_of_le (by rw [hs1]; exact Nat.le_succ _)

theorem out_ixH {l e1 : Addr} {items : Array Value} {k : Int} {t : Tok} {oe : Obj} {vs : Array Value} {Q : Value → Shared → Prop} (hh : A.handled = some (.ref e1)) (h1 : s.heap.get? e1 = some oe) (hd : oe.data = .fields vs) (h2 : vs[2]? = some .none) (hl : s.heap.IsList l items)
    (hout : (items.size : Int) ≤ k) (hlo : -(2 ^ 63) ≤ k) (hhi : k < 2 ^ 63)
    (hE : ∀ h' tk e, NewIx s.heap h' e (.ref e1) → E (.ref e) { s with heap := h', toks := tk }) :
    wpAny (model prog w) A (getItem (.ref l) (.int k t)) Q E s := by
  obtain ⟨o, ho, hc, ne, hd'⟩ := id hl
  unfold getItem
  refine wpAny_holding ?_
  refine wpAny_bind (wpAny_sequenceKey hl.typeIs (by decide) ?_)
  refine wpAny_bind (wpAny_callSpecial?_slot (name := Str.ofString "__getitem__") hl.typeIs slot_list_getitem
    (wpAny_call_entry slot_list_getitem hl.typeIs entry_list_getitem ?_ (args_list_getitem _ _)))
  show wpAny _ _ (Builtin.List.listSubscript? (.int k t) >>= _) _ _ s
  refine wpAny_bind (wpAny_listSubscript_int (fitsIndex_both hlo hhi) ?_)
  clear hlo hhi
  cases k with
  | ofNat j =>
    have hx : items[j]? = none := Array.getElem?_eq_none (by have : (items.size : Int) ≤ (j : Int) := hout; lia)
    show wpAny _ _ ((seqItemAt l j >>= fun r => pure (r.map (j, ·))) >>= _) _ _ s
    refine wpAny_bind (wpAny_bind (wpAny_seqItemAt ho hd' (wpAny_pure ?_)))
    rw [hx]
    exact wpAny_bind (wpAny_rule (wpAny_bind (raise_ixH (msg := "list index out of range") hh h1 hd h2 hE)))
  | negSucc j => exact absurd hout (by have := Int.negSucc_lt_zero j; lia)
theorem item_ixH {value slice : PySem.Expr} {l e1 : Addr} {items : Array Value} {k : Nat} {u : Tok} {oe : Obj} {vs : Array Value} {Q : Value → Shared → Prop} (hh : A.handled = some (.ref e1)) (h1 : s.heap.get? e1 = some oe) (hd : oe.data = .fields vs) (h2 : vs[2]? = some .none) (hl : s.heap.IsList l items)
    (hout : items.size ≤ k) (hhi : k < 2 ^ 63)
    (hE : ∀ h' tk e, NewIx s.heap h' e (.ref e1) → E (.ref e) { s with heap := h', toks := tk })
    (hs : subscripted slice false (.ref l) (.int (k : Int) u) = operate [.ref l, .int (k : Int) u] (getItem (.ref l) (.int (k : Int) u))) :
    wpAny (model prog w) A (subscriptTail value slice (.ref l) (.int (k : Int) u)) Q E s :=
  tail_any hl.typeIs slot_list_getitem.lookup (out_ixH hh h1 hd h2 hl (by lia) (by lia) (by lia) hE) hs
theorem item_ix {value slice : PySem.Expr} {l : Addr} {items : Array Value} {k : Nat} {u : Tok} {Q : Value → Shared → Prop} (hh : A.handled = none) (hl : s.heap.IsList l items)
    (hout : items.size ≤ k) (hhi : k < 2 ^ 63)
    (hE : ∀ h' tk e, NewIx s.heap h' e .none → E (.ref e) { s with heap := h', toks := tk })
    (hs : subscripted slice false (.ref l) (.int (k : Int) u) = operate [.ref l, .int (k : Int) u] (getItem (.ref l) (.int (k : Int) u))) :
    wpAny (model prog w) A (subscriptTail value slice (.ref l) (.int (k : Int) u)) Q E s :=
  tail_any hl.typeIs slot_list_getitem.lookup (wpAny_getItem_list_out hh hl (.inr (by lia)) (by lia) (by lia) fun h' tk e x => hE h' tk e (newIx_of x)) hs

noncomputable def TrIx (h B : Heap) (e : Addr) (ctx fl : Value) : Prop :=
  ∃ oe vs T oT ts, h.get? e = some oe ∧ oe.cls = .type "IndexError" ∧ oe.data = .fields vs ∧ vs[1]? = some (.ref T) ∧ vs[2]? = some ctx ∧ B.get? T = none ∧ T ≠ e ∧ h.get? T = some oT ∧ oT.data = .fields ts ∧ ts[3]? = some fl
structure FlyIx (g : Heap) (outer : List Env) (env : Env) (L : Addr) (m : Str → Option Value) (news : List (Addr × Obj)) (e : Addr) (ctx fl : Value) (h : Heap) : Prop where
  ex : ∃ G B : Heap, Fr g L G m ∧ (∀ b o, G.get? b = some o → b ∉ (env :: outer).filterMap (·.frame) → B.get? b = some o) ∧ (∀ q ∈ news, B.get? q.1 = some q.2 ∧ q.1 ≠ L ∧ g.get? q.1 = none) ∧
    G.UpToSlots h ∧ B.StaysIn h ∧ B.get? e = none ∧ B.get? L = none ∧ h.FunFrames B (env :: outer) ∧ TrIx h B e ctx fl
theorem fly_first {M : Model} {Q : Unit → Shared → Prop} (K : Below A₀ base outer g) (hA : A.frames = some (env :: outer)) (hf : env.frame = some L) (hk : env.scope.kind = .function) (F : Fr g L G m) (N : News g L G news) (x : NewIx G s.heap e ctx)
    (hQ : ∀ h', FlyIx g outer env L m news e ctx (rawInt L) h' → Q () { s with heap := h' }) : wpAny M A (noteFrame (.ref e) env) Q E s := by
  have K' := pushX K F hf hk
  have hin : ∀ env' ∈ (env :: outer), ∀ b, env'.frame = some b → b ∈ (env :: outer).filterMap (·.frame) := fun env' he b hb => List.mem_filterMap.mpr ⟨env', he, hb⟩
  have hl₀ : G.FunFrames (hideAll G ((env :: outer).filterMap (·.frame))) (env :: outer) := funFrames_hide K'.frames hin
  generalize hB : hideAll G ((env :: outer).filterMap (·.frame)) = B at hl₀
  have sG : ∀ b o, G.get? b = some o → b ∉ (env :: outer).filterMap (·.frame) → B.get? b = some o := fun b o q nm => hB ▸ hideAll_get _ q nm
  have bG : ∀ b o, B.get? b = some o → G.get? b = some o := fun b o q => of_hideAll _ (hB ▸ q)
  have hBL : B.get? L = none := hB ▸ hideAll_none _ (List.mem_filterMap.mpr ⟨env, List.mem_cons_self, hf⟩)
  have hl : s.heap.FunFrames B (env :: outer) := hl₀.of_keeps fun b o hb _ => ⟨o, x.keeps b o hb, rfl⟩
  have hkb : B.StaysIn s.heap := fun b o q => x.keeps b o (bG b o q)
  have hen : B.get? e = none := by
    cases q : B.get? e with
    | none => rfl
    | some o => have := bG _ _ q; rw [x.new] at this; cases this
  obtain ⟨oe, vs, he, hc, hd, h1, h2⟩ := x.there
  have hsz : 1 < vs.size := (Array.getElem?_eq_some_iff.mp h1).1
  have hene : e ∉ (env :: outer).filterMap (·.frame) := fun hm => by
    obtain ⟨_, o, ho, hnf⟩ := hl.mem hm
    rw [he] at ho; injection ho with ho; subst ho; exact hnf vs hd
  unfold noteFrame
  simp only [hf]
  refine wpAny_bind (wpAny_field he hd h1 ?_)
  rw [if_neg (by decide)]
  refine wpAny_bind (wpAny_frameOf_fun hA hl hf fun h₁ hs₁ => ?_)
  refine wpAny_bind (wpAny_entryPlaceOf fun pl hpl => ?_)
  unfold EntryCells.newEntry newFields
  refine wpAny_bind (wpAny_newObj_type ?_ (hpl.sizeOk5 _ _ _ _ _))
  have he₁ : h₁.get? e = some oe := (hs₁.2.1 e hene).trans he
  have kb₁ : B.StaysIn h₁ := fun b o hbo => (hs₁.2.1 b fun hm => by rw [(hl.mem hm).1] at hbo; cases hbo).trans (hkb b o hbo)
  generalize hoT : ({ cls := .type "traceback", dict := none, data := .fields ([Value.none, .ref L, .none, rawInt L, .none] ++ (if pl.isEmpty then List.replicate 6 Value.none else pl)).toArray } : Obj) = oT
  have hoTd : ∃ ts, oT.data = .fields ts ∧ ts[3]? = some (rawInt L) := by
    subst hoT
    exact ⟨_, rfl, by first | (simp; done) | (rcases hpl with rfl | ⟨_, _, _, _, _, _, _, rfl⟩ <;> simp)⟩
  obtain ⟨ts, hTd, hT3⟩ := hoTd
  have he₂ := Heap.get?_push_of_some (h := h₁) oT he₁
  refine wpAny_setField he₂ hd hsz (hQ _ ?_)
  have hTe : h₁.objs.size ≠ e := Nat.ne_of_gt (Heap.lt_size he₁)
  have hd₃ := Obj.data_mapFields hd (·.setIfInBounds 1 (Value.ref h₁.objs.size))
  have he₃ := Heap.get?_update_self (Obj.mapFields (·.setIfInBounds 1 (Value.ref h₁.objs.size))) he₂ (Obj.isFreed_of_fields hd₃)
  have hT₃ := (Heap.get?_update_other (h₁.push oT) (Obj.mapFields (·.setIfInBounds 1 (Value.ref h₁.objs.size))) (Ne.symm hTe)).trans (Heap.get?_push_size h₁ (Obj.isFreed_of_fields hTd))
  have keep : ∀ b o, b ≠ e → h₁.get? b = some o → ((h₁.push oT).update e (Obj.mapFields (·.setIfInBounds 1 (Value.ref h₁.objs.size)))).get? b = some o :=
    fun b o hbe hb => by
      rw [Heap.get?_update_other _ _ (Ne.symm hbe)]
      exact Heap.get?_push_of_some _ hb
  have noRecord : ∀ b o, s.heap.get? b = some o → (∀ vs, o.data ≠ .fields vs) → b ≠ e := fun b o hb hnf q => by
    rw [q, he] at hb; injection hb with hb; subst hb; exact hnf vs hd
  have fe : ∀ b o, G.get? b = some o → b ≠ e := fun b o hb q => by rw [q, x.new] at hb; cases hb
  refine ⟨G, B, F, sG, fun q hq => ⟨sG _ _ (N q hq).1 fun hm => ?_, (N q hq).2⟩, fun b o hb _ => ?_, fun b o hbo => keep b o (fun q => by rw [q, hen] at hbo; cases hbo) (kb₁ b o hbo), hen, hBL, hl.of_keeps fun b o hb hnf => ?_, ?_⟩
  · obtain ⟨env', he', hf'⟩ := List.mem_filterMap.mp hm
    rcases List.mem_cons.mp he' with rfl | he'
    · exact (N q hq).2.1 (Option.some.inj (hf'.symm.trans hf))
    · obtain ⟨o, ho, _⟩ := (K.frames.mem (List.mem_filterMap.mpr ⟨env', he', hf'⟩)).2
      rw [(N q hq).2.2] at ho; cases ho
  · obtain ⟨sl, hs⟩ := hs₁.2.2 b o (x.keeps b o hb)
    exact ⟨sl, keep b _ (fe b o hb) hs⟩
  · obtain ⟨sl, hs⟩ := hs₁.2.2 b o hb
    exact ⟨_, keep b _ (noRecord b o hb hnf) hs, rfl⟩
  · exact ⟨_, _, h₁.objs.size, _, _, he₃, (Obj.cls_mapFields _ _).trans hc, hd₃, by simp [hsz], by rw [Array.getElem?_setIfInBounds_ne (by decide)]; exact h2, kb₁.fresh, hTe, hT₃, hTd, hT3⟩
theorem fly_again {M : Model} {Q : Unit → Shared → Prop} (hf : env.frame = some L) (x : FlyIx g outer env L m news e ctx (rawInt L) s.heap) (h : Q () s) : wpAny M A (noteFrame (.ref e) env) Q E s := by
  obtain ⟨_, _, _, _, _, _, _, _, _, _, oe, vs, T, oT, ts, he, _, hd, h1, _, _, _, hT, hdT, h3⟩ := x.ex
  unfold noteFrame
  simp only [hf]
  refine wpAny_bind (wpAny_field he hd h1 ?_)
  rw [if_pos (show (Value.ref T != Value.none) = true from by simp)]
  refine wpAny_bind (wpAny_field hT hdT h3 ?_)
  rw [if_pos (show (rawInt L == rawInt L) = true from by simp)]
  exact wpAny_pure h
theorem fly_set {M : Model} {Q : Unit → Shared → Prop} {fr : Option Addr} (x : FlyIx g outer env L m news e ctx fl s.heap) (hQ : ∀ h', FlyIx g outer env L m news e ctx (fr.elim .none fun f => rawInt f) h' → Q () { s with heap := h' }) :
    wpAny M A (setFlight (.ref e) fr) Q E s := by
  obtain ⟨G, B, F, sG, hN, up, hkb, hen, hBL, hl, oe, vs, T, oT, ts, he, hc, hd, h1, h2, hnT, hTe, hT, hdT, h3⟩ := x.ex
  have hsz3 : 3 < ts.size := (Array.getElem?_eq_some_iff.mp h3).1
  have other : ∀ b, b ≠ T → (s.heap.update T (Obj.mapFields (·.setIfInBounds 3 (fr.elim Value.none fun f => rawInt f)))).get? b = s.heap.get? b := fun b hb => Heap.get?_update_other _ _ (Ne.symm hb)
  have noRecord : ∀ b o, s.heap.get? b = some o → (∀ vs, o.data ≠ .fields vs) → b ≠ T := fun b o hb hnf q => by
    rw [q, hT] at hb; injection hb with hb; subst hb; exact hnf ts hdT
  unfold setFlight
  refine wpAny_bind (wpAny_field he hd h1 ?_)
  rw [if_pos (show (Value.ref T != Value.none) = true from by simp)]
  refine wpAny_setField hT hdT hsz3 (hQ _ ⟨G, B, F, sG, hN, fun b o hb hnf => ?_, fun b o hbo => (other b fun q => by rw [q, hnT] at hbo; cases hbo).trans (hkb b o hbo), hen, hBL,
    hl.of_keeps fun b o hb hnf => ⟨o, (other b (noRecord b o hb hnf)).trans hb, rfl⟩, ?_⟩)
  · obtain ⟨sl, hs⟩ := up b o hb hnf
    exact ⟨sl, (other b (noRecord b _ hs hnf)).trans hs⟩
  · exact ⟨oe, vs, T, _, _, (other e (Ne.symm hTe)).trans he, hc, hd, h1, h2, hnT, hTe, Heap.get?_update_self _ hT (Obj.isFreed_of_fields (Obj.data_mapFields hdT _)), Obj.data_mapFields hdT _, by simp [hsz3]⟩
theorem fly_look {M : Model} {Q : Value → Shared → Prop} (x : FlyIx g outer env L m news e ctx fl s.heap) (h : ∀ T, Q (.ref T) s) : wpAny M A (field (.ref e) 1) Q E s := by
  obtain ⟨G, B, F, sG, hN, up, hkb, hen, hBL, hl, oe, vs, T, oT, ts, he, hc, hd, h1, _⟩ := x.ex
  exact wpAny_field he hd h1 (h T)
theorem fly_back {M : Model} {E' : Value → Shared → Prop} (hf : env.frame = some L) (x : FlyIx g outer env L m news e ctx fl s.heap) (h : ∀ h', FlyIx g outer env L m news e ctx (rawInt L) h' → E' (.ref e) { s with heap := h' }) :
    cameBackBy M A env E' (.ref e) s := by
  unfold cameBackBy
  refine wpAny_bind (fly_look x fun T => ?_)
  rw [if_neg (by simp)]
  first | refine wpAny_bind (wpAny_pure ?_) | skip
  rw [hf]
  exact fly_set x h
theorem fly_pass {what : String} {Q : α → Shared → Prop} (hf : env.frame = some L) (x : FlyIx g outer env L m news e ctx fl s.heap) (h : ∀ h', FlyIx g outer env L m news e ctx (rawInt L) h' → E (.ref e) { s with heap := h' }) :
    wpAny M A (PySem.passOn what (.ref e) env : Sem α) Q E s := by
  unfold PySem.passOn
  refine wpAny_bind (fly_look x fun T => ?_)
  rw [if_neg (by simp)]
  first | refine wpAny_bind (wpAny_pure ?_) | skip
  rw [hf]
  exact wpAny_bind (fly_set x fun h' x' => wpAny_throw (h h' x'))
end
section
open Heap
variable {prog : Program} {w : World} {M : Model} {A A₀ : Around} {E : Value → Shared → Prop} {s : Shared} {base g G h₀ : Heap} {outer : List Env} {env : Env} {L e : Addr} {m : Str → Option Value} {news : List (Addr × Obj)} {ctx fl : Value} {α : Type}
  {name qual : Str} {scope : Scope} {a f : Addr} {cd : Value} {K : Frag} {p : Program} {loose : List Str} {mean : ExcName → Option Value} {mg mb : Str → Option Value} {R : Result → Shared → Prop}
  {params : Arguments} {body : List Stmt} {dV kV doc pm cdv ct oc : Value} {an od : Option Addr} {osl : Array (Option Value)} {args : Args} {binds : List (Str × Value)}

inductive FlyG (A₀ : Around) (base : Heap) (outer : List Env) (g : Heap) (L : Addr) (h : Heap) (m : Str → Option Value) (news : List (Addr × Obj)) (e : Addr) (ctx fl : Value) : Prop
  | mk (g' : Heap) (oe : Obj) (vs : Array Value) (T : Addr) (oT : Obj) (ts : Array Value) (Tu : KtsTurn (outer.filterMap (·.frame)) g g') (F : Fr g' L h m) (K : Below A₀ base outer g') (N : News g' L h ((e, oe) :: (T, oT) :: news)) (hc : oe.cls = .type "IndexError") (hd : oe.data = .fields vs) (h1 : vs[1]? = some (.ref T)) (h2 : vs[2]? = some ctx)
    (hTe : T ≠ e) (hdT : oT.data = .fields ts) (h3 : ts[3]? = some fl) (hne : ∀ q ∈ news, q.1 ≠ e ∧ q.1 ≠ T) : FlyG A₀ base outer g L h m news e ctx fl
theorem fly_ground {h : Heap} (B : Below A₀ base outer g) (x : FlyIx g outer (envOf name scope L a cd) L m news e ctx fl h) :
    FlyG A₀ base outer g L h m news e ctx fl := by
  obtain ⟨G, B', F, sG, hN, up, hkb, hen, hBL, hl, oe, vs, T, oT, ts, he, hc, hd, h1, h2, hnT, hTe, hT, hdT, h3⟩ := x.ex
  obtain ⟨g', Tu, F', K'⟩ := kts_ground B F sG hkb up
  have nf : ∀ b o ws, h.get? b = some o → o.data = .fields ws → B'.get? b = none → g'.get? b = none := fun b o ws hb hdb hn => Tu.none_ _ (kts_fresh F sG hn fun o' ho' hm => by
    obtain ⟨_, o2, ho2, hnf⟩ := B.frames.mem hm
    rw [ho'] at ho2; cases ho2
    obtain ⟨sl, hs⟩ := up _ _ (F.keep _ _ ho') hnf
    rw [hb] at hs; cases hs
    exact hnf _ hdb)
  refine ⟨g', oe, vs, T, oT, ts, Tu, F', K', fun q hq => ?_, hc, hd, h1, h2, hTe, hdT, h3, fun q hq => ⟨fun z => ?_, fun z => ?_⟩⟩
  rotate_left
  · have := (hN q hq).1; rw [z, hen] at this; cases this
  · have := (hN q hq).1; rw [z, hnT] at this; cases this
  have nL : ∀ b, B'.get? b = none → h.get? b ≠ none → (∃ o ws, h.get? b = some o ∧ o.data = .fields ws) → b ≠ L := fun b _ _ ⟨o, ws, hb, hdb⟩ q => by
    obtain ⟨o', es, ep, ho', hd', _⟩ := F'.ns
    rw [q, ho'] at hb; cases hb
    rw [hd'] at hdb; cases hdb
  rcases List.mem_cons.mp hq with rfl | hq
  · exact ⟨he, nL e hen (by rw [he]; nofun) ⟨_, _, he, hd⟩, nf e _ _ he hd hen⟩
  · rcases List.mem_cons.mp hq with rfl | hq
    · exact ⟨hT, nL T hnT (by rw [hT]; nofun) ⟨_, _, hT, hdT⟩, nf T _ _ hT hdT hnT⟩
    · exact ⟨hkb _ _ (hN q hq).1, (hN q hq).2.1, Tu.none_ _ (hN q hq).2.2⟩

theorem fly_from {h : Heap} {oe oT : Obj} {vs ts : Array Value} {T : Addr} (B : Below A₀ base outer g) (hk : scope.kind = .function) (F : Fr g L h m) (N : News g L h ((e, oe) :: (T, oT) :: news)) (hne : ∀ q ∈ news, q.1 ≠ e ∧ q.1 ≠ T)
    (hc : oe.cls = .type "IndexError") (hd : oe.data = .fields vs) (h1 : vs[1]? = some (.ref T)) (h2 : vs[2]? = some ctx) (hTe : T ≠ e) (hdT : oT.data = .fields ts) (h3 : ts[3]? = some fl) :
    FlyIx g outer (envOf name scope L a cd) L m news e ctx fl h := by
  have K' := pushX (env := envOf name scope L a cd) B F rfl hk
  have Ne := N (e, oe) List.mem_cons_self
  have NT := N (T, oT) (List.mem_cons_of_mem _ List.mem_cons_self)
  have Nn : ∀ q ∈ news, h.get? q.1 = some q.2 ∧ q.1 ≠ L ∧ g.get? q.1 = none := fun q hq => N q (List.mem_cons_of_mem _ (List.mem_cons_of_mem _ hq))
  have off : ∀ b, b ≠ e → b ≠ T → b ∉ [e, T] := fun b x y z => by
    rcases List.mem_cons.mp z with z | z
    · exact x z
    · exact y (List.mem_singleton.mp z)
  have gE : ∀ b o, g.get? b = some o → b ∉ [e, T] := fun b o q => off b (fun z => by rw [z, Ne.2.2] at q; cases q) (fun z => by rw [z, NT.2.2] at q; cases q)
  generalize hG : hideAll h [e, T] = G
  have sG : ∀ b o, h.get? b = some o → b ∉ [e, T] → G.get? b = some o := fun b o q nm => hG ▸ hideAll_get _ q nm
  have bG : ∀ b o, G.get? b = some o → h.get? b = some o := fun b o q => of_hideAll _ (hG ▸ q)
  have nG : ∀ b, b ∈ [e, T] → G.get? b = none := fun b q => hG ▸ hideAll_none _ q
  have zG : G.objs.size = h.objs.size := by rw [← hG, hideAll_size]
  obtain ⟨oL, es, ep, hL, r⟩ := F.ns
  have FG : Fr g L G m := ⟨⟨oL, es, ep, sG _ _ hL (off _ (fun z => Ne.2.1 z.symm) fun z => NT.2.1 z.symm), r⟩, fun b o q => sG _ _ (F.keep b o q) (gE b o q), F.above⟩
  have hin : ∀ env' ∈ (envOf name scope L a cd :: outer), ∀ b, env'.frame = some b → b ∈ (envOf name scope L a cd :: outer).filterMap (·.frame) := fun env' he b hb => List.mem_filterMap.mpr ⟨env', he, hb⟩
  have fr0 := K'.frames
  have fG : G.FunFrames base (envOf name scope L a cd :: outer) := (pushX (env := envOf name scope L a cd) B FG rfl hk).frames
  have hl₀ : G.FunFrames (hideAll G ((envOf name scope L a cd :: outer).filterMap (·.frame))) (envOf name scope L a cd :: outer) := funFrames_hide fG hin
  generalize hB : hideAll G ((envOf name scope L a cd :: outer).filterMap (·.frame)) = B' at hl₀
  have sB : ∀ b o, G.get? b = some o → b ∉ (envOf name scope L a cd :: outer).filterMap (·.frame) → B'.get? b = some o := fun b o q nm => hB ▸ hideAll_get _ q nm
  have bB : ∀ b o, B'.get? b = some o → G.get? b = some o := fun b o q => of_hideAll _ (hB ▸ q)
  have none_B : ∀ b, G.get? b = none → B'.get? b = none := fun b q => by
    cases z : B'.get? b with
    | none => rfl
    | some o => have := bB _ _ z; rw [q] at this; cases this
  refine ⟨G, B', FG, sB, fun q hq => ⟨sB _ _ (sG _ _ (Nn q hq).1 (off _ (hne q hq).1 (hne q hq).2)) fun hm => ?_, (Nn q hq).2⟩, fun b o q _ => ⟨o.slots, bG b o q⟩, fun b o q => bG b o (bB b o q), none_B _ (nG _ (by simp)),
    hB ▸ hideAll_none _ (List.mem_filterMap.mpr ⟨_, List.mem_cons_self, rfl⟩), hl₀.of_keeps fun b o q _ => ⟨o, bG b o q, rfl⟩, oe, vs, T, oT, ts, Ne.1, hc, hd, h1, h2, none_B _ (nG _ (by simp)), hTe, NT.1, hdT, h3⟩
  obtain ⟨env', he', hf'⟩ := List.mem_filterMap.mp hm
  rcases List.mem_cons.mp he' with rfl | he'
  · exact (Nn q hq).2.1 (Option.some.inj hf').symm
  · obtain ⟨o, ho, _⟩ := (B.frames.mem (List.mem_filterMap.mpr ⟨env', he', hf'⟩)).2
    rw [(Nn q hq).2.2] at ho; cases ho
theorem fly_handle {np pos : Pos} {b₀ : Stmt} {suite : List Stmt} {rest : List ExceptHandler} {Q : Flow → Shared → Prop} (B : Below A₀ base outer g) (XB : K.In base) (TB : Top p loose mean mg mb base)
    (ex : nsIn K mainGlobals (Str.ofString "IndexError") = some none) (x : FlyIx g outer (envOf name scope L a cd) L m news e ctx fl s.heap)
    (k : ∀ h' g' E', KtsTurn (outer.filterMap (·.frame)) g g' → Fr g' L h' m → News g' L h' news → Below A₀ base outer g' →
      wpAny (model prog w) ((A₀.deeper (envOf name scope L a cd)).mark (some (.ref e))) (execs (b₀ :: suite) (envOf name scope L a cd)) Q E' { s with heap := h' })
    (hk : scope.kind = .function := by rfl) (hx : (envOf name scope L a cd).kindOf (Str.ofString "IndexError") = some .globalImplicit := by rfl) :
    wpAny (model prog w) (A₀.deeper (envOf name scope L a cd)) (handleBy (.ref e) (envOf name scope L a cd) (.ExceptHandler (some (.Name (Str.ofString "IndexError") np)) none (b₀ :: suite) pos :: rest)) Q E s := by
  obtain ⟨g₅, oe, vs, T, oT, ts, T₅, F₅, K₅, N₅, hc, hd, _⟩ := fly_ground B x
  have X₅ : K.In g₅ := XB.keeps K₅.stays
  have P₅ : TopRead p loose mg mb g₅ := topRead_of (TB.keeps K₅.stays)
  refine wpAny_handleBy_builtin (X := "IndexError") (T := "IndexError") (b := true) PySem.F.isExc_IndexError PySem.F.notTuple_IndexError (by rw [isSubtype_type]; kernel_rfl)
    (name_B F₅ X₅ P₅ ex PyProof.Rows.Boot.«IndexError» (by decide) ⟨rfl, ⟨oe, (N₅ (e, oe) List.mem_cons_self).1, hc⟩, ?_⟩ hk hx (by decide))
  rw [if_pos rfl]
  refine fly_set x fun h' x' => ?_
  obtain ⟨g', _, _, _, _, _, T', F', K', N', _⟩ := fly_ground B x'
  exact k h' g' _ T' F' (fun q hq => N' q (List.mem_cons_of_mem _ (List.mem_cons_of_mem _ hq))) K'

noncomputable def LeaveT (A₀ : Around) (base h₀ : Heap) (outer : List Env) (env : Env) (L : Addr) (m : Str → Option Value) (g : Heap) (news : List (Addr × Obj)) (R : Result → Shared → Prop) (v : Value) (s' : Shared) : Prop :=
  ∃ g' L' m' new, KtsTurn ((env :: outer).filterMap (·.frame)) g g' ∧ Fr g' L' s'.heap m' ∧ News g' L' s'.heap (new ++ news) ∧
    (∀ h₀', KtsTurn (outer.filterMap (·.frame)) h₀ h₀' → Fr h₀' L s'.heap m → News h₀' L s'.heap (new ++ news) → Below A₀ base outer h₀' → R (.ok (.ret v)) s')
theorem leaveT_ok {v : Value} {s' : Shared} {H : Heap} (B : Below A₀ base outer h₀) (F : Fr h₀ L H m) (N : News h₀ L H news) (hf : env.frame = some L)
    (l : LeaveT A₀ base h₀ outer env L m (hideAll H (news.map (·.1))) news R v s') : R (.ok (.ret v)) s' := by
  obtain ⟨g', L', m', new, Tu, F', N', k⟩ := l
  have nm : ∀ b o, h₀.get? b = some o → b ∉ news.map (·.1) := fun b o e q => by
    obtain ⟨p, hp, rfl⟩ := List.mem_map.mp q
    rw [(N p hp).2.2] at e; cases e
  have st : h₀.StaysIn (hideAll H (news.map (·.1))) := fun b o e => hideAll_get _ (F.keep b o e) (nm b o e)
  obtain ⟨oL, es, ep, hL, hLd, hLk, hLf⟩ := F.ns
  have nL : L ∉ news.map (·.1) := fun q => by
    obtain ⟨p, hp, e⟩ := List.mem_map.mp q
    exact (N p hp).2.1 e
  have hLg := hideAll_get (news.map (·.1)) hL nL
  have hL0 : h₀.get? L = none := kts_self F
  obtain ⟨slL, hLg'⟩ := Tu.frame L _ hLg (List.mem_filterMap.mpr ⟨env, List.mem_cons_self, hf⟩)
  obtain ⟨T, S⟩ := kts_turn_at (h := s'.heap) (fs := outer.filterMap (·.frame)) (g := h₀)
    (fun b hb => by
      obtain ⟨_, o, ho, _⟩ := B.frames.mem hb
      exact ⟨o, ho⟩)
    (fun b o e nb => F'.keep b o (Tu.other b o (st b o e) fun hm => by
      obtain ⟨env', he', hf'⟩ := List.mem_filterMap.mp hm
      rcases List.mem_cons.mp he' with rfl | he'
      · rw [← (Option.some.inj (hf.symm.trans hf') : L = b)] at e
        rw [hL0] at e; cases e
      · exact nb (List.mem_filterMap.mpr ⟨env', he', hf'⟩)))
    (fun b o e hb => by
      obtain ⟨sl, hs⟩ := Tu.up (st b o e)
      exact ⟨sl, F'.keep b _ hs⟩)
  refine k _ T ⟨⟨_, es, ep, F'.keep L _ hLg', hLd, hLk, hLf⟩, S, by rw [T.size]; exact F.above⟩ (fun q hq => ⟨(N' q hq).1, fun z => ?_, T.none_ _ ?_⟩)
    ⟨B.stack, fun b o e => T.other b o (B.stays b o e) (fun hm => by rw [(B.frames.mem hm).1] at e; cases e), B.frames.of_keeps fun b o e _ => ?_⟩
  · have := (N' q hq).2.2; rw [z, hLg'] at this; cases this
  · cases z : h₀.get? q.1 with
    | none => rfl
    | some o =>
      obtain ⟨sl, hs⟩ := Tu.up (st _ _ z)
      rw [(N' q hq).2.2] at hs; cases hs
  · obtain ⟨sl, hs⟩ := T.up e
    exact ⟨_, hs, rfl⟩

theorem enter_turn (B : Below A₀ base outer h₀) (F : Fr h₀ L s.heap m) (XB : K.In base) (N : News h₀ L s.heap news) (TB : Top p loose mean mg mb base) (hA : A.frames = some (env :: outer)) (hf : env.frame = some L) (hke : env.scope.kind = .function)
    (ho : K.lookup f = some ⟨oc, od, .func (fnOf name qual params body scope dV kV doc pm an cdv ct), osl⟩) (hcd : codeIn K cdv qual = true) (hroom : A.depth < recursionLimit)
    (hbind : BindsTo s (fnOf name qual params body scope dV kV doc pm an cdv ct) args binds) (hloc : ∀ y ∈ binds, scope.names.lookup y.1 = some .local)
    (h : ∀ g L' h₁, Fr g L' h₁ (fun y => binds.reverse.lookup y) → News g L' h₁ news → Below A base (env :: outer) g → K.In g → Top p loose mean mg mb g → (∀ p ∈ news, p.1 < L') → GSub s.heap g (news.map (·.1)) →
      wpAny (model prog w) (A.deeper (envOf qual scope L' f cdv)) (execs body (envOf qual scope L' f cdv))
        (fun fl s' => LeaveT A₀ base h₀ outer env L m g news R (match fl with | .ret v => v | _ => .none) s')
        (fun e s' => wpAny (model prog w) (A.deeper (envOf qual scope L' f cdv)) (leaving (envOf qual scope L' f cdv) e) (fun _ s'' => R (.error e) s'') (fun e' s'' => R (.error e') s'') s')
        { s with heap := h₁, toks := s.toks + binds.length })
    (hco : scope.isCoroutine = false) (hgen : scope.isGenerator = false) (hk : scope.kind = .function)
    (hcell : ∀ x ∈ scope.names, x.2 ≠ .cell) : codeAny (model prog w) A (.call (.ref f) args) R s := by
  have X₀ : K.In h₀ := XB.keeps B.stays
  have T : Top p loose mean mg mb h₀ := TB.keeps B.stays
  have X := X₀.keeps F.keep
  obtain ⟨FG, BG, st, _⟩ := groundX (R := R) B F N hA hf hke
  refine codeAny_call_function (fd := fnOf name qual params body scope dV kV doc pm an cdv ct) (body := body) hroom (X _ _ ho) rfl hco hgen rfl (codeRec_of X hcd) (hbind _ _ _ _ ?_)
  refine wpAny_newFunctionEnv hcell hloc (fun h₁ hns hsb => ⟨(T.nolimit.keeps F.keep).fresh _ hsb, codeAny_func ?_⟩) hk
  have XG := X₀.keeps st
  have TG := T.keeps st
  have old : ∀ b o, s.heap.get? b = some o → h₁.get? b = some o := fun b o e => hsb.extBut b o (Nat.ne_of_lt (Heap.lt_size e)) (Heap.get?_push_of_some _ e)
  refine wpAny_mono (h (hideAll s.heap (news.map (·.1))) _ h₁ ⟨hns, fun b o e => old b o (of_hideAll _ e), ?_⟩ (fun q hq => ?_) BG XG TG (fun q hq => Heap.lt_size (N q hq).1) fun b o e n => hideAll_get _ e n) (fun fl s' hl => leaveT_ok B F N hf hl) fun _ _ y => y
  · rw [hideAll_size]; exact Nat.le_refl _
  · exact ⟨old _ _ (N q hq).1, Nat.ne_of_lt (Heap.lt_size (N q hq).1), hideAll_none _ (List.mem_map_of_mem hq)⟩
theorem news_turn {H H' h₀' g' : Heap} {L' : Addr} {m' : Str → Option Value} {led new : List (Addr × Obj)} (B : Below A₀ base outer h₀) (N : News h₀ L H news) (kG : GSub H g (led.map (·.1))) (hs : ∀ p ∈ led, p ∈ news) (hf : env.frame = some L)
    (Tu : KtsTurn ((env :: outer).filterMap (·.frame)) g g') (F' : Fr g' L' H' m') (T' : KtsTurn (outer.filterMap (·.frame)) h₀ h₀') (N' : News h₀' L H' (new ++ led)) : News h₀' L H' (new ++ news) := by
  intro q hq
  rcases List.mem_append.mp hq with hq | hq
  · exact N' q (List.mem_append_left _ hq)
  · have Nq := N q hq
    refine ⟨?_, Nq.2.1, T'.none_ _ Nq.2.2⟩
    by_cases hm : q.1 ∈ led.map (·.1)
    · obtain ⟨p, hp, e⟩ := List.mem_map.mp hm
      have h1 := (N p (hs p hp)).1
      have h2 := (N' p (List.mem_append_right _ hp)).1
      rw [e] at h1 h2
      rw [h1] at Nq
      rw [h2, Nq.1]
    · refine F'.keep _ _ (Tu.other _ _ (kG _ _ Nq.1 hm) fun hfr => ?_)
      obtain ⟨env', he', hf'⟩ := List.mem_filterMap.mp hfr
      rcases List.mem_cons.mp he' with rfl | he'
      · exact Nq.2.1 (Option.some.inj (hf'.symm.trans hf))
      · obtain ⟨_, o, ho, _⟩ := B.frames.mem (List.mem_filterMap.mpr ⟨env', he', hf'⟩)
        rw [Nq.2.2] at ho; cases ho
theorem off_turn {H H' g' : Heap} {L' : Addr} {led new : List (Addr × Obj)} (B : Below A₀ base outer h₀) (N : News h₀ L H news) (kG : GSub H g (led.map (·.1))) (hf : env.frame = some L)
    (Tu : KtsTurn ((env :: outer).filterMap (·.frame)) g g') (N' : News g' L' H' new) (hoff : ∀ p ∈ led, ∀ q ∈ new, p.1 ≠ q.1) : ∀ p ∈ news, ∀ q ∈ new, p.1 ≠ q.1 := by
  intro p hp q hq e
  have Np := N p hp
  by_cases hm : p.1 ∈ led.map (·.1)
  · obtain ⟨r, hr, er⟩ := List.mem_map.mp hm
    exact hoff r hr q hq (er.trans e)
  · have h1 := Tu.other _ _ (kG _ _ Np.1 hm) fun hfr => by
      obtain ⟨env', he', hf'⟩ := List.mem_filterMap.mp hfr
      rcases List.mem_cons.mp he' with rfl | he'
      · exact Np.2.1 (Option.some.inj (hf'.symm.trans hf))
      · obtain ⟨_, o, ho, _⟩ := B.frames.mem (List.mem_filterMap.mpr ⟨env', he', hf'⟩)
        rw [Np.2.2] at ho; cases ho
    rw [e, (N' q hq).2.2] at h1
    cases h1
theorem turn_leave {H g' : Heap} {L' : Addr} {m' : Str → Option Value} {led new NL : List (Addr × Obj)} {s₀ s' : Shared} {v : Value} {Q E : Value → Shared → Prop} {Post : Value → List (Addr × Obj) → Prop}
    (B : Below A₀ base outer h₀) (N : News h₀ L H news) (kG : GSub H g (led.map (·.1))) (hs : ∀ p ∈ led, p ∈ news) (hf : env.frame = some L)
    (NN : News g' L' s'.heap NL) (F' : Fr g' L' s'.heap m') (Tu : KtsTurn ((env :: outer).filterMap (·.frame)) g g') (hnew : ∀ p ∈ new, p ∈ NL) (hled : ∀ p ∈ led, p ∈ NL) (hoff : ∀ p ∈ led, ∀ q ∈ new, p.1 ≠ q.1) (hp : Post v new) (e : ∃ h tk, s' = { s₀ with heap := h, toks := tk })
    (hret : ∀ (v : Value) (h' : Heap) (tk' : Nat) (h₀' : Heap) (new : List (Addr × Obj)), KtsTurn (outer.filterMap (·.frame)) h₀ h₀' → Fr h₀' L h' m → News h₀' L h' (new ++ news) → (∀ p ∈ news, ∀ q ∈ new, p.1 ≠ q.1) → Below A₀ base outer h₀' → Post v new → Q v { s₀ with heap := h', toks := tk' }) :
    LeaveT A₀ base h₀ outer env L m g led (fun r s' => match r with | .ok (.ret v) => Q v s' | .ok _ => False | .error e => E e s') v s' := by
  obtain ⟨h, tk, rfl⟩ := e
  have NA : News g' L' h new := fun p hp => NN p (hnew p hp)
  refine ⟨g', L', m', new, Tu, F', fun p hp => (List.mem_append.mp hp).elim (fun q => NN p (hnew p q)) (fun q => NN p (hled p q)), fun h₀' T' Fh Nh B' => ?_⟩
  exact hret v h tk h₀' new T' Fh (news_turn (new := new) B N kG hs hf Tu F' T' Nh) (off_turn B N kG hf Tu NA hoff) B' hp
theorem exists_top : ∀ {l : List (Addr × Obj)}, l ≠ [] → ∃ p ∈ l, ∀ q ∈ l, q.1 ≤ p.1
  | [], h => absurd rfl h
  | [p], _ => ⟨p, List.mem_cons_self, fun q hq => by rw [List.mem_singleton.mp hq]; exact Nat.le_refl _⟩
  | p :: r :: l, _ => by
    obtain ⟨t, ht, hm⟩ := exists_top (l := r :: l) (by simp)
    by_cases h : t.1 ≤ p.1
    · refine ⟨p, List.mem_cons_self, fun q hq => ?_⟩
      rcases List.mem_cons.mp hq with rfl | hq
      · exact Nat.le_refl _
      · exact Nat.le_trans (hm q hq) h
    · refine ⟨t, List.mem_cons_of_mem _ ht, fun q hq => ?_⟩
      rcases List.mem_cons.mp hq with rfl | hq
      · exact Nat.le_of_lt (Nat.lt_of_not_le h)
      · exact hm q hq
end
noncomputable abbrev ConX (w : World) (loose : List Str) (mean : ExcName → Option Value) (mg mb : Str → Option Value) (k : Nat) (f : Addr) (led : List (Addr × Obj)) (vs : List Value) (Post : Value → List (Addr × Obj) → Prop) : Prop :=
  ∀ (dp un : Nat) (gd : Option (List Code)) (cn : Str) (ns : List (Str × NameKind)) (ig ic : Bool) (mr : List (Str × Const)) (a : Addr) (ccd : Value) (cl : List (Str × Addr)) (outer : List Env) (A₀ : Around) (base h₀ : Heap) (L : Addr) (m : Str → Option Value) (s : Shared) (Q E : Value → Shared → Prop) (news : List (Addr × Obj)),
    Below A₀ base outer h₀ → Fr h₀ L s.heap m → (Mine.hd.heap_39 w.params).In base → News h₀ L s.heap news → (∀ p ∈ led, p ∈ news) → Top topProg loose mean mg mb base →
    dp + k < recursionLimit → un + 8 * k < cLine →
    (∀ (v : Value) (h' : Heap) (tk' : Nat) (h₀' : Heap) (new : List (Addr × Obj)), KtsTurn (outer.filterMap (·.frame)) h₀ h₀' → Fr h₀' L h' m → News h₀' L h' (new ++ news) → (∀ p ∈ news, ∀ q ∈ new, p.1 < q.1) → Below A₀ base outer h₀' → Post v new → Q v { s with heap := h', toks := tk' }) →
    wpAny (model PySem.Challenge.rw_ik0186_01.row.prog w) (ktrTop dp un gd cn (fnSc ns ig ic mr) L a ccd cl outer) (call (.ref f) vs) Q E s

noncomputable abbrev ConY (w : World) (loose : List Str) (mean : ExcName → Option Value) (mg mb : Str → Option Value) (k : Nat) (f : Addr) (led : List (Addr × Obj)) (vs : List Value) (Post : Value → List (Addr × Obj) → Prop) : Prop :=
  ∀ (dp un : Nat) (gd : Option (List Code)) (cn : Str) (ns : List (Str × NameKind)) (ig ic : Bool) (mr : List (Str × Const)) (a : Addr) (ccd : Value) (cl : List (Str × Addr)) (outer : List Env) (A₀ : Around) (base h₀ : Heap) (L : Addr) (m : Str → Option Value) (s : Shared) (Q E : Value → Shared → Prop) (news : List (Addr × Obj)),
    Below A₀ base outer h₀ → Fr h₀ L s.heap m → (Mine.hd.heap_39 w.params).In base → News h₀ L s.heap news → (∀ p ∈ led, p ∈ news) → Top topProg loose mean mg mb base →
    dp + k < recursionLimit → un + 8 * k < cLine →
    (∀ (v : Value) (h' : Heap) (tk' : Nat) (h₀' : Heap) (new : List (Addr × Obj)), KtsTurn (outer.filterMap (·.frame)) h₀ h₀' → Fr h₀' L h' m → News h₀' L h' (new ++ news) → (∀ p ∈ news, ∀ q ∈ new, p.1 ≠ q.1) → Below A₀ base outer h₀' → Post v new → Q v { s with heap := h', toks := tk' }) →
    wpAny (model PySem.Challenge.rw_ik0186_01.row.prog w) (ktrTop dp un gd cn (fnSc ns ig ic mr) L a ccd cl outer) (call (.ref f) vs) Q E s
section
variable {prog : Program} {w : World} {A : Around} {E : Value → Shared → Prop} {s : Shared} {h₀ : Heap} {L : Addr} {news : List (Addr × Obj)}

theorem isc_nested_str {k : Value} {dep : Int} {tk : Tok} {Q : Fin → Shared → Prop} (hk : k = .int dep tk) (hq : Q (.done (.ret (.bool true))) s) :
    wpAny (model prog w) A (Builtin.«issubclass.nested» ⟨[.type "str", .type "str", k], []⟩) Q E s := by
  subst hk
  have hm : typeOf (.type "str") = pure (.type "type") := (by kernel_rfl)
  have hself := isSubtype_str_str
  repeat (any_goals (first | assumption | (rw [hself]) | wp_step))

theorem isc_nested_tup {tp : Addr} {cs : List Value} {c : Value} {n : Nat} {tk : Tok} {Q : Fin → Shared → Prop}
    (htp : s.heap.get? tp = some { cls := .type "tuple", data := .seq cs.toArray n }) (hcs : cs = [.type "str", c]) (hq : Q (.done (.ret (.bool true))) s) :
    wpAny (model prog w) A (Builtin.«issubclass.nested» ⟨[.type "str", .ref tp, .int 0 tk], []⟩) Q E s := by
  obtain ⟨h, g, d, t, os⟩ := s
  have hT2 : (⟨h, g, d, t, os⟩ : Shared).TypeIs (.ref tp) "tuple" := ⟨_, htp, rfl⟩
  have f1 := F.isi_sub_tuple
  repeat (any_goals (first | assumption | wp_step))
  refine wpAny_arrayLoop ?_
  simp only [Option.getD_some, List.toList_toArray]
  subst hcs
  rw [List.forIn_cons]
  refine wpAny_bind (wpAny_bind (call_function_entry (by rw [Fast.te11380579304954806539]; kernel_rfl) (by decide +kernel) F.entry_issubclass_nested (by unfold argsOk; rw [S.signatureZ_eq]; kernel_rfl) (isc_nested_str rfl ⟨_, rfl, ?_⟩)))
  repeat (any_goals (first | assumption | wp_step))
theorem isc_call {tp : Addr} {c : Value} {n : Nat} {Q : Value → Shared → Prop} (N : News h₀ L s.heap news)
    (hm : (tp, ({ cls := .type "tuple", data := .seq [.type "str", c].toArray n } : Obj)) ∈ news) (hq : Q (.bool true) s) :
    wpAny (model prog w) A (call (.builtin "issubclass") [.type "str", .ref tp]) Q E s :=
  call_issubclass (S := fun _ R s => s.heap.get? tp = some { cls := .type "tuple", data := .seq [.type "str", c].toArray n } ∧ R (.ok (.ret (.bool true))) s)
    (fun _ _ _ _ _ hs => issubclass_outer (isc_nested_tup (cs := [_, _]) hs.1 rfl hs.2)) ⟨(N _ hm).1, hq⟩
end
theorem kw_r_issub_1 : True := by
  (k_with "call builtin:issubclass" => ((k_here; (with_reducible show wpAny _ _ (call (Value.builtin "issubclass") [Value.type "str", Value.ref _]) _ _ _); refine' isc_call (by k_asm) (by k_mem) ?_; k_whole)))
  trivial
theorem kw_c_fspath_0 : True := by
  k_with_none
  (k_with "k_room" => (ktr_room))
  (k_with "con sub" => (first | exact List.forall_mem_nil _ | k_extra "sub" | (simp only [List.forall_mem_cons]; refine ⟨?_, ?_⟩ <;> first | exact List.forall_mem_nil _ | k_mem | k_extra "con sub") | k_sub))
  (k_with "con enter" => ((refine wpAny_call ?_; (refine' code_defG (by assumption) (by assumption) (by assumption) (by assumption) (by assumption) (by exact rfl) (by exact rfl) (by exact rfl) (by k_is) (by k_is) (by k_room) (by first | exact BindsTo.of_eq rfl | exact binds_K (by k_in) rfl (by k_is) rfl rfl rfl | fail "k_enter: no rule for these arguments") (by exact locs rfl) ?_ (by exact rfl) (by exact rfl) (by exact rfl) (by decide); k_whole))))
  (k_with "con start" => ((dsimp only [Con, fnSc]; intros; rename_i hret)))
  (k_with "LeaveK" => ((k_dflt (refine' leave_con (by with_reducible assumption) (by assumption) (by k_asm) (by k_asm) (by k_extra "con sub") ?_; k_whole); intro _; (try dsimp only))))
  (k_with "con enterC" => ((refine wpAny_call ?_; (refine' enter_cells (by assumption) (by assumption) (by assumption) (by assumption) (by assumption) (by exact rfl) (by exact rfl) (by exact rfl) (by k_is) (by k_is) (by k_room) (by exact BindsTo.of_eq rfl) (by exact rfl) (by decide +kernel) ?_ (by exact rfl) (by exact rfl) (by exact rfl); k_whole))))
  (k_with "con enterR" => ((refine wpAny_call ?_; (refine' enter_rest (by assumption) (by assumption) (by assumption) (by assumption) (by assumption) (by exact rfl) (by exact rfl) (by exact rfl) (by k_is) (by k_is) (by k_room) (by exact rfl) (by exact fun _ => locs rfl) ?_ (by exact rfl) (by exact rfl) (by exact rfl) (by decide); k_whole))))
  (k_with "callWith" => ((k_here; (with_reducible show wpAny _ _ (callWith _ (Value.builtin _) (_ :: _) (backTo _ (starEach (_ :: _) _)) []) _ _ _); (with_reducible refine' callWith_method1 ?_ (by k_dflt (exact rfl)) (by k_dflt (exact rfl))))))
  (k_with "mem at" => (with_reducible (first | exact List.mem_cons_self | exact List.Mem.head _ | (refine List.mem_cons_of_mem _ ?_; k_extra "mem at") | (refine List.mem_append_left _ ?_; k_extra "mem at") | (refine List.mem_append_right _ ?_; k_extra "mem at"))))
  (k_with "mem in" => (with_reducible (first | assumption | (refine List.mem_cons_of_mem _ ?_; k_extra "mem in") | (refine List.mem_append_right _ ?_; k_extra "mem in") | (refine List.mem_append_left _ ?_; k_extra "mem in"))))
  (k_with "sub" => (with_reducible (first | exact sub_nil | exact sub_refl | (refine sub_cons ?_ ?_; (focus k_extra "mem at"); k_extra "sub") | (refine subs_app ?_ ?_; (focus k_extra "sub"); k_extra "sub") | (intro _ _; k_extra "mem in"))))
  (k_with "call builtin:issubclass" => ((k_here; (with_reducible show wpAny _ _ (call (Value.builtin "issubclass") [Value.type "str", Value.ref _]) _ _ _); refine' isc_call (by k_asm) (by k_mem) ?_; k_whole)))
  trivial
section
variable {w : World} {loose : List Str} {mean : ExcName → Option Value} {mg mb : Str → Option Value}
set_option maxRecDepth 100000 in
set_option maxHeartbeats 8000000 in
theorem c_fspath {x : Str} {t : Tok} : Con w loose mean mg mb 1 94 [] [.str x t] (fun _ _ v => v = .str x t) := by
  dsimp only [Con, fnSc]
  intro dp un gd cn ns ig ic mr a ccd cl outer A₀ base h₀ L m s Q E B0 F0 X0 N0 T0 hd0 hu0 hret
  walk_at "con enter"
  intro g L' h1 FG F1 N1 B1 X1 T1 kG; (try dsimp only); (try k_lift B1); (try k_fold)
  k_steps
  exact hret _ _ _ (by assumption) rfl
end
theorem kw_c_fspath_1 : True := by
  (k_with "call ref" => ((k_here; (with_reducible show wpAny _ _ (call (Value.ref 94) [Value.str _ _]) _ _ _); k_dflt (refine' con_use c_fspath (by k_asm) (by k_asm) (by k_asm) (by k_asm) (by k_asm) (by k_extra "con sub") (by ktr_room) (by ktr_units) ?_; k_whole); intro _ _ _ _ _ _ hv9w9; subst hv9w9; (try dsimp only); (try k_fold))))
  trivial
section
set_option maxRecDepth 100000
namespace FM
theorem entry_map_iter : entryFor table "map.__iter__" = some Builtin.«dict_keyiterator.__iter__» :=
  entryFor_alias (id' := "dict_keyiterator.__iter__") (by rw [fastTable_eq_tree]; kernel_rfl) (by first | rfl | decide +kernel | (unfold String.splitOn; simp +decide [String.splitOnAux])) (by rw [S.canonicalZ_eq]; decide +kernel) (by rw [fastTable_eq_tree]; kernel_rfl)
theorem owner_map : Manifest.owners.lookup (String.ofList ['p', 'a', 'm'].reverse) = some Manifest.sig_map := by kernel_rfl
theorem slot_map_init : Slot "map" "__init__" "object.__init__" :=
  .of (owner := "object") (n := "__init__") (by rw [typeLookup_type, builtinLookup_eq_fast]; kernel_rfl) (by decide +kernel) (by decide +kernel) (by decide +kernel)
    (by first | exact .inl (by decide +kernel) | exact .inr (by decide +kernel)) (by rw [isSubtype_type]; kernel_rfl)
theorem slot_map_iter : Slot "map" "__iter__" "map.__iter__" :=
  .of (owner := "map") (n := "__iter__") (by rw [typeLookup_type, builtinLookup_eq_fast]; kernel_rfl) (by decide +kernel) (by decide +kernel) (by decide +kernel)
    (by first | exact .inl (by decide +kernel) | exact .inr (by decide +kernel)) (by rw [isSubtype_type]; kernel_rfl)
theorem slot_map_next : Slot "map" "__next__" "map.__next__" :=
  .of (owner := "map") (n := "__next__") (by rw [typeLookup_type, builtinLookup_eq_fast]; kernel_rfl) (by decide +kernel) (by decide +kernel) (by decide +kernel)
    (by first | exact .inl (by decide +kernel) | exact .inr (by decide +kernel)) (by rw [isSubtype_type]; kernel_rfl)
theorem entry_map_next : entryFor table "map.__next__" = some Builtin.«map.__next__» := entryFor_of_tree (by kernel_rfl)
theorem entry_map_new : entryFor table "map.__new__" = some Builtin.«map.__new__» := entryFor_of_tree (by kernel_rfl)
theorem args_map_iter_1 (a : Value) : argsOk "map.__iter__" ⟨[a], []⟩ := by
  unfold argsOk; rw [signature?_of (id := "map.__iter__") (n := ['_', '_', 'r', 'e', 't', 'i', '_', '_']) (o := ['p', 'a', 'm']) (by kernel_rfl) owner_map]; kernel_rfl
theorem args_map_next_1 (a : Value) : argsOk "map.__next__" ⟨[a], []⟩ := by
  unfold argsOk; rw [signature?_of (id := "map.__next__") (n := ['_', '_', 't', 'x', 'e', 'n', '_', '_']) (o := ['p', 'a', 'm']) (by kernel_rfl) owner_map]; kernel_rfl
theorem mro_map : mroOf (.type "map") = pure [.type "map", .type "object"] := by rw [mroOf_type]; kernel_rfl
theorem lookup_map_new : typeLookup (.type "map") "__new__" = pure (some (.builtin "map.__new__")) := by rw [typeLookup_type, builtinLookup_eq_fast]; kernel_rfl
theorem called_map : TypeCalled "map" "map.__new__" "object.__init__" :=
  ⟨by decide +kernel, by decide +kernel, ⟨_, _, mro_map⟩, madeBy_type mro_map lookup_map_new (by decide +kernel), by decide +kernel, by rw [isSubtype_type]; kernel_rfl, slot_map_init⟩
theorem typeCall_map_2 (a b : Value) : checkTypeCall "map" ⟨[a, b], []⟩ = pure () := by rw [Fast.te11612656972197000677]; kernel_rfl
theorem newCall_map_2 (a b : Value) : checkBuiltinCall "map.__new__" ⟨[.type "map", a, b], []⟩ = pure () := by rw [Fast.te10254737850608025244]; kernel_rfl
theorem sub_map : isSubtype (.type "map") (.type "map") = pure true := by rw [isSubtype_type]; kernel_rfl
theorem map_no_len : typeLookup (.type "map") "__len__" = pure none := by rw [typeLookup_type, builtinLookup_eq_fast]; kernel_rfl
theorem map_no_hint : typeLookup (.type "map") "__length_hint__" = pure none := by rw [typeLookup_type, builtinLookup_eq_fast]; kernel_rfl
end FM

noncomputable abbrev IsMap (h : Heap) (M TI : Addr) (f : Value) : Prop := h.get? M = some { cls := .type "map", dict := none, data := .fields #[.ref TI, f], slots := #[] }
noncomputable abbrev IsOne (h : Heap) (T : Addr) (a : Value) : Prop := h.get? T = some { cls := .type "tuple", data := .seq #[a] }

section
variable {prog : Program} {w : World} {A : Around} {E : Value → Shared → Prop} {s : Shared} {M TI I l : Addr} {k : Nat} {items : Array Value} {f x : Value}

theorem map_next_item {Q : Value → Shared → Prop} (hMI : M ≠ I) (hM : IsMap s.heap M TI f) (hT : IsOne s.heap TI (.ref I)) (hI : s.heap.IsListIter I l k) (hl : s.heap.IsList l items) (hx : items[k]? = some x)
    (hc : ∀ h', h'.IsListIter I l (k + 1) → Heap.SameBut I s.heap h' → wpAny (model prog w) A (call f [x]) Q E { s with heap := h' }) :
    wpAny (model prog w) A (Builtin.«map.__next__» ⟨[.ref M], []⟩) (fun fin s' => ∃ v, fin = .done (.ret v) ∧ Q v s') E s := by
  show wpAny _ _ (field (.ref M) 0 >>= _) _ _ _
  refine wpAny_bind (wpAny_field hM rfl (x := .ref TI) rfl ?_)
  refine wpAny_bind (wpAny_seqItems hT rfl ?_)
  dsimp only
  refine wpAny_bind ?_
  refine wpAny_arrayLoop ?_
  show wpAny _ _ (forIn [Value.ref I] (#[] : Array Value) _) _ _ _
  simp only [List.forIn_cons, List.forIn_nil]
  refine wpAny_bind (wpAny_bind (wpAny_holding (wpAny_nextOf_list_item hI hl hx fun h' hI' hs' => ?_)))
  refine wpAny_pure (wpAny_pure ?_)
  have hM' : IsMap h' M TI f := hs'.extBut _ _ hMI hM
  refine wpAny_bind (wpAny_field hM' rfl (x := f) rfl ?_)
  refine wpAny_bind (wpAny_holding (wpAny_mono (hc h' hI' hs') (fun v s' hv => ?_) fun _ _ e => e))
  exact wpAny_bind (wpAny_letGo (wpAny_pure ⟨_, rfl, hv⟩))
theorem map_next_end {Q : Fin → Shared → Prop} (hh : A.handled = none) (hM : IsMap s.heap M TI f) (hT : IsOne s.heap TI (.ref I)) (hI : s.heap.IsListIter I l k) (hl : s.heap.IsList l items) (hx : items[k]? = none)
    (hE : ∀ h' e, Heap.ExtBut I s.heap h' → (∃ o, h'.get? e = some o ∧ o.cls = .type "StopIteration") → E (.ref e) { s with heap := h' }) :
    wpAny (model prog w) A (Builtin.«map.__next__» ⟨[.ref M], []⟩) Q E s := by
  show wpAny _ _ (field (.ref M) 0 >>= _) _ _ _
  refine wpAny_bind (wpAny_field hM rfl (x := .ref TI) rfl ?_)
  refine wpAny_bind (wpAny_seqItems hT rfl ?_)
  dsimp only
  refine wpAny_bind ?_
  refine wpAny_arrayLoop ?_
  show wpAny _ _ (forIn [Value.ref I] (#[] : Array Value) _) _ _ _
  simp only [List.forIn_cons, List.forIn_nil]
  exact wpAny_bind (wpAny_bind (wpAny_holding (wpAny_nextOf_list_end hh hI hl hx hE)))
theorem pyIter_map {Q : Value → Shared → Prop} (hM : IsMap s.heap M TI f) (h : Q (.ref M) s) : wpAny (model prog w) A (pyIter (.ref M)) Q E s := by
  have hT : s.TypeIs (.ref M) "map" := ⟨_, hM, rfl⟩
  refine wpAny_pyIter_slot hT FM.slot_map_iter (wpAny_call_entry FM.slot_map_iter hT FM.entry_map_iter ?_ (FM.args_map_iter_1 _))
  show wpAny _ _ (ret (.ref M)) _ _ s
  exact wpAny_pure ⟨_, rfl, "map", _, hT, FM.slot_map_next.lookup, h⟩
noncomputable abbrev mapH (h : Heap) (l : Addr) (g : Value) : Heap := ((h.push { cls := .type "list_iterator", data := .fields #[.ref l, .int 0 0] }).push { cls := .type "tuple", data := .seq #[.ref h.objs.size] }).push { cls := .type "map", data := .fields #[.ref (h.objs.size + 1), g] }
theorem mapH_sizes (h : Heap) (l : Addr) : (h.push { cls := .type "list_iterator", data := .fields #[.ref l, .int 0 0] }).objs.size = h.objs.size + 1 ∧
    ((h.push { cls := .type "list_iterator", data := .fields #[.ref l, .int 0 0] }).push { cls := .type "tuple", data := .seq #[.ref h.objs.size] }).objs.size = h.objs.size + 2 := by
  have e1 : (h.push { cls := .type "list_iterator", data := .fields #[.ref l, .int 0 0] }).objs.size = h.objs.size + 1 := Heap.size_push ..
  exact ⟨e1, by rw [Heap.size_push, e1]⟩
theorem mapH_M (h : Heap) (l : Addr) (g : Value) : IsMap (mapH h l g) (h.objs.size + 2) (h.objs.size + 1) g := by
  show (mapH h l g).get? _ = _
  rw [← (mapH_sizes h l).2]
  exact Heap.get?_push_size _ rfl
theorem mapH_T (h : Heap) (l : Addr) (g : Value) : IsOne (mapH h l g) (h.objs.size + 1) (.ref h.objs.size) := by
  show (mapH h l g).get? _ = _
  rw [← (mapH_sizes h l).1]
  exact Heap.get?_push_of_some _ (Heap.get?_push_size _ rfl)
theorem mapH_stays (h : Heap) (l : Addr) (g : Value) : h.StaysIn (mapH h l g) := fun _ _ e => Heap.get?_push_of_some _ (Heap.get?_push_of_some _ (Heap.get?_push_of_some _ e))
theorem meets_map_new (l : Addr) (items : Array Value) (g : Value) :
    Meets (Builtin.«map.__new__» ⟨[.type "map", g, .ref l], []⟩) (fun _ R s => s.heap.IsList l items ∧ R (.ok (.ret (.ref (s.heap.objs.size + 2)))) { s with heap := mapH s.heap l g }) :=
  .of_wp fun prog w A R s h => by
    obtain ⟨hp, g', d, tk, os⟩ := s; obtain ⟨hl1, h⟩ := h
    have hsub := FM.sub_map
    have hL1 : Heap.IsList (Shared.heap ⟨hp, g', d, tk, os⟩) l items := hl1
    wp_walk using wpAny_pyIter_list hL1
    refine ⟨_, rfl, ?_⟩
    have e := mapH_sizes hp l
    have h' : R (.ok (.ret (.ref ((hp.push { cls := .type "list_iterator", data := .fields #[.ref l, .int 0 0] }).push { cls := .type "tuple", data := .seq #[.ref hp.objs.size] }).objs.size)))
        { heap := ((hp.push { cls := .type "list_iterator", data := .fields #[.ref l, .int 0 0] }).push { cls := .type "tuple", data := .seq #[.ref hp.objs.size] }).push { cls := .type "map", data := .fields #[.ref (hp.push { cls := .type "list_iterator", data := .fields #[.ref l, .int 0 0] }).objs.size, g] }, gens := g', drawn := d, toks := tk, os := os } := by
      rw [e.2, e.1]; exact h
    exact h'
theorem call_map {Q : Value → Shared → Prop} {g : Value} (hl : s.heap.IsList l items) (h : Q (.ref (s.heap.objs.size + 2)) { s with heap := mapH s.heap l g }) :
    wpAny (model prog w) A (call (.type "map") [g, .ref l]) Q E s :=
  callType_new FM.called_map (by decide) (FM.typeCall_map_2 _ _) (FM.newCall_map_2 _ _) (fun obj => F.args_object_init_3 obj _ _) FM.entry_map_new (meets_map_new l items g)
    ⟨hl, ⟨_, mapH_M s.heap l g, rfl⟩, h⟩
end

section
variable {prog : Program} {w : World} {A : Around} {E : Value → Shared → Prop} {s : Shared} {M TI I l : Addr} {items : Array Value} {f : Value} {h₀ : Heap} {L : Addr} {m : Str → Option Value}

structure MapSt (M TI I l L : Addr) (items : Array Value) (f : Value) (h₀ : Heap) (m : Str → Option Value) (gs : Array GenState) (i : Nat) (s : Shared) : Prop where
  map : IsMap s.heap M TI f
  one : IsOne s.heap TI (.ref I)
  it : s.heap.IsListIter I l i
  lst : s.heap.IsList l items
  fr : Fr h₀ L s.heap m
theorem fr_upd {h h' : Heap} {b : Addr} (F : Fr h₀ L h m) (hb : h₀.get? b = none) (hL : b ≠ L) (k : ∀ c o, c ≠ b → h.get? c = some o → h'.get? c = some o) : Fr h₀ L h' m := by
  obtain ⟨oL, es, ep, ho, r⟩ := F.ns
  exact ⟨⟨oL, es, ep, k _ _ hL.symm ho, r⟩, fun c o e => k c o (fun q => by rw [q, hb] at e; cases e) (F.keep c o e), F.above⟩

theorem WalksS.map (hh : A.handled = none) (hMI : M ≠ I) (hTI : TI ≠ I) (hlI : l ≠ I) (hIL : I ≠ L) (hI0 : h₀.get? I = none) (gs : Array GenState)
    (hc : ∀ (x : Value) (s₁ : Shared) (Q₁ : Value → Shared → Prop) (E₁ : Value → Shared → Prop), x ∈ items → Fr h₀ L s₁.heap m → (∀ h' tk, s₁.heap.StaysIn h' → s₁.toks ≤ tk → Q₁ x { s₁ with heap := h', toks := tk }) → wpAny (model prog w) A.in1 (call f [x]) Q₁ E₁ s₁) :
    WalksS prog w A M (M :: TI :: I :: l :: L :: List.range h₀.objs.size) [I] (fun a b => b = a) items.size (fun i v => items[i]? = some v) (MapSt M TI I l L items f h₀ m gs) where
  sub := fun b hb => by simp at hb; subst hb; simp
  grefl := fun _ => rfl
  gtrans := fun _ _ _ h1 h2 => h2.trans h1
  frame := fun i s h' tk st _ hk => ⟨hk M (by simp) _ st.map, hk TI (by simp) _ st.one, st.it.at fun o e => hk I (by simp) o e, st.lst.at fun o e => hk l (by simp) o e,
    ⟨st.fr.ns.at' fun o e => hk L (by simp) o e, fun b o e => hk b (by have := Heap.lt_size e; simp [this]) o (st.fr.keep b o e), st.fr.above⟩⟩
  item := fun i s Q E hi st hQ => by
    have hT : s.TypeIs (.ref M) "map" := ⟨_, st.map, rfl⟩
    unfold pyNext
    refine wpAny_bind (wpAny_attempt (wpAny_callSpecial?_slot (name := Str.ofString "__next__") hT FM.slot_map_next (wpAny_call_entry FM.slot_map_next hT FM.entry_map_next ?_ (FM.args_map_next_1 _))))
    refine map_next_item hMI st.map st.one st.it st.lst (x := items[i]) (by simp [hi]) fun h' hI' hs' => ?_
    have F' : Fr h₀ L h' m := fr_upd st.fr hI0 hIL fun c o hc' e => hs'.extBut c o hc' e
    refine hc _ _ _ _ (by simp) F' fun h'' tk hst htk => wpAny_pure (hQ _ _ (by simp [hi]) ⟨hst _ _ (hs'.extBut _ _ hMI st.map), hst _ _ (hs'.extBut _ _ hTI st.one), hI'.at fun o e => hst _ o e, st.lst.at fun o e => hst _ _ (hs'.extBut _ _ hlI e), F'.keeps hst⟩ ⟨?_, rfl, rfl, rfl, htk⟩)
    exact fun b o hb e => hst b o (hs'.extBut b o (by simpa using hb) e)
  done := fun s Q E st hQ => by
    have hT : s.TypeIs (.ref M) "map" := ⟨_, st.map, rfl⟩
    unfold pyNext
    refine wpAny_bind (wpAny_attempt (wpAny_callSpecial?_slot (name := Str.ofString "__next__") hT FM.slot_map_next (wpAny_call_entry FM.slot_map_next hT FM.entry_map_next ?_ (FM.args_map_next_1 _))))
    refine map_next_end hh st.map st.one st.it st.lst (by simp) fun h' e hk he => ?_
    obtain ⟨o, ho, hc'⟩ := he
    refine wpAny_bind (wpAny_isInstance (T := "StopIteration") (b := true) ⟨o, ho, hc'⟩ isSubtype_stop ?_)
    exact wpAny_pure (hQ _ ⟨fun b o hb e => hk b o (by simpa using hb) e, rfl, rfl, rfl, Nat.le_refl _⟩)
  self := fun i s Q E st h => pyIter_map st.map h
end
section
open Builtin.List in
theorem collect_map {prog : Program} {w : World} {A : Around} {E : Value → Shared → Prop} {s : Shared} {I : Addr} {fp wr : List Addr} {G : Array GenState → Array GenState → Prop} {n : Nat} {P : Nat → Value → Prop} {St : Nat → Shared → Prop} {Q : List Value → Shared → Prop}
    (W : WalksS prog w A.in1 I fp wr G n P St) (hT : ∀ i s, St i s → s.TypeIs (.ref I) "map") (hst : St 0 s) (hfp : ∀ b ∈ fp, b < s.heap.objs.size) (hI : I ∈ fp)
    (hQ : ∀ s' acc, Moved wr G s s' → ItemsOf P acc n → Q acc.toList s') (hn : n ≤ sizeLine) : wpAny (model prog w) A (collect (.ref I)) Q E s := by
  have hS : s.heap.objs.size ∉ fp := fun hm => absurd (hfp _ hm) (Nat.lt_irrefl _)
  have hne : s.heap.objs.size ≠ I := fun e => hS (e ▸ hI)
  let new : Obj := { cls := .type "list", data := .seq ([] : List Value).toArray }
  have st1 : St 0 { s with heap := s.heap.push new } := W.frame 0 s _ s.toks hst (Nat.le_refl _) fun b _ o e => Heap.get?_push_of_some _ e
  have g1 : (s.heap.push new).get? s.heap.objs.size = some new := Heap.get?_push_size _ rfl
  have g2 := Heap.get?_update_self (Obj.mapSeq (·.push Value.none)) g1 rfl
  have g3 := Heap.get?_update_self (Obj.mapSeq (·.pop)) g2 rfl
  have other : ∀ b o, b ≠ s.heap.objs.size → (s.heap.push new).get? b = some o → (((s.heap.push new).update s.heap.objs.size (Obj.mapSeq (·.push Value.none))).update s.heap.objs.size (Obj.mapSeq (·.pop))).get? b = some o := fun b o hb e => by
    rw [Heap.get?_update_other _ _ (Ne.symm hb), Heap.get?_update_other _ _ (Ne.symm hb)]; exact e
  unfold collect
  refine wpAny_bind (wpAny_runValue (codeAny_builtin F.entry_proto_collect ?_))
  rw [Around.under_plainId F.plain_proto_collect _]
  show wpAny _ A.in1 (newList [] >>= fun l => again (.builtin "list.__iadd__" ⟨[l, .ref I], []⟩)) _ _ s
  refine wpAny_bind (wpAny_newObj_type (wpAny_pure ⟨plainId_quiet F.plain_list_iadd _, codeAny_builtin F.entry_list_iadd ?_⟩))
  rw [Around.under_plainId F.plain_list_iadd _]
  show wpAny _ A.in1 (listExtendWith (.ref s.heap.objs.size) (.ref I) (.ref s.heap.objs.size)) _ _ _
  unfold listExtendWith
  refine wpAny_bind (wpAny_typeOf (hT 0 _ st1) ?_)
  simp only [show listSameRef (.ref s.heap.objs.size) (.ref I) = false from by simp [listSameRef, hne], show (Value.type "map" == Value.type "list") = false from by decide, show (Value.type "map" == Value.type "tuple") = false from by decide, Bool.or_false, Bool.false_eq_true, if_false]
  refine wpAny_bind (W.self 0 _ _ _ st1 ?_)
  refine wpAny_bind (wpAny_holding ?_)
  unfold listLengthHint
  refine wpAny_bind (wpAny_specialOf (hT 0 _ st1) FM.map_no_len ?_)
  show wpAny _ A.in1 (specialOf (Value.ref I) (Str.ofString "__length_hint__") >>= _) _ _ _
  refine wpAny_bind (wpAny_specialOf (hT 0 _ st1) FM.map_no_hint (wpAny_pure ?_))
  show wpAny _ A.in1 (rule "list.extend.makes-room" >>= fun _ => listTouch (.ref s.heap.objs.size) >>= fun _ => again (.builtin "list.extend.loop" ⟨[.ref s.heap.objs.size, .ref I, .ref s.heap.objs.size], []⟩)) _ _ _
  refine wpAny_bind (wpAny_rule (wpAny_bind ?_))
  show wpAny _ A.in1 (updateSeq s.heap.objs.size (·.push .none) >>= fun _ => updateSeq s.heap.objs.size (·.pop)) _ _ _
  refine wpAny_bind (wpAny_updateSeq g1 rfl (wpAny_updateSeq g2 rfl ?_))
  refine wpAny_pure ⟨plainId_quiet F.plain_extend_loop _, codeAny_extend_loopS W hn _ hS _ n 0 _ _ _ rfl (Nat.zero_le _)
    (W.frame 0 { s with heap := s.heap.push new } _ s.toks st1 (Nat.le_refl _) fun b hb o e => other b o (fun q => hS (q ▸ hb)) e) g3 (ItemsOf.nil P) fun s' acc' c' hm hS' hacc => ?_⟩
  show wpAny _ A (load s.heap.objs.size >>= _) _ _ s'
  refine wpAny_bind (wpAny_load hS' (wpAny_pure (hQ s' acc' ?_ hacc)))
  exact Moved.drop_new (o := new) (tk := s.toks) (Moved.trans W.gtrans ((Moved.refl W.grefl).then_heap (Nat.le_refl _) fun b o hb e => other b o (fun q => hb (q ▸ List.mem_cons_self)) e) hm) (Nat.le_refl _)
section
variable {prog : Program} {w : World} {A : Around} {E : Value → Shared → Prop} {s : Shared} {I : Addr} {fp wr : List Addr} {G : Array GenState → Array GenState → Prop} {n : Nat} {P : Nat → Value → Prop} {St : Nat → Shared → Prop}
theorem code_tuple_new_map {Q₁ : Value → Shared → Prop} (W : WalksS prog w A.in1.in1 I fp wr G n P St) (hT : ∀ i s, St i s → s.TypeIs (.ref I) "map") (hst : St 0 s) (hfp : ∀ b ∈ fp, b < s.heap.objs.size) (hI : I ∈ fp)
    (h : ∀ s' acc, Moved wr G s s' → ItemsOf P acc n → Q₁ (.ref s'.heap.objs.size) { s' with heap := s'.heap.push { cls := .type "tuple", data := .seq acc } }) (hsz : n ≤ sizeLine) :
    codeAny (model prog w) A (.call (.builtin "tuple.__new__") ⟨[.type "tuple", .ref I], []⟩) (wants Q₁ E) s := by
  refine codeAny_of_tree ?_
  show wpAny _ A.in1 (do checkBuiltinCall "tuple.__new__" ⟨[.type "tuple", .ref I], []⟩; again (.builtin "tuple.__new__" ⟨[.type "tuple", .ref I], []⟩)) _ _ s
  refine wpAny_bind (wpAny_of_eq (F.newCall_tuple_1 _) (wpAny_pure ⟨plainId_quiet F.plain_tuple_new _, codeAny_builtin F.entry_tuple_new ?_⟩))
  rw [Around.under_plainId F.plain_tuple_new _]
  have h1 := sub_tuple_self
  have h2 := init_tuple_lookup
  have h3 := madeHere_tuple
  have h4 := hT 0 s hst
  wp_walk using wpAny_typeOf h4, collect_map W hT hst hfp hI (hn := hsz)
  intro s' acc hm hacc
  show wpAny _ _ (Builtin.Tuple.tupleExact acc.toList.toArray >>= fun v => ret v) _ _ _
  unfold Builtin.Tuple.tupleExact
  have e : acc.toList.toArray = acc := by simp
  rw [e]
  exact wpAny_bind (wpAny_newObj_type (wpAny_pure (h s' acc hm hacc)) (by show acc.size ≤ sizeLine; rw [hacc.1]; exact hsz))
theorem call_tuple_map {Q : Value → Shared → Prop} (W : WalksS prog w A.in1.in1.in1 I fp wr G n P St) (hT : ∀ i s, St i s → s.TypeIs (.ref I) "map") (hst : St 0 s) (hfp : ∀ b ∈ fp, b < s.heap.objs.size) (hI : I ∈ fp)
    (hQ : ∀ s' acc, Moved wr G s s' → ItemsOf P acc n → Q (.ref s'.heap.objs.size) { s' with heap := s'.heap.push { cls := .type "tuple", data := .seq acc } }) (hsz : n ≤ sizeLine) :
    wpAny (model prog w) A (call (.type "tuple") [.ref I]) Q E s := by
  refine callType_codes (Q₁ := fun obj s₁ => s₁.TypeIs obj "tuple" ∧ Q obj s₁) F.called_tuple (F.typeCall_tuple_1 _) F.entry_object_init
    (code_tuple_new_map W hT hst hfp hI (fun s' acc hm hacc => ⟨⟨_, Heap.get?_push_size _ rfl, rfl⟩, hQ s' acc hm hacc⟩) hsz) fun obj s₁ h₁ => ?_
  exact ⟨h₁.1, F.args_object_init_2 obj _, object_init_meets F.called_tuple.init.lookup F.called_tuple.made (by decide) prog w A.in1 _ s₁ ⟨h₁.1, rfl, h₁.2⟩⟩
end
end
section
variable {prog : Program} {w : World} {A : Around} {E : Value → Shared → Prop} {s : Shared} {l M TI I : Addr} {vs : List Value} {n : Nat} {f : Value} {h₀ : Heap} {L : Addr} {m : Str → Option Value} {news rest : List (Addr × Obj)} {Q : Value → Shared → Prop}
noncomputable abbrev mapObj (TI : Addr) (f : Value) : Obj := { cls := .type "map", data := .fields #[.ref TI, f] }
noncomputable abbrev oneObj (I : Addr) : Obj := { cls := .type "tuple", data := .seq #[.ref I] }
noncomputable abbrev liObj (l : Addr) : Obj := { cls := .type "list_iterator", data := .fields #[.ref l, .int 0 0] }
noncomputable abbrev tupObj (vs : List Value) : Obj := { cls := .type "tuple", data := .seq vs.toArray }
theorem map_K (F : Fr h₀ L s.heap m) (N : News h₀ L s.heap news) (hl : (l, W.listOf vs.toArray n) ∈ news)
    (h : ∀ M TI I h', Fr h₀ L h' m → News h₀ L h' ((M, mapObj TI f) :: (TI, oneObj I) :: (I, liObj l) :: news) → (∀ p ∈ news, p.1 < I) → I < TI → TI < M → Q (.ref M) { s with heap := h' }) :
    wpAny (model prog w) A (call (.type "map") [f, .ref l]) Q E s := by
  have hL : s.heap.IsList l vs.toArray := ⟨_, (N _ hl).1, rfl, n, rfl⟩
  refine call_map hL (h _ _ s.heap.objs.size _ (F.keeps (mapH_stays _ _ _)) ?_ (fun p hp => Heap.lt_size (N p hp).1) (Nat.lt_succ_self _) (Nat.lt_succ_self _))
  have fr : ∀ a, s.heap.objs.size ≤ a → a ≠ L ∧ h₀.get? a = none := fun a ha => by
    refine ⟨fun e => ?_, ?_⟩
    · exact absurd F.ns.lt (Nat.not_lt.mpr (e ▸ ha))
    · cases e : h₀.get? a with
      | none => rfl
      | some o => exact absurd (Heap.lt_size (F.keep a o e)) (Nat.not_lt.mpr ha)
  intro p hp
  rcases List.mem_cons.mp hp with rfl | hp
  · exact ⟨mapH_M s.heap l f, fr _ (by first | exact Nat.le_succ _ | exact Nat.le_trans (Nat.le_succ _) (Nat.le_succ _))⟩
  · rcases List.mem_cons.mp hp with rfl | hp
    · exact ⟨mapH_T s.heap l f, fr _ (by first | exact Nat.le_succ _ | exact Nat.le_trans (Nat.le_succ _) (Nat.le_succ _))⟩
    · rcases List.mem_cons.mp hp with rfl | hp
      · exact ⟨Heap.get?_push_of_some _ (Heap.get?_push_of_some _ (Heap.get?_push_size _ rfl)), fr _ (Nat.le_refl _)⟩
      · exact ⟨mapH_stays _ _ _ _ _ (N p hp).1, (N p hp).2⟩
theorem tuple_map_K (hh : A.handled = none) (F : Fr h₀ L s.heap m) (N : News h₀ L s.heap ((M, mapObj TI f) :: (TI, oneObj I) :: (I, liObj l) :: news)) (hl : (l, W.listOf vs.toArray n) ∈ news) (hlt : ∀ p ∈ news, p.1 < I) (h1 : I < TI) (h2 : TI < M)
    (hz : vs.length ≤ sizeLine)
    (hc : ∀ (x : Value) (s₁ : Shared) (E₁ : Value → Shared → Prop), x ∈ vs → Fr h₀ L s₁.heap m → wpAny (model prog w) A.in1.in1.in1.in1 (call f [x]) (fun v s' => v = x ∧ ∃ h' tk, s' = { s₁ with heap := h', toks := tk } ∧ s₁.heap.StaysIn h') E₁ s₁)
    (h : ∀ D h' tk, Fr h₀ L h' m → News h₀ L h' ((D, tupObj vs) :: news) → (∀ p ∈ news, p.1 < D) → Q (.ref D) { s with heap := h', toks := tk }) :
    wpAny (model prog w) A (call (.type "tuple") [.ref M]) Q E s := by
  have NM := N (M, mapObj TI f) (by simp)
  have NT := N (TI, oneObj I) (by simp)
  have NI := N (I, liObj l) (by simp)
  have Nl := N (l, W.listOf vs.toArray n) (by simp [hl])
  have hlI := hlt _ hl
  have W := WalksS.map (prog := prog) (w := w) (A := A.in1.in1.in1) (M := M) (TI := TI) (I := I) (l := l) (items := vs.toArray) (f := f) (h₀ := h₀) (L := L) (m := m) hh (Nat.ne_of_gt (Nat.lt_trans h1 h2)) (Nat.ne_of_gt h1) (Nat.ne_of_lt hlI) NI.2.1 NI.2.2 s.gens
    (fun x s₁ Q₁ E₁ hx F₁ k => wpAny_mono (wpAny_toks_of (n := s₁.toks) (Nat.le_refl _) (hc x s₁ E₁ (by simpa using hx) F₁)) (fun v s' hv => by
      obtain ⟨htk, rfl, h', tk, rfl, hst⟩ := hv
      exact k h' tk hst htk) fun _ _ e => e.2)
  have hsz : vs.toArray.size = vs.length := by simp
  refine call_tuple_map W (fun i s st => ⟨_, st.map, rfl⟩) ⟨NM.1, NT.1, ⟨_, NI.1, rfl, rfl⟩, ⟨_, Nl.1, rfl, n, rfl⟩, F⟩ (fun b hb => ?_) (by simp) (fun s' acc hm hacc => ?_) (by rw [hsz]; exact hz)
  · simp only [List.mem_cons, List.mem_range] at hb
    rcases hb with rfl | rfl | rfl | rfl | rfl | hb
    · exact Heap.lt_size NM.1
    · exact Heap.lt_size NT.1
    · exact Heap.lt_size NI.1
    · exact Heap.lt_size Nl.1
    · exact F.ns.lt
    · exact Nat.lt_of_lt_of_le hb (Nat.le_of_lt (Nat.lt_of_le_of_lt F.above F.ns.lt))
  · have hacc' : acc = vs.toArray := by
      apply Array.ext'
      apply List.ext_getElem?
      intro j
      have hs1 : acc.size = vs.length := by rw [hacc.1, hsz]
      by_cases hj : j < vs.length
      · have e : acc[j]? = some acc[j] := Array.getElem?_eq_getElem (by lia)
        have := hacc.2 j _ e
        simp only [Array.getElem?_toList] at this ⊢
        rw [e, ← this]; simp
      · rw [List.getElem?_eq_none (by simp; lia), List.getElem?_eq_none (by simp; lia)]
    subst hacc'
    obtain ⟨hp, gn, dr, tk, os⟩ := s'
    obtain ⟨k1, k2, k3, k4, k5⟩ := hm
    have k2' : gn = s.gens := k2
    have k3' : dr = s.drawn := k3
    have k4' : os = s.os := k4
    subst k2' k3' k4'
    have F' : Fr h₀ L hp m := fr_upd F NI.2.2 NI.2.1 fun c o hc' e => k1 c o (by simpa using hc') e
    refine h hp.objs.size _ _ (F'.push _) (fun p hp' => ?_) (fun p hp' => ?_)
    · rcases List.mem_cons.mp hp' with rfl | hp'
      · refine ⟨Heap.get?_push_size _ rfl, fun e => absurd F'.ns.lt (by rw [← e]; exact Nat.lt_irrefl _), ?_⟩
        cases e : h₀.get? hp.objs.size with
        | none => rfl
        | some o => exact absurd (Heap.lt_size (F'.keep _ o e)) (Nat.lt_irrefl _)
      · have Np := N p (by simp [hp'])
        have := hlt p hp'
        exact ⟨Heap.get?_push_of_some _ (k1 _ _ (by simp; exact Nat.ne_of_lt this) Np.1), Np.2⟩
    · have Np := N p (by simp [hp'])
      have := hlt p hp'
      exact Heap.lt_size (k1 p.1 p.2 (by simp; exact Nat.ne_of_lt this) Np.1)
end
end
section
variable {prog : Program} {w : World} {A : Around} {E : Value → Shared → Prop} {s : Shared} {h₀ : Heap} {L : Addr} {m : Str → Option Value} {news : List (Addr × Obj)} {env : Env}
noncomputable abbrev seqObj (T : String) (vs : List Value) (k : Nat) : Obj := { cls := .type T, data := .seq vs.toArray k }

theorem iter_seq {T : String} {ax : Addr} {vs : List Value} {k : Nat} {Q : Value → Shared → Prop} (hh : A.handled = none) (hT : T = "list" ∨ T = "tuple") (F : Fr h₀ L s.heap m) (N : News h₀ L s.heap news) (hm : (ax, seqObj T vs k) ∈ news)
    (h : ∀ I fp St h', Walks prog w A I fp [I] vs.length (fun i v => vs[i]? = some v) St → St 0 h' → (∀ i h, St i h → ∃ o, h.get? I = some o) → (∀ b ∈ fp, b < h'.objs.size) → Fr h₀ L h' m → News h₀ L h' news → s.heap.get? I = none → s.heap.StaysIn h' → s.heap.objs.size ≤ h'.objs.size → Q (.ref I) { s with heap := h' }) :
    wpAny (model prog w) A (pyIter (.ref ax)) Q E s := by
  have Nx := N _ hm
  have hlt : ax < s.heap.objs.size := Heap.lt_size Nx.1
  have hne : ax ≠ s.heap.objs.size := Nat.ne_of_lt hlt
  have hnew : s.heap.get? s.heap.objs.size = none := Heap.get?_none_of_le (Nat.le_refl _)
  have hsz : vs.toArray.size = vs.length := by simp
  rcases hT with rfl | rfl
  · have hl : s.heap.IsList ax vs.toArray := ⟨_, Nx.1, rfl, k, rfl⟩
    refine wpAny_pyIter_list hl ?_
    have W := Walks.list (prog := prog) (w := w) hh s.heap.objs.size ax hne vs.toArray
    rw [hsz] at W
    refine h _ _ (fun i h => h.IsListIter s.heap.objs.size ax i ∧ h.IsList ax vs.toArray) _ (by simpa using W) ⟨⟨_, Heap.get?_push_size _ rfl, rfl, rfl⟩, hl.push _⟩ (fun i h st => by obtain ⟨⟨o, ho, _⟩, _⟩ := st; exact ⟨o, ho⟩) (fun b hb => ?_) (F.push _) (fun p hp => ⟨Heap.get?_push_of_some _ (N p hp).1, (N p hp).2⟩) hnew (fun b o e => Heap.get?_push_of_some _ e) (by rw [Heap.size_push]; exact Nat.le_succ _)
    rw [Heap.size_push]
    simp only [List.mem_cons, List.not_mem_nil, or_false] at hb
    rcases hb with rfl | rfl
    · exact Nat.lt_succ_self _
    · exact Nat.lt_succ_of_lt hlt
  · have hl : s.heap.IsTuple ax vs.toArray := ⟨_, Nx.1, rfl, k, rfl⟩
    refine wpAny_pyIter_tuple hl ?_
    have W := Walks.tuple (prog := prog) (w := w) hh s.heap.objs.size ax hne vs.toArray
    rw [hsz] at W
    refine h _ _ (fun i h => h.IsTupleIter s.heap.objs.size ax i ∧ h.IsTuple ax vs.toArray) _ (by simpa using W) ⟨⟨_, Heap.get?_push_size _ rfl, rfl, rfl⟩, hl.at fun o e => Heap.get?_push_of_some _ e⟩ (fun i h st => by obtain ⟨⟨o, ho, _⟩, _⟩ := st; exact ⟨o, ho⟩) (fun b hb => ?_) (F.push _) (fun p hp => ⟨Heap.get?_push_of_some _ (N p hp).1, (N p hp).2⟩) hnew (fun b o e => Heap.get?_push_of_some _ e) (by rw [Heap.size_push]; exact Nat.le_succ _)
    rw [Heap.size_push]
    simp only [List.mem_cons, List.not_mem_nil, or_false] at hb
    rcases hb with rfl | rfl
    · exact Nat.lt_succ_self _
    · exact Nat.lt_succ_of_lt hlt

theorem none_of_stays {h h' : Heap} {a : Addr} (k : h.StaysIn h') (e : h'.get? a = none) : h.get? a = none := by
  cases q : h.get? a with
  | none => rfl
  | some o => have := k _ _ q; rw [e] at this; cases this
theorem ne_frame {h : Heap} {D : Addr} (F : Fr h₀ L h m) (e : h.get? D = none) : D ≠ L := by
  rintro rfl
  obtain ⟨_, _, _, ho, _⟩ := F.ns
  rw [ho] at e; cases e
theorem items_are {vs ws : List Value} (hl : ws.length = vs.length) (hP : ∀ (j : Nat) v, ws[j]? = some v → vs[j]? = some v) : ws = vs := by
  apply List.ext_getElem? 
  intro j
  by_cases hj : j < vs.length
  · have e : ws[j]? = some ws[j] := List.getElem?_eq_getElem (by lia)
    rw [e, hP j _ e]
  · rw [List.getElem?_eq_none (by lia), List.getElem?_eq_none (by lia)]

theorem iter_seqU {T : String} {ax : Addr} {vs : List Value} {k : Nat} {Q : Value → Shared → Prop} (hh : A.handled = none) (hT : T = "list" ∨ T = "tuple") (F : Fr h₀ L s.heap m) (N : News h₀ L s.heap news) (hm : (ax, seqObj T vs k) ∈ news)
    (h : ∀ I fp St h', Walks prog w A I fp [I] vs.length (fun i v => vs[i]? = some v) St → St 0 h' → (∀ i h, St i h → ∃ o, h.get? I = some o) →
      (∀ i h h' o nw, St i h → h.get? I = some o → h'.get? I = some o → (∀ b o, h₀.get? b = some o → h'.get? b = some o) → News h₀ L h' nw → (ax, seqObj T vs k) ∈ nw → St i h') →
      (∀ b ∈ fp, b < h'.objs.size) → Fr h₀ L h' m → News h₀ L h' news → L ≠ I → h₀.get? I = none → (∀ p ∈ news, p.1 ≠ I) → Q (.ref I) { s with heap := h' }) :
    wpAny (model prog w) A (pyIter (.ref ax)) Q E s := by
  have Nx := N _ hm
  have hlt : ax < s.heap.objs.size := Heap.lt_size Nx.1
  have hne : ax ≠ s.heap.objs.size := Nat.ne_of_lt hlt
  have hsz : vs.toArray.size = vs.length := by simp
  have offI : ∀ p ∈ news, p.1 ≠ s.heap.objs.size := fun p hp => Nat.ne_of_lt (Heap.lt_size (N p hp).1)
  rcases hT with rfl | rfl
  · have hl : s.heap.IsList ax vs.toArray := ⟨_, Nx.1, rfl, k, rfl⟩
    refine wpAny_pyIter_list hl ?_
    have W := Walks.list (prog := prog) (w := w) hh s.heap.objs.size ax hne vs.toArray
    rw [hsz] at W
    refine h _ _ (fun i h => h.IsListIter s.heap.objs.size ax i ∧ h.IsList ax vs.toArray) _ (by simpa using W) ⟨⟨_, Heap.get?_push_size _ rfl, rfl, rfl⟩, hl.push _⟩ (fun i h st => by obtain ⟨⟨o, ho, _⟩, _⟩ := st; exact ⟨o, ho⟩)
      (fun i h h' o nw st e e' kk N' hm' => ⟨by obtain ⟨o', q, r⟩ := st.1; rw [e] at q; cases q; exact ⟨o, e', r⟩, ⟨_, (N' _ hm').1, rfl, k, rfl⟩⟩)
      (fun b hb => ?_) (F.push _) (fun p hp => ⟨Heap.get?_push_of_some _ (N p hp).1, (N p hp).2⟩) (Nat.ne_of_lt F.ns.lt) (next_is_new F) offI
    rw [Heap.size_push]
    simp only [List.mem_cons, List.not_mem_nil, or_false] at hb
    rcases hb with rfl | rfl
    · exact Nat.lt_succ_self _
    · exact Nat.lt_succ_of_lt hlt
  · have hl : s.heap.IsTuple ax vs.toArray := ⟨_, Nx.1, rfl, k, rfl⟩
    refine wpAny_pyIter_tuple hl ?_
    have W := Walks.tuple (prog := prog) (w := w) hh s.heap.objs.size ax hne vs.toArray
    rw [hsz] at W
    refine h _ _ (fun i h => h.IsTupleIter s.heap.objs.size ax i ∧ h.IsTuple ax vs.toArray) _ (by simpa using W) ⟨⟨_, Heap.get?_push_size _ rfl, rfl, rfl⟩, hl.at fun o e => Heap.get?_push_of_some _ e⟩ (fun i h st => by obtain ⟨⟨o, ho, _⟩, _⟩ := st; exact ⟨o, ho⟩)
      (fun i h h' o nw st e e' kk N' hm' => ⟨by obtain ⟨o', q, r⟩ := st.1; rw [e] at q; cases q; exact ⟨o, e', r⟩, ⟨_, (N' _ hm').1, rfl, k, rfl⟩⟩)
      (fun b hb => ?_) (F.push _) (fun p hp => ⟨Heap.get?_push_of_some _ (N p hp).1, (N p hp).2⟩) (Nat.ne_of_lt F.ns.lt) (next_is_new F) offI
    rw [Heap.size_push]
    simp only [List.mem_cons, List.not_mem_nil, or_false] at hb
    rcases hb with rfl | rfl
    · exact Nat.lt_succ_self _
    · exact Nat.lt_succ_of_lt hlt

noncomputable def SeqSrc (prog : Program) (w : World) (A : Around) (h₀ : Heap) (L : Addr) (m : Str → Option Value) (env : Env) (elt : Expr) (x : Str) (scope : Scope) (cl : List (Str × Addr)) (Fin : Shared → List Value → List (Addr × Obj) → Prop) (xv : Value) (s₁ : Shared) : Prop :=
  ∃ ax T vs k news, xv = .ref ax ∧ A.handled = none ∧ (T = "list" ∨ T = "tuple") ∧ Fr h₀ L s₁.heap m ∧ News h₀ L s₁.heap news ∧ (ax, seqObj T vs k) ∈ news ∧ vs.length ≤ sizeLine ∧
    ∀ s₂ : Shared, (∃ h, s₂ = { s₁ with heap := h }) → LCg.CompRest prog w A h₀ L m env elt x scope cl s₂ (fun nw => (ax, seqObj T vs k) ∈ nw) (fun i v => vs[i]? = some v) (Fin s₂) vs.length 0 [] news
theorem SeqSrc.is {elt : Expr} {x : Str} {scope : Scope} {cl : List (Str × Addr)} {Fin : Shared → List Value → List (Addr × Obj) → Prop} {ax : Addr} {T : String} {vs : List Value} {k : Nat} {s₁ : Shared}
    (hh : A.handled = none) (F : Fr h₀ L s₁.heap m) (N : News h₀ L s₁.heap news) (hm : (ax, seqObj T vs k) ∈ news) (hT : T = "list" ∨ T = "tuple") (hsz : vs.length ≤ sizeLine)
    (h : ∀ g, LCg.CompRest prog w A h₀ L m env elt x scope cl { s₁ with heap := g } (fun nw => (ax, seqObj T vs k) ∈ nw) (fun i v => vs[i]? = some v) (Fin { s₁ with heap := g }) vs.length 0 [] news) :
    SeqSrc prog w A h₀ L m env elt x scope cl Fin (.ref ax) s₁ := ⟨ax, T, vs, k, news, rfl, hh, hT, F, N, hm, hsz, fun _ ⟨g, e⟩ => e ▸ h g⟩
theorem comp_seq {elt iter : Expr} {x : Str} {px : Pos} {scope : Scope} {cl : List (Str × Addr)} {pos : Pos} {Q : Value → Shared → Prop} (_F₀ : Fr h₀ L s.heap m)
    (hclos : closureFor scope env = pure cl) (hcell : ∀ y ∈ scope.names, y.2 ≠ .cell) (hkind : scope.kind = .function)
    (hnames : ∀ y ∈ scope.names, y.2 = .local → scope.names.lookup y.1 = some .local) (hx : scope.names.lookup x = some .local)
    (h : wpAny (model prog w) A (eval iter env) (SeqSrc prog w A h₀ L m env elt x scope cl (fun s₂ => LCg.FinE h₀ L m s₂ Q)) E s)
    (hs : ∀ x, foldedSetIterable iter env x = pure x := by intro _; rfl) :
    wpAny (model prog w) A (eval (.ListComp elt [⟨.Name x px, iter, [], 0⟩] scope pos) env) Q E s := by
  rw [eval_ListComp]
  refine wpAny_comprehension_free (use := none) rfl hs hclos hkind hnames (wpAny_mono h (fun xv s₁ h₁ => ?_) fun _ _ e => e)
  obtain ⟨ax, T, vs, k, news, rfl, hh, hT, F, N, hm, hsz, R⟩ := h₁
  refine iter_seqU hh hT F N hm fun I fp St h' W hst hlive hSt hfp F' N' hLI hI₀ off => ?_
  refine LCg.block_U W hsz hlive hSt hcell hkind hx hst hfp F' N' hLI hI₀ off hm (R _ ⟨_, rfl⟩) ?_
  intro D C h' tk m' ys news' F' N' o1 hn hC₀ hD₀ hCL hDL hCD offC fin
  refine ⟨m', hn, fun h'' hs'' => fin D h'' tk (F'.change hs'' hCL hC₀) (fun p hp => ?_) o1⟩
  refine ⟨hs''.extBut _ _ ?_ (N' p hp).1, (N' p hp).2⟩
  rcases List.mem_cons.mp hp with rfl | hp
  · exact Ne.symm hCD
  · exact offC p hp
theorem assign_comp_seq {elt iter : Expr} {x y : Str} {px py : Pos} {scope : Scope} {cl : List (Str × Addr)} {pos spos : Pos} {Q : Flow → Shared → Prop} (_F₀ : Fr h₀ L s.heap m) (hLe : env.locals = L)
    (hsw : swapsWith (.ListComp elt [⟨.Name x px, iter, [], 0⟩] scope pos) (some (.Name y py)) spos.line env = pure true)
    (hclos : closureFor scope env = pure cl) (hcell : ∀ z ∈ scope.names, z.2 ≠ .cell) (hkind : scope.kind = .function)
    (hnames : ∀ z ∈ scope.names, z.2 = .local → scope.names.lookup z.1 = some .local) (hx : scope.names.lookup x = some .local)
    (hy : env.kindOf y = some .local) (hp : (env.scope.kind == .class || (env.scope.kind == .module && env.locals != env.globals)) = false)
    (h : wpAny (model prog w) A (eval iter env) (SeqSrc prog w A h₀ L m env elt x scope cl (fun s₂ => LCg.FinA h₀ L m s₂ y Q)) E s)
    (hs : ∀ x, foldedSetIterable iter env x = pure x := by intro _; rfl) :
    wpAny (model prog w) A (exec (.Assign [.Name y py] (.ListComp elt [⟨.Name x px, iter, [], 0⟩] scope pos) spos) env) Q E s := by
  subst hLe
  rw [exec_Assign_Name_used _ _ _ _ hsw]
  refine wpAny_bind (wpAny_standAt (wpAny_bind ?_))
  show wpAny _ A (do let _ ← comprehension (.ListComp elt [⟨.Name x px, iter, [], 0⟩] scope pos) scope env _ (newList []) false (eval iter env) (some (assign (.Name y py) env))) _ _ s
  refine wpAny_bind (wpAny_mono (wpAny_comprehension_free (use := some (assign (.Name y py) env)) (Q := fun _ s' => Q .next s') rfl hs hclos hkind hnames
    (wpAny_mono h (fun xv s₁ h₁ => ?_) fun _ _ e => e)) (fun _ s' hq => wpAny_pure (wpAny_pure hq)) fun _ _ e => e)
  obtain ⟨ax, T, vs, k, news, rfl, hh, hT, F, N, hm, hsz, R⟩ := h₁
  refine iter_seqU hh hT F N hm fun I fp St h' W hst hlive hSt hfp F' N' hLI hI₀ off => ?_
  refine LCg.block_U W hsz hlive hSt hcell hkind hx hst hfp F' N' hLI hI₀ off hm (R _ ⟨_, rfl⟩) ?_
  intro D C h' tk m' ys news' F' N' o1 hn hC₀ hD₀ hCL hDL hCD offC fin
  show wpAny _ A (assign (.Name y py) env (.ref D)) _ _ _
  refine wpAny_assign_Name (wpAny_storeName_local hy F'.ns (fun h₂ hn₂ hs₂ => ?_) hp)
  have hL₀ : h₀.get? env.locals = none := Heap.get?_none_of_le F'.above
  have F₂ : Fr h₀ env.locals h₂ (fun z => if z = y then some (.ref D) else m z) := ⟨hn₂, fun b o e => hs₂.extBut b o (fun q => by rw [q, hL₀] at e; cases e) (F'.keep b o e), F'.above⟩
  refine ⟨m', hn.sameBut hs₂ hCL, fun h'' hs'' => fin D h'' _ (F₂.change hs'' hCL hC₀) (fun p hp => ?_) o1⟩
  have z : h₂.get? p.1 = some p.2 := hs₂.extBut _ _ (N' p hp).2.1 (N' p hp).1
  refine ⟨hs''.extBut _ _ ?_ z, (N' p hp).2⟩
  rcases List.mem_cons.mp hp with rfl | hp
  · exact Ne.symm hCD
  · exact offC p hp

theorem compEnd_lt {I C D : Addr} {oI oC oD : Obj} {S : List (Addr × Obj) → Prop} {rest : Value → List (Addr × Obj) → Prop} {y : Value} {s₁ s₂ : Shared} (N : News h₀ L s₁.heap news)
    (h : (∀ p ∈ news, p.1 < s₁.heap.objs.size) → LCg.CompEnd h₀ L m s₁ I oI C oC D oD S rest y s₂) : LCg.CompEnd h₀ L m s₁ I oI C oC D oD S rest y s₂ := h fun p hp => Heap.lt_size (N p hp).1

theorem off1_of {D : Addr} : ∀ {l : List (Addr × Obj)}, (∀ p ∈ l, p.1 ≠ D) → LCg.Off1 D l
  | [], _ => trivial
  | _ :: _, h => ⟨h _ List.mem_cons_self, off1_of fun p hp => h p (List.mem_cons_of_mem _ hp)⟩
theorem off1_at {D a : Nat} {o : Obj} {l : List (Addr × Obj)} (h : LCg.Off1 D l) (hm : (a, o) ∈ l) : @Ne Nat a D := by
  induction l with
  | nil => cases hm
  | cons p l ih =>
    rcases List.mem_cons.mp hm with e | hm
    · subst e; exact h.1
    · exact ih h.2 hm
theorem off3_at1 {I C D a : Nat} {o : Obj} {l : List (Addr × Obj)} (h : LCg.Off3 I C D l) (hm : (a, o) ∈ l) : @Ne Nat a I := (h.mem _ hm).1
theorem off3_at2 {I C D a : Nat} {o : Obj} {l : List (Addr × Obj)} (h : LCg.Off3 I C D l) (hm : (a, o) ∈ l) : @Ne Nat a C := (h.mem _ hm).2.1
theorem off3_at3 {I C D a : Nat} {o : Obj} {l : List (Addr × Obj)} (h : LCg.Off3 I C D l) (hm : (a, o) ∈ l) : @Ne Nat a D := (h.mem _ hm).2.2
theorem off3_at {I C D : Nat} {p : Addr × Obj} {l : List (Addr × Obj)} (a : Addr) (o : Obj) (h : LCg.Off3 I C D l) (hm : (a, o) ∈ l) (e : a = p.1) : (@Ne Nat p.1 I) ∧ (@Ne Nat p.1 C) ∧ (@Ne Nat p.1 D) := by rw [← e]; exact h.mem _ hm
noncomputable def NeP (I C D : Addr) : Prop := (@Ne Nat I C) ∧ (@Ne Nat I D) ∧ (@Ne Nat C D)
theorem neP1 {I C D : Addr} (h : NeP I C D) : @Ne Nat I C := h.1
theorem neP2 {I C D : Addr} (h : NeP I C D) : @Ne Nat I D := h.2.1
theorem neP3 {I C D : Addr} (h : NeP I C D) : @Ne Nat C D := h.2.2
noncomputable def ValSrc (prog : Program) (w : World) (A : Around) (h₀ : Heap) (L : Addr) (m : Str → Option Value) (env : Env) (elt ct : Expr) (x : Str) (scope : Scope) (cl : List (Str × Addr)) (p : Value → Bool) (R : Value → Value → Prop) (Q : Value → Shared → Prop) (xv : Value) (s₁ : Shared) : Prop :=
  ∃ ax T vs k news, xv = .ref ax ∧ (T = "list" ∨ T = "tuple") ∧ (ax, seqObj T vs k) ∈ news ∧ vs.length ≤ sizeLine ∧ Fr h₀ L s₁.heap m ∧ News h₀ L s₁.heap news ∧
      (∀ C oC v s₃ m₃ E', v ∈ vs → LCg.NsObj oC m₃ → m₃ x = some v → Fr h₀ L s₃.heap m → News h₀ L s₃.heap ((C, oC) :: news) →
        wpAny (model prog w) A (isTrue ct (compEnvC scope cl C env) (eval ct (compEnvC scope cl C env))) (fun ok s₄ => ok = p v ∧ Keeps s₃ s₄) E' s₃) ∧
      (∀ C oC v s₃ m₃ E', v ∈ vs → p v = true → LCg.NsObj oC m₃ → m₃ x = some v → Fr h₀ L s₃.heap m → News h₀ L s₃.heap ((C, oC) :: news) →
        wpAny (model prog w) A (eval elt (compEnvC scope cl C env)) (fun y s₄ => R v y ∧ Keeps s₃ s₄) E' s₃) ∧
      (∀ D n ys h' tk, Fr h₀ L h' m → News h₀ L h' ((D, W.listOf (List.toArray ys) n) :: news) → LCg.Off1 D news → s₁.heap.StaysIn h' → Paired R (vs.filter p) ys → Q (.ref D) { s₁ with heap := h', toks := tk })
theorem ValSrc.is {elt ct : Expr} {x : Str} {scope : Scope} {cl : List (Str × Addr)} {p : Value → Bool} {R : Value → Value → Prop} {Q : Value → Shared → Prop} {ax : Addr} {T : String} {vs : List Value} {k : Nat}
    (F : Fr h₀ L s.heap m) (N : News h₀ L s.heap news) (hm : (ax, seqObj T vs k) ∈ news) (hT : T = "list" ∨ T = "tuple") (hz : vs.length ≤ sizeLine)
    (ht : ∀ C oC v s₃ m₃ E', v ∈ vs → LCg.NsObj oC m₃ → m₃ x = some v → Fr h₀ L s₃.heap m → News h₀ L s₃.heap ((C, oC) :: news) →
        wpAny (model prog w) A (isTrue ct (compEnvC scope cl C env) (eval ct (compEnvC scope cl C env))) (fun ok s₄ => ok = p v ∧ Keeps s₃ s₄) E' s₃)
    (he : ∀ C oC v s₃ m₃ E', v ∈ vs → p v = true → LCg.NsObj oC m₃ → m₃ x = some v → Fr h₀ L s₃.heap m → News h₀ L s₃.heap ((C, oC) :: news) →
        wpAny (model prog w) A (eval elt (compEnvC scope cl C env)) (fun y s₄ => R v y ∧ Keeps s₃ s₄) E' s₃)
    (hQ : ∀ D n ys h' tk, Fr h₀ L h' m → News h₀ L h' ((D, W.listOf (List.toArray ys) n) :: news) → LCg.Off1 D news → s.heap.StaysIn h' → Paired R (vs.filter p) ys → Q (.ref D) { s with heap := h', toks := tk }) :
    ValSrc prog w A h₀ L m env elt ct x scope cl p R Q (.ref ax) s := ⟨ax, T, vs, k, news, rfl, hT, hm, hz, F, N, ht, he, hQ⟩
theorem tests_one {ct : Expr} {cenv : Env} {Q : Bool → Shared → Prop} (h : wpAny (model prog w) A (isTrue ct cenv (eval ct cenv)) Q E s) :
    wpAny (model prog w) A (forIn [ct] true fun c r => if r = true then do let ok ← isTrue c cenv (eval c cenv); pure (ForInStep.yield ok) else pure (ForInStep.yield r)) Q E s := by
  simp only [List.forIn_cons, List.forIn_nil, if_true]
  exact wpAny_bind (wpAny_bind (wpAny_mono h (fun _ _ hq => wpAny_pure (wpAny_pure hq)) fun _ _ e => e))
theorem comp_test {elt ct iter : Expr} {x : Str} {px : Pos} {scope : Scope} {cl : List (Str × Addr)} {pos : Pos} {Q : Value → Shared → Prop} (p : Value → Bool) (R : Value → Value → Prop) (_F₀ : Fr h₀ L s.heap m)
    (hh : A.handled = none) (hclos : closureFor scope env = pure cl) (hcell : ∀ y ∈ scope.names, y.2 ≠ .cell) (hkind : scope.kind = .function)
    (hnames : ∀ y ∈ scope.names, y.2 = .local → scope.names.lookup y.1 = some .local) (hx : scope.names.lookup x = some .local)
    (h : wpAny (model prog w) A (eval iter env) (ValSrc prog w A h₀ L m env elt ct x scope cl p R Q) E s)
    (hs : ∀ x, foldedSetIterable iter env x = pure x := by intro _; rfl) :
    wpAny (model prog w) A (eval (.ListComp elt [⟨.Name x px, iter, [ct], 0⟩] scope pos) env) Q E s := by
  refine wpAny_ListComp_free p R hclos hcell hkind hnames hx (wpAny_mono h (fun xv s₁ h₁ => ?_) fun _ _ e => e) hs
  obtain ⟨ax, T, vs, k, news, rfl, hT, hm, hz, F, N, htests, helt, hQ⟩ := h₁
  have hfr : ∀ C, s₁.heap.objs.size ≤ C → C ≠ L ∧ h₀.get? C = none := fun C hC => by
    have e : s₁.heap.get? C = none := Heap.get?_none_of_le hC
    refine ⟨ne_frame F e, ?_⟩
    exact none_of_stays F.keep e
  refine iter_seq hh hT F N hm fun I fp St h2 W hst hlive hfp F2 N2 hI hst2 hsz2 => ⟨I, fp, [I], vs.length, _, St, rfl, W, hz, hst, hfp, ⟨?_, ?_⟩, ?_⟩
  · intro C i v s₃ m₃ E' hC hP hn hmx hk _
    have st : s₁.heap.StaysIn s₃.heap := fun b o e => hk b o (by simp; rintro rfl; rw [hI] at e; cases e) (hst2 b o e)
    obtain ⟨oC, heC, hoC⟩ := LCg.ns_obj hn
    exact tests_one (htests C oC v s₃ m₃ E' (List.mem_of_getElem? hP) hoC hmx (F.keeps st) (fun q hq => by
      rcases List.mem_cons.mp hq with rfl | hq
      · exact ⟨heC, hfr C (Nat.le_trans hsz2 hC)⟩
      · exact ⟨st _ _ (N q hq).1, (N q hq).2⟩))
  · intro C i v s₃ m₃ E' hC hP hp hn hmx hk _
    have st : s₁.heap.StaysIn s₃.heap := fun b o e => hk b o (by simp; rintro rfl; rw [hI] at e; cases e) (hst2 b o e)
    obtain ⟨oC, heC, hoC⟩ := LCg.ns_obj hn
    exact helt C oC v s₃ m₃ E' (List.mem_of_getElem? hP) hp hoC hmx (F.keeps st) (fun q hq => by
      rcases List.mem_cons.mp hq with rfl | hq
      · exact ⟨heC, hfr C (Nat.le_trans hsz2 hC)⟩
      · exact ⟨st _ _ (N q hq).1, (N q hq).2⟩)
  · intro D h' tk ys ws hD hlD hplD hlen hP hF hk
    have e := items_are hlen hP
    subst e
    have st : s₁.heap.StaysIn h' := fun b o e => hk b o (by simp; rintro rfl; rw [hI] at e; cases e) (hst2 b o e)
    obtain ⟨n, eD⟩ := hplD
    have hD1 : s₁.heap.get? D = none := none_of_stays hst2 hD
    refine hQ D n ys.toList h' tk (F.keeps st) (fun q hq => ?_) (off1_of fun q hq e => by rw [← e, (N q hq).1] at hD1; cases hD1) st hF
    · rcases List.mem_cons.mp hq with rfl | hq
      · exact ⟨by simpa using eD, ne_frame F hD1, none_of_stays F.keep hD1⟩
      · exact ⟨st _ _ (N q hq).1, (N q hq).2⟩
end
theorem kw_r_comp_1 : True := by
  (k_with "CompEnd" => ((refine compEnd_lt (by assumption) ?_; intro l9'w9; k_lt l9'w9; lcg_end)))
  (k_with "FinE" => (((unfold LCg.FinE); intro _ _ _ _ N'w9 _; (try dsimp only [List.nil_append, List.cons_append] at N'w9); (try dsimp only))))
  (k_with "FinA" => (((unfold LCg.FinA); intro _ _ _ _ N'w9 _; (try dsimp only [List.nil_append, List.cons_append] at N'w9); (try dsimp only))))
  (k_with "lcg_off" => (first | exact True.intro | (with_reducible assumption) | (refine And.intro (by first | exact off3_at _ _ (by assumption) (by k_mem) rfl | exact ⟨by k_ne, by k_ne, by k_ne⟩) ?_; lcg_off) | (refine And.intro (by k_ne) ?_; lcg_off)))
  (k_with "SeqSrc" => ((k_here; k_dflt ((refine SeqSrc.is (by rfl) (by k_asm) (by k_asm) (by k_mem) (by first | exact Or.inl rfl | exact Or.inr rfl) (by first | size_fits | exact Nat.le_of_ble_eq_true rfl) ?_); intro _; lcg_lit))))
  (k_with "CompRest" => ((with_unfolding_all first
  | (refine LCg.CompRest.succ ?_; intro _ _ _ _ _ _ _ _ _ _ hv'w9 _ _ _ _ _ ne'w9; (replace hv'w9 := Option.some.inj hv'w9; (first | subst hv'w9 | dsimp only at hv'w9; subst hv'w9)); (replace ne'w9 : NeP _ _ _ := ne'w9))
  | refine LCg.CompRest.zero ?_)))
  (k_with "and" => ((with_reducible first | exact And.left (by assumption) | exact And.left (And.right (by assumption)) | exact And.left (And.right (And.right (by assumption))) | exact And.left (And.right (And.right (And.right (by assumption)))) | exact And.left (And.right (And.right (And.right (And.right (by assumption))))) | exact And.left (And.right (And.right (And.right (And.right (And.right (by assumption)))))) | exact And.left (And.right (And.right (And.right (And.right (And.right (And.right (by assumption))))))) | exact And.left (And.right (And.right (And.right (And.right (And.right (And.right (And.right (by assumption)))))))) | exact And.left (And.right (And.right (And.right (And.right (And.right (And.right (And.right (And.right (by assumption))))))))) | exact And.left (And.right (And.right (And.right (And.right (And.right (And.right (And.right (And.right (And.right (by assumption)))))))))) | exact And.left (And.right (And.right (And.right (And.right (And.right (And.right (And.right (And.right (And.right (And.right (by assumption))))))))))) | exact And.left (And.right (And.right (And.right (And.right (And.right (And.right (And.right (And.right (And.right (And.right (And.right (by assumption)))))))))))) | exact And.left (And.right (And.right (And.right (And.right (And.right (And.right (And.right (And.right (And.right (And.right (And.right (And.right (by assumption))))))))))))) | exact And.left (And.right (And.right (And.right (And.right (And.right (And.right (And.right (And.right (And.right (And.right (And.right (And.right (And.right (by assumption)))))))))))))) | exact And.left (And.right (And.right (And.right (And.right (And.right (And.right (And.right (And.right (And.right (And.right (And.right (And.right (And.right (And.right (by assumption))))))))))))))) | exact And.left (And.right (And.right (And.right (And.right (And.right (And.right (And.right (And.right (And.right (And.right (And.right (And.right (And.right (And.right (And.right (by assumption)))))))))))))))) | exact And.right (by assumption) | exact And.right (And.right (by assumption)) | exact And.right (And.right (And.right (by assumption))) | exact And.right (And.right (And.right (And.right (by assumption)))) | exact And.right (And.right (And.right (And.right (And.right (by assumption))))) | exact And.right (And.right (And.right (And.right (And.right (And.right (by assumption)))))) | exact And.right (And.right (And.right (And.right (And.right (And.right (And.right (by assumption))))))) | exact And.right (And.right (And.right (And.right (And.right (And.right (And.right (And.right (by assumption)))))))) | exact And.right (And.right (And.right (And.right (And.right (And.right (And.right (And.right (And.right (by assumption))))))))) | exact And.right (And.right (And.right (And.right (And.right (And.right (And.right (And.right (And.right (And.right (by assumption)))))))))) | exact And.right (And.right (And.right (And.right (And.right (And.right (And.right (And.right (And.right (And.right (And.right (by assumption))))))))))))))
  (k_with "and3" => ((with_reducible first | exact And.left (And.left (by assumption)) | exact And.left (And.right (And.left (by assumption))) | exact And.right (And.right (And.left (by assumption))) | exact And.left (And.left (And.right (by assumption))) | exact And.left (And.right (And.left (And.right (by assumption)))) | exact And.right (And.right (And.left (And.right (by assumption)))) | exact And.left (And.left (And.right (And.right (by assumption)))) | exact And.left (And.right (And.left (And.right (And.right (by assumption))))) | exact And.right (And.right (And.left (And.right (And.right (by assumption))))) | exact And.left (And.left (And.right (And.right (And.right (by assumption))))) | exact And.left (And.right (And.left (And.right (And.right (And.right (by assumption)))))) | exact And.right (And.right (And.left (And.right (And.right (And.right (by assumption)))))) | exact And.left (And.left (And.right (And.right (And.right (And.right (by assumption)))))) | exact And.left (And.right (And.left (And.right (And.right (And.right (And.right (by assumption))))))) | exact And.right (And.right (And.left (And.right (And.right (And.right (And.right (by assumption))))))) | exact And.left (And.left (And.right (And.right (And.right (And.right (And.right (by assumption))))))) | exact And.left (And.right (And.left (And.right (And.right (And.right (And.right (And.right (by assumption)))))))) | exact And.right (And.right (And.left (And.right (And.right (And.right (And.right (And.right (by assumption)))))))) | exact And.left (And.left (And.right (And.right (And.right (And.right (And.right (And.right (by assumption)))))))) | exact And.left (And.right (And.left (And.right (And.right (And.right (And.right (And.right (And.right (by assumption))))))))) | exact And.right (And.right (And.left (And.right (And.right (And.right (And.right (And.right (And.right (by assumption))))))))) | exact And.left (And.left (And.right (And.right (And.right (And.right (And.right (And.right (And.right (by assumption))))))))) | exact And.left (And.right (And.left (And.right (And.right (And.right (And.right (And.right (And.right (And.right (by assumption)))))))))) | exact And.right (And.right (And.left (And.right (And.right (And.right (And.right (And.right (And.right (And.right (by assumption)))))))))) | exact And.left (And.left (And.right (And.right (And.right (And.right (And.right (And.right (And.right (And.right (by assumption)))))))))) | exact And.left (And.right (And.left (And.right (And.right (And.right (And.right (And.right (And.right (And.right (And.right (by assumption))))))))))) | exact And.right (And.right (And.left (And.right (And.right (And.right (And.right (And.right (And.right (And.right (And.right (by assumption))))))))))))))
  (k_with "k_ne" => (first | (with_reducible assumption) | (with_reducible exact Ne.symm (by assumption)) | (refine neN ?_; (try dsimp only); first | (with_reducible assumption) | (with_reducible exact Nat.ne_of_lt (by assumption)) | (with_reducible exact Nat.ne_of_gt (by assumption)) | (with_reducible exact Nat.ne_of_lt (by k_extra "and")) | (with_reducible exact Nat.ne_of_gt (by k_extra "and")) | assumption | exact Ne.symm (by assumption) | k_extra "ne off" | (with_reducible exact Ne.symm (by k_extra "and3")) | (with_reducible k_extra "and3") | (with_reducible exact Ne.symm (by k_extra "and")) | (with_reducible k_extra "and") | lia) | assumption | exact Ne.symm (by assumption)))
  (k_with "ne off" => (first | exact off1_at (by assumption) (by k_mem) | exact Ne.symm (off1_at (by assumption) (by k_mem)) | exact neP1 (by assumption) | exact neP2 (by assumption) | exact neP3 (by assumption) | exact Ne.symm (neP1 (by assumption)) | exact Ne.symm (neP2 (by assumption)) | exact Ne.symm (neP3 (by assumption)) | exact off3_at1 (by assumption) (by k_mem) | exact off3_at2 (by assumption) (by k_mem) | exact off3_at3 (by assumption) (by k_mem) | exact Ne.symm (off3_at1 (by assumption) (by k_mem)) | exact Ne.symm (off3_at2 (by assumption) (by k_mem)) | exact Ne.symm (off3_at3 (by assumption) (by k_mem))))
  (k_with "lcg_src" => (k_mem))
  (k_with "comp seq" => ((k_dflt (refine comp_seq (_F₀ := by k_asm) (by rfl) (by decide) (by rfl) (by decide) (by rfl) ?_))))
  (k_with "assign comp seq" => ((k_dflt (refine assign_comp_seq (_F₀ := by k_asm) (by rfl) (by with_unfolding_all rfl) (by rfl) (by decide) (by rfl) (by decide) (by rfl) (by rfl) (by rfl) ?_))))
  (k_with "no comp" => (repeat' ((fail_if_success (with_reducible show wpAny _ _ (exec (Stmt.Assign [Expr.Name _ _] (Expr.ListComp _ _ _ _) _) _) _ _ _)); (fail_if_success (with_reducible show wpAny _ _ (eval (Expr.ListComp _ _ _ _) _) _ _ _)); (first | (k_unfold; (try dsimp only)) | (k_end; wrow_close) | walk1 | (dsimp only; walk1) | (leave1; walk_say "STEP leave1"; try dsimp only) | fail "no step"))))
  trivial
theorem kw_c_join_0 : True := by
  k_with_none
  (k_with "k_room" => (ktr_room))
  (k_with "con sub" => (first | exact List.forall_mem_nil _ | k_extra "sub" | (simp only [List.forall_mem_cons]; refine ⟨?_, ?_⟩ <;> first | exact List.forall_mem_nil _ | k_mem | k_extra "con sub") | k_sub))
  (k_with "con enter" => ((refine wpAny_call ?_; (refine' code_defG (by assumption) (by assumption) (by assumption) (by assumption) (by assumption) (by exact rfl) (by exact rfl) (by exact rfl) (by k_is) (by k_is) (by k_room) (by first | exact BindsTo.of_eq rfl | exact binds_K (by k_in) rfl (by k_is) rfl rfl rfl | fail "k_enter: no rule for these arguments") (by exact locs rfl) ?_ (by exact rfl) (by exact rfl) (by exact rfl) (by decide); k_whole))))
  (k_with "con start" => ((dsimp only [Con, fnSc]; intros; rename_i hret)))
  (k_with "LeaveK" => ((k_dflt (refine' leave_con (by with_reducible assumption) (by assumption) (by k_asm) (by k_asm) (by k_extra "con sub") ?_; k_whole); intro _; (try dsimp only))))
  (k_with "con enterC" => ((refine wpAny_call ?_; (refine' enter_cells (by assumption) (by assumption) (by assumption) (by assumption) (by assumption) (by exact rfl) (by exact rfl) (by exact rfl) (by k_is) (by k_is) (by k_room) (by exact BindsTo.of_eq rfl) (by exact rfl) (by decide +kernel) ?_ (by exact rfl) (by exact rfl) (by exact rfl); k_whole))))
  (k_with "con enterR" => ((refine wpAny_call ?_; (refine' enter_rest (by assumption) (by assumption) (by assumption) (by assumption) (by assumption) (by exact rfl) (by exact rfl) (by exact rfl) (by k_is) (by k_is) (by k_room) (by exact rfl) (by exact fun _ => locs rfl) ?_ (by exact rfl) (by exact rfl) (by exact rfl) (by decide); k_whole))))
  (k_with "callWith" => ((k_here; (with_reducible show wpAny _ _ (callWith _ (Value.builtin _) (_ :: _) (backTo _ (starEach (_ :: _) _)) []) _ _ _); (with_reducible refine' callWith_method1 ?_ (by k_dflt (exact rfl)) (by k_dflt (exact rfl))))))
  (k_with "mem at" => (with_reducible (first | exact List.mem_cons_self | exact List.Mem.head _ | (refine List.mem_cons_of_mem _ ?_; k_extra "mem at") | (refine List.mem_append_left _ ?_; k_extra "mem at") | (refine List.mem_append_right _ ?_; k_extra "mem at"))))
  (k_with "mem in" => (with_reducible (first | assumption | (refine List.mem_cons_of_mem _ ?_; k_extra "mem in") | (refine List.mem_append_right _ ?_; k_extra "mem in") | (refine List.mem_append_left _ ?_; k_extra "mem in"))))
  (k_with "sub" => (with_reducible (first | exact sub_nil | exact sub_refl | (refine sub_cons ?_ ?_; (focus k_extra "mem at"); k_extra "sub") | (refine subs_app ?_ ?_; (focus k_extra "sub"); k_extra "sub") | (intro _ _; k_extra "mem in"))))
  (k_with "call builtin:issubclass" => ((k_here; (with_reducible show wpAny _ _ (call (Value.builtin "issubclass") [Value.type "str", Value.ref _]) _ _ _); refine' isc_call (by k_asm) (by k_mem) ?_; k_whole)))
  (k_with "call ref" => ((k_here; (with_reducible show wpAny _ _ (call (Value.ref 94) [Value.str _ _]) _ _ _); k_dflt (refine' con_use c_fspath (by k_asm) (by k_asm) (by k_asm) (by k_asm) (by k_asm) (by k_extra "con sub") (by ktr_room) (by ktr_units) ?_; k_whole); intro _ _ _ _ _ _ hv9w9; subst hv9w9; (try dsimp only); (try k_fold))))
  (k_with "CompEnd" => ((refine compEnd_lt (by assumption) ?_; intro l9'w9; k_lt l9'w9; lcg_end)))
  (k_with "FinE" => (((unfold LCg.FinE); intro _ _ _ _ N'w9 _; (try dsimp only [List.nil_append, List.cons_append] at N'w9); (try dsimp only))))
  (k_with "FinA" => (((unfold LCg.FinA); intro _ _ _ _ N'w9 _; (try dsimp only [List.nil_append, List.cons_append] at N'w9); (try dsimp only))))
  (k_with "lcg_off" => (first | exact True.intro | (with_reducible assumption) | (refine And.intro (by first | exact off3_at _ _ (by assumption) (by k_mem) rfl | exact ⟨by k_ne, by k_ne, by k_ne⟩) ?_; lcg_off) | (refine And.intro (by k_ne) ?_; lcg_off)))
  (k_with "SeqSrc" => ((k_here; k_dflt ((refine SeqSrc.is (by rfl) (by k_asm) (by k_asm) (by k_mem) (by first | exact Or.inl rfl | exact Or.inr rfl) (by first | size_fits | exact Nat.le_of_ble_eq_true rfl) ?_); intro _; lcg_lit))))
  (k_with "CompRest" => ((with_unfolding_all first
  | (refine LCg.CompRest.succ ?_; intro _ _ _ _ _ _ _ _ _ _ hv'w9 _ _ _ _ _ ne'w9; (replace hv'w9 := Option.some.inj hv'w9; (first | subst hv'w9 | dsimp only at hv'w9; subst hv'w9)); (replace ne'w9 : NeP _ _ _ := ne'w9))
  | refine LCg.CompRest.zero ?_)))
  (k_with "and" => ((with_reducible first | exact And.left (by assumption) | exact And.left (And.right (by assumption)) | exact And.left (And.right (And.right (by assumption))) | exact And.left (And.right (And.right (And.right (by assumption)))) | exact And.left (And.right (And.right (And.right (And.right (by assumption))))) | exact And.left (And.right (And.right (And.right (And.right (And.right (by assumption)))))) | exact And.left (And.right (And.right (And.right (And.right (And.right (And.right (by assumption))))))) | exact And.left (And.right (And.right (And.right (And.right (And.right (And.right (And.right (by assumption)))))))) | exact And.left (And.right (And.right (And.right (And.right (And.right (And.right (And.right (And.right (by assumption))))))))) | exact And.left (And.right (And.right (And.right (And.right (And.right (And.right (And.right (And.right (And.right (by assumption)))))))))) | exact And.left (And.right (And.right (And.right (And.right (And.right (And.right (And.right (And.right (And.right (And.right (by assumption))))))))))) | exact And.left (And.right (And.right (And.right (And.right (And.right (And.right (And.right (And.right (And.right (And.right (And.right (by assumption)))))))))))) | exact And.left (And.right (And.right (And.right (And.right (And.right (And.right (And.right (And.right (And.right (And.right (And.right (And.right (by assumption))))))))))))) | exact And.left (And.right (And.right (And.right (And.right (And.right (And.right (And.right (And.right (And.right (And.right (And.right (And.right (And.right (by assumption)))))))))))))) | exact And.left (And.right (And.right (And.right (And.right (And.right (And.right (And.right (And.right (And.right (And.right (And.right (And.right (And.right (And.right (by assumption))))))))))))))) | exact And.left (And.right (And.right (And.right (And.right (And.right (And.right (And.right (And.right (And.right (And.right (And.right (And.right (And.right (And.right (And.right (by assumption)))))))))))))))) | exact And.right (by assumption) | exact And.right (And.right (by assumption)) | exact And.right (And.right (And.right (by assumption))) | exact And.right (And.right (And.right (And.right (by assumption)))) | exact And.right (And.right (And.right (And.right (And.right (by assumption))))) | exact And.right (And.right (And.right (And.right (And.right (And.right (by assumption)))))) | exact And.right (And.right (And.right (And.right (And.right (And.right (And.right (by assumption))))))) | exact And.right (And.right (And.right (And.right (And.right (And.right (And.right (And.right (by assumption)))))))) | exact And.right (And.right (And.right (And.right (And.right (And.right (And.right (And.right (And.right (by assumption))))))))) | exact And.right (And.right (And.right (And.right (And.right (And.right (And.right (And.right (And.right (And.right (by assumption)))))))))) | exact And.right (And.right (And.right (And.right (And.right (And.right (And.right (And.right (And.right (And.right (And.right (by assumption))))))))))))))
  (k_with "and3" => ((with_reducible first | exact And.left (And.left (by assumption)) | exact And.left (And.right (And.left (by assumption))) | exact And.right (And.right (And.left (by assumption))) | exact And.left (And.left (And.right (by assumption))) | exact And.left (And.right (And.left (And.right (by assumption)))) | exact And.right (And.right (And.left (And.right (by assumption)))) | exact And.left (And.left (And.right (And.right (by assumption)))) | exact And.left (And.right (And.left (And.right (And.right (by assumption))))) | exact And.right (And.right (And.left (And.right (And.right (by assumption))))) | exact And.left (And.left (And.right (And.right (And.right (by assumption))))) | exact And.left (And.right (And.left (And.right (And.right (And.right (by assumption)))))) | exact And.right (And.right (And.left (And.right (And.right (And.right (by assumption)))))) | exact And.left (And.left (And.right (And.right (And.right (And.right (by assumption)))))) | exact And.left (And.right (And.left (And.right (And.right (And.right (And.right (by assumption))))))) | exact And.right (And.right (And.left (And.right (And.right (And.right (And.right (by assumption))))))) | exact And.left (And.left (And.right (And.right (And.right (And.right (And.right (by assumption))))))) | exact And.left (And.right (And.left (And.right (And.right (And.right (And.right (And.right (by assumption)))))))) | exact And.right (And.right (And.left (And.right (And.right (And.right (And.right (And.right (by assumption)))))))) | exact And.left (And.left (And.right (And.right (And.right (And.right (And.right (And.right (by assumption)))))))) | exact And.left (And.right (And.left (And.right (And.right (And.right (And.right (And.right (And.right (by assumption))))))))) | exact And.right (And.right (And.left (And.right (And.right (And.right (And.right (And.right (And.right (by assumption))))))))) | exact And.left (And.left (And.right (And.right (And.right (And.right (And.right (And.right (And.right (by assumption))))))))) | exact And.left (And.right (And.left (And.right (And.right (And.right (And.right (And.right (And.right (And.right (by assumption)))))))))) | exact And.right (And.right (And.left (And.right (And.right (And.right (And.right (And.right (And.right (And.right (by assumption)))))))))) | exact And.left (And.left (And.right (And.right (And.right (And.right (And.right (And.right (And.right (And.right (by assumption)))))))))) | exact And.left (And.right (And.left (And.right (And.right (And.right (And.right (And.right (And.right (And.right (And.right (by assumption))))))))))) | exact And.right (And.right (And.left (And.right (And.right (And.right (And.right (And.right (And.right (And.right (And.right (by assumption))))))))))))))
  (k_with "k_ne" => (first | (with_reducible assumption) | (with_reducible exact Ne.symm (by assumption)) | (refine neN ?_; (try dsimp only); first | (with_reducible assumption) | (with_reducible exact Nat.ne_of_lt (by assumption)) | (with_reducible exact Nat.ne_of_gt (by assumption)) | (with_reducible exact Nat.ne_of_lt (by k_extra "and")) | (with_reducible exact Nat.ne_of_gt (by k_extra "and")) | assumption | exact Ne.symm (by assumption) | k_extra "ne off" | (with_reducible exact Ne.symm (by k_extra "and3")) | (with_reducible k_extra "and3") | (with_reducible exact Ne.symm (by k_extra "and")) | (with_reducible k_extra "and") | lia) | assumption | exact Ne.symm (by assumption)))
  (k_with "ne off" => (first | exact off1_at (by assumption) (by k_mem) | exact Ne.symm (off1_at (by assumption) (by k_mem)) | exact neP1 (by assumption) | exact neP2 (by assumption) | exact neP3 (by assumption) | exact Ne.symm (neP1 (by assumption)) | exact Ne.symm (neP2 (by assumption)) | exact Ne.symm (neP3 (by assumption)) | exact off3_at1 (by assumption) (by k_mem) | exact off3_at2 (by assumption) (by k_mem) | exact off3_at3 (by assumption) (by k_mem) | exact Ne.symm (off3_at1 (by assumption) (by k_mem)) | exact Ne.symm (off3_at2 (by assumption) (by k_mem)) | exact Ne.symm (off3_at3 (by assumption) (by k_mem))))
  (k_with "lcg_src" => (k_mem))
  (k_with "comp seq" => ((k_dflt (refine comp_seq (_F₀ := by k_asm) (by rfl) (by decide) (by rfl) (by decide) (by rfl) ?_))))
  (k_with "assign comp seq" => ((k_dflt (refine assign_comp_seq (_F₀ := by k_asm) (by rfl) (by with_unfolding_all rfl) (by rfl) (by decide) (by rfl) (by decide) (by rfl) (by rfl) (by rfl) ?_))))
  (k_with "no comp" => (repeat' ((fail_if_success (with_reducible show wpAny _ _ (exec (Stmt.Assign [Expr.Name _ _] (Expr.ListComp _ _ _ _) _) _) _ _ _)); (fail_if_success (with_reducible show wpAny _ _ (eval (Expr.ListComp _ _ _ _) _) _ _ _)); (first | (k_unfold; (try dsimp only)) | (k_end; wrow_close) | walk1 | (dsimp only; walk1) | (leave1; walk_say "STEP leave1"; try dsimp only) | fail "no step"))))
  trivial
section
variable {w : World} {loose : List Str} {mean : ExcName → Option Value} {mg mb : Str → Option Value}
noncomputable def joinS (x y : Str) : Str := if Txt.startswith y (Str.ofString "/") = true ∨ x.length = 0 then y else if Txt.endswith x (Str.ofString "/") = true then x ++ y else x ++ (Str.ofString "/" ++ y)
noncomputable def baseS (x : Str) : Str := Txt.slice x (some (Txt.rfind x (Str.ofString "/") + 1)) none
noncomputable def headS (x : Str) : Str := Txt.slice x none (some (Txt.rfind x (Str.ofString "/") + 1))
noncomputable def dirS (x : Str) : Str := if (headS x).length ≠ 0 ∧ (headS x != Txt.mul (Str.ofString "/") (headS x).length) = true then Txt.rstripChars (headS x) (Str.ofString "/") else headS x
set_option maxRecDepth 100000 in
set_option maxHeartbeats 8000000 in
theorem c_join {x y : Str} {t u : Tok} (hx : x.length ≤ 4096) (hy : y.length ≤ 4096) : Con w loose mean mg mb 2 115 [] [.str x t, .str y u] (fun _ _ v => ∃ t', v = .str (joinS x y) t') := by
  dsimp only [Con, fnSc]
  intro dp un gd cn ns ig ic mr a ccd cl outer A₀ base h₀ L m s Q E B0 F0 X0 N0 T0 hd0 hu0 hret
  walk_at "con enterR"
  intro D1 g L' h1 l1 FG F1 N1 B1 X1 T1 kG; (try k_lt l1); (try dsimp only); (try k_lift B1); (try k_fold)
  k_steps
  all_goals refine hret _ _ _ (by assumption) ⟨_, congrArg (Value.str · _) ?_⟩
  all_goals (unfold joinS; first | (rw [if_pos (by first | exact Or.inl (by assumption) | exact Or.inr (by lia))]) | (rw [if_neg (by rintro (h | h) <;> first | lia | simp_all)]; first | rw [if_pos (by assumption)] | rw [if_neg (by simp_all)]))
set_option maxRecDepth 100000 in
set_option maxHeartbeats 8000000 in
theorem c_basename {x : Str} {t : Tok} (hx : x.length ≤ 4096) : Con w loose mean mg mb 2 122 [] [.str x t] (fun _ _ v => ∃ t', v = .str (baseS x) t') := by
  dsimp only [Con, fnSc]
  intro dp un gd cn ns ig ic mr a ccd cl outer A₀ base h₀ L m s Q E B0 F0 X0 N0 T0 hd0 hu0 hret
  walk_at "con enter"
  intro g L' h1 FG F1 N1 B1 X1 T1 kG; (try dsimp only); (try k_lift B1); (try k_fold)
  k_steps
  exact hret _ _ _ (by assumption) ⟨_, rfl⟩
set_option maxRecDepth 100000 in
set_option maxHeartbeats 8000000 in
theorem c_dirname {x : Str} {t : Tok} (hx : x.length ≤ 4096) : Con w loose mean mg mb 2 129 [] [.str x t] (fun _ _ v => ∃ t', v = .str (dirS x) t') := by
  dsimp only [Con, fnSc]
  intro dp un gd cn ns ig ic mr a ccd cl outer A₀ base h₀ L m s Q E B0 F0 X0 N0 T0 hd0 hu0 hret
  walk_at "con enter"
  intro g L' h1 FG F1 N1 B1 X1 T1 kG; (try dsimp only); (try k_lift B1); (try k_fold)
  k_steps
  all_goals refine hret _ _ _ (by assumption) ⟨_, congrArg (Value.str · _) ?_⟩
  · exact (if_pos ⟨by have h : ((headS x).length : Int) ≠ 0 := by assumption
                      lia, by assumption⟩).symm
  · refine (if_neg fun h => ?_).symm
    have h2 : (headS x != Txt.mul (Str.ofString "/") (headS x).length) = false := by assumption
    rw [h2] at h; exact Bool.noConfusion h.2
  · refine (if_neg fun h => h.1 ?_).symm
    have h : ((headS x).length : Int) = 0 := by first | assumption | lia
    lia
end
theorem kw_c_join_1 : True := by
  (k_with "str len" => (first | assumption | lia | ((simp only [Str.length_append, PySem.ofString_length] at *); lia)))
  (k_with "call ref" => ((k_here; (with_reducible show wpAny _ _ (call (Value.ref 115) [Value.str _ _, Value.str _ _]) _ _ _); k_dflt (refine' con_use (c_join (by k_extra "str len") (by k_extra "str len")) (by k_asm) (by k_asm) (by k_asm) (by k_asm) (by k_asm) (by k_extra "con sub") (by ktr_room) (by ktr_units) ?_; k_whole); intro _ _ _ _ _ _ hv9w9; obtain ⟨t9, hv9w9⟩ := hv9w9; subst hv9w9; (try dsimp only); (try k_fold))))
  (k_with "call ref" => ((k_here; (with_reducible show wpAny _ _ (call (Value.ref 122) [Value.str _ _]) _ _ _); k_dflt (refine' con_use (c_basename (by k_extra "str len")) (by k_asm) (by k_asm) (by k_asm) (by k_asm) (by k_asm) (by k_extra "con sub") (by ktr_room) (by ktr_units) ?_; k_whole); intro _ _ _ _ _ _ hv9w9; obtain ⟨t9, hv9w9⟩ := hv9w9; subst hv9w9; (try dsimp only); (try k_fold))))
  (k_with "call ref" => ((k_here; (with_reducible show wpAny _ _ (call (Value.ref 129) [Value.str _ _]) _ _ _); k_dflt (refine' con_use (c_dirname (by k_extra "str len")) (by k_asm) (by k_asm) (by k_asm) (by k_asm) (by k_asm) (by k_extra "con sub") (by ktr_room) (by ktr_units) ?_; k_whole); intro _ _ _ _ _ _ hv9w9; obtain ⟨t9, hv9w9⟩ := hv9w9; subst hv9w9; (try dsimp only); (try k_fold))))
  trivial
section
open PySem.StrLaws PySem.Builtin.Str
theorem sl_eq : Str.ofString "/" = ⟨#[47]⟩ := by decide +kernel
theorem str_ext {a b : Str} (h : a.cps.toList = b.cps.toList) : a = b := Str.ext' (by simpa using h)
theorem app_list (a b : Str) : (a ++ b).cps.toList = a.cps.toList ++ b.cps.toList := by rw [Str.cps_append, Array.toList_append]
theorem len_list (a : Str) : a.length = a.cps.toList.length := by simp [Str.length]

theorem rfind_at {x : Str} {A C : List Nat} (hx : x.cps.toList = A ++ 47 :: C) (hC : 47 ∉ C) : Txt.rfind x (Str.ofString "/") = (A.length : Int) := by
  rw [sl_eq]
  unfold Txt.rfind
  have at_iff : ∀ i, At x ⟨#[47]⟩ x.length i ↔ x.cps.toList[i]? = some 47 := fun i => subAt_one x 47 i
  have hA : x.cps.toList[A.length]? = some 47 := by rw [hx]; simp
  rcases last_spec x ⟨#[47]⟩ with ⟨h, hn⟩ | ⟨i, h, hi, hn⟩
  · exact absurd ((at_iff _).mpr hA) (hn _)
  · rw [h]
    have h1 : ¬ i < A.length := fun hlt => hn _ hlt ((at_iff _).mpr hA)
    have h2 : ¬ A.length < i := fun hlt => by
      have := (at_iff _).mp hi
      rw [hx, List.getElem?_append_right (by lia)] at this
      obtain ⟨k, hk⟩ : ∃ k, i - A.length = k + 1 := ⟨i - A.length - 1, by lia⟩
      rw [hk, List.getElem?_cons_succ] at this
      exact hC (List.mem_of_getElem? this)
    have : i = A.length := by lia
    rw [this]
theorem slice_from {x : Str} {A C : List Nat} (hx : x.cps.toList = A ++ 47 :: C) : Txt.slice x (some ((A.length : Int) + 1)) none = ⟨C.toArray⟩ := by
  have hl : x.cps.toList.length = A.length + 1 + C.length := by rw [hx]; simp; lia
  have h := sliceText_from (x := x) (i := (A.length : Int) + 1) ⟨by lia, by lia⟩
  refine h.trans (congrArg (fun l : List Nat => (⟨l.toArray⟩ : Str)) ?_)
  have e1 : ((A.length : Int) + 1).toNat = A.length + 1 := by lia
  have e2 : ((x.cps.toList.length : Int) - ((A.length : Int) + 1)).toNat = C.length := by lia
  rw [e1, e2, hx, List.drop_append, List.drop_of_length_le (by lia)]
  simp
theorem slice_to {x : Str} {A C : List Nat} (hx : x.cps.toList = A ++ 47 :: C) : Txt.slice x none (some ((A.length : Int) + 1)) = ⟨(A ++ [47]).toArray⟩ := by
  have hl : x.cps.toList.length = A.length + 1 + C.length := by rw [hx]; simp; lia
  have h := sliceText_to (x := x) (j := (A.length : Int) + 1) ⟨by lia, by lia⟩
  refine h.trans (congrArg (fun l : List Nat => (⟨l.toArray⟩ : Str)) ?_)
  have e1 : ((A.length : Int) + 1 - 0).toNat = A.length + 1 := by lia
  rw [e1, hx, List.drop_zero, List.take_append, List.take_of_length_le (by lia)]
  simp
theorem rstrip_one {A : List Nat} {c : Nat} (hc : c ≠ 47) : Txt.rstripChars ⟨(A ++ [c] ++ [47]).toArray⟩ (Str.ofString "/") = ⟨(A ++ [c]).toArray⟩ := by
  rw [sl_eq]
  have hgo : (⟨#[47]⟩ : Str).cps.contains = fun n => n == 47 := by funext n; simp [Array.contains]; try rfl
  have hl : (⟨(A ++ [c] ++ [47]).toArray⟩ : Str).length = A.length + 2 := by simp [Str.length]
  have hhi : stripHi (fun n => n == 47) true ⟨(A ++ [c] ++ [47]).toArray⟩ 0 = A.length + 1 := by
    simp only [stripHi, if_true, List.drop_zero, hl]
    simp [hc]
  unfold Txt.rstripChars Txt.stripBy
  rw [hgo]
  have hlo : stripLo (fun n => n == 47) false (⟨(A ++ [c] ++ [47]).toArray⟩ : Str) = 0 := rfl
  unfold PySem.stripSame PySem.stripped
  rw [hlo, hhi, hl]
  rw [if_neg (by simp)]
  apply str_ext
  rw [strSub_toList]
  show List.take (A.length + 1 - 0) (List.drop 0 (A ++ [c] ++ [47])) = A ++ [c]
  rw [List.drop_zero, Nat.sub_zero, List.take_append, List.take_of_length_le (by simp)]
  simp
theorem mul_one_slash : Txt.mul (Str.ofString "/") ((⟨#[47]⟩ : Str).length : Int) = ⟨#[47]⟩ := by rw [sl_eq]; decide +kernel
theorem replicate_foldl (b : Array Nat) : ∀ (n : Nat) (acc : Array Nat), ((List.replicate n b).foldl (· ++ ·) acc).toList = acc.toList ++ (List.replicate n b.toList).flatten
  | 0, acc => by simp
  | n + 1, acc => by rw [List.replicate_succ, List.foldl_cons, replicate_foldl b n]; simp [List.replicate_succ, Array.toList_append]
theorem mul_slash_mem {n : Int} {k : Nat} (h : k ∈ (Txt.mul (Str.ofString "/") n).cps.toList) : k = 47 := by
  rw [sl_eq] at h
  unfold Txt.mul at h
  split at h
  · exact absurd h (by simp [Str.empty])
  · split at h
    · simpa using h
    · rw [show (({ cps := (List.replicate n.toNat (⟨#[47]⟩ : Str).cps).foldl (· ++ ·) #[] } : Str)).cps.toList = (List.replicate n.toNat [47]).flatten from by
        have := replicate_foldl #[47] n.toNat #[]; simpa using this] at h
      obtain ⟨l, hl, hk⟩ := List.mem_flatten.mp h
      rw [(List.mem_replicate.mp hl).2] at hk
      simpa using hk

structure Nm (c : Str) : Prop where
  shape : ∃ A z, c.cps.toList = A ++ [z] ∧ 128 ≤ z ∧ ∀ k ∈ A, k < 128 ∧ k ≠ 47
theorem Nm.free {c : Str} (h : Nm c) : 47 ∉ c.cps.toList := by
  obtain ⟨A, z, e, hz, hA⟩ := h.shape
  rw [e]; intro hm
  rcases List.mem_append.mp hm with hm | hm
  · exact (hA _ hm).2 rfl
  · rw [List.mem_singleton] at hm; lia

noncomputable def pth : List Str → Str
  | [] => Str.empty
  | c :: r => Str.ofString "/" ++ c ++ pth r
theorem pth_snoc (c : Str) : ∀ cs : List Str, pth (cs ++ [c]) = pth cs ++ (Str.ofString "/" ++ c)
  | [] => by show Str.ofString "/" ++ c ++ Str.empty = Str.empty ++ _; rw [Str.append_empty, Str.empty_append]
  | d :: r => by show Str.ofString "/" ++ d ++ pth (r ++ [c]) = Str.ofString "/" ++ d ++ pth r ++ _; rw [pth_snoc c r]; simp only [Str.append_assoc]
noncomputable def pthR (cs : List Str) : Str := if cs = [] then Str.ofString "/" else pth cs
theorem pthR_nil : pthR [] = Str.ofString "/" := rfl
theorem pthR_snoc (cs : List Str) (c : Str) : pthR (cs ++ [c]) = pth cs ++ (Str.ofString "/" ++ c) := by
  unfold pthR; rw [if_neg (by simp), pth_snoc]
theorem pth_snoc_list (cs : List Str) (c : Str) : (pth (cs ++ [c])).cps.toList = (pth cs).cps.toList ++ 47 :: c.cps.toList := by
  rw [pth_snoc, app_list, app_list, sl_eq]; rfl
theorem pthR_snoc_eq (cs : List Str) (c : Str) : pthR (cs ++ [c]) = pth (cs ++ [c]) := by rw [pthR_snoc, pth_snoc]

theorem base_pth (cs : List Str) {c : Str} (hc : Nm c) : baseS (pthR (cs ++ [c])) = c := by
  rw [pthR_snoc_eq]
  unfold baseS
  rw [rfind_at (pth_snoc_list cs c) hc.free, slice_from (pth_snoc_list cs c)]
theorem pth_last {cs : List Str} (h : cs ≠ []) (hn : ∀ c ∈ cs, Nm c) : ∃ A z, (pth cs).cps.toList = A ++ [z] ∧ z ≠ 47 := by
  obtain ⟨ds, c, rfl⟩ : ∃ ds c, cs = ds ++ [c] := ⟨cs.dropLast, cs.getLast h, (List.dropLast_concat_getLast h).symm⟩
  obtain ⟨A, z, e, hz, _⟩ := (hn c (by simp)).shape
  refine ⟨(pth ds).cps.toList ++ 47 :: A, z, ?_, by lia⟩
  rw [pth_snoc_list, e]; simp
theorem dir_pth {cs : List Str} {c : Str} (hn : ∀ d ∈ cs, Nm d) (hc : Nm c) : dirS (pthR (cs ++ [c])) = pthR cs := by
  have hh : headS (pthR (cs ++ [c])) = ⟨((pth cs).cps.toList ++ [47]).toArray⟩ := by
    rw [pthR_snoc_eq]; unfold headS
    rw [rfind_at (pth_snoc_list cs c) hc.free, slice_to (pth_snoc_list cs c)]
  unfold dirS
  rw [hh]
  by_cases h : cs = []
  · subst h
    rw [if_neg]
    · rw [pthR_nil, sl_eq]; rfl
    · have e : ((⟨((pth []).cps.toList ++ [47]).toArray⟩ : Str)) = ⟨#[47]⟩ := rfl
      rw [e, mul_one_slash]; simp
  · obtain ⟨A, z, e, hz⟩ := pth_last h hn
    have hne : pthR cs = pth cs := if_neg h
    rw [if_pos, e, rstrip_one hz, hne]
    · exact str_ext e.symm
    · refine ⟨by simp [Str.length], ?_⟩
      rw [bne_iff_ne]
      intro hq
      have : z ∈ (Txt.mul (Str.ofString "/") (({ cps := ((pth cs).cps.toList ++ [47]).toArray } : Str).length : Int)).cps.toList := by rw [← hq, e]; simp
      exact hz (mul_slash_mem this)
end
theorem kw_c_name_0 : True := by
  k_with_none
  (k_with "k_room" => (ktr_room))
  (k_with "con sub" => (first | exact List.forall_mem_nil _ | k_extra "sub" | (simp only [List.forall_mem_cons]; refine ⟨?_, ?_⟩ <;> first | exact List.forall_mem_nil _ | k_mem | k_extra "con sub") | k_sub))
  (k_with "con enter" => ((refine wpAny_call ?_; (refine' code_defG (by assumption) (by assumption) (by assumption) (by assumption) (by assumption) (by exact rfl) (by exact rfl) (by exact rfl) (by k_is) (by k_is) (by k_room) (by first | exact BindsTo.of_eq rfl | exact binds_K (by k_in) rfl (by k_is) rfl rfl rfl | fail "k_enter: no rule for these arguments") (by exact locs rfl) ?_ (by exact rfl) (by exact rfl) (by exact rfl) (by decide); k_whole))))
  (k_with "con start" => ((dsimp only [Con, fnSc]; intros; rename_i hret)))
  (k_with "LeaveK" => ((k_dflt (refine' leave_con (by with_reducible assumption) (by assumption) (by k_asm) (by k_asm) (by k_extra "con sub") ?_; k_whole); intro _; (try dsimp only))))
  (k_with "con enterC" => ((refine wpAny_call ?_; (refine' enter_cells (by assumption) (by assumption) (by assumption) (by assumption) (by assumption) (by exact rfl) (by exact rfl) (by exact rfl) (by k_is) (by k_is) (by k_room) (by exact BindsTo.of_eq rfl) (by exact rfl) (by decide +kernel) ?_ (by exact rfl) (by exact rfl) (by exact rfl); k_whole))))
  (k_with "con enterR" => ((refine wpAny_call ?_; (refine' enter_rest (by assumption) (by assumption) (by assumption) (by assumption) (by assumption) (by exact rfl) (by exact rfl) (by exact rfl) (by k_is) (by k_is) (by k_room) (by exact rfl) (by exact fun _ => locs rfl) ?_ (by exact rfl) (by exact rfl) (by exact rfl) (by decide); k_whole))))
  (k_with "callWith" => ((k_here; (with_reducible show wpAny _ _ (callWith _ (Value.builtin _) (_ :: _) (backTo _ (starEach (_ :: _) _)) []) _ _ _); (with_reducible refine' callWith_method1 ?_ (by k_dflt (exact rfl)) (by k_dflt (exact rfl))))))
  (k_with "mem at" => (with_reducible (first | exact List.mem_cons_self | exact List.Mem.head _ | (refine List.mem_cons_of_mem _ ?_; k_extra "mem at") | (refine List.mem_append_left _ ?_; k_extra "mem at") | (refine List.mem_append_right _ ?_; k_extra "mem at"))))
  (k_with "mem in" => (with_reducible (first | assumption | (refine List.mem_cons_of_mem _ ?_; k_extra "mem in") | (refine List.mem_append_right _ ?_; k_extra "mem in") | (refine List.mem_append_left _ ?_; k_extra "mem in"))))
  (k_with "sub" => (with_reducible (first | exact sub_nil | exact sub_refl | (refine sub_cons ?_ ?_; (focus k_extra "mem at"); k_extra "sub") | (refine subs_app ?_ ?_; (focus k_extra "sub"); k_extra "sub") | (intro _ _; k_extra "mem in"))))
  (k_with "call builtin:issubclass" => ((k_here; (with_reducible show wpAny _ _ (call (Value.builtin "issubclass") [Value.type "str", Value.ref _]) _ _ _); refine' isc_call (by k_asm) (by k_mem) ?_; k_whole)))
  (k_with "call ref" => ((k_here; (with_reducible show wpAny _ _ (call (Value.ref 94) [Value.str _ _]) _ _ _); k_dflt (refine' con_use c_fspath (by k_asm) (by k_asm) (by k_asm) (by k_asm) (by k_asm) (by k_extra "con sub") (by ktr_room) (by ktr_units) ?_; k_whole); intro _ _ _ _ _ _ hv9w9; subst hv9w9; (try dsimp only); (try k_fold))))
  trivial
section
variable {w : World} {loose : List Str} {mean : ExcName → Option Value} {mg mb : Str → Option Value}
theorem slice4_le (k : Int) : (Txt.slice (Str.ofString ".\n.a") none (some k)).length ≤ 4 := Nat.le_trans (Txt.slice_le _ _ _) (by rw [PySem.ofString_length]; decide)
theorem name_fits (k : Int) (c : Nat) : (Txt.slice (Str.ofString ".\n.a") none (some k)).length + (⟨#[c]⟩ : Str).length ≤ sizeLine := by
  have h1 := slice4_le k
  have h2 : (⟨#[c]⟩ : Str).length = 1 := rfl
  rw [sizeLine_eq, h2]; lia
noncomputable def nameS (n p : Int) : Str := Txt.slice (Str.ofString ".\n.a") none (some (Int.fmod (Int.fdiv n 256) 5)) ++ ⟨#[(128 + Int.fmod (Int.fdiv n 1280) 16 * 8 + p).toNat]⟩
theorem kw_c_name_1 : True := by
  (k_with "binaryOp Add str str" => ((k_here; (with_reducible show wpAny _ _ (binaryOp Operator.Add (Value.str (Txt.slice _ _ _) _) (Value.str (Str.mk _) _)) _ _ _); refine PyProof.Rows.add_str ?_ (name_fits _ _); intro _ _)))
  trivial
set_option maxRecDepth 100000 in
set_option maxHeartbeats 8000000 in
theorem c_name {n p : Int} {t u : Tok} (h0 : 0 ≤ n) (h1 : n < 1000000) (h2 : 0 ≤ p) (h3 : p < 5) : Con w loose mean mg mb 2 197 [] [.int n t, .int p u] (fun _ _ v => ∃ t', v = .str (nameS n p) t') := by
  dsimp only [Con, fnSc]
  intro dp un gd cn ns ig ic mr a ccd cl outer A₀ base h₀ L m s Q E B0 F0 X0 N0 T0 hd0 hu0 hret
  walk_at "con enter"
  intro g L' h1 FG F1 N1 B1 X1 T1 kG; (try dsimp only); (try k_lift B1); (try k_fold)
  k_steps
  exact hret _ _ _ (by assumption) ⟨_, rfl⟩
end
section
theorem bits64 {a : Int} (h1 : -(2 ^ 62) ≤ a) (h2 : a ≤ 2 ^ 62) : Builtin.Int.intBits a ≤ 64 := by
  unfold Builtin.Int.intBits
  have h : a.natAbs < 2 ^ 63 := by lia
  split
  · lia
  · rename_i h0
    have := (Nat.log2_lt (k := 63) (by simpa using h0)).mpr h
    lia
end
theorem kw_r_mul_1 : True := by
  (k_with "int small" => (first | lia | ((simp (config := { decide := true }) only [] at *); lia) | (simp; lia)))
  (k_with "binaryOp Mult int int" => ((k_here; (with_reducible show wpAny _ _ (binaryOp Operator.Mult (Value.int _ _) (Value.int _ _)) _ _ _); refine' PyProof.Rows.mul_int ?_ (by first | exact IntMulOk.of_left (bits64 (by k_extra "int small") (by k_extra "int small")) | exact IntMulOk.of_right (bits64 (by k_extra "int small") (by k_extra "int small"))))))
  trivial
section
variable {prog : Program} {w : World} {A : Around} {E : Value → Shared → Prop} {s : Shared} {h₀ : Heap} {L a b : Addr} {m : Str → Option Value} {news : List (Addr × Obj)} {vs ws : List Value} {n n' : Nat} {Q : Value → Shared → Prop}

noncomputable def TxtOf (vs : List Value) (xs : List Str) : Prop := vs.length = xs.length ∧ ∀ (i : Nat) (x : Str), xs[i]? = some x → ∃ t, vs[i]? = some (Value.str x t)
theorem TxtOf.nil : TxtOf [] [] := ⟨rfl, fun _ _ h => by simp at h⟩
theorem TxtOf.cons {x : Str} {t : Tok} {vs : List Value} {xs : List Str} (h : TxtOf vs xs) : TxtOf (Value.str x t :: vs) (x :: xs) := by
  refine ⟨by simp [h.1], fun i y hy => ?_⟩
  cases i with
  | zero => simp at hy; subst hy; exact ⟨t, rfl⟩
  | succ i => simp at hy ⊢; exact h.2 i y hy
theorem TxtOf.at {vs : List Value} {xs : List Str} (h : TxtOf vs xs) {i : Nat} (hi : i < xs.length) : ∃ t, vs[i]? = some (Value.str xs[i] t) := h.2 i _ (List.getElem?_eq_getElem hi)
theorem TxtOf.append {vs ws : List Value} {xs ys : List Str} (h : TxtOf vs xs) (k : TxtOf ws ys) : TxtOf (vs ++ ws) (xs ++ ys) := by
  refine ⟨by simp [h.1, k.1], fun i y hy => ?_⟩
  by_cases hi : i < xs.length
  · rw [List.getElem?_append_left hi] at hy
    rw [List.getElem?_append_left (by rw [h.1]; exact hi)]
    exact h.2 i y hy
  · rw [List.getElem?_append_right (by lia)] at hy
    rw [List.getElem?_append_right (by rw [h.1]; lia), h.1]
    exact k.2 _ y hy
theorem add_lst (F : Fr h₀ L s.heap m) (N : News h₀ L s.heap news) (ha : (a, W.listOf vs.toArray n) ∈ news) (hb : (b, W.listOf ws.toArray n') ∈ news)
    (h : ∀ D h', Fr h₀ L h' m → News h₀ L h' ((D, W.listOf (vs ++ ws).toArray 0) :: news) → (∀ p ∈ news, p.1 < D) → Q (.ref D) { s with heap := h' })
    (hz : vs.length + ws.length ≤ sizeLine) : wpAny (model prog w) A (binaryOp .Add (.ref a) (.ref b)) Q E s :=
  add_lists F N ⟨_, (N _ ha).1, rfl, n, rfl⟩ ⟨_, (N _ hb).1, rfl, n', rfl⟩ (fun h' F' N' => h _ h' F' N' fun p hp => Heap.lt_size (N p hp).1) hz
theorem fr_eq {h : Heap} {m m' : Str → Option Value} (F : Fr h₀ L h m) (e : ∀ y, m y = m' y) : Fr h₀ L h m' := by
  have : m = m' := funext e
  exact this ▸ F

theorem fr_two {h : Heap} {m : Str → Option Value} {x y : Str} {v u : Value} (F : Fr h₀ L h m) (hx : m x = some v) (hy : m y = some u) (ho : ∀ z, z ≠ x → z ≠ y → m z = none) :
    Fr h₀ L h (fun z => if z = x then some v else if z = y then some u else none) := by
  refine fr_eq F fun z => ?_
  by_cases h1 : z = x
  · subst h1; simp [hx]
  · by_cases h2 : z = y
    · subst h2; simp [hy, h1]
    · simp [h1, h2, ho z h1 h2]
structure Again (I : Nat → Shared → Prop) (n : Nat) (s : Shared) : Prop where
  more : ∃ m, m < n ∧ I m s
theorem while_rule {test : Expr} {body : List Stmt} {pos : Pos} {env : Env} {Q : Flow → Shared → Prop} (I : Nat → Shared → Prop) (n : Nat) (h : I n s)
    (turn : ∀ n s₁, I n s₁ → wpAny (model prog w) A (isTrue test env (eval test env)) (fun b s₂ =>
      if b then wpAny (model prog w) A (execs body env) (fun f s₃ => match f with
          | .next | .cont => Again I n s₃
          | .brk => Q .next s₃
          | .ret v => Q (.ret v) s₃) (fun _ _ => False) s₂
      else Q .next s₂) (fun _ _ => False) s₁) : wpAny (model prog w) A (exec (.While test body [] pos) env) Q E s := by
  refine wpAny_While (codeAny_whileLoop I (fun k s₁ hI => ?_) n h)
  refine wpAny_mono (turn k s₁ hI) (fun b s₂ h₂ => ?_) fun _ _ x => x.elim
  cases b with
  | true =>
    simp only [if_true] at h₂ ⊢
    refine wpAny_mono h₂ (fun f s₃ h₃ => ?_) fun _ _ x => x.elim
    cases f <;> first | exact h₃.more | exact h₃
  | false =>
    simp only [Bool.false_eq_true, if_false] at h₂ ⊢
    exact wpAny_execs_nil h₂
end
theorem kw_r_list_1 : True := by
  (k_with "no while" => (repeat' ((fail_if_success (with_reducible show wpAny _ _ (exec (Stmt.While _ _ _ _) _) _ _ _)); (first | (k_unfold; (try dsimp only)) | (k_end; wrow_close) | walk1 | (dsimp only; walk1) | (leave1; walk_say "STEP leave1"; try dsimp only) | fail "no step"))))
  (k_with "size small" => (first | size_fits | ((simp only [List.length_cons, List.length_nil, List.length_append, sizeLine_eq] at *); lia)))
  (k_with "binaryOp Add ref ref" => ((k_here; (with_reducible show wpAny _ _ (binaryOp _ (Value.ref _) (Value.ref _)) _ _ _); k_dflt (refine' add_lst (by k_asm) (by k_asm) (by k_mem) (by k_mem) ?_ (by k_extra "size small")); intro _ _ _ _ l1w9; (try k_lt l1w9); (try k_sweep))))
  trivial
open PySem.AutoSeq1 (wpAny_loadPart') in
section
open MeetsSeq MeetsSeq2 MeetsSeq3
noncomputable def lstLt : List Str → List Str → Bool
  | [], [] => false
  | [], _ :: _ => true
  | _ :: _, [] => false
  | x :: xs, y :: ys => if x == y then lstLt xs ys else decide (x.cps.toList < y.cps.toList)
theorem lstLt_nil (ys : List Str) : lstLt [] ys = decide (0 < ys.length) := by cases ys <;> simp [lstLt]
theorem lstLt_nil_right (xs : List Str) : lstLt xs [] = false := by cases xs <;> simp [lstLt]

theorem lt_loop (l b : Addr) (vs ws : List Value) (n n2 : Nat) (xs ys : List Str) (hx : TxtOf vs xs) (hy : TxtOf ws ys) (k : Nat) :
    ∀ i : Nat, xs.length - i = k → i ≤ xs.length → i ≤ ys.length → Meets (Builtin.«list.__eq__.loop» ⟨[.ref l, .ref b, rawInt i, rawInt 0], []⟩)
      (fun _ R s => s.heap.get? l = some { cls := .type "list", dict := none, data := .seq vs.toArray n, slots := #[] } ∧ s.heap.get? b = some { cls := .type "list", dict := none, data := .seq ws.toArray n2, slots := #[] } ∧
        R (.ok (.ret (.bool (lstLt (xs.drop i) (ys.drop i))))) s) := by
  induction k with
  | zero =>
    intro i hk hi1 hi2 prog w A R s h
    obtain ⟨hp, g, d, tk, os⟩ := s; obtain ⟨hl, hb, h⟩ := h
    wp_walk using wpAny_loadPart' hl, wpAny_loadPart' hb
    have hi1 : vs.toArray[((i : Nat) : Int).toNat]? = none := by simp [hx.1]; lia
    have hd : xs.drop i = [] := by simp; lia
    rw [hd, lstLt_nil] at h
    rw [hi1]
    wp_walk using wpAny_loadPart' hl, wpAny_loadPart' hb
    show R (.ok (.ret (.bool (decide (vs.toArray.size < ws.toArray.size))))) _
    have e : decide (vs.toArray.size < ws.toArray.size) = decide (0 < (ys.drop i).length) := by simp [hx.1, hy.1]; lia
    rw [e]; exact h
  | succ k ih =>
    intro i hk hi1 hi2 prog w A R s h
    obtain ⟨hp, g, d, tk, os⟩ := s; obtain ⟨hl, hb, h⟩ := h
    have hlt : i < xs.length := by lia
    obtain ⟨t, ht⟩ := hx.at hlt
    have e1 : vs.toArray[((i : Nat) : Int).toNat]? = some (Value.str xs[i] t) := by simpa using ht
    have hd : xs.drop i = xs[i] :: xs.drop (i + 1) := List.drop_eq_getElem_cons hlt
    have hc : ((i : Int) + 1) = ((i + 1 : Nat) : Int) := by push_cast; rfl
    wp_walk using wpAny_loadPart' hl, wpAny_loadPart' hb
    by_cases hlt2 : i < ys.length
    · obtain ⟨u, hu⟩ := hy.at hlt2
      have e2 : ws.toArray[((i : Nat) : Int).toNat]? = some (Value.str ys[i] u) := by simpa using hu
      have hd2 : ys.drop i = ys[i] :: ys.drop (i + 1) := List.drop_eq_getElem_cons hlt2
      rw [hd, hd2] at h
      simp only [lstLt] at h
      rw [e1, e2]
      refine wpAny_bind (eqGives_str xs[i] ys[i] t u prog w _ _ _ _ ?_)
      cases hb' : (xs[i] == ys[i]) with
      | true =>
        rw [hb'] at h
        simp only [if_true] at h
        wp_walk
        rw [hc]
        exact ⟨plainId_quiet plain_eq_loop _, codeAny_builtin entry_eq_loop (by
          rw [Around.under_plainId plain_eq_loop _]
          exact ih (i + 1) (by lia) (by lia) (by lia) prog w A R _ ⟨hl, hb, h⟩)⟩
      | false =>
        rw [hb'] at h
        simp only [Bool.false_eq_true, if_false] at h
        wp_walk using wpAny_loadPart' hl, wpAny_loadPart' hb
        rw [e1, e2]
        refine wpAny_bind (lt_str ?_)
        wp_walk
        exact h
    · have e2 : ws.toArray[((i : Nat) : Int).toNat]? = none := by simp [hy.1]; lia
      have hd2 : ys.drop i = [] := by simp; lia
      rw [hd2, lstLt_nil_right] at h
      rw [e1, e2]
      wp_walk using wpAny_loadPart' hl, wpAny_loadPart' hb
      show R (.ok (.ret (.bool (decide (vs.toArray.size < ws.toArray.size))))) _
      have e : decide (vs.toArray.size < ws.toArray.size) = false := by simp [hx.1, hy.1]; lia
      rw [e]; exact h
theorem gt_loop (l b : Addr) (vs ws : List Value) (n n2 : Nat) (xs ys : List Str) (hx : TxtOf vs xs) (hy : TxtOf ws ys) (k : Nat) :
    ∀ i : Nat, xs.length - i = k → i ≤ xs.length → i ≤ ys.length → Meets (Builtin.«list.__eq__.loop» ⟨[.ref l, .ref b, rawInt i, rawInt 4], []⟩)
      (fun _ R s => s.heap.get? l = some { cls := .type "list", dict := none, data := .seq vs.toArray n, slots := #[] } ∧ s.heap.get? b = some { cls := .type "list", dict := none, data := .seq ws.toArray n2, slots := #[] } ∧
        R (.ok (.ret (.bool (lstLt (ys.drop i) (xs.drop i))))) s) := by
  induction k with
  | zero =>
    intro i hk hi1 hi2 prog w A R s h
    obtain ⟨hp, g, d, tk, os⟩ := s; obtain ⟨hl, hb, h⟩ := h
    wp_walk using wpAny_loadPart' hl, wpAny_loadPart' hb
    have hi1 : vs.toArray[((i : Nat) : Int).toNat]? = none := by simp [hx.1]; lia
    have hd : xs.drop i = [] := by simp; lia
    rw [hd, lstLt_nil_right] at h
    rw [hi1]
    wp_walk using wpAny_loadPart' hl, wpAny_loadPart' hb
    show R (.ok (.ret (.bool (decide (vs.toArray.size > ws.toArray.size))))) _
    have e : decide (vs.toArray.size > ws.toArray.size) = false := by simp [hx.1, hy.1]; lia
    rw [e]; exact h
  | succ k ih =>
    intro i hk hi1 hi2 prog w A R s h
    obtain ⟨hp, g, d, tk, os⟩ := s; obtain ⟨hl, hb, h⟩ := h
    have hlt : i < xs.length := by lia
    obtain ⟨t, ht⟩ := hx.at hlt
    have e1 : vs.toArray[((i : Nat) : Int).toNat]? = some (Value.str xs[i] t) := by simpa using ht
    have hd : xs.drop i = xs[i] :: xs.drop (i + 1) := List.drop_eq_getElem_cons hlt
    have hc : ((i : Int) + 1) = ((i + 1 : Nat) : Int) := by push_cast; rfl
    wp_walk using wpAny_loadPart' hl, wpAny_loadPart' hb
    by_cases hlt2 : i < ys.length
    · obtain ⟨u, hu⟩ := hy.at hlt2
      have e2 : ws.toArray[((i : Nat) : Int).toNat]? = some (Value.str ys[i] u) := by simpa using hu
      have hd2 : ys.drop i = ys[i] :: ys.drop (i + 1) := List.drop_eq_getElem_cons hlt2
      rw [hd, hd2] at h
      simp only [lstLt] at h
      rw [e1, e2]
      refine wpAny_bind (eqGives_str xs[i] ys[i] t u prog w _ _ _ _ ?_)
      rw [show (ys[i] == xs[i]) = (xs[i] == ys[i]) from by rw [Bool.eq_iff_iff, beq_iff_eq, beq_iff_eq]; exact ⟨Eq.symm, Eq.symm⟩] at h
      cases hb' : (xs[i] == ys[i]) with
      | true =>
        rw [hb'] at h
        simp only [if_true] at h
        wp_walk
        rw [hc]
        exact ⟨plainId_quiet plain_eq_loop _, codeAny_builtin entry_eq_loop (by
          rw [Around.under_plainId plain_eq_loop _]
          exact ih (i + 1) (by lia) (by lia) (by lia) prog w A R _ ⟨hl, hb, h⟩)⟩
      | false =>
        rw [hb'] at h
        simp only [Bool.false_eq_true, if_false] at h
        wp_walk using wpAny_loadPart' hl, wpAny_loadPart' hb
        rw [e1, e2]
        refine wpAny_bind (PySem.P.gt_str ?_)
        wp_walk
        exact h
    · have e2 : ws.toArray[((i : Nat) : Int).toNat]? = none := by simp [hy.1]; lia
      have hd2 : ys.drop i = [] := by simp; lia
      rw [hd2, lstLt_nil] at h
      rw [e1, e2]
      wp_walk using wpAny_loadPart' hl, wpAny_loadPart' hb
      show R (.ok (.ret (.bool (decide (vs.toArray.size > ws.toArray.size))))) _
      have e : decide (vs.toArray.size > ws.toArray.size) = decide (0 < (xs.drop i).length) := by simp [hx.1, hy.1]; lia
      rw [e]; exact h

theorem list_lt (l b : Addr) (vs ws : List Value) (n n2 : Nat) (xs ys : List Str) (hx : TxtOf vs xs) (hy : TxtOf ws ys) :
    Meets (Builtin.«list.__lt__» ⟨[.ref l, .ref b], []⟩)
      (fun _ R s => s.heap.get? l = some { cls := .type "list", dict := none, data := .seq vs.toArray n, slots := #[] } ∧ s.heap.get? b = some { cls := .type "list", dict := none, data := .seq ws.toArray n2, slots := #[] } ∧
        R (.ok (.ret (.bool (lstLt xs ys)))) s) := by
  intro prog w A R s h
  obtain ⟨hp, g, d, tk, os⟩ := s; obtain ⟨hl, hb, h⟩ := h
  have f3 := AutoSeq1.sub_list_list
  wp_walk using wpAny_loadPart' hl, wpAny_loadPart' hb
  exact ⟨plainId_quiet plain_eq_loop _, codeAny_builtin entry_eq_loop (by
    rw [Around.under_plainId plain_eq_loop _]
    exact lt_loop l b vs ws n n2 xs ys hx hy _ 0 rfl (Nat.zero_le _) (Nat.zero_le _) prog w A R _ ⟨hl, hb, by simpa using h⟩)⟩
theorem list_gt (l b : Addr) (vs ws : List Value) (n n2 : Nat) (xs ys : List Str) (hx : TxtOf vs xs) (hy : TxtOf ws ys) :
    Meets (Builtin.«list.__gt__» ⟨[.ref l, .ref b], []⟩)
      (fun _ R s => s.heap.get? l = some { cls := .type "list", dict := none, data := .seq vs.toArray n, slots := #[] } ∧ s.heap.get? b = some { cls := .type "list", dict := none, data := .seq ws.toArray n2, slots := #[] } ∧
        R (.ok (.ret (.bool (lstLt ys xs)))) s) := by
  intro prog w A R s h
  obtain ⟨hp, g, d, tk, os⟩ := s; obtain ⟨hl, hb, h⟩ := h
  have f3 := AutoSeq1.sub_list_list
  wp_walk using wpAny_loadPart' hl, wpAny_loadPart' hb
  exact ⟨plainId_quiet plain_eq_loop _, codeAny_builtin entry_eq_loop (by
    rw [Around.under_plainId plain_eq_loop _]
    exact gt_loop l b vs ws n n2 xs ys hx hy _ 0 rfl (Nat.zero_le _) (Nat.zero_le _) prog w A R _ ⟨hl, hb, by simpa using h⟩)⟩

variable {prog : Program} {w : World} {A : Around} {E : Value → Shared → Prop} {s : Shared} {xs ys : List Str} {vs ws : List Value} {a b : Addr} {n n' : Nat}
theorem lists_lt {Q : Value → Shared → Prop} (hx : TxtOf vs xs) (hy : TxtOf ws ys) (ha : s.heap.get? a = some (W.listOf vs.toArray n)) (hb : s.heap.get? b = some (W.listOf ws.toArray n')) (hu : A.units < cLine)
    (h : Q (.bool (lstLt xs ys)) s) : wpAny (model prog w) A (richCompare .Lt (.ref a) (.ref b)) Q E s :=
  richCompare_meets_room (op := .Lt) ⟨_, ha, rfl⟩ ⟨_, hb, rfl⟩ F.slot_list_lt F.entry_list_lt (F.args_list_lt_2 _ _) (list_lt a b vs ws n n' xs ys hx hy) ⟨ha, hb, show Value.bool _ ≠ Value.notImplemented ∧ _ from ⟨(fun x => nomatch x), h⟩⟩ hu
theorem lists_gt {Q : Value → Shared → Prop} (hx : TxtOf vs xs) (hy : TxtOf ws ys) (ha : s.heap.get? a = some (W.listOf vs.toArray n)) (hb : s.heap.get? b = some (W.listOf ws.toArray n')) (hu : A.units < cLine)
    (h : Q (.bool (lstLt ys xs)) s) : wpAny (model prog w) A (richCompare .Gt (.ref a) (.ref b)) Q E s :=
  richCompare_meets_room (op := .Gt) ⟨_, ha, rfl⟩ ⟨_, hb, rfl⟩ F.slot_list_gt F.entry_list_gt (F.args_list_gt_2 _ _) (list_gt a b vs ws n n' xs ys hx hy) ⟨ha, hb, show Value.bool _ ≠ Value.notImplemented ∧ _ from ⟨(fun x => nomatch x), h⟩⟩ hu
--GEN

theorem min_pair {D a b : Addr} {k : Nat} {Q : Value → Shared → Prop} (hh : A.handled = none) (hD : s.heap.get? D = some (W.listOf #[.ref a, .ref b] k)) (bt : Bool)
    (hcmp : ∀ (s' : Shared) (Q E : Value → Shared → Prop), s.heap.StaysIn s'.heap → Q (.bool bt) s' → wpAny (model prog w) A.in1 (richCompare .Lt (.ref b) (.ref a)) Q E s')
    (h : ∀ h' tk, s.heap.StaysIn h' → Q (if bt then .ref b else .ref a) { s with heap := h', toks := tk }) :
    wpAny (model prog w) A (call (.builtin "min") [.ref D]) Q E s := by
  have hname : (toString "min" ++ toString ".loop" : String) = "min.loop" := by decide
  have hl : s.heap.IsList D #[.ref a, .ref b] := ⟨_, hD, rfl, k, rfl⟩
  have hlt : D < s.heap.objs.size := Heap.lt_size hD
  have hne : D ≠ s.heap.objs.size := Nat.ne_of_lt hlt
  have W := Walks.list (prog := prog) (w := w) (A := A.in1) hh s.heap.objs.size D hne #[.ref a, .ref b]
  refine call_function_tree F.kind_min F.plain_min F.entry_min (F.args_min1 _) ?_
  show wpAny _ A.in1 (Builtin.Builtins.bindParams "min" ["key", "default"] 0 ⟨[], []⟩ >>= _) _ _ s
  refine wpAny_bind (wpAny_of_eq (show Builtin.Builtins.bindParams "min" ["key", "default"] 0 ⟨[], []⟩ = pure [none, none] from rfl) ?_)
  refine wpAny_bind (wpAny_pure ?_)
  refine wpAny_bind (wpAny_pyIter_list hl ?_)
  refine wpAny_bind (wpAny_newObj_type ?_)
  rw [hname]
  have st1 : s.heap.StaysIn (s.heap.push { cls := .type "list_iterator", data := .fields #[.ref D, .int 0 0] }) := fun x o e => Heap.get?_push_of_some _ e
  generalize hH1 : s.heap.push { cls := .type "list_iterator", data := .fields #[.ref D, .int 0 0] } = H1 at st1 ⊢
  have hS1 : H1.objs.size = s.heap.objs.size + 1 := by rw [← hH1, Heap.size_push]
  generalize hS : H1.objs.size = S at hS1 ⊢
  have hSI : s.heap.objs.size ≠ S := by rw [hS1]; exact Nat.ne_of_lt (Nat.lt_succ_self _)
  have hSD : D ≠ S := by rw [hS1]; exact Nat.ne_of_lt (Nat.lt_succ_of_lt hlt)
  have hSf : S ∉ [s.heap.objs.size, D] := by simp only [List.mem_cons, List.not_mem_nil, or_false]; exact fun e => e.elim (fun e => hSI e.symm) (fun e => hSD e.symm)
  have hSw : S ∉ [s.heap.objs.size] := fun q => hSf (W.sub _ q)
  have fresh : ∀ x o, s.heap.get? x = some o → x ∉ [s.heap.objs.size] ∧ x ≠ S := fun x o e => by
    have := Heap.lt_size e
    refine ⟨by simp only [List.mem_singleton]; exact Nat.ne_of_lt this, by rw [hS1]; exact Nat.ne_of_lt (Nat.lt_succ_of_lt this)⟩
  -- the first item
  refine wpAny_pure ⟨plainId_quiet F.plain_min_loop _, ?_⟩
  refine codeAny_builtin F.entry_min_loop ?_
  rw [Around.under_plainId F.plain_min_loop _]
  show wpAny _ A.in1 (seqItems? (.ref S) >>= _) _ _ _
  have hS0 : (H1.push { cls := .type "list", dict := none, data := .seq #[] }).get? S = some { cls := .type "list", dict := none, data := .seq #[], slots := #[] } := by rw [← hS]; exact Heap.get?_push_size _ rfl
  refine wpAny_bind (wpAny_seqItems hS0 rfl ?_)
  show wpAny _ A.in1 (tryCatch (pyNext (.ref s.heap.objs.size)) _ >>= _) _ _ _
  have hit : (H1.push { cls := .type "list", dict := none, data := .seq #[] }).IsListIter s.heap.objs.size D 0 := ⟨_, Heap.get?_push_of_some _ (by rw [← hH1]; exact Heap.get?_push_size _ rfl), rfl, rfl⟩
  have st2 : s.heap.StaysIn (H1.push { cls := .type "list", dict := none, data := .seq #[] }) := fun x o e => Heap.get?_push_of_some _ (st1 x o e)
  refine wpAny_bind (wpAny_tryCatch (W.item 0 _ _ _ (by simp) ⟨hit, hl.at fun o e => st2 D o e⟩ fun v h2 tk2 hP hst2 hk2 => ?_))
  obtain rfl : .ref a = v := by simpa using hP
  have hSa := hk2 S _ hSw hS0
  show wpAny _ A.in1 (updateSeq S (fun _ => #[.ref a, .ref a]) >>= _) _ _ _
  refine wpAny_bind (wpAny_updateSeq hSa rfl ?_)
  rw [hname]
  have hSb := Heap.get?_update_self (h := h2) (Obj.mapSeq fun _ => #[.ref a, .ref a]) hSa rfl
  have st3 : s.heap.StaysIn (h2.update S (Obj.mapSeq fun _ => #[.ref a, .ref a])) := fun x o e => (Heap.get?_update_other _ _ (Ne.symm (fresh x o e).2)).trans (hk2 x o (fresh x o e).1 (st2 x o e))
  have hst3 := W.frame _ _ (h2.update S (Obj.mapSeq fun _ => #[.ref a, .ref a])) hst2 fun x hx o e => (Heap.get?_update_other _ _ (fun q : S = x => hSf (by rw [q]; exact hx))).trans e
  generalize h2.update S (Obj.mapSeq fun _ => #[.ref a, .ref a]) = H3 at hSb st3 hst3 ⊢
  -- the second item
  refine wpAny_pure ⟨plainId_quiet F.plain_min_loop _, ?_⟩
  refine codeAny_builtin F.entry_min_loop ?_
  rw [Around.under_plainId F.plain_min_loop _]
  show wpAny _ A.in1 (seqItems? (.ref S) >>= _) _ _ _
  refine wpAny_bind (wpAny_seqItems hSb rfl ?_)
  show wpAny _ A.in1 (tryCatch (pyNext (.ref s.heap.objs.size)) _ >>= _) _ _ _
  refine wpAny_bind (wpAny_tryCatch (W.item 1 _ _ _ (by simp) hst3 fun v h4 tk4 hP hst4 hk4 => ?_))
  obtain rfl : .ref b = v := by simpa using hP
  have hSc := hk4 S _ hSw hSb
  have st4 : s.heap.StaysIn h4 := fun x o e => hk4 x o (fresh x o e).1 (st3 x o e)
  show wpAny _ A.in1 (tryCatch (holding [.ref b, .ref b] (richCompare .Lt (.ref b) (.ref a) >>= _)) _ >>= _) _ _ _
  refine wpAny_bind (wpAny_tryCatch (wpAny_holding (wpAny_bind (hcmp _ _ _ st4 ?_))))
  refine wpAny_bind (wpAny_holding (wpAny_truthy_bool ?_))
  refine wpAny_bind (wpAny_letGo (wpAny_pure ?_))
  -- the end
  have last : ∀ (vb : Value) (c : Nat) (h5 : Heap) (tk5 : Nat), s.heap.StaysIn h5 → h5.IsListIter s.heap.objs.size D 2 ∧ h5.IsList D #[.ref a, .ref b] → h5.get? S = some { cls := .type "list", dict := none, data := .seq #[vb, vb] c, slots := #[] } →
      (∀ h' tk, s.heap.StaysIn h' → Q vb { s with heap := h', toks := tk }) → codeAny (model prog w) A (.builtin "min.loop" ⟨[.ref s.heap.objs.size, .none, .ref S], []⟩) (wants Q E) { s with heap := h5, toks := tk5 } := by
    intro vb c h5 tk5 st5 hst5 hSd hq
    refine codeAny_builtin F.entry_min_loop ?_
    rw [Around.under_plainId F.plain_min_loop _]
    show wpAny _ A.in1 (seqItems? (.ref S) >>= _) _ _ _
    refine wpAny_bind (wpAny_seqItems hSd rfl ?_)
    show wpAny _ A.in1 (tryCatch (pyNext (.ref s.heap.objs.size)) _ >>= _) _ _ _
    refine wpAny_bind (wpAny_tryCatch (W.done _ _ _ hst5 fun h6 tk6 hk6 => ?_))
    have hSe := hk6 S _ hSw hSd
    show wpAny _ A.in1 (updateSeq S (fun _ => #[]) >>= _) _ _ _
    refine wpAny_bind (wpAny_updateSeq hSe rfl (wpAny_bind (wpAny_letGo (wpAny_pure ?_))))
    exact hq _ _ fun x o e => (Heap.get?_update_other _ _ (Ne.symm (fresh x o e).2)).trans (hk6 x o (fresh x o e).1 (st5 x o e))
  cases bt with
  | true =>
    simp only [if_true] at h ⊢
    refine wpAny_bind ?_
    refine wpAny_updateSeq hSc rfl (wpAny_bind (wpAny_letGo ?_))
    rw [hname]
    refine wpAny_pure ⟨plainId_quiet F.plain_min_loop _, last (.ref b) _ _ _ (fun x o e => (Heap.get?_update_other _ _ (Ne.symm (fresh x o e).2)).trans (st4 x o e)) (W.frame _ _ _ hst4 fun x hx o e => (Heap.get?_update_other _ _ (fun q : S = x => hSf (by rw [q]; exact hx))).trans e) (Heap.get?_update_self _ hSc rfl) h⟩
  | false =>
    simp only [Bool.false_eq_true, if_false] at h ⊢
    refine wpAny_bind (wpAny_letGo ?_)
    rw [hname]
    exact wpAny_pure ⟨plainId_quiet F.plain_min_loop _, last (.ref a) _ _ _ st4 hst4 hSc h⟩

theorem max_pair {D a b : Addr} {k : Nat} {Q : Value → Shared → Prop} (hh : A.handled = none) (hD : s.heap.get? D = some (W.listOf #[.ref a, .ref b] k)) (bt : Bool)
    (hcmp : ∀ (s' : Shared) (Q E : Value → Shared → Prop), s.heap.StaysIn s'.heap → Q (.bool bt) s' → wpAny (model prog w) A.in1 (richCompare .Gt (.ref b) (.ref a)) Q E s')
    (h : ∀ h' tk, s.heap.StaysIn h' → Q (if bt then .ref b else .ref a) { s with heap := h', toks := tk }) :
    wpAny (model prog w) A (call (.builtin "max") [.ref D]) Q E s := by
  have hname : (toString "max" ++ toString ".loop" : String) = "max.loop" := by decide
  have hl : s.heap.IsList D #[.ref a, .ref b] := ⟨_, hD, rfl, k, rfl⟩
  have hlt : D < s.heap.objs.size := Heap.lt_size hD
  have hne : D ≠ s.heap.objs.size := Nat.ne_of_lt hlt
  have W := Walks.list (prog := prog) (w := w) (A := A.in1) hh s.heap.objs.size D hne #[.ref a, .ref b]
  refine call_function_tree F.kind_max F.plain_max F.entry_max (F.args_max1 _) ?_
  show wpAny _ A.in1 (Builtin.Builtins.bindParams "max" ["key", "default"] 0 ⟨[], []⟩ >>= _) _ _ s
  refine wpAny_bind (wpAny_of_eq (show Builtin.Builtins.bindParams "max" ["key", "default"] 0 ⟨[], []⟩ = pure [none, none] from rfl) ?_)
  refine wpAny_bind (wpAny_pure ?_)
  refine wpAny_bind (wpAny_pyIter_list hl ?_)
  refine wpAny_bind (wpAny_newObj_type ?_)
  rw [hname]
  have st1 : s.heap.StaysIn (s.heap.push { cls := .type "list_iterator", data := .fields #[.ref D, .int 0 0] }) := fun x o e => Heap.get?_push_of_some _ e
  generalize hH1 : s.heap.push { cls := .type "list_iterator", data := .fields #[.ref D, .int 0 0] } = H1 at st1 ⊢
  have hS1 : H1.objs.size = s.heap.objs.size + 1 := by rw [← hH1, Heap.size_push]
  generalize hS : H1.objs.size = S at hS1 ⊢
  have hSI : s.heap.objs.size ≠ S := by rw [hS1]; exact Nat.ne_of_lt (Nat.lt_succ_self _)
  have hSD : D ≠ S := by rw [hS1]; exact Nat.ne_of_lt (Nat.lt_succ_of_lt hlt)
  have hSf : S ∉ [s.heap.objs.size, D] := by simp only [List.mem_cons, List.not_mem_nil, or_false]; exact fun e => e.elim (fun e => hSI e.symm) (fun e => hSD e.symm)
  have hSw : S ∉ [s.heap.objs.size] := fun q => hSf (W.sub _ q)
  have fresh : ∀ x o, s.heap.get? x = some o → x ∉ [s.heap.objs.size] ∧ x ≠ S := fun x o e => by
    have := Heap.lt_size e
    refine ⟨by simp only [List.mem_singleton]; exact Nat.ne_of_lt this, by rw [hS1]; exact Nat.ne_of_lt (Nat.lt_succ_of_lt this)⟩
  -- the first item
  refine wpAny_pure ⟨plainId_quiet F.plain_max_loop _, ?_⟩
  refine codeAny_builtin F.entry_max_loop ?_
  rw [Around.under_plainId F.plain_max_loop _]
  show wpAny _ A.in1 (seqItems? (.ref S) >>= _) _ _ _
  have hS0 : (H1.push { cls := .type "list", dict := none, data := .seq #[] }).get? S = some { cls := .type "list", dict := none, data := .seq #[], slots := #[] } := by rw [← hS]; exact Heap.get?_push_size _ rfl
  refine wpAny_bind (wpAny_seqItems hS0 rfl ?_)
  show wpAny _ A.in1 (tryCatch (pyNext (.ref s.heap.objs.size)) _ >>= _) _ _ _
  have hit : (H1.push { cls := .type "list", dict := none, data := .seq #[] }).IsListIter s.heap.objs.size D 0 := ⟨_, Heap.get?_push_of_some _ (by rw [← hH1]; exact Heap.get?_push_size _ rfl), rfl, rfl⟩
  have st2 : s.heap.StaysIn (H1.push { cls := .type "list", dict := none, data := .seq #[] }) := fun x o e => Heap.get?_push_of_some _ (st1 x o e)
  refine wpAny_bind (wpAny_tryCatch (W.item 0 _ _ _ (by simp) ⟨hit, hl.at fun o e => st2 D o e⟩ fun v h2 tk2 hP hst2 hk2 => ?_))
  obtain rfl : .ref a = v := by simpa using hP
  have hSa := hk2 S _ hSw hS0
  show wpAny _ A.in1 (updateSeq S (fun _ => #[.ref a, .ref a]) >>= _) _ _ _
  refine wpAny_bind (wpAny_updateSeq hSa rfl ?_)
  rw [hname]
  have hSb := Heap.get?_update_self (h := h2) (Obj.mapSeq fun _ => #[.ref a, .ref a]) hSa rfl
  have st3 : s.heap.StaysIn (h2.update S (Obj.mapSeq fun _ => #[.ref a, .ref a])) := fun x o e => (Heap.get?_update_other _ _ (Ne.symm (fresh x o e).2)).trans (hk2 x o (fresh x o e).1 (st2 x o e))
  have hst3 := W.frame _ _ (h2.update S (Obj.mapSeq fun _ => #[.ref a, .ref a])) hst2 fun x hx o e => (Heap.get?_update_other _ _ (fun q : S = x => hSf (by rw [q]; exact hx))).trans e
  generalize h2.update S (Obj.mapSeq fun _ => #[.ref a, .ref a]) = H3 at hSb st3 hst3 ⊢
  -- the second item
  refine wpAny_pure ⟨plainId_quiet F.plain_max_loop _, ?_⟩
  refine codeAny_builtin F.entry_max_loop ?_
  rw [Around.under_plainId F.plain_max_loop _]
  show wpAny _ A.in1 (seqItems? (.ref S) >>= _) _ _ _
  refine wpAny_bind (wpAny_seqItems hSb rfl ?_)
  show wpAny _ A.in1 (tryCatch (pyNext (.ref s.heap.objs.size)) _ >>= _) _ _ _
  refine wpAny_bind (wpAny_tryCatch (W.item 1 _ _ _ (by simp) hst3 fun v h4 tk4 hP hst4 hk4 => ?_))
  obtain rfl : .ref b = v := by simpa using hP
  have hSc := hk4 S _ hSw hSb
  have st4 : s.heap.StaysIn h4 := fun x o e => hk4 x o (fresh x o e).1 (st3 x o e)
  show wpAny _ A.in1 (tryCatch (holding [.ref b, .ref b] (richCompare .Gt (.ref b) (.ref a) >>= _)) _ >>= _) _ _ _
  refine wpAny_bind (wpAny_tryCatch (wpAny_holding (wpAny_bind (hcmp _ _ _ st4 ?_))))
  refine wpAny_bind (wpAny_holding (wpAny_truthy_bool ?_))
  refine wpAny_bind (wpAny_letGo (wpAny_pure ?_))
  -- the end
  have last : ∀ (vb : Value) (c : Nat) (h5 : Heap) (tk5 : Nat), s.heap.StaysIn h5 → h5.IsListIter s.heap.objs.size D 2 ∧ h5.IsList D #[.ref a, .ref b] → h5.get? S = some { cls := .type "list", dict := none, data := .seq #[vb, vb] c, slots := #[] } →
      (∀ h' tk, s.heap.StaysIn h' → Q vb { s with heap := h', toks := tk }) → codeAny (model prog w) A (.builtin "max.loop" ⟨[.ref s.heap.objs.size, .none, .ref S], []⟩) (wants Q E) { s with heap := h5, toks := tk5 } := by
    intro vb c h5 tk5 st5 hst5 hSd hq
    refine codeAny_builtin F.entry_max_loop ?_
    rw [Around.under_plainId F.plain_max_loop _]
    show wpAny _ A.in1 (seqItems? (.ref S) >>= _) _ _ _
    refine wpAny_bind (wpAny_seqItems hSd rfl ?_)
    show wpAny _ A.in1 (tryCatch (pyNext (.ref s.heap.objs.size)) _ >>= _) _ _ _
    refine wpAny_bind (wpAny_tryCatch (W.done _ _ _ hst5 fun h6 tk6 hk6 => ?_))
    have hSe := hk6 S _ hSw hSd
    show wpAny _ A.in1 (updateSeq S (fun _ => #[]) >>= _) _ _ _
    refine wpAny_bind (wpAny_updateSeq hSe rfl (wpAny_bind (wpAny_letGo (wpAny_pure ?_))))
    exact hq _ _ fun x o e => (Heap.get?_update_other _ _ (Ne.symm (fresh x o e).2)).trans (hk6 x o (fresh x o e).1 (st5 x o e))
  cases bt with
  | true =>
    simp only [if_true] at h ⊢
    refine wpAny_bind ?_
    refine wpAny_updateSeq hSc rfl (wpAny_bind (wpAny_letGo ?_))
    rw [hname]
    refine wpAny_pure ⟨plainId_quiet F.plain_max_loop _, last (.ref b) _ _ _ (fun x o e => (Heap.get?_update_other _ _ (Ne.symm (fresh x o e).2)).trans (st4 x o e)) (W.frame _ _ _ hst4 fun x hx o e => (Heap.get?_update_other _ _ (fun q : S = x => hSf (by rw [q]; exact hx))).trans e) (Heap.get?_update_self _ hSc rfl) h⟩
  | false =>
    simp only [Bool.false_eq_true, if_false] at h ⊢
    refine wpAny_bind (wpAny_letGo ?_)
    rw [hname]
    exact wpAny_pure ⟨plainId_quiet F.plain_max_loop _, last (.ref a) _ _ _ st4 hst4 hSc h⟩
variable {h₀ : Heap} {L : Addr} {m : Str → Option Value} {news : List (Addr × Obj)}

theorem min_lists {D : Addr} {k : Nat} {Q : Value → Shared → Prop} (hh : A.handled = none) (F : Fr h₀ L s.heap m) (N : News h₀ L s.heap news) (hD : (D, W.listOf [.ref a, .ref b].toArray k) ∈ news) (ha : (a, W.listOf vs.toArray n) ∈ news) (hb : (b, W.listOf ws.toArray n') ∈ news)
    (hx : TxtOf vs xs) (hy : TxtOf ws ys) (hu : A.units + 1 < cLine)
    (h : ∀ h' tk, Fr h₀ L h' m → News h₀ L h' news → Q (if lstLt ys xs then .ref b else .ref a) { s with heap := h', toks := tk }) :
    wpAny (model prog w) A (call (.builtin "min") [.ref D]) Q E s :=
  min_pair hh (N _ hD).1 (lstLt ys xs) (fun _ _ _ st hq => lists_lt hy hx (st _ _ (N _ hb).1) (st _ _ (N _ ha).1) hu hq) fun h' tk st => h h' tk (F.keeps st) fun p hp => ⟨st _ _ (N p hp).1, (N p hp).2⟩

theorem max_lists {D : Addr} {k : Nat} {Q : Value → Shared → Prop} (hh : A.handled = none) (F : Fr h₀ L s.heap m) (N : News h₀ L s.heap news) (hD : (D, W.listOf [.ref a, .ref b].toArray k) ∈ news) (ha : (a, W.listOf vs.toArray n) ∈ news) (hb : (b, W.listOf ws.toArray n') ∈ news)
    (hx : TxtOf vs xs) (hy : TxtOf ws ys) (hu : A.units + 1 < cLine)
    (h : ∀ h' tk, Fr h₀ L h' m → News h₀ L h' news → Q (if lstLt xs ys then .ref b else .ref a) { s with heap := h', toks := tk }) :
    wpAny (model prog w) A (call (.builtin "max") [.ref D]) Q E s :=
  max_pair hh (N _ hD).1 (lstLt xs ys) (fun _ _ _ st hq => lists_gt hy hx (st _ _ (N _ hb).1) (st _ _ (N _ ha).1) hu hq) fun h' tk st => h h' tk (F.keeps st) fun p hp => ⟨st _ _ (N p hp).1, (N p hp).2⟩

noncomputable def lmin (xs ys : List Str) : List Str := if lstLt ys xs then ys else xs
noncomputable def lmax (xs ys : List Str) : List Str := if lstLt xs ys then ys else xs
theorem min_any {D : Addr} {k : Nat} {Q : Value → Shared → Prop} (hh : A.handled = none) (F : Fr h₀ L s.heap m) (N : News h₀ L s.heap news) (hD : (D, W.listOf [.ref a, .ref b].toArray k) ∈ news) (ha : (a, W.listOf vs.toArray n) ∈ news) (hb : (b, W.listOf ws.toArray n') ∈ news)
    (hx : TxtOf vs xs) (hy : TxtOf ws ys) (hu : A.units + 1 < cLine)
    (h : ∀ a1 vs1 n1 h' tk, TxtOf vs1 (lmin xs ys) → Fr h₀ L h' m → News h₀ L h' ((a1, W.listOf (List.toArray vs1) n1) :: news) → Q (.ref a1) { s with heap := h', toks := tk }) :
    wpAny (model prog w) A (call (.builtin "min") [.ref D]) Q E s := by
  refine min_lists hh F N hD ha hb hx hy hu fun h' tk F' N' => ?_
  have N2 : ∀ q ∈ news, News h₀ L h' (q :: news) := fun q hq p hp => (List.mem_cons.mp hp).elim (fun e => e ▸ N' _ hq) (fun hp => N' _ hp)
  cases e : lstLt ys xs with
  | true => exact h b ws n' h' tk (by unfold lmin; rw [e]; exact hy) F' (N2 _ hb)
  | false => exact h a vs n h' tk (by unfold lmin; rw [e]; exact hx) F' (N2 _ ha)
theorem max_any {D : Addr} {k : Nat} {Q : Value → Shared → Prop} (hh : A.handled = none) (F : Fr h₀ L s.heap m) (N : News h₀ L s.heap news) (hD : (D, W.listOf [.ref a, .ref b].toArray k) ∈ news) (ha : (a, W.listOf vs.toArray n) ∈ news) (hb : (b, W.listOf ws.toArray n') ∈ news)
    (hx : TxtOf vs xs) (hy : TxtOf ws ys) (hu : A.units + 1 < cLine)
    (h : ∀ a1 vs1 n1 h' tk, TxtOf vs1 (lmax xs ys) → Fr h₀ L h' m → News h₀ L h' ((a1, W.listOf (List.toArray vs1) n1) :: news) → Q (.ref a1) { s with heap := h', toks := tk }) :
    wpAny (model prog w) A (call (.builtin "max") [.ref D]) Q E s := by
  refine max_lists hh F N hD ha hb hx hy hu fun h' tk F' N' => ?_
  have N2 : ∀ q ∈ news, News h₀ L h' (q :: news) := fun q hq p hp => (List.mem_cons.mp hp).elim (fun e => e ▸ N' _ hq) (fun hp => N' _ hp)
  cases e : lstLt xs ys with
  | true => exact h b ws n' h' tk (by unfold lmax; rw [e]; exact hy) F' (N2 _ hb)
  | false => exact h a vs n h' tk (by unfold lmax; rw [e]; exact hx) F' (N2 _ ha)
noncomputable def comm : List Str → List Str → List Str
  | x :: xs, y :: ys => if x == y then x :: comm xs ys else []
  | _, _ => []
theorem comm_swap : ∀ xs ys : List Str, comm xs ys = comm ys xs
  | [], [] => rfl
  | [], _ :: _ => rfl
  | _ :: _, [] => rfl
  | x :: xs, y :: ys => by
    unfold comm
    by_cases e : x = y
    · subst e; simp [comm_swap xs ys]
    · rw [if_neg (by simpa using e), if_neg (by simpa using Ne.symm e)]
theorem str_eq_of {x y : Str} (h : x.cps.toList = y.cps.toList) : x = y := by
  cases x; cases y; simp only [Str.mk.injEq]; exact Array.toList_inj.mp h
theorem lstLt_total : ∀ xs ys : List Str, lstLt xs ys = false → lstLt ys xs = false → xs = ys
  | [], [], _, _ => rfl
  | [], _ :: _, h, _ => by simp [lstLt] at h
  | _ :: _, [], _, h => by simp [lstLt] at h
  | x :: xs, y :: ys, h1, h2 => by
    unfold lstLt at h1 h2
    by_cases e : x = y
    · subst e
      simp only [beq_self_eq_true, if_true] at h1 h2
      rw [lstLt_total xs ys h1 h2]
    · rw [if_neg (by simpa using e)] at h1
      rw [if_neg (by simpa using Ne.symm e)] at h2
      simp only [decide_eq_false_iff_not] at h1 h2
      exact absurd (str_eq_of (List.le_antisymm (List.not_lt.mp h2) (List.not_lt.mp h1))) e
theorem lstLt_asymm : ∀ xs ys : List Str, lstLt xs ys = true → lstLt ys xs = false
  | [], [], h => by simp [lstLt] at h
  | [], _ :: _, _ => rfl
  | _ :: _, [], h => by simp [lstLt] at h
  | x :: xs, y :: ys, h1 => by
    unfold lstLt at h1 ⊢
    by_cases e : x = y
    · subst e
      simp only [beq_self_eq_true, if_true] at h1 ⊢
      exact lstLt_asymm xs ys h1
    · rw [if_neg (by simpa using e)] at h1
      rw [if_neg (by simpa using Ne.symm e)]
      simp only [decide_eq_true_eq, decide_eq_false_iff_not] at h1 ⊢
      exact List.lt_asymm h1
theorem comm_lmin (xs ys : List Str) : comm (lmin xs ys) (lmax xs ys) = comm xs ys := by
  unfold lmin lmax
  cases e1 : lstLt ys xs <;> cases e2 : lstLt xs ys
  · rw [lstLt_total _ _ e2 e1]; rfl
  · rfl
  · exact comm_swap ys xs
  · rw [lstLt_asymm _ _ e1] at e2; cases e2
theorem lmin_le (xs ys : List Str) : lstLt (lmax xs ys) (lmin xs ys) = false := by
  unfold lmin lmax
  cases e1 : lstLt ys xs <;> cases e2 : lstLt xs ys
  · exact lstLt_total _ _ e2 e1 ▸ e2
  · exact e1
  · exact e2
  · rw [lstLt_asymm _ _ e1] at e2; cases e2
theorem le_len : ∀ (i : Nat) (xs ys : List Str), lstLt ys xs = false → xs.take i = ys.take i → i < xs.length → i < ys.length
  | 0, x :: xs, [], h, _, _ => by simp [lstLt] at h
  | 0, _, _ :: _, _, _, _ => by simp
  | i + 1, x :: xs, [], h, _, _ => by simp [lstLt] at h
  | i + 1, x :: xs, y :: ys, h, e, l => by
    simp only [List.take_succ_cons, List.cons.injEq] at e
    obtain ⟨rfl, e⟩ := e
    simp only [lstLt, beq_self_eq_true, if_true] at h
    have := le_len i xs ys h e (by simpa using l)
    simpa using this
  | 0, [], _, _, _, l => by simp at l
  | i + 1, [], _, _, _, l => by simp at l
theorem comm_whole (xs ys : List Str) (h : xs = ys.take xs.length) : comm xs ys = xs := by
  induction xs generalizing ys with
  | nil => cases ys <;> rfl
  | cons x xs ih =>
    cases ys with
    | nil => simp at h
    | cons y ys =>
      simp only [List.length_cons, List.take_succ_cons, List.cons.injEq] at h
      obtain ⟨rfl, h⟩ := h
      simp only [comm, beq_self_eq_true, if_true]
      rw [ih ys h]
theorem comm_take : ∀ (i : Nat) (xs ys : List Str), xs.take i = ys.take i → (h1 : i < xs.length) → (h2 : i < ys.length) → xs[i] ≠ ys[i] → comm xs ys = xs.take i
  | 0, x :: xs, y :: ys, _, _, _, hne => by
    simp only [List.getElem_cons_zero] at hne
    simp only [comm, List.take_zero]
    rw [if_neg (by simpa using hne)]
  | i + 1, x :: xs, y :: ys, e, h1, h2, hne => by
    simp only [List.take_succ_cons, List.cons.injEq] at e
    obtain ⟨rfl, e⟩ := e
    simp only [comm, beq_self_eq_true, if_true, List.take_succ_cons]
    rw [comm_take i xs ys e (by simpa using h1) (by simpa using h2) (by simpa using hne)]
  | 0, [], _, _, h1, _, _ => by simp at h1
  | 0, _ :: _, [], _, _, h2, _ => by simp at h2
  | i + 1, [], _, _, h1, _, _ => by simp at h1
  | i + 1, _ :: _, [], _, _, h2, _ => by simp at h2
end
section
set_option maxRecDepth 100000
variable {prog : Program} {w : World} {A : Around} {E : Value → Shared → Prop} {s : Shared}
theorem args_int_hash' (a : Value) : argsOk "int.__hash__" ⟨[a], []⟩ := by unfold argsOk; rw [S.signatureZ_eq]; kernel_rfl
theorem true_hash {Q : Int → Shared → Prop} (h : Q 1 { s with toks := s.toks + 1 }) : wpAny (model prog w) A (pyHash (.bool true)) Q E s := by
  have hT : s.TypeIs (.bool true) "bool" := rfl
  unfold pyHash pyHashByItsType
  refine wpAny_bind ?_
  rw [cRoomFor, if_neg (by simp [Value.onHeap])]; refine wpAny_pure ?_
  refine wpAny_bind (wpAny_specialOf hT F.slot_bool_hash.lookup ?_)
  show wpAny _ _ (if (some (Value.builtin "int.__hash__") == some Value.none) = true then _ else _) Q E s
  rw [if_neg (by rw [beq_builtin_none]; exact Bool.false_ne_true)]
  refine wpAny_bind (wpAny_specialOf hT F.slot_bool_hash.lookup ?_)
  show wpAny _ _ (callSpecialIfBoundUnlessNone? (.bool true) "__hash__" _ >>= _) Q E s
  refine wpAny_bind (wpAny_callSpecialIfBoundUnlessNone?_slot hT F.slot_bool_hash
    (wpAny_call_entry F.slot_bool_hash hT entry_int_hash
      (show wpAny _ _ (do ret (← mkInt 1)) _ _ s from wpAny_ret_mkInt ?_) (args_int_hash' _)))
  show wpAny _ _ (if (decide (-(2 : Int) ^ 63 ≤ 1) && decide ((1:Int) < 2 ^ 63)) = true then _ else _) Q E _
  rw [if_pos (by decide)]
  exact wpAny_pure h
theorem true_eq {Q : Bool → Shared → Prop} (h : Q true s) : wpAny (model prog w) A (eqBool (.bool true) (.bool true)) Q E s := by
  unfold eqBool
  refine wpAny_holding ?_
  refine wpAny_ite_split (fun _ => ?_) (fun hab => absurd (by decide) hab)
  exact wpAny_bind (wpAny_rule (wpAny_pure h))
noncomputable abbrev setO (es : Array (Int × Value)) (ep : Nat) (t : SetTable) : Obj := { cls := .type "set", dict := none, data := .set es ep t }
noncomputable def tabOne (led : Bool) : SetTable := (layNew (.fresh 0 0 led) #[] 1 (.bool true)).2.1
theorem tab_lay (led : Bool) : layNew (.fresh 0 0 led) #[] 1 (.bool true) = (#[(1, .bool true)], tabOne led, false, false) := by cases led <;> rfl
theorem tab_fits (led : Bool) : (tabOne led).fits 1 = true := by cases led <;> rfl
theorem tab_led (led : Bool) : (tabOne led).led = led := by cases led <;> rfl
theorem tab_plain (led : Bool) : (tabOne led).plain = true := by cases led <;> rfl
theorem tab_full (led : Bool) : (tabOne led).tooFull = false := by cases led <;> rfl
theorem tab_place (led : Bool) : (tabOne led).place = #[1] := by cases led <;> rfl
noncomputable abbrev emptyO (led : Bool) : Obj := setO #[] 0 (.fresh 0 0 led)
noncomputable abbrev oneO (led : Bool) : Obj := setO #[(1, .bool true)] 1 (tabOne led)
noncomputable def ledOf (w : World) : Bool := !w.params.followText "set-order"
theorem newSet_led {Q : Value → Shared → Prop} (h : Q (.ref s.heap.objs.size) { s with heap := s.heap.push (emptyO (ledOf w)) }) : wpAny (model prog w) A (newSet (.type "set")) Q E s := by
  unfold newSet setsByText
  refine wpAny_bind (wpAny_bind (wpAny_askSetting (wpAny_pure ?_)))
  dsimp only
  simp only [newObj]
  exact wpAny_bind (wpAny_alloc (wpAny_pure h))
theorem add_first {D : Addr} {led : Bool} {Q : Value → Shared → Prop} (hD : s.heap.get? D = some (emptyO led)) (h : ∀ h' v, Heap.SameBut D s.heap h' → h'.get? D = some (oneO led) → Q v { s with heap := h', toks := s.toks + 1 }) :
    wpAny (model prog w) A (call (.builtin "set.add") [.ref D, .bool true]) Q E s := by
  have hT : s.TypeIs (.ref D) "set" := ⟨_, hD, rfl⟩
  refine wpAny_call_entry F.slot_set_add hT F.entry_set_add ?_ (F.args_set_add_2 _ _)
  unfold Builtin.«set.add» Builtin.Frozenset.oneOther
  simp only [List.isEmpty_nil, bind_assoc]
  unfold Builtin.Frozenset.addrOf setAdd
  refine wpAny_bind (wpAny_pure ?_)
  try dsimp only
  refine wpAny_bind (wpAny_pure ?_)
  try dsimp only
  refine wpAny_bind ?_
  refine wpAny_holding ?_
  refine wpAny_bind (true_hash ?_)
  unfold setAddHashed setAddHashedIn
  refine wpAny_holding (wpAny_bind (wpAny_setState_of (s := { s with toks := s.toks + 1 }) hD rfl rfl ?_))
  dsimp only
  rw [show byScan (.bool true) #[] = true from by simp [byScan, Value.scannable, scanBound]]
  simp only [↓reduceIte]
  unfold setAddByScan
  refine wpAny_bind ?_
  refine wpAny_bind (wpAny_rule ?_)
  refine wpAny_bind (wpAny_of_eq (show setScan D (.bool true) 1 true #[] = pure .absent from rfl) ?_)
  dsimp only
  refine wpAny_bind (wpAny_pure ?_)
  rw [tab_lay]
  dsimp only
  refine wpAny_bind (wpAny_pure ?_)
  simp only [if_true]
  refine wpAny_bind (wpAny_storeSet_of (s := { s with toks := s.toks + 1 }) hD rfl ?_ (by decide))
  rw [tab_full]
  simp only [Bool.not_false, Bool.and_false, Bool.false_eq_true, ↓reduceIte]
  refine wpAny_pure ?_
  dsimp only
  refine wpAny_pure ?_
  show wpAny _ _ (ret Value.none) _ _ _
  exact wpAny_pure ⟨_, rfl, h _ _ (Heap.SameBut.update ..) (Heap.get?_update_self _ hD rfl)⟩
theorem add_again {D : Addr} {led : Bool} {Q : Value → Shared → Prop} (hD : s.heap.get? D = some (oneO led)) (h : ∀ v, Q v { s with toks := s.toks + 1 }) :
    wpAny (model prog w) A (call (.builtin "set.add") [.ref D, .bool true]) Q E s := by
  have hT : s.TypeIs (.ref D) "set" := ⟨_, hD, rfl⟩
  refine wpAny_call_entry F.slot_set_add hT F.entry_set_add ?_ (F.args_set_add_2 _ _)
  unfold Builtin.«set.add» Builtin.Frozenset.oneOther
  simp only [List.isEmpty_nil, bind_assoc]
  unfold Builtin.Frozenset.addrOf setAdd
  refine wpAny_bind (wpAny_pure ?_)
  try dsimp only
  refine wpAny_bind (wpAny_pure ?_)
  try dsimp only
  refine wpAny_bind ?_
  refine wpAny_holding ?_
  refine wpAny_bind (true_hash ?_)
  unfold setAddHashed setAddHashedIn
  refine wpAny_holding (wpAny_bind (wpAny_setState_of (s := { s with toks := s.toks + 1 }) hD rfl (tab_fits led) ?_))
  dsimp only
  rw [show byScan (.bool true) #[(1, .bool true)] = true from by simp [byScan, Value.scannable, scanBound]]
  simp only [↓reduceIte]
  unfold setAddByScan
  refine wpAny_bind ?_
  refine wpAny_bind (wpAny_rule ?_)
  refine wpAny_bind ?_
  show wpAny _ _ (setScanFrom D (.bool true) 1 true [(1, .bool true)] 0) _ _ _
  unfold setScanFrom
  rw [if_pos (by decide)]
  refine wpAny_bind (wpAny_setEpoch_of (s := { s with toks := s.toks + 1 }) hD rfl (tab_fits led) ?_)
  refine wpAny_bind (true_eq ?_)
  simp only [Bool.and_self, ↓reduceIte]
  refine wpAny_pure ?_
  dsimp only
  refine wpAny_pure ?_
  dsimp only
  refine wpAny_pure ?_
  show wpAny _ _ (ret Value.none) _ _ _
  exact wpAny_pure ⟨_, rfl, h _⟩

theorem slot_seti_next : Slot "set_iterator" "__next__" "set_iterator.__next__" :=
  .of (owner := "set_iterator") (n := "__next__") (by rw [typeLookup_type, builtinLookup_eq_fast]; kernel_rfl) (by decide +kernel) (by decide +kernel) (by decide +kernel)
    (by first | exact .inl (by decide +kernel) | exact .inr (by decide +kernel)) (by rw [isSubtype_type]; kernel_rfl)
theorem entry_seti_next : entryFor table "set_iterator.__next__" = some Builtin.«set_iterator.__next__» := by first | exact entryFor_of_tree (by kernel_rfl) | exact entryFor_of_fast (by kernel_rfl)
theorem args_seti_next (a : Value) : argsOk "set_iterator.__next__" ⟨[a], []⟩ := by unfold argsOk; rw [S.signatureZ_eq]; kernel_rfl
theorem entry_set_iter' : entryFor table "set.__iter__" = some Builtin.«frozenset.__iter__» :=
  entryFor_alias (id' := "frozenset.__iter__") (by rw [fastTable_eq_tree]; kernel_rfl) rfl (by rw [S.canonicalZ_eq]; decide +kernel) (by rw [fastTable_eq_tree]; kernel_rfl)
noncomputable abbrev seti (D : Addr) (a b : Int) : Obj := { cls := .type "set_iterator", data := .fields #[.int a 0, .int b 0, .ref D, .int 1 0, .int 1 0] }
theorem iter_one {D : Addr} {Q : Value → Shared → Prop} (hD : s.heap.get? D = some (oneO (ledOf w))) (hQ : Q (.ref s.heap.objs.size) { s with heap := s.heap.push (seti D 0 0) }) :
    wpAny (model prog w) A (pyIter (.ref D)) Q E s := by
  have hT : s.TypeIs (.ref D) "set" := ⟨_, hD, rfl⟩
  refine wpAny_pyIter_slot hT F.slot_set_iter (wpAny_call_entry F.slot_set_iter hT entry_set_iter' ?_ (F.args_set_iter_1 _))
  unfold Builtin.«frozenset.__iter__» Builtin.Frozenset.slot0 slotArgs
  simp only [List.isEmpty_nil, Bool.not_true, Bool.false_eq_true, ↓reduceIte, bind_assoc, List.length_nil, bne_self_eq_false]
  unfold Builtin.Frozenset.addrOf Builtin.Frozenset.sizeOf
  refine wpAny_bind (wpAny_pure ?_)
  try dsimp only
  refine wpAny_bind (wpAny_pure ?_)
  refine wpAny_bind (wpAny_bind (wpAny_setEntries_of hD rfl (tab_fits _) (wpAny_pure ?_)))
  refine wpAny_bind ?_
  unfold setDrawn
  refine wpAny_bind (wpAny_setState_of hD rfl (tab_fits _) ?_)
  unfold setsByText
  refine wpAny_bind (wpAny_bind (wpAny_askSetting (wpAny_pure ?_)))
  refine wpAny_pure ?_
  rw [if_neg (by
    rw [Bool.and_eq_true]
    rintro ⟨_, hd⟩
    change (!(tabOne (ledOf w)).plain && _) = true at hd
    rw [tab_plain] at hd; cases hd)]
  refine wpAny_bind (wpAny_pure ?_)
  refine wpAny_bind (wpAny_setEpoch_of hD rfl (tab_fits _) ?_)
  exact wpAny_bind (wpAny_newObj_type (wpAny_pure ⟨_, rfl, "set_iterator", _, ⟨_, Heap.get?_push_size _ rfl, rfl⟩, slot_seti_next.lookup, hQ⟩))
theorem pickOne (next : Nat → Nat) (e : Int × Value) : pickOrder next #[e] = #[e] := by
  unfold pickOrder pickOrder.go
  simp [Nat.mod_one, pickOrder.go]
theorem next_one {D I : Addr} {Q : Option Value → Shared → Prop} (hD : s.heap.get? D = some (oneO (ledOf w))) (hI : s.heap.get? I = some (seti D 0 0)) 
    (hQ : ∀ h', Heap.SameBut I s.heap h' → (∃ k : Nat, h'.get? I = some (seti D k 1) ∧ (ledOf w = true → k = 2)) → Q (some (.bool true)) { s with heap := h' }) :
    wpAny (model prog w) A (pyNext (.ref I)) Q E s := by
  have hT : s.TypeIs (.ref I) "set_iterator" := ⟨_, hI, rfl⟩
  unfold pyNext
  refine wpAny_bind (wpAny_attempt (wpAny_callSpecial?_slot (name := Str.ofString "__next__") hT slot_seti_next (wpAny_call_entry slot_seti_next hT entry_seti_next ?_ (args_seti_next _))))
  unfold Builtin.«set_iterator.__next__» slotArgs
  simp only [List.isEmpty_nil, Bool.not_true, Bool.false_eq_true, ↓reduceIte, bind_assoc, List.length_nil, bne_self_eq_false]
  refine wpAny_bind (wpAny_pure ?_)
  refine wpAny_bind ?_
  unfold fieldsOf
  dsimp only
  refine wpAny_bind (wpAny_load hI (wpAny_pure ?_))
  dsimp only
  refine wpAny_bind (wpAny_setEntries_of hD rfl (tab_fits _) ?_)
  rw [if_neg (by decide)]
  refine wpAny_bind ?_
  have hend : ∀ (k : Nat) (E' : Value → Shared → Prop), (ledOf w = true → k = 2) → wpAny (model prog w) A.in1 (do setField (Value.ref I) 0 (rawInt (k : Int)); setField (Value.ref I) 1 (rawInt (0 + 1)); ret (.bool true))
      (fun fin s' => ∃ v, fin = Fin.done (Flow.ret v) ∧ wpAny (model prog w) A (pure (some v)) Q E s') E' s := by
    intro k E' hk
    have hI1 : (s.heap.update I (Obj.mapFields (·.setIfInBounds 0 (rawInt (k : Int))))).get? I = some (seti D k 0) := Heap.get?_update_self _ hI rfl
    refine wpAny_bind (wpAny_setField hI rfl (by simp) ?_)
    have hI2 : ((s.heap.update I (Obj.mapFields (·.setIfInBounds 0 (rawInt (k : Int))))).update I (Obj.mapFields (·.setIfInBounds 1 (rawInt (0 + 1))))).get? I = some (seti D k 1) := Heap.get?_update_self _ hI1 rfl
    refine wpAny_bind (wpAny_setField hI1 rfl (by simp) (wpAny_pure ⟨_, rfl, wpAny_pure (hQ _ ((Heap.SameBut.update ..).trans (Heap.SameBut.update ..)) ⟨k, hI2, hk⟩)⟩))
  unfold setNext
  refine wpAny_bind (wpAny_setState_of hD rfl (tab_fits _) ?_)
  unfold setsByText
  refine wpAny_bind (wpAny_bind (wpAny_askSetting (wpAny_pure ?_)))
  dsimp only
  cases hb : w.params.followText "set-order" with
  | true =>
    rw [if_pos (show (model prog w).w.params.followText "set-order" = true from hb)]
    rw [if_neg (by decide)]
    refine wpAny_bind ?_
    unfold setWalk
    refine wpAny_bind (wpAny_setState_of hD rfl (tab_fits _) ?_)
    unfold setsByText
    refine wpAny_bind (wpAny_bind (wpAny_askSetting (wpAny_pure ?_)))
    dsimp only
    rw [if_pos (show (model prog w).w.params.followText "set-order" = true from hb)]
    refine wpAny_bind (wpAny_askSetting (wpAny_pure ?_))
    rw [pickOne]
    refine wpAny_pure ?_
    exact hend 0 _ (fun e => by unfold ledOf at e; rw [hb] at e; cases e)
  | false =>
    rw [if_neg (show ¬ (model prog w).w.params.followText "set-order" = true by rw [show (model prog w).w.params.followText "set-order" = false from hb]; exact Bool.false_ne_true)]
    rw [if_neg (by
      intro hd
      change (!(tabOne (ledOf w)).plain && _) = true at hd
      rw [tab_plain] at hd; cases hd)]
    have hl : (tabOne (ledOf w)).led = true := by rw [tab_led]; unfold ledOf; rw [hb]; rfl
    refine wpAny_bind ?_
    refine wpAny_mono (Q := fun _ s' => s' = s) ?_ (fun _ s' e => ?_) (fun _ _ x => x)
    · show wpAny _ _ (if (!(tabOne (ledOf w)).led && _) = true then _ else _) _ _ _
      rw [hl]
      exact wpAny_pure rfl
    subst e
    refine wpAny_pure ?_
    rw [tab_place]
    exact hend 2 _ fun _ => rfl
theorem next_end {D I : Addr} {k : Nat} {Q : Option Value → Shared → Prop} (hh : A.handled = none) (hD : s.heap.get? D = some (oneO (ledOf w))) (hI : s.heap.get? I = some (seti D k 1)) (hk : ledOf w = true → k = 2)
    (hQ : ∀ h', Heap.ExtBut I s.heap h' → Q none { s with heap := h' }) :
    wpAny (model prog w) A (pyNext (.ref I)) Q E s := by
  have hT : s.TypeIs (.ref I) "set_iterator" := ⟨_, hI, rfl⟩
  unfold pyNext
  refine wpAny_bind (wpAny_attempt (wpAny_callSpecial?_slot (name := Str.ofString "__next__") hT slot_seti_next (wpAny_call_entry slot_seti_next hT entry_seti_next ?_ (args_seti_next _))))
  unfold Builtin.«set_iterator.__next__» slotArgs
  simp only [List.isEmpty_nil, Bool.not_true, Bool.false_eq_true, ↓reduceIte, List.length_nil, bne_self_eq_false]
  refine wpAny_bind (wpAny_pure ?_)
  refine wpAny_bind ?_
  unfold fieldsOf
  dsimp only
  refine wpAny_bind (wpAny_load hI (wpAny_pure ?_))
  dsimp only
  refine wpAny_bind (wpAny_setEntries_of hD rfl (tab_fits _) ?_)
  rw [if_neg (by decide)]
  refine wpAny_bind ?_
  have hend : wpAny (model prog w) A.in1 (do setField (Value.ref I) 2 .none; raiseNew (← newExc (.type "StopIteration") []))
      (fun fin s' => ∃ v, fin = Fin.done (Flow.ret v) ∧ wpAny (model prog w) A (pure (some v)) Q E s') (fun e s' => wpAny (model prog w) A (do if ← isInstance e (.type "StopIteration") then pure none else throw e) Q E s') s := by
    refine wpAny_bind (wpAny_setField hI rfl (by simp) ?_)
    refine wpAny_bind ?_
    simp only [newExc, newTuple]
    refine wpAny_bind (wpAny_newObj_type ?_ (by size_fits))
    refine wpAny_bind (m := firstArgMember _ _) (wpAny_of_eq (a := Value.none) (by first | rfl | (simp only [firstArgMember]; rfl)) ?_)
    refine wpAny_newObj_type ?_ (by size_fits)
    simp only [raiseNew]
    refine wpAny_bind (wpAny_handled ?_)
    first | rw [show A.in1.handled = none from hh] | rw [hh]
    refine wpAny_bind (wpAny_pure (wpAny_throw ?_))
    refine wpAny_bind (wpAny_isInstance (T := "StopIteration") (b := true) ⟨_, Heap.get?_push_size _ rfl, rfl⟩ isSubtype_stop ?_)
    exact wpAny_pure (hQ _ (((Heap.SameBut.update ..).extBut.push _).push _))
  unfold setNext
  refine wpAny_bind (wpAny_setState_of hD rfl (tab_fits _) ?_)
  unfold setsByText
  refine wpAny_bind (wpAny_bind (wpAny_askSetting (wpAny_pure ?_)))
  dsimp only
  cases hb : w.params.followText "set-order" with
  | true =>
    rw [if_pos (show (model prog w).w.params.followText "set-order" = true from hb)]
    rw [if_neg (by decide)]
    refine wpAny_bind ?_
    unfold setWalk
    refine wpAny_bind (wpAny_setState_of hD rfl (tab_fits _) ?_)
    unfold setsByText
    refine wpAny_bind (wpAny_bind (wpAny_askSetting (wpAny_pure ?_)))
    dsimp only
    rw [if_pos (show (model prog w).w.params.followText "set-order" = true from hb)]
    refine wpAny_bind (wpAny_askSetting (wpAny_pure ?_))
    rw [pickOne]
    refine wpAny_pure ?_
    exact hend
  | false =>
    rw [if_neg (show ¬ (model prog w).w.params.followText "set-order" = true by rw [show (model prog w).w.params.followText "set-order" = false from hb]; exact Bool.false_ne_true)]
    rw [if_neg (by
      intro hd
      change (!(tabOne (ledOf w)).plain && _) = true at hd
      rw [tab_plain] at hd; cases hd)]
    have hl : (tabOne (ledOf w)).led = true := by rw [tab_led]; unfold ledOf; rw [hb]; rfl
    obtain rfl : k = 2 := hk (by unfold ledOf; rw [hb]; rfl)
    refine wpAny_bind ?_
    refine wpAny_mono (Q := fun _ s' => s' = s) ?_ (fun _ s' e => ?_) (fun _ _ x => x)
    · show wpAny _ _ (if (!(tabOne (ledOf w)).led && _) = true then _ else _) _ _ _
      rw [hl]
      exact wpAny_pure rfl
    subst e
    refine wpAny_pure ?_
    rw [tab_place]
    exact hend
theorem unpack_set {D : Addr} {f : Value → Sem Unit} {Q : Unit → Shared → Prop} (hh : A.handled = none) (hD : s.heap.get? D = some (oneO (ledOf w)))
    (h : ∀ h', s.heap.StaysIn h' → wpAny (model prog w) A (f (.bool true)) Q E { s with heap := h' }) : wpAny (model prog w) A (unpack (.ref D) [(false, f)]) Q E s := by
  have hT : s.TypeIs (.ref D) "set" := ⟨_, hD, rfl⟩
  have hlt : D < s.heap.objs.size := Heap.lt_size hD
  unfold unpack
  refine wpAny_bind (wpAny_holding ?_)
  show wpAny _ _ (unpackItems (.ref D) 1 none) _ _ _
  unfold unpackItems
  refine wpAny_bind ?_
  unfold notIterableAtAll
  refine wpAny_bind (wpAny_specialOf hT F.slot_set_iter.lookup ?_)
  refine wpAny_pure ?_
  simp only [Bool.false_eq_true, if_false]
  refine wpAny_bind (wpAny_holding (iter_one hD ?_))
  have hD1 : (s.heap.push (seti D 0 0)).get? D = some (oneO (ledOf w)) := Heap.get?_push_of_some _ hD
  have hI1 : (s.heap.push (seti D 0 0)).get? s.heap.objs.size = some (seti D 0 0) := Heap.get?_push_size _ rfl
  refine wpAny_bind (wpAny_holding ?_)
  show wpAny _ _ (pyNext (.ref s.heap.objs.size) >>= _) _ _ _
  refine wpAny_bind (next_one hD1 hI1 fun h2 hs2 hI2 => ?_)
  obtain ⟨k, hI2, hk⟩ := hI2
  have hne : D ≠ s.heap.objs.size := Nat.ne_of_lt hlt
  have hD2 : h2.get? D = some (oneO (ledOf w)) := hs2.extBut _ _ hne hD1
  refine wpAny_bind (wpAny_holding ?_)
  show wpAny _ _ (pure []) _ _ _
  refine wpAny_pure (wpAny_pure ?_)
  rw [if_neg (by decide)]
  refine wpAny_bind (wpAny_holding (next_end hh hD2 hI2 hk fun h3 he3 => ?_))
  simp only [Option.isSome_none, Bool.false_eq_true, if_false]
  refine wpAny_pure ?_
  have st : s.heap.StaysIn h3 := fun b o e => by
    have hb : b ≠ s.heap.objs.size := Nat.ne_of_lt (Heap.lt_size e)
    exact he3 b o hb (hs2.extBut b o hb (Heap.get?_push_of_some _ e))
  show wpAny _ _ (holding [] (f (.bool true)) >>= fun _ => assignInOrder [] []) _ _ _
  exact wpAny_bind (wpAny_holding (wpAny_mono (h h3 st) (fun _ _ hq => wpAny_pure hq) fun _ _ e => e))
theorem compTurn_set1 (elt target iter : Expr) (scope : Scope) (pos : Pos) (it acc : Value) (env : Env) :
    compTurn (.SetComp elt [⟨target, iter, [], 0⟩] scope pos) 0 it acc env = (standAt iter.pos >>= fun _ => pyNext it >>= fun r => match r with
      | none => pure (.done .next)
      | some v => letOwnedTupleGo target it v >>= fun _ => assign target env v >>= fun _ =>
        (eval elt env >>= fun x => standAt elt.pos >>= fun _ => call (.builtin "set.add") [acc, x] >>= fun _ => pure ()) >>= fun _ =>
          again (.compLoop (.SetComp elt [⟨target, iter, [], 0⟩] scope pos) 0 it acc env)) := by rfl
theorem compLoop_set {R : Result → Shared → Prop} {elt target iter : Expr} {scope : Scope} {pos : Pos} {it acc : Value} {env : Env} (I : Nat → Shared → Prop)
    (turn : ∀ n s, I n s → wpAny (model prog w) A (pyNext it) (fun r s₁ => match r with
      | none => R (.ok .next) s₁
      | some v => wpAny (model prog w) A (assign target env v) (fun _ s₂ => wpAny (model prog w) A (eval elt env) (fun x s₃ =>
          wpAny (model prog w) A (call (.builtin "set.add") [acc, x]) (fun _ s₄ => ∃ m, m < n ∧ I m s₄) (notedBy (model prog w) A env fun e s' => R (.error e) s') s₃)
          (notedBy (model prog w) A env fun e s' => R (.error e) s') s₂) (notedBy (model prog w) A env fun e s' => R (.error e) s') s₁) (notedBy (model prog w) A env fun e s' => R (.error e) s') s)
    (n : Nat) (h : I n s) (ht : ∀ v, letOwnedTupleGo target it v = pure () := by intro _; rfl) :
    codeAny (model prog w) A (.compLoop (.SetComp elt [⟨target, iter, [], 0⟩] scope pos) 0 it acc env) R s := by
  refine codeAny_loop rfl I (fun n s hI => ?_) n h
  show wpAny _ _ ((compTurn (.SetComp elt [⟨target, iter, [], 0⟩] scope pos) 0 it acc env).onRaise (fun x => do noteFrame x env; theTreesLotGoes x)) _ _ s
  refine wpAny_noted ?_
  rw [compTurn_set1]
  refine wpAny_bind (wpAny_standAt (wpAny_bind (wpAny_mono (turn n s hI) (fun r s₁ h₁ => ?_) fun _ _ h' => h')))
  cases r with
  | none => exact wpAny_pure h₁
  | some v =>
    refine wpAny_bind (wpAny_of_eq (ht v) ?_)
    exact wpAny_bind (wpAny_mono h₁ (fun _ s₂ h₂ => wpAny_bind (wpAny_bind (wpAny_mono h₂ (fun x s₃ h₃ => wpAny_bind (wpAny_standAt (wpAny_bind (wpAny_mono h₃
      (fun _ s₄ h₄ => wpAny_pure (wpAny_pure ⟨rfl, h₄⟩)) fun _ _ h' => h')))) fun _ _ h' => h'))) fun _ _ h' => h')
theorem compStart_set {R : Result → Shared → Prop} {elt target iter ifs rest scope pos it acc} {env : Env}
    (h0 : codeAny (model prog w) A (.compLoop (.SetComp elt (⟨target, iter, ifs, 0⟩ :: rest) scope pos) 0 it acc env) R s)
    (h : wpAny (model prog w) A (pyIter it) (fun it' s' => codeAny (model prog w) A (.compLoop (.SetComp elt (⟨target, iter, ifs, 0⟩ :: rest) scope pos) 0 it' acc env) R s')
      (notedBy (model prog w) A env fun x s' => R (.error x) s') s) :
    codeAny (model prog w) A (.compStart (.SetComp elt (⟨target, iter, ifs, 0⟩ :: rest) scope pos) 0 it acc env) R s := by
  refine codeAny_of_tree ?_
  show wpAny _ _ ((compStart (.SetComp elt (⟨target, iter, ifs, 0⟩ :: rest) scope pos) 0 it acc env).onRaise (fun x => do noteFrame x env; standAt theWindowsPlace)) _ _ s
  refine wpAny_notedAt ?_
  unfold compStart
  show wpAny _ _ (ask >>= _) _ _ s
  refine wpAny_bind (wpAny_askSetting (wpAny_ite ?_))
  split
  · first
      | exact wpAny_bind (wpAny_pure (wpAny_pure (And.intro rfl h0)))
      | exact wpAny_pure (And.intro rfl h0)
  · first
      | exact wpAny_bind (wpAny_rule (wpAny_bind (wpAny_standAt (wpAny_bind (wpAny_mono h (fun it' s' h' => wpAny_pure (And.intro rfl h')) fun _ _ x => x)))))
      | (refine wpAny_bind (wpAny_rule ?_); show wpAny _ _ (standAt iter.pos >>= _) _ _ s; exact wpAny_bind (wpAny_standAt (wpAny_bind (wpAny_mono h (fun it' s' h' => wpAny_pure (And.intro rfl h')) fun _ _ x => x))))

variable {h₀ : Heap} {L : Addr} {m : Str → Option Value} {news : List (Addr × Obj)} {env : Env}
noncomputable def SetSrc (prog : Program) (w : World) (A : Around) (h₀ : Heap) (L : Addr) (m : Str → Option Value) (env : Env) (elt : Expr) (x : Str) (scope : Scope) (cl : List (Str × Addr)) (Q : Value → Shared → Prop) (xv : Value) (s₁ : Shared) : Prop :=
  ∃ ax T vs k news, xv = .ref ax ∧ (T = "list" ∨ T = "tuple") ∧ (ax, seqObj T vs k) ∈ news ∧ 0 < vs.length ∧ Fr h₀ L s₁.heap m ∧ News h₀ L s₁.heap news ∧
      (∀ C oC v s₃ m₃ E', v ∈ vs → LCg.NsObj oC m₃ → m₃ x = some v → Fr h₀ L s₃.heap m → News h₀ L s₃.heap ((C, oC) :: news) →
        wpAny (model prog w) A (eval elt (compEnvC scope cl C env)) (fun y s₄ => y = .bool true ∧ Keeps s₃ s₄) E' s₃) ∧
      (∀ D h' tk, Fr h₀ L h' m → News h₀ L h' ((D, oneO (ledOf w)) :: news) → (∀ p ∈ news, p.1 < D) → Q (.ref D) { s₁ with heap := h', toks := tk })
theorem SetSrc.is {elt : Expr} {x : Str} {scope : Scope} {cl : List (Str × Addr)} {Q : Value → Shared → Prop} {ax : Addr} {T : String} {vs : List Value} {k : Nat}
    (F : Fr h₀ L s.heap m) (N : News h₀ L s.heap news) (hm : (ax, seqObj T vs k) ∈ news) (hT : T = "list" ∨ T = "tuple") (hz : 0 < vs.length)
    (he : ∀ C oC v s₃ m₃ E', v ∈ vs → LCg.NsObj oC m₃ → m₃ x = some v → Fr h₀ L s₃.heap m → News h₀ L s₃.heap ((C, oC) :: news) →
        wpAny (model prog w) A (eval elt (compEnvC scope cl C env)) (fun y s₄ => y = .bool true ∧ Keeps s₃ s₄) E' s₃)
    (hQ : ∀ D h' tk, Fr h₀ L h' m → News h₀ L h' ((D, oneO (ledOf w)) :: news) → (∀ p ∈ news, p.1 < D) → Q (.ref D) { s with heap := h', toks := tk }) :
    SetSrc prog w A h₀ L m env elt x scope cl Q (.ref ax) s := ⟨ax, T, vs, k, news, rfl, hT, hm, hz, F, N, he, hQ⟩
inductive SetI (s₁ : Shared) (n : Nat) (St : Nat → Heap → Prop) (C D : Addr) (P : Bool) (k : Nat) (s' : Shared) : Prop
  | mk (h' : Heap) (tk i : Nat) (m' : Str → Option Value) (e : s' = { s₁ with heap := h', toks := tk }) (hi : i ≤ n) (hk : k = n + 1 - i) (hz : St i h') (st : s₁.heap.StaysIn h') (hn : h'.Ns C m') (hD : h'.get? D = some (if i = 0 then emptyO P else oneO P)) : SetI s₁ n St C D P k s'
theorem setcomp_true {elt iter : Expr} {x : Str} {px : Pos} {scope : Scope} {cl : List (Str × Addr)} {pos : Pos} {Q : Value → Shared → Prop}
    (_F₀ : Fr h₀ L s.heap m) (hh : A.handled = none) (hclos : closureFor scope env = pure cl) (hcell : ∀ y ∈ scope.names, y.2 ≠ .cell) (hkind : scope.kind = .function)
    (hnames : ∀ y ∈ scope.names, y.2 = .local → scope.names.lookup y.1 = some .local) (hx : scope.names.lookup x = some .local)
    (h : wpAny (model prog w) A (eval iter env) (SetSrc prog w A h₀ L m env elt x scope cl Q) E s)
    (hs : ∀ x, foldedSetIterable iter env x = pure x := by intro _; rfl) :
    wpAny (model prog w) A (eval (.SetComp elt [⟨.Name x px, iter, [], 0⟩] scope pos) env) Q E s := by
  rw [arm_eval_SetComp]
  show wpAny _ _ (comprehension (.SetComp elt [⟨.Name x px, iter, [], 0⟩] scope pos) scope env _ (newSet (.type "set")) false (eval iter env) none) _ _ _
  refine wpAny_comprehension_free (use := none) rfl hs hclos hkind hnames (wpAny_mono h (fun xv s₁ h₁ => ?_) fun _ _ e => e)
  obtain ⟨ax, T, vs, k, news, rfl, hT, hm, hz, F, N, helt, hQ⟩ := h₁
  have hold : ∀ p ∈ news, p.1 < s₁.heap.objs.size := fun p hp => Heap.lt_size (N p hp).1
  refine iter_seq hh hT F N hm fun I fp St h2 W hst hlive hfp F2 N2 hI hst2 hsz2 => ?_
  refine newSet_led ?_
  refine wpAny_newFunctionEnv hcell (by intro y hy; simp at hy) (fun h₁ hns₁ hsb₁ => ?_) hkind
  dsimp only at hns₁ hsb₁ ⊢
  generalize hH2 : h2.push (emptyO (ledOf w)) = H2 at hns₁ hsb₁ ⊢
  have hC : H2.objs.size = h2.objs.size + 1 := by rw [← hH2, Heap.size_push]
  have hDC : h2.objs.size ≠ H2.objs.size := by rw [hC]; exact Nat.ne_of_lt (Nat.lt_succ_self _)
  have below : ∀ b, b < h2.objs.size → b ≠ H2.objs.size ∧ b ≠ h2.objs.size := fun b hb => ⟨by rw [hC]; exact Nat.ne_of_lt (Nat.lt_succ_of_lt hb), Nat.ne_of_lt hb⟩
  have hDf : h2.objs.size ∉ fp := fun hm => Nat.lt_irrefl _ (hfp _ hm)
  have hCf : H2.objs.size ∉ fp := fun hm => by have := hfp _ hm; rw [hC] at this; exact Nat.lt_irrefl _ (Nat.lt_of_succ_lt this)
  have hIf : I ∈ fp := W.sub I (List.mem_singleton.mpr rfl)
  have hIlt : I < h2.objs.size := hfp I hIf
  have hIC := (below I hIlt).1
  have hID := (below I hIlt).2
  have old : ∀ b o, h2.get? b = some o → h₁.get? b = some o := fun b o e => hsb₁.extBut b o (below b (Heap.lt_size e)).1 (Heap.get?_push_of_some _ (hH2 ▸ Heap.get?_push_of_some _ e))
  have hacc : h₁.get? h2.objs.size = some (emptyO (ledOf w)) := hsb₁.extBut _ _ hDC (Heap.get?_push_of_some _ (hH2 ▸ Heap.get?_push_size _ rfl))
  have hst₁ : St 0 h₁ := W.frame _ _ _ hst fun b _ o e => old b o e
  have s1lt : ∀ b o, s₁.heap.get? b = some o → b ≠ I ∧ b ≠ h2.objs.size ∧ b ≠ H2.objs.size := fun b o e => by
    have h3 := Heap.lt_size (hst2 b o e)
    exact ⟨(by rintro rfl; rw [hI] at e; cases e), (below b h3).2, (below b h3).1⟩
  have hLs : L ≠ I ∧ L ≠ h2.objs.size ∧ L ≠ H2.objs.size := by obtain ⟨_, _, _, ho, _⟩ := F.ns; exact s1lt L _ ho
  have h0lt : ∀ b o, h₀.get? b = some o → b ≠ I ∧ b ≠ h2.objs.size ∧ b ≠ H2.objs.size := fun b o e => s1lt b o (F.keep b o e)
  have none0 : ∀ b, (b = I ∨ b = h2.objs.size ∨ b = H2.objs.size) → h₀.get? b = none := fun b hb => by
    cases e : h₀.get? b with
    | none => rfl
    | some o => have := h0lt b o e; rcases hb with rfl | rfl | rfl <;> first | exact absurd rfl this.1 | exact absurd rfl this.2.1 | exact absurd rfl this.2.2
  have st01 : s₁.heap.StaysIn h₁ := fun b o e => old b o (hst2 b o e)
  have loop : ∀ s₃ : Shared, (∃ tk, s₃ = { s₁ with heap := h₁, toks := tk }) →
      codeAny (model prog w) A (.compLoop (.SetComp elt [⟨.Name x px, iter, [], 0⟩] scope pos) 0 (.ref I) (.ref h2.objs.size) (compEnvC scope cl H2.objs.size env))
        (compPost (model prog w) A E none Q (.ref h2.objs.size) H2.objs.size) s₃ := by
    rintro s₃ ⟨tk, rfl⟩
    refine compLoop_set
      (SetI s₁ vs.length St H2.objs.size h2.objs.size (ledOf w)) ?_ (vs.length + 1)
      ⟨h₁, _, 0, _, rfl, Nat.zero_le _, rfl, hst₁, st01, hns₁, by simpa using hacc⟩
    rintro k s' ⟨h', tk, i, m', rfl, hi, rfl, hst', st', hn', hD'⟩
    by_cases hlt : i < vs.length
    · refine W.item i _ _ _ hlt hst' fun v h₂ tk₂ hPv hst₂ hk₂ => ?_
      have hvm : v ∈ vs := List.mem_of_getElem? hPv
      refine wpAny_assign_Name (wpAny_storeName_local (lookup_relabel_local hx) (hn'.at' fun o e => hk₂ _ o (by simpa using Ne.symm hIC) e) (fun h₃ hn₃ hs₃ => ?_) (by simp [compEnvC, relabel, hkind]))
      have hst₃ : St (i + 1) h₃ := W.frame _ _ _ hst₂ fun b hb o e => hs₃.extBut b o (fun q => hCf (by have q' : b = H2.objs.size := q; rw [← q']; exact hb)) e
      have st₃ : s₁.heap.StaysIn h₃ := fun b o e => hs₃.extBut b o (s1lt b o e).2.2 (hk₂ b o (by simpa using (s1lt b o e).1) (st' b o e))
      have hD₃ : h₃.get? h2.objs.size = some (if i = 0 then emptyO (ledOf w) else oneO (ledOf w)) := hs₃.extBut _ _ hDC (hk₂ _ _ (by simpa using Ne.symm hID) hD')
      obtain ⟨oC, heC, hoC⟩ := LCg.ns_obj hn₃
      have F₃ : Fr h₀ L h₃ m := F.keeps st₃
      have N₃ : News h₀ L h₃ ((H2.objs.size, oC) :: news) := fun p hp => by
        rcases List.mem_cons.mp hp with rfl | hp
        · exact ⟨heC, Ne.symm hLs.2.2, none0 _ (.inr (.inr rfl))⟩
        · exact ⟨st₃ _ _ (N p hp).1, (N p hp).2⟩
      refine wpAny_mono (helt _ oC v _ _ _ hvm hoC (by simp) F₃ N₃) (fun y s₄ h₄ => ?_) fun _ _ e => e
      obtain ⟨rfl, h₄, tk₄, rfl, kp⟩ := h₄
      have fin : ∀ (h₅ : Heap) (tk₅ : Nat), Heap.SameBut h2.objs.size h₄ h₅ → h₅.get? h2.objs.size = some (oneO (ledOf w)) →
          ∃ m, m < vs.length + 1 - i ∧ SetI s₁ vs.length St H2.objs.size h2.objs.size (ledOf w) m { s₁ with heap := h₅, toks := tk₅ } := fun h₅ tk₅ hs₅ hD₅ =>
        ⟨vs.length + 1 - (i + 1), by lia, h₅, tk₅, i + 1, _, rfl, hlt, rfl, W.frame _ _ _ hst₃ fun b hb o e => hs₅.extBut b o (fun q => hDf (q ▸ hb)) (kp b o e), fun b o e => hs₅.extBut b o (s1lt b o e).2.1 (kp b o (st₃ b o e)),
          (hn₃.at' fun o e => kp _ o e).sameBut hs₅ (Ne.symm hDC), by rw [if_neg (Nat.succ_ne_zero i)]; exact hD₅⟩
      by_cases h0 : i = 0
      · rw [if_pos h0] at hD₃
        exact add_first (kp _ _ hD₃) fun h₅ v hs₅ hD₅ => fin h₅ _ hs₅ hD₅
      · rw [if_neg h0] at hD₃
        exact add_again (kp _ _ hD₃) fun v => fin _ _ (Heap.SameBut.refl _ _) (kp _ _ hD₃)
    · obtain rfl : i = vs.length := Nat.le_antisymm hi (Nat.not_lt.mp hlt)
      refine W.done _ _ _ hst' fun h₂ tk₂ hk₂ => ?_
      rw [if_neg (Nat.ne_of_gt hz)] at hD'
      have st₂ : s₁.heap.StaysIn h₂ := fun b o e => hk₂ b o (by simpa using (s1lt b o e).1) (st' b o e)
      refine ⟨_, hn'.at' fun o e => hk₂ _ o (by simpa using Ne.symm hIC) e, fun h₃ hs₃ => ?_⟩
      have st₃ : s₁.heap.StaysIn h₃ := fun b o e => hs₃.extBut b o (s1lt b o e).2.2 (st₂ b o e)
      refine hQ _ h₃ _ (F.keeps st₃) (fun p hp => ?_) (fun p hp => Nat.lt_of_lt_of_le (hold p hp) hsz2)
      rcases List.mem_cons.mp hp with rfl | hp
      · exact ⟨hs₃.extBut _ _ hDC (hk₂ _ _ (by simpa using Ne.symm hID) hD'), Ne.symm hLs.2.1, none0 _ (.inr (.inl rfl))⟩
      · exact ⟨st₃ _ _ (N p hp).1, (N p hp).2⟩
  exact compStart_set (loop _ ⟨_, rfl⟩) (W.self 0 _ _ _ hst₁ (loop _ ⟨_, rfl⟩))

theorem assign_one_set {y : Str} {py : Pos} {k : Nat} {pos : Pos} {D : Addr} {Q : Unit → Shared → Prop} (hh : A.handled = none) (F : Fr h₀ L s.heap m) (N : News h₀ L s.heap news) (hm : (D, oneO (ledOf w)) ∈ news)
    (hL : env.locals = L) (hy : env.kindOf y = some .local) (hp : (env.scope.kind == .class || (env.scope.kind == .module && env.locals != env.globals)) = false)
    (h : ∀ h' tk, Fr h₀ L h' (fun z => if z = y then some (.bool true) else m z) → News h₀ L h' news → Q () { s with heap := h', toks := tk }) :
    wpAny (model prog w) A (assign (.Tuple [.Name y py] k pos) env (.ref D)) Q E s := by
  subst hL
  rw [arm_assign_Tuple]
  refine wpAny_bind (wpAny_standAt ?_)
  show wpAny _ _ (unpack (.ref D) [(false, assign (.Name y py) env)]) _ _ _
  refine unpack_set hh (N _ hm).1 fun h' st => ?_
  have F' := F.keeps st
  refine wpAny_assign_Name (wpAny_storeName_local hy F'.ns (fun h₂ hn₂ hs₂ => ?_) hp)
  have hL₀ : h₀.get? env.locals = none := Heap.get?_none_of_le F'.above
  refine h h₂ _ ⟨hn₂, fun b o e => hs₂.extBut b o (fun q => by rw [q, hL₀] at e; cases e) (F'.keep b o e), F'.above⟩ fun p hp => ⟨hs₂.extBut _ _ (N p hp).2.1 (st _ _ (N p hp).1), (N p hp).2⟩
end
section
variable {prog : Program} {w : World} {A : Around} {E : Value → Shared → Prop} {s : Shared} {h₀ : Heap} {m : Str → Option Value} {news : List (Addr × Obj)} {env : Env}
noncomputable def EnumNext (h₀ : Heap) (L : Addr) (s₁ : Shared) (own : List (Addr × Obj)) (J : (Str → Option Value) → Prop) (s₃ : Shared) : Prop :=
  ∃ h₃ tk₃ m₃, s₃ = { s₁ with heap := h₃, toks := tk₃ } ∧ Fr h₀ L h₃ m₃ ∧ News h₀ L h₃ own ∧ J m₃
inductive EnumI (s : Shared) (h₀ : Heap) (L : Addr) (news : List (Addr × Obj)) (e it l : Addr) (n : Nat) (J : Nat → (Str → Option Value) → Prop) (k : Nat) (s' : Shared) : Prop
  | mk (h' : Heap) (tk : Nat) (m' : Str → Option Value) (i : Nat) (old : Value) (e' : s' = { s with heap := h', toks := tk }) (he : IsEnum h' e it ((i : Nat) : Int) old) (hit : h'.IsListIter it l i) (F : Fr h₀ L h' m') (N : News h₀ L h' news) (hJ : J i m') (hi : i ≤ n) (hk : k = n + 1 - i) : EnumI s h₀ L news e it l n J k s'
theorem loop_enum {R : Result → Shared → Prop} {xi xv : Str} {pi pv pt : Pos} {x1} {body : List Stmt} {e it l : Addr} {vs : List Value} {n : Nat}
    (hh : A.handled = none) (hxi : env.kindOf xi = some .local) (hxv : env.kindOf xv = some .local)
    (hp : (env.scope.kind == .class || (env.scope.kind == .module && env.locals != env.globals)) = false)
    (hei : e ≠ it) (heL : e ≠ env.locals) (hiL : it ≠ env.locals) (he0 : h₀.get? e = none) (hi0 : h₀.get? it = none) (hoff : ∀ p ∈ news, p.1 ≠ e ∧ p.1 ≠ it)
    (he : IsEnum s.heap e it 0 .none) (hit : s.heap.IsListIter it l 0) (hlm : (l, W.listOf vs.toArray n) ∈ news) (F : Fr h₀ env.locals s.heap m) (N : News h₀ env.locals s.heap news)
    (J : Nat → (Str → Option Value) → Prop) (h0 : J 0 m)
    (step : ∀ i v tk m₁ oe oi s₁, vs[i]? = some v → J i m₁ → Fr h₀ env.locals s₁.heap (fun y => if y = xv then some v else if y = xi then some (.int i tk) else m₁ y) → News h₀ env.locals s₁.heap ((e, oe) :: (it, oi) :: news) → (∃ h tk, s₁ = { s with heap := h, toks := tk }) →
      wpAny (model prog w) A (execs body env) (fun f s₂ => match f with
        | .next | .cont => EnumNext h₀ env.locals s₁ ((e, oe) :: (it, oi) :: news) (J (i + 1)) s₂
        | .brk => R (.ok .next) s₂
        | .ret v => R (.ok (.ret v)) s₂) (notedBy (model prog w) A env fun e s' => R (.error e) s') s₁)
    (hR : ∀ h' tk m', Fr h₀ env.locals h' m' → News h₀ env.locals h' news → J vs.length m' → R (.ok .next) { s with heap := h', toks := tk }) :
    codeAny (model prog w) A (.forLoop (.Tuple [.Name xi pi, .Name xv pv] x1 pt) (.ref e) body [] env) R s := by
  have hle : l ≠ e := (hoff _ hlm).1
  have hli : l ≠ it := (hoff _ hlm).2
  have hlist : ∀ h, News h₀ env.locals h news → h.IsList l vs.toArray := fun h N => ⟨_, (N _ hlm).1, rfl, n, rfl⟩
  have hL₀ : h₀.get? env.locals = none := Heap.get?_none_of_le F.above
  refine codeAny_forLoop_any
    (EnumI s h₀ env.locals news e it l vs.length J) ?_ (vs.length + 1)
    ⟨s.heap, s.toks, m, 0, .none, rfl, he, hit, F, N, h0, Nat.zero_le _, rfl⟩
  rintro k s' ⟨H, tk, m', i, old, rfl, he', hit', F', N', hJ, hi, rfl⟩
  have hl' := hlist H N'
  have ne0 : ∀ b o, h₀.get? b = some o → b ≠ e ∧ b ≠ it ∧ b ≠ env.locals := fun b o x => ⟨(by rintro rfl; rw [he0] at x; cases x), (by rintro rfl; rw [hi0] at x; cases x), (by rintro rfl; rw [hL₀] at x; cases x)⟩
  cases hv : vs[i]? with
  | none =>
    have hsz : i = vs.length := Nat.le_antisymm hi (by simpa using hv)
    refine wpAny_pyNext_enum_end hh he' hit' hl' (by simpa using hv) fun h₁ he₁ => wpAny_execs_nil ?_
    refine hR h₁ tk m' ⟨F'.ns.at' fun o x => he₁ _ o (Ne.symm hiL) x, fun b o x => he₁ b o (ne0 b o x).2.1 (F'.keep b o x), F'.above⟩ (fun p hp => ⟨he₁ _ _ (hoff p hp).2 (N' p hp).1, (N' p hp).2⟩) (hsz ▸ hJ)
  | some v =>
    have hlt : i < vs.length := (List.getElem?_eq_some_iff.mp hv).1
    have heH : e < H.objs.size := Heap.lt_size he'
    have hLH : env.locals < H.objs.size := F'.ns.lt
    obtain ⟨oi, hoi, _⟩ := id hit'
    have hiH : it < H.objs.size := Heap.lt_size hoi
    refine wpAny_pyNext_enum_item he' hit' hl' (by simpa using hv) hei fun h₁ heo hit₁ ht₁ hz₁ hk₁ => ?_
    refine wpAny_letOwnedTupleGo_enum heo fun h₂ he₂ hs₂ => ?_
    replace hs₂ : Heap.SameBut e h₁ h₂ := hs₂
    have ht₂ : h₂.IsTuple H.objs.size #[.int i tk, v] := ⟨_, (hs₂.2 _ (Nat.ne_of_gt heH)).trans ht₁, rfl, _, rfl⟩
    have hz₂ : h₂.objs.size = H.objs.size + 1 := hs₂.1.trans hz₁
    refine wpAny_assign_Tuple hh ht₂ rfl rfl fun h₃ hx₃ => ?_
    replace hx₃ : Heap.ExtBut h₂.objs.size h₂ h₃ := hx₃
    have old₃ : ∀ b o, b < H.objs.size → h₂.get? b = some o → h₃.get? b = some o := fun b o hb x => hx₃ b o (by rw [hz₂]; exact Nat.ne_of_lt (Nat.lt_succ_of_lt hb)) x
    have hn₃ : h₃.Ns env.locals m' := (F'.ns.at fun o x => hk₁ _ o (Ne.symm heL) (Ne.symm hiL) x).sameBut hs₂ (Ne.symm heL) |>.at fun o x => old₃ _ o hLH x
    show wpAny _ A (do holding [v] (assign (.Name xi pi) env (.int i tk)); do holding [] (assign (.Name xv pv) env v); pure ()) _ _ _
    refine wpAny_bind (wpAny_holding (wpAny_assign_Name (wpAny_storeName_local hxi hn₃ (fun h₄ hn₄ hs₄ => ?_) hp)))
    replace hs₄ : Heap.SameBut env.locals h₃ h₄ := hs₄
    refine wpAny_bind (wpAny_holding (wpAny_assign_Name (wpAny_storeName_local hxv hn₄ (fun h₅ hn₅ hs₅ => wpAny_pure ?_) hp)))
    replace hs₅ : Heap.SameBut env.locals h₄ h₅ := hs₅
    have up2 : ∀ b o, b ≠ env.locals → b < H.objs.size → h₂.get? b = some o → h₅.get? b = some o := fun b o hbL hb x => hs₅.extBut b o hbL (hs₄.extBut b o hbL (old₃ b o hb x))
    have upH : ∀ b o, b ≠ env.locals → b ≠ e → b ≠ it → H.get? b = some o → h₅.get? b = some o := fun b o hbL hbe hbi x => up2 b o hbL (Heap.lt_size x) (hs₂.extBut b o hbe (hk₁ b o hbe hbi x))
    have F₅ : Fr h₀ env.locals h₅ (fun y => if y = xv then some v else if y = xi then some (.int i tk) else m' y) := ⟨hn₅, fun b o x => upH b o (ne0 b o x).2.2 (ne0 b o x).1 (ne0 b o x).2.1 (F'.keep b o x), F'.above⟩
    have he₅ := up2 e _ heL heH he₂
    have hit₂ := hit₁.extBut hs₂.extBut (Ne.symm hei)
    obtain ⟨oi2, hoi2, hri2⟩ := hit₂
    have hi₅ := up2 it _ hiL hiH hoi2
    have N₅ : News h₀ env.locals h₅ ((e, _) :: (it, oi2) :: news) := fun p hp => by
      rcases List.mem_cons.mp hp with rfl | hp
      · exact ⟨he₅, heL, he0⟩
      · rcases List.mem_cons.mp hp with rfl | hp
        · exact ⟨hi₅, hiL, hi0⟩
        · exact ⟨upH _ _ (N' p hp).2.1 (hoff p hp).1 (hoff p hp).2 (N' p hp).1, (N' p hp).2⟩
    refine wpAny_mono (step i v tk m' _ oi2 _ hv hJ F₅ N₅ ⟨_, _, rfl⟩) (fun f s₃ h₆ => ?_) fun _ _ x => x
    have again : ∀ (h₆ : Heap) (tk₆ : Nat) (m₆ : Str → Option Value) (oe : Obj), oe = ({ cls := .type "enumerate", data := .fields #[.none, .bool false, .ref it, rawInt ((i : Int) + 1), .none, v] } : Obj) → Fr h₀ env.locals h₆ m₆ → News h₀ env.locals h₆ ((e, oe) :: (it, oi2) :: news) → J (i + 1) m₆ →
        ∃ mm, mm < vs.length + 1 - i ∧ EnumI s h₀ env.locals news e it l vs.length J mm { s with heap := h₆, toks := tk₆ } := fun h₆ tk₆ m₆ oe eo F₆ N₆ hJ₆ => by
      subst eo
      refine ⟨vs.length + 1 - (i + 1), by lia, h₆, tk₆, m₆, i + 1, v, rfl, ?_, ⟨oi2, (N₆ (it, oi2) (List.mem_cons_of_mem _ List.mem_cons_self)).1, hri2⟩, F₆, fun p hp => N₆ p (List.mem_cons_of_mem _ (List.mem_cons_of_mem _ hp)), hJ₆, hlt, rfl⟩
      have : ((i + 1 : Nat) : Int) = (i : Int) + 1 := by push_cast; rfl
      rw [this]; exact (N₆ (e, _) List.mem_cons_self).1
    cases f with
    | next => obtain ⟨h₆, tk₆, m₆, rfl, F₆, N₆, hJ₆⟩ := h₆; exact again h₆ tk₆ m₆ _ rfl F₆ N₆ hJ₆
    | cont => obtain ⟨h₆, tk₆, m₆, rfl, F₆, N₆, hJ₆⟩ := h₆; exact again h₆ tk₆ m₆ _ rfl F₆ N₆ hJ₆
    | brk => exact h₆
    | ret v => exact h₆
theorem enum_loop {R : Result → Shared → Prop} {E' : Value → Shared → Prop} {xi xv : Str} {pi pv pt : Pos} {x1} {body : List Stmt} {l : Addr} {vs : List Value} {n : Nat}
    (F : Fr h₀ env.locals s.heap m) (N : News h₀ env.locals s.heap news) (hlm : (l, W.listOf vs.toArray n) ∈ news)
    (hh : A.handled = none) (hxi : env.kindOf xi = some .local) (hxv : env.kindOf xv = some .local)
    (hp : (env.scope.kind == .class || (env.scope.kind == .module && env.locals != env.globals)) = false)
    (J : Nat → (Str → Option Value) → Prop) (h0 : J 0 m)
    (step : ∀ e it i v tk m₁ oe oi h₁ tk₁, vs[i]? = some v → J i m₁ → Fr h₀ env.locals h₁ (fun y => if y = xv then some v else if y = xi then some (.int i tk) else m₁ y) → News h₀ env.locals h₁ ((e, oe) :: (it, oi) :: news) → (∀ p ∈ news, p.1 < it) → it < e →
      wpAny (model prog w) A (execs body env) (fun f s₂ => match f with
        | .next | .cont => EnumNext h₀ env.locals { s with heap := h₁, toks := tk₁ } ((e, oe) :: (it, oi) :: news) (J (i + 1)) s₂
        | .brk => R (.ok .next) s₂
        | .ret v => R (.ok (.ret v)) s₂) (notedBy (model prog w) A env fun e s' => R (.error e) s') { s with heap := h₁, toks := tk₁ })
    (hR : ∀ h' tk m', Fr h₀ env.locals h' m' → News h₀ env.locals h' news → J vs.length m' → R (.ok .next) { s with heap := h', toks := tk }) :
    wpAny (model prog w) A (call (.type "enumerate") [.ref l]) (fun x s₁ => wpAny (model prog w) A (pyIter x) (fun it s₂ => codeAny (model prog w) A (.forLoop (.Tuple [.Name xi pi, .Name xv pv] x1 pt) it body [] env) R s₂) E' s₁) E s := by
  refine call_enumerate_1 (n := n) (items := vs.toArray) (N _ hlm).1 fun h' he hit hsz hk => ?_
  refine wpAny_pyIter_enum he ?_
  have hLlt : env.locals < s.heap.objs.size := F.ns.lt
  have hg : ∀ a, s.heap.objs.size ≤ a → h₀.get? a = none := fun a ha => none_of_stays F.keep (Heap.get?_none_of_le ha)
  have hlt : ∀ p ∈ news, p.1 < s.heap.objs.size := fun p hp => Heap.lt_size (N p hp).1
  refine loop_enum (s := { s with heap := h' }) (news := news) (n := n) (vs := vs) (l := l) hh hxi hxv hp (Nat.ne_of_gt (Nat.lt_succ_self _)) (Nat.ne_of_gt (Nat.lt_succ_of_lt hLlt)) (Nat.ne_of_gt hLlt) (hg _ (Nat.le_succ _)) (hg _ (Nat.le_refl _))
    (fun p hp => ⟨Nat.ne_of_lt (Nat.lt_succ_of_lt (hlt p hp)), Nat.ne_of_lt (hlt p hp)⟩) he hit hlm (F.keeps hk) (fun p hp => ⟨hk _ _ (N p hp).1, (N p hp).2⟩) J h0 (fun i v tk m₁ oe oi s₁ hv hJ F₁ N₁ hs₁ => ?_) (fun h₂ tk m₂ F₂ N₂ hJ => hR h₂ tk m₂ F₂ N₂ hJ)
  obtain ⟨h₁, tk₁, rfl⟩ := hs₁
  exact step _ _ i v tk m₁ oe oi h₁ tk₁ hv hJ F₁ N₁ hlt (Nat.lt_succ_self _)
theorem enum_loop_same {R : Result → Shared → Prop} {E' : Value → Shared → Prop} {xi xv : Str} {pi pv pt : Pos} {x1} {body : List Stmt} {l : Addr} {vs : List Value} {n : Nat}
    (F : Fr h₀ env.locals s.heap m) (N : News h₀ env.locals s.heap news) (hlm : (l, W.listOf vs.toArray n) ∈ news)
    (hh : A.handled = none) (hxi : env.kindOf xi = some .local) (hxv : env.kindOf xv = some .local)
    (hp : (env.scope.kind == .class || (env.scope.kind == .module && env.locals != env.globals)) = false)
    (P : Nat → Prop) (h0 : P 0)
    (step : ∀ e it i v tk oe oi h₁ tk₁, vs[i]? = some v → P i → Fr h₀ env.locals h₁ (fun y => if y = xv then some v else if y = xi then some (.int i tk) else m y) → News h₀ env.locals h₁ ((e, oe) :: (it, oi) :: news) → (∀ p ∈ news, p.1 < it) → it < e →
      wpAny (model prog w) A (execs body env) (fun f s₂ => match f with
        | .next | .cont => EnumNext h₀ env.locals { s with heap := h₁, toks := tk₁ } ((e, oe) :: (it, oi) :: news) (fun m₁ => (∀ z, z ≠ xi → z ≠ xv → m₁ z = m z) ∧ P (i + 1)) s₂
        | .brk => R (.ok .next) s₂
        | .ret v => R (.ok (.ret v)) s₂) (notedBy (model prog w) A env fun e s' => R (.error e) s') { s with heap := h₁, toks := tk₁ })
    (hR : ∀ h' tk m', Fr h₀ env.locals h' m' → News h₀ env.locals h' news → (∀ z, z ≠ xi → z ≠ xv → m' z = m z) → P vs.length → R (.ok .next) { s with heap := h', toks := tk }) :
    wpAny (model prog w) A (call (.type "enumerate") [.ref l]) (fun x s₁ => wpAny (model prog w) A (pyIter x) (fun it s₂ => codeAny (model prog w) A (.forLoop (.Tuple [.Name xi pi, .Name xv pv] x1 pt) it body [] env) R s₂) E' s₁) E s := by
  refine enum_loop F N hlm hh hxi hxv hp (fun i m₁ => (∀ z, z ≠ xi → z ≠ xv → m₁ z = m z) ∧ P i) ⟨fun _ _ _ => rfl, h0⟩ (fun e it i v tk m₁ oe oi h₁ tk₁ hv hJ F₁ N₁ l1 l2 => ?_) (fun h' tk m' F' N' hJ => hR h' tk m' F' N' hJ.1 hJ.2)
  refine step e it i v tk oe oi h₁ tk₁ hv hJ.2 (fr_eq F₁ fun y => ?_) N₁ l1 l2
  by_cases e1 : y = xv
  · simp [e1]
  · by_cases e2 : y = xi
    · simp [e2]
    · simp [e1, e2, hJ.1 y e2 e1]
end
theorem kw_r_enum_1 : True := by
  (k_with "no for" => (repeat' ((fail_if_success (with_reducible show wpAny _ _ (exec (Stmt.For _ _ _ _ _) _) _ _ _)); (first | (k_unfold; (try dsimp only)) | (k_end; wrow_close) | walk1 | (dsimp only; walk1) | (leave1; walk_say "STEP leave1"; try dsimp only) | fail "no step"))))
  trivial
theorem kw_c_line_0 : True := by
  k_with_none
  (k_with "k_room" => (ktr_room))
  (k_with "con sub" => (first | exact List.forall_mem_nil _ | k_extra "sub" | (simp only [List.forall_mem_cons]; refine ⟨?_, ?_⟩ <;> first | exact List.forall_mem_nil _ | k_mem | k_extra "con sub") | k_sub))
  (k_with "con enter" => ((refine wpAny_call ?_; (refine' code_defG (by assumption) (by assumption) (by assumption) (by assumption) (by assumption) (by exact rfl) (by exact rfl) (by exact rfl) (by k_is) (by k_is) (by k_room) (by first | exact BindsTo.of_eq rfl | exact binds_K (by k_in) rfl (by k_is) rfl rfl rfl | fail "k_enter: no rule for these arguments") (by exact locs rfl) ?_ (by exact rfl) (by exact rfl) (by exact rfl) (by decide); k_whole))))
  (k_with "con start" => ((dsimp only [Con, fnSc]; intros; rename_i hret)))
  (k_with "LeaveK" => ((k_dflt (refine' leave_con (by with_reducible assumption) (by assumption) (by k_asm) (by k_asm) (by k_extra "con sub") ?_; k_whole); intro _; (try dsimp only))))
  (k_with "con enterC" => ((refine wpAny_call ?_; (refine' enter_cells (by assumption) (by assumption) (by assumption) (by assumption) (by assumption) (by exact rfl) (by exact rfl) (by exact rfl) (by k_is) (by k_is) (by k_room) (by exact BindsTo.of_eq rfl) (by exact rfl) (by decide +kernel) ?_ (by exact rfl) (by exact rfl) (by exact rfl); k_whole))))
  (k_with "con enterR" => ((refine wpAny_call ?_; (refine' enter_rest (by assumption) (by assumption) (by assumption) (by assumption) (by assumption) (by exact rfl) (by exact rfl) (by exact rfl) (by k_is) (by k_is) (by k_room) (by exact rfl) (by exact fun _ => locs rfl) ?_ (by exact rfl) (by exact rfl) (by exact rfl) (by decide); k_whole))))
  (k_with "callWith" => ((k_here; (with_reducible show wpAny _ _ (callWith _ (Value.builtin _) (_ :: _) (backTo _ (starEach (_ :: _) _)) []) _ _ _); (with_reducible refine' callWith_method1 ?_ (by k_dflt (exact rfl)) (by k_dflt (exact rfl))))))
  (k_with "mem at" => (with_reducible (first | exact List.mem_cons_self | exact List.Mem.head _ | (refine List.mem_cons_of_mem _ ?_; k_extra "mem at") | (refine List.mem_append_left _ ?_; k_extra "mem at") | (refine List.mem_append_right _ ?_; k_extra "mem at"))))
  (k_with "mem in" => (with_reducible (first | assumption | (refine List.mem_cons_of_mem _ ?_; k_extra "mem in") | (refine List.mem_append_right _ ?_; k_extra "mem in") | (refine List.mem_append_left _ ?_; k_extra "mem in"))))
  (k_with "sub" => (with_reducible (first | exact sub_nil | exact sub_refl | (refine sub_cons ?_ ?_; (focus k_extra "mem at"); k_extra "sub") | (refine subs_app ?_ ?_; (focus k_extra "sub"); k_extra "sub") | (intro _ _; k_extra "mem in"))))
  (k_with "call builtin:issubclass" => ((k_here; (with_reducible show wpAny _ _ (call (Value.builtin "issubclass") [Value.type "str", Value.ref _]) _ _ _); refine' isc_call (by k_asm) (by k_mem) ?_; k_whole)))
  (k_with "call ref" => ((k_here; (with_reducible show wpAny _ _ (call (Value.ref 94) [Value.str _ _]) _ _ _); k_dflt (refine' con_use c_fspath (by k_asm) (by k_asm) (by k_asm) (by k_asm) (by k_asm) (by k_extra "con sub") (by ktr_room) (by ktr_units) ?_; k_whole); intro _ _ _ _ _ _ hv9w9; subst hv9w9; (try dsimp only); (try k_fold))))
  (k_with "str len" => (first | assumption | lia | ((simp only [Str.length_append, PySem.ofString_length] at *); lia)))
  (k_with "call ref" => ((k_here; (with_reducible show wpAny _ _ (call (Value.ref 115) [Value.str _ _, Value.str _ _]) _ _ _); k_dflt (refine' con_use (c_join (by k_extra "str len") (by k_extra "str len")) (by k_asm) (by k_asm) (by k_asm) (by k_asm) (by k_asm) (by k_extra "con sub") (by ktr_room) (by ktr_units) ?_; k_whole); intro _ _ _ _ _ _ hv9w9; obtain ⟨t9, hv9w9⟩ := hv9w9; subst hv9w9; (try dsimp only); (try k_fold))))
  (k_with "call ref" => ((k_here; (with_reducible show wpAny _ _ (call (Value.ref 122) [Value.str _ _]) _ _ _); k_dflt (refine' con_use (c_basename (by k_extra "str len")) (by k_asm) (by k_asm) (by k_asm) (by k_asm) (by k_asm) (by k_extra "con sub") (by ktr_room) (by ktr_units) ?_; k_whole); intro _ _ _ _ _ _ hv9w9; obtain ⟨t9, hv9w9⟩ := hv9w9; subst hv9w9; (try dsimp only); (try k_fold))))
  (k_with "call ref" => ((k_here; (with_reducible show wpAny _ _ (call (Value.ref 129) [Value.str _ _]) _ _ _); k_dflt (refine' con_use (c_dirname (by k_extra "str len")) (by k_asm) (by k_asm) (by k_asm) (by k_asm) (by k_asm) (by k_extra "con sub") (by ktr_room) (by ktr_units) ?_; k_whole); intro _ _ _ _ _ _ hv9w9; obtain ⟨t9, hv9w9⟩ := hv9w9; subst hv9w9; (try dsimp only); (try k_fold))))
  (k_with "binaryOp Add str str" => ((k_here; (with_reducible show wpAny _ _ (binaryOp Operator.Add (Value.str (Txt.slice _ _ _) _) (Value.str (Str.mk _) _)) _ _ _); refine PyProof.Rows.add_str ?_ (name_fits _ _); intro _ _)))
  (k_with "no while" => (repeat' ((fail_if_success (with_reducible show wpAny _ _ (exec (Stmt.While _ _ _ _) _) _ _ _)); (first | (k_unfold; (try dsimp only)) | (k_end; wrow_close) | walk1 | (dsimp only; walk1) | (leave1; walk_say "STEP leave1"; try dsimp only) | fail "no step"))))
  (k_with "size small" => (first | size_fits | ((simp only [List.length_cons, List.length_nil, List.length_append, sizeLine_eq] at *); lia)))
  (k_with "binaryOp Add ref ref" => ((k_here; (with_reducible show wpAny _ _ (binaryOp _ (Value.ref _) (Value.ref _)) _ _ _); k_dflt (refine' add_lst (by k_asm) (by k_asm) (by k_mem) (by k_mem) ?_ (by k_extra "size small")); intro _ _ _ _ l1w9; (try k_lt l1w9); (try k_sweep))))
  trivial
section
variable {w : World} {loose : List Str} {mean : ExcName → Option Value} {mg mb : Str → Option Value}
noncomputable def lineFrom : List Str → List Str → List Str
  | _, [] => []
  | ds, e :: es => pth (ds ++ [e]) :: lineFrom (ds ++ [e]) es
theorem lineFrom_length : ∀ es ds, (lineFrom ds es).length = es.length
  | [], _ => rfl
  | _ :: es, ds => by show (lineFrom _ es).length + 1 = es.length + 1; rw [lineFrom_length es]
noncomputable def lineOf (cs : List Str) : List Str := lineFrom [] cs
theorem pthR_len_le {cs : List Str} {B : Nat} (h : (pthR cs).length ≤ B) : ∀ ds es, cs = ds ++ es → (pthR ds).length ≤ B := by
  intro ds es e
  subst e
  by_cases hd : ds = []
  · subst hd
    unfold pthR at h ⊢
    by_cases he : es = []
    · subst he; exact h
    · rw [if_neg (by simpa using he)] at h
      obtain ⟨c, r, rfl⟩ := List.exists_cons_of_ne_nil he
      rw [if_pos rfl]
      have : (pth ([] ++ c :: r)).length = (Str.ofString "/").length + c.length + (pth r).length := by
        show (Str.ofString "/" ++ c ++ pth r).length = _
        rw [Str.length_append, Str.length_append]
      lia
  · have hne : ds ++ es ≠ [] := by simp [hd]
    unfold pthR at h ⊢
    rw [if_neg hne] at h
    rw [if_neg hd]
    have : ∀ as bs : List Str, (pth (as ++ bs)).length = (pth as).length + (pth bs).length := by
      intro as bs
      induction as with
      | nil => show (pth bs).length = Str.empty.length + _; simp [Str.empty, Str.length]
      | cons a r ih => show (Str.ofString "/" ++ a ++ pth (r ++ bs)).length = (Str.ofString "/" ++ a ++ pth r).length + _; simp only [Str.length_append, ih]; lia
    rw [this] at h
    lia
theorem pthR_ne {ds : List Str} {d : Str} (hd : Nm d) : pthR (ds ++ [d]) ≠ Str.ofString "/" := by
  intro e
  have h1 : (pthR (ds ++ [d])).length = (pth ds).length + ((Str.ofString "/").length + d.length) := by rw [pthR_snoc, Str.length_append, Str.length_append]
  obtain ⟨A, z, ez, _⟩ := hd.shape
  have h2 : d.length = A.length + 1 := by rw [len_list, ez]; simp
  rw [e] at h1; lia
inductive LineI (cs : List Str) (g : Heap) (L : Addr) (s : Shared) (n : Nat) (s₁ : Shared) : Prop
  | mk (ds es : List Str) (h : Heap) (tk : Nat) (t : Tok) (l : Addr) (vs : List Value) (k : Nat) (e : s₁ = { s with heap := h, toks := tk }) (hc : cs = ds ++ es) (hn : n = ds.length)
    (F : Fr g L h (fun y => if y = Str.ofString "path" then some (Value.str (pthR ds) t) else if y = Str.ofString "line" then some (Value.ref l) else none)) (N : News g L h [(l, W.listOf vs.toArray k)]) (hT : TxtOf vs (lineFrom ds es)) : LineI cs g L s n s₁
set_option maxRecDepth 100000 in
set_option maxHeartbeats 8000000 in
theorem c_line {cs : List Str} {t : Tok} (hn : ∀ c ∈ cs, Nm c) (hl : cs.length ≤ 100) (hx : (pthR cs).length ≤ 4096) : Con w loose mean mg mb 3 216 [] [.str (pthR cs) t] (fun H h' v => ∃ l vs n, v = .ref l ∧ H.get? l = none ∧ h'.get? l = some (W.listOf vs.toArray n) ∧ TxtOf vs (lineOf cs)) := by
  dsimp only [Con, fnSc]
  intro dp un gd cn ns ig ic mr a ccd cl outer A₀ base h₀ L m s Q E B0 F0 X0 N0 T0 hd0 hu0 hret
  walk_at "con enter"
  intro g L' h1 FG F1 N1 B1 X1 T1 kG; (try dsimp only); (try k_lift B1); (try k_fold)
  walk_at "no while"
  rename Fr g L' _ _ => F2
  rename News g L' _ _ => N2
  refine while_rule (LineI cs g L' s) cs.length ⟨cs, [], _, _, t, _, [], 0, rfl, (List.append_nil _).symm, rfl, fr_eq F2 ?_, N2, TxtOf.nil⟩ ?_
  · intro y; by_cases h1 : y = Str.ofString "line"
    · subst h1; rfl
    · by_cases h2 : y = Str.ofString "path"
      · subst h2; rfl
      · simp [h1, h2]
  clear F2 N2
  rintro n s₁ ⟨ds, es, h2, tk2, t2, l2, vs2, k2, rfl, hcs, hnd, F2, N2, hv2⟩
  have hlen : (pthR ds).length ≤ 4096 := pthR_len_le hx ds es hcs
  have hes : es.length ≤ 100 := by have := congrArg List.length hcs; rw [List.length_append] at this; lia
  have hvl : vs2.length ≤ 100 := by rw [hv2.1, lineFrom_length]; exact hes

  (try k_fold)
  k_steps
  · -- a turn
    rename Fr g L' _ _ => F3
    rename News g L' _ _ => N3
    have hne : pthR ds ≠ Str.ofString "/" := by have h : (pthR ds != Str.ofString "/") = true := by assumption
                                                simpa using h
    have hds : ds ≠ [] := fun e => hne (by rw [e]; rfl)
    obtain ⟨ds', d, rfl⟩ : ∃ ds' d, ds = ds' ++ [d] := ⟨ds.dropLast, ds.getLast hds, (List.dropLast_concat_getLast hds).symm⟩
    have hnd' : Nm d := hn d (by rw [hcs]; simp)
    have hnds' : ∀ c ∈ ds', Nm c := fun c hc => hn c (by rw [hcs]; simp [hc])
    rw [dir_pth hnds' hnd'] at F3
    refine ⟨ds'.length, by rw [hnd]; simp, ds', d :: es, _, _, _, _, _, _, rfl, by rw [hcs]; simp, rfl, fr_two F3 rfl rfl (fun z h1 h2 => by simp [h1, h2]), news_sub N3 (by intro p hp; rw [List.mem_singleton] at hp; subst hp; exact List.mem_cons_self ..), ?_⟩
    · have := (TxtOf.cons (x := pthR (ds' ++ [d])) (t := t2) hv2)
      have e : lineFrom ds' (d :: es) = pthR (ds' ++ [d]) :: lineFrom (ds' ++ [d]) es := by rw [pthR_snoc_eq]; rfl
      rw [e]; exact this
  · -- the end
    rename Fr g L' _ _ => F3
    rename News g L' _ _ => N3
    have he : pthR ds = Str.ofString "/" := by have h : (pthR ds != Str.ofString "/") = false := by assumption
                                               simpa using h
    have hds : ds = [] := by
      apply Classical.byContradiction; intro hds
      obtain ⟨ds', d, rfl⟩ : ∃ ds' d, ds = ds' ++ [d] := ⟨ds.dropLast, ds.getLast hds, (List.dropLast_concat_getLast hds).symm⟩
      exact pthR_ne (hn d (by rw [hcs]; simp)) he
    subst hds
    rw [List.nil_append] at hcs
    subst hcs
    refine hret _ _ _ (by assumption) ⟨l2, vs2, k2, rfl, ?_, (N3 _ (by first | exact List.mem_cons_self .. | k_mem)).1, hv2⟩
    exact fresh_of kG N3 (o := W.listOf vs2.toArray k2) (by first | exact List.mem_cons_self .. | k_mem) (by simp)
end
theorem kw_c_common_0 : True := by
  k_with_none
  (k_with "k_room" => (ktr_room))
  (k_with "con sub" => (first | exact List.forall_mem_nil _ | k_extra "sub" | (simp only [List.forall_mem_cons]; refine ⟨?_, ?_⟩ <;> first | exact List.forall_mem_nil _ | k_mem | k_extra "con sub") | k_sub))
  (k_with "con enter" => ((refine wpAny_call ?_; (refine' code_defG (by assumption) (by assumption) (by assumption) (by assumption) (by assumption) (by exact rfl) (by exact rfl) (by exact rfl) (by k_is) (by k_is) (by k_room) (by first | exact BindsTo.of_eq rfl | exact binds_K (by k_in) rfl (by k_is) rfl rfl rfl | fail "k_enter: no rule for these arguments") (by exact locs rfl) ?_ (by exact rfl) (by exact rfl) (by exact rfl) (by decide); k_whole))))
  (k_with "con start" => ((dsimp only [Con, fnSc]; intros; rename_i hret)))
  (k_with "LeaveK" => ((k_dflt (refine' leave_con (by with_reducible assumption) (by assumption) (by k_asm) (by k_asm) (by k_extra "con sub") ?_; k_whole); intro _; (try dsimp only))))
  (k_with "con enterC" => ((refine wpAny_call ?_; (refine' enter_cells (by assumption) (by assumption) (by assumption) (by assumption) (by assumption) (by exact rfl) (by exact rfl) (by exact rfl) (by k_is) (by k_is) (by k_room) (by exact BindsTo.of_eq rfl) (by exact rfl) (by decide +kernel) ?_ (by exact rfl) (by exact rfl) (by exact rfl); k_whole))))
  (k_with "con enterR" => ((refine wpAny_call ?_; (refine' enter_rest (by assumption) (by assumption) (by assumption) (by assumption) (by assumption) (by exact rfl) (by exact rfl) (by exact rfl) (by k_is) (by k_is) (by k_room) (by exact rfl) (by exact fun _ => locs rfl) ?_ (by exact rfl) (by exact rfl) (by exact rfl) (by decide); k_whole))))
  (k_with "callWith" => ((k_here; (with_reducible show wpAny _ _ (callWith _ (Value.builtin _) (_ :: _) (backTo _ (starEach (_ :: _) _)) []) _ _ _); (with_reducible refine' callWith_method1 ?_ (by k_dflt (exact rfl)) (by k_dflt (exact rfl))))))
  (k_with "mem at" => (with_reducible (first | exact List.mem_cons_self | exact List.Mem.head _ | (refine List.mem_cons_of_mem _ ?_; k_extra "mem at") | (refine List.mem_append_left _ ?_; k_extra "mem at") | (refine List.mem_append_right _ ?_; k_extra "mem at"))))
  (k_with "mem in" => (with_reducible (first | assumption | (refine List.mem_cons_of_mem _ ?_; k_extra "mem in") | (refine List.mem_append_right _ ?_; k_extra "mem in") | (refine List.mem_append_left _ ?_; k_extra "mem in"))))
  (k_with "sub" => (with_reducible (first | exact sub_nil | exact sub_refl | (refine sub_cons ?_ ?_; (focus k_extra "mem at"); k_extra "sub") | (refine subs_app ?_ ?_; (focus k_extra "sub"); k_extra "sub") | (intro _ _; k_extra "mem in"))))
  (k_with "call builtin:issubclass" => ((k_here; (with_reducible show wpAny _ _ (call (Value.builtin "issubclass") [Value.type "str", Value.ref _]) _ _ _); refine' isc_call (by k_asm) (by k_mem) ?_; k_whole)))
  (k_with "call ref" => ((k_here; (with_reducible show wpAny _ _ (call (Value.ref 94) [Value.str _ _]) _ _ _); k_dflt (refine' con_use c_fspath (by k_asm) (by k_asm) (by k_asm) (by k_asm) (by k_asm) (by k_extra "con sub") (by ktr_room) (by ktr_units) ?_; k_whole); intro _ _ _ _ _ _ hv9w9; subst hv9w9; (try dsimp only); (try k_fold))))
  (k_with "CompEnd" => ((refine compEnd_lt (by assumption) ?_; intro l9'w9; k_lt l9'w9; lcg_end)))
  (k_with "FinE" => (((unfold LCg.FinE); intro _ _ _ _ N'w9 _; (try dsimp only [List.nil_append, List.cons_append] at N'w9); (try dsimp only))))
  (k_with "FinA" => (((unfold LCg.FinA); intro _ _ _ _ N'w9 _; (try dsimp only [List.nil_append, List.cons_append] at N'w9); (try dsimp only))))
  (k_with "lcg_off" => (first | exact True.intro | (with_reducible assumption) | (refine And.intro (by first | exact off3_at _ _ (by assumption) (by k_mem) rfl | exact ⟨by k_ne, by k_ne, by k_ne⟩) ?_; lcg_off) | (refine And.intro (by k_ne) ?_; lcg_off)))
  (k_with "SeqSrc" => ((k_here; k_dflt ((refine SeqSrc.is (by rfl) (by k_asm) (by k_asm) (by k_mem) (by first | exact Or.inl rfl | exact Or.inr rfl) (by first | size_fits | exact Nat.le_of_ble_eq_true rfl) ?_); intro _; lcg_lit))))
  (k_with "CompRest" => ((with_unfolding_all first
  | (refine LCg.CompRest.succ ?_; intro _ _ _ _ _ _ _ _ _ _ hv'w9 _ _ _ _ _ ne'w9; (replace hv'w9 := Option.some.inj hv'w9; (first | subst hv'w9 | dsimp only at hv'w9; subst hv'w9)); (replace ne'w9 : NeP _ _ _ := ne'w9))
  | refine LCg.CompRest.zero ?_)))
  (k_with "and" => ((with_reducible first | exact And.left (by assumption) | exact And.left (And.right (by assumption)) | exact And.left (And.right (And.right (by assumption))) | exact And.left (And.right (And.right (And.right (by assumption)))) | exact And.left (And.right (And.right (And.right (And.right (by assumption))))) | exact And.left (And.right (And.right (And.right (And.right (And.right (by assumption)))))) | exact And.left (And.right (And.right (And.right (And.right (And.right (And.right (by assumption))))))) | exact And.left (And.right (And.right (And.right (And.right (And.right (And.right (And.right (by assumption)))))))) | exact And.left (And.right (And.right (And.right (And.right (And.right (And.right (And.right (And.right (by assumption))))))))) | exact And.left (And.right (And.right (And.right (And.right (And.right (And.right (And.right (And.right (And.right (by assumption)))))))))) | exact And.left (And.right (And.right (And.right (And.right (And.right (And.right (And.right (And.right (And.right (And.right (by assumption))))))))))) | exact And.left (And.right (And.right (And.right (And.right (And.right (And.right (And.right (And.right (And.right (And.right (And.right (by assumption)))))))))))) | exact And.left (And.right (And.right (And.right (And.right (And.right (And.right (And.right (And.right (And.right (And.right (And.right (And.right (by assumption))))))))))))) | exact And.left (And.right (And.right (And.right (And.right (And.right (And.right (And.right (And.right (And.right (And.right (And.right (And.right (And.right (by assumption)))))))))))))) | exact And.left (And.right (And.right (And.right (And.right (And.right (And.right (And.right (And.right (And.right (And.right (And.right (And.right (And.right (And.right (by assumption))))))))))))))) | exact And.left (And.right (And.right (And.right (And.right (And.right (And.right (And.right (And.right (And.right (And.right (And.right (And.right (And.right (And.right (And.right (by assumption)))))))))))))))) | exact And.right (by assumption) | exact And.right (And.right (by assumption)) | exact And.right (And.right (And.right (by assumption))) | exact And.right (And.right (And.right (And.right (by assumption)))) | exact And.right (And.right (And.right (And.right (And.right (by assumption))))) | exact And.right (And.right (And.right (And.right (And.right (And.right (by assumption)))))) | exact And.right (And.right (And.right (And.right (And.right (And.right (And.right (by assumption))))))) | exact And.right (And.right (And.right (And.right (And.right (And.right (And.right (And.right (by assumption)))))))) | exact And.right (And.right (And.right (And.right (And.right (And.right (And.right (And.right (And.right (by assumption))))))))) | exact And.right (And.right (And.right (And.right (And.right (And.right (And.right (And.right (And.right (And.right (by assumption)))))))))) | exact And.right (And.right (And.right (And.right (And.right (And.right (And.right (And.right (And.right (And.right (And.right (by assumption))))))))))))))
  (k_with "and3" => ((with_reducible first | exact And.left (And.left (by assumption)) | exact And.left (And.right (And.left (by assumption))) | exact And.right (And.right (And.left (by assumption))) | exact And.left (And.left (And.right (by assumption))) | exact And.left (And.right (And.left (And.right (by assumption)))) | exact And.right (And.right (And.left (And.right (by assumption)))) | exact And.left (And.left (And.right (And.right (by assumption)))) | exact And.left (And.right (And.left (And.right (And.right (by assumption))))) | exact And.right (And.right (And.left (And.right (And.right (by assumption))))) | exact And.left (And.left (And.right (And.right (And.right (by assumption))))) | exact And.left (And.right (And.left (And.right (And.right (And.right (by assumption)))))) | exact And.right (And.right (And.left (And.right (And.right (And.right (by assumption)))))) | exact And.left (And.left (And.right (And.right (And.right (And.right (by assumption)))))) | exact And.left (And.right (And.left (And.right (And.right (And.right (And.right (by assumption))))))) | exact And.right (And.right (And.left (And.right (And.right (And.right (And.right (by assumption))))))) | exact And.left (And.left (And.right (And.right (And.right (And.right (And.right (by assumption))))))) | exact And.left (And.right (And.left (And.right (And.right (And.right (And.right (And.right (by assumption)))))))) | exact And.right (And.right (And.left (And.right (And.right (And.right (And.right (And.right (by assumption)))))))) | exact And.left (And.left (And.right (And.right (And.right (And.right (And.right (And.right (by assumption)))))))) | exact And.left (And.right (And.left (And.right (And.right (And.right (And.right (And.right (And.right (by assumption))))))))) | exact And.right (And.right (And.left (And.right (And.right (And.right (And.right (And.right (And.right (by assumption))))))))) | exact And.left (And.left (And.right (And.right (And.right (And.right (And.right (And.right (And.right (by assumption))))))))) | exact And.left (And.right (And.left (And.right (And.right (And.right (And.right (And.right (And.right (And.right (by assumption)))))))))) | exact And.right (And.right (And.left (And.right (And.right (And.right (And.right (And.right (And.right (And.right (by assumption)))))))))) | exact And.left (And.left (And.right (And.right (And.right (And.right (And.right (And.right (And.right (And.right (by assumption)))))))))) | exact And.left (And.right (And.left (And.right (And.right (And.right (And.right (And.right (And.right (And.right (And.right (by assumption))))))))))) | exact And.right (And.right (And.left (And.right (And.right (And.right (And.right (And.right (And.right (And.right (And.right (by assumption))))))))))))))
  (k_with "k_ne" => (first | (with_reducible assumption) | (with_reducible exact Ne.symm (by assumption)) | (refine neN ?_; (try dsimp only); first | (with_reducible assumption) | (with_reducible exact Nat.ne_of_lt (by assumption)) | (with_reducible exact Nat.ne_of_gt (by assumption)) | (with_reducible exact Nat.ne_of_lt (by k_extra "and")) | (with_reducible exact Nat.ne_of_gt (by k_extra "and")) | assumption | exact Ne.symm (by assumption) | k_extra "ne off" | (with_reducible exact Ne.symm (by k_extra "and3")) | (with_reducible k_extra "and3") | (with_reducible exact Ne.symm (by k_extra "and")) | (with_reducible k_extra "and") | lia) | assumption | exact Ne.symm (by assumption)))
  (k_with "ne off" => (first | exact off1_at (by assumption) (by k_mem) | exact Ne.symm (off1_at (by assumption) (by k_mem)) | exact neP1 (by assumption) | exact neP2 (by assumption) | exact neP3 (by assumption) | exact Ne.symm (neP1 (by assumption)) | exact Ne.symm (neP2 (by assumption)) | exact Ne.symm (neP3 (by assumption)) | exact off3_at1 (by assumption) (by k_mem) | exact off3_at2 (by assumption) (by k_mem) | exact off3_at3 (by assumption) (by k_mem) | exact Ne.symm (off3_at1 (by assumption) (by k_mem)) | exact Ne.symm (off3_at2 (by assumption) (by k_mem)) | exact Ne.symm (off3_at3 (by assumption) (by k_mem))))
  (k_with "lcg_src" => (k_mem))
  (k_with "comp seq" => ((k_dflt (refine comp_seq (_F₀ := by k_asm) (by rfl) (by decide) (by rfl) (by decide) (by rfl) ?_))))
  (k_with "assign comp seq" => ((k_dflt (refine assign_comp_seq (_F₀ := by k_asm) (by rfl) (by with_unfolding_all rfl) (by rfl) (by decide) (by rfl) (by decide) (by rfl) (by rfl) (by rfl) ?_))))
  (k_with "no comp" => (repeat' ((fail_if_success (with_reducible show wpAny _ _ (exec (Stmt.Assign [Expr.Name _ _] (Expr.ListComp _ _ _ _) _) _) _ _ _)); (fail_if_success (with_reducible show wpAny _ _ (eval (Expr.ListComp _ _ _ _) _) _ _ _)); (first | (k_unfold; (try dsimp only)) | (k_end; wrow_close) | walk1 | (dsimp only; walk1) | (leave1; walk_say "STEP leave1"; try dsimp only) | fail "no step"))))
  (k_with "str len" => (first | assumption | lia | ((simp only [Str.length_append, PySem.ofString_length] at *); lia)))
  (k_with "call ref" => ((k_here; (with_reducible show wpAny _ _ (call (Value.ref 115) [Value.str _ _, Value.str _ _]) _ _ _); k_dflt (refine' con_use (c_join (by k_extra "str len") (by k_extra "str len")) (by k_asm) (by k_asm) (by k_asm) (by k_asm) (by k_asm) (by k_extra "con sub") (by ktr_room) (by ktr_units) ?_; k_whole); intro _ _ _ _ _ _ hv9w9; obtain ⟨t9, hv9w9⟩ := hv9w9; subst hv9w9; (try dsimp only); (try k_fold))))
  (k_with "call ref" => ((k_here; (with_reducible show wpAny _ _ (call (Value.ref 122) [Value.str _ _]) _ _ _); k_dflt (refine' con_use (c_basename (by k_extra "str len")) (by k_asm) (by k_asm) (by k_asm) (by k_asm) (by k_asm) (by k_extra "con sub") (by ktr_room) (by ktr_units) ?_; k_whole); intro _ _ _ _ _ _ hv9w9; obtain ⟨t9, hv9w9⟩ := hv9w9; subst hv9w9; (try dsimp only); (try k_fold))))
  (k_with "call ref" => ((k_here; (with_reducible show wpAny _ _ (call (Value.ref 129) [Value.str _ _]) _ _ _); k_dflt (refine' con_use (c_dirname (by k_extra "str len")) (by k_asm) (by k_asm) (by k_asm) (by k_asm) (by k_asm) (by k_extra "con sub") (by ktr_room) (by ktr_units) ?_; k_whole); intro _ _ _ _ _ _ hv9w9; obtain ⟨t9, hv9w9⟩ := hv9w9; subst hv9w9; (try dsimp only); (try k_fold))))
  (k_with "binaryOp Add str str" => ((k_here; (with_reducible show wpAny _ _ (binaryOp Operator.Add (Value.str (Txt.slice _ _ _) _) (Value.str (Str.mk _) _)) _ _ _); refine PyProof.Rows.add_str ?_ (name_fits _ _); intro _ _)))
  (k_with "no while" => (repeat' ((fail_if_success (with_reducible show wpAny _ _ (exec (Stmt.While _ _ _ _) _) _ _ _)); (first | (k_unfold; (try dsimp only)) | (k_end; wrow_close) | walk1 | (dsimp only; walk1) | (leave1; walk_say "STEP leave1"; try dsimp only) | fail "no step"))))
  (k_with "size small" => (first | size_fits | ((simp only [List.length_cons, List.length_nil, List.length_append, sizeLine_eq] at *); lia)))
  (k_with "binaryOp Add ref ref" => ((k_here; (with_reducible show wpAny _ _ (binaryOp _ (Value.ref _) (Value.ref _)) _ _ _); k_dflt (refine' add_lst (by k_asm) (by k_asm) (by k_mem) (by k_mem) ?_ (by k_extra "size small")); intro _ _ _ _ l1w9; (try k_lt l1w9); (try k_sweep))))
  (k_with "no for" => (repeat' ((fail_if_success (with_reducible show wpAny _ _ (exec (Stmt.For _ _ _ _ _) _) _ _ _)); (first | (k_unfold; (try dsimp only)) | (k_end; wrow_close) | walk1 | (dsimp only; walk1) | (leave1; walk_say "STEP leave1"; try dsimp only) | fail "no step"))))
  trivial
section
noncomputable def keepV : Value → Bool
  | .str c _ => !(c.length == 0) && c != Str.ofString "."
  | _ => false
theorem keep_yes {c : Str} {u : Tok} (h1 : (c.length : Int) ≠ 0) (h2 : (c != Str.ofString ".") = true) : true = keepV (.str c u) := by
  have h3 : (c.length == 0) = false := by simp; lia
  simp only [keepV, h2, h3]; rfl
theorem keep_dot {c : Str} {u : Tok} (h2 : (c != Str.ofString ".") = false) : false = keepV (.str c u) := by simp only [keepV, h2, Bool.and_false]
theorem keep_no {c : Str} {u : Tok} (h1 : (c.length : Int) = 0) : false = keepV (.str c u) := by
  have h3 : (c.length == 0) = true := by simp; lia
  simp only [keepV, h3]; rfl
noncomputable def keepS (c : Str) : Bool := !(c.length == 0) && c != Str.ofString "."
theorem kept_txt {l : List (Str × Tok)} {X : List Str} {ys : List Value} (h : l.map (fun p => p.1) = X) (P : Paired (fun v y => y = v) ((strValues l).filter keepV) ys) : TxtOf ys (X.filter keepS) := by
  have e : ∀ {as bs : List Value}, Paired (fun v y => y = v) as bs → bs = as := fun P => by
    induction P with
    | nil => rfl
    | cons h _ ih => rw [h, ih]
  rw [e P, ← h]
  clear P h
  induction l with
  | nil => exact TxtOf.nil
  | cons q l ih =>
    show TxtOf (List.filter keepV (Value.str q.1 q.2 :: strValues l)) (List.filter keepS (q.1 :: l.map _))
    have hk : keepV (Value.str q.1 q.2) = keepS q.1 := rfl
    cases hb : keepS q.1 with
    | true => rw [List.filter_cons_of_pos (by rw [hk]; exact hb), List.filter_cons_of_pos hb]; exact ih.cons
    | false => rw [List.filter_cons_of_neg (by rw [hk, hb]; exact Bool.false_ne_true), List.filter_cons_of_neg (by rw [hb]; exact Bool.false_ne_true)]; exact ih
theorem str_len {l : List (Str × Tok)} {X : List Str} (h : l.map (fun p => p.1) = X) (hl : X.length ≤ 200) : (strValues l).length ≤ sizeLine := by
  have e : (strValues l).length = X.length := by rw [← h]; simp [strValues]
  rw [e, sizeLine_eq]; lia
variable {w : World} {loose : List Str} {mean : ExcName → Option Value} {mg mb : Str → Option Value}
theorem lmin_len {vs : List Value} {X Y : List Str} (h : TxtOf vs (lmin (X.filter keepS) (Y.filter keepS))) (hX : X.length ≤ 200) (hY : Y.length ≤ 200) : vs.length ≤ sizeLine := by
  rw [h.1, sizeLine_eq]
  have h1 := List.length_filter_le keepS X
  have h2 := List.length_filter_le keepS Y
  unfold lmin; split <;> lia
theorem lmax_len {vs : List Value} {X Y : List Str} (h : TxtOf vs (lmax (X.filter keepS) (Y.filter keepS))) (hX : X.length ≤ 200) (hY : Y.length ≤ 200) : vs.length ≤ sizeLine := by
  rw [h.1, sizeLine_eq]
  have h1 := List.length_filter_le keepS X
  have h2 := List.length_filter_le keepS Y
  unfold lmax; split <;> lia
theorem item_at {prog : Program} {w : World} {A : Around} {E : Value → Shared → Prop} {s : Shared} {value slice : PySem.Expr} {h₀ : Heap} {L l : Addr} {news : List (Addr × Obj)} {vs : List Value} {n : Nat} {i : Nat} {u : Tok} {v : Value} {Q : Value → Shared → Prop}
    (N : News h₀ L s.heap news) (hl : (l, W.listOf vs.toArray n) ∈ news) (hx : vs[i]? = some v) (hz : vs.length ≤ sizeLine) (h : Q v s)
    (hs : subscripted slice false (.ref l) (.int (i : Int) u) = operate [.ref l, .int (i : Int) u] (getItem (.ref l) (.int (i : Int) u))) :
    wpAny (model prog w) A (subscriptTail value slice (.ref l) (.int (i : Int) u)) Q E s := by
  have hl' : s.heap.IsList l vs.toArray := ⟨_, (N _ hl).1, rfl, n, rfl⟩
  have hi : i < vs.length := (List.getElem?_eq_some_iff.mp hx).1
  have hz' : vs.length ≤ 16777216 := by rw [← sizeLine_eq]; exact hz
  exact tail_any hl'.typeIs slot_list_getitem.lookup (wpAny_getItem_list hl' (by lia) (by lia) (by simpa using hx) h) hs
theorem kw_c_common_1 : True := by
  (k_with "subscriptTail Name Name ref int" => ((k_here; (with_reducible show wpAny _ _ (subscriptTail _ _ (Value.ref _) (Value.int _ _)) _ _ _); k_dflt (refine' item_at (by k_asm) (by k_mem) (by with_reducible assumption) (by first | assumption | lia | fail "size") ?_ (by with_unfolding_all rfl); k_whole))))
  trivial
theorem pick_upto (vs : List Value) (i : Nat) : (slicePick vs.toArray none (some (i : Int)) none).toList = vs.take i := by
  have e : sliceBounds none (some (i : Int)) none vs.toArray.size = (((0 : Nat) : Int), ((min i vs.toArray.size : Nat) : Int), 1) := by
    simp only [sliceBounds, Option.getD_none, show (1 : Int) > 0 by decide, if_true, if_neg (show ¬ ((i : Int) < 0) by lia)]
    congr 1
    congr 1
    lia
  rw [kmk_pick_nat _ e]
  show (vs.drop 0).take (min i vs.toArray.size - 0) = _
  rw [List.drop_zero, Nat.sub_zero, List.size_toArray, kmk_take_min]
theorem kw_c_common_2 : True := by
  (k_with "subscriptTail Name Slice ref ref" => ((k_here; (with_reducible show wpAny _ _ (subscriptTail _ (PySem.Expr.Slice none (some _) none _) (Value.ref _) (Value.ref _)) _ _ _); k_dflt (refine' kmk_slice_lit (by k_asm) (by k_asm) (by kmk_list) (by kmk_part) (by kmk_part) (pick_upto _ _) ?_ (by with_unfolding_all rfl) (by kmk_pure) (by (simp only [List.size_toArray]; assumption))); intro _ _ _ _ l1w9; (try k_lt l1w9); (try k_sweep))))
  trivial
theorem TxtOf.take {vs : List Value} {xs : List Str} (h : TxtOf vs xs) (i : Nat) : TxtOf (vs.take i) (xs.take i) := by
  refine ⟨by rw [List.length_take, List.length_take, h.1], fun j y hy => ?_⟩
  rw [List.getElem?_take] at hy ⊢
  split at hy
  · rename_i hj
    rw [if_pos hj]; exact h.2 j y hy
  · cases hy
theorem TxtOf.texts : ∀ {vs : List Value} {xs : List Str}, TxtOf vs xs → ∃ l : List (Str × Tok), vs = strValues l ∧ l.map (fun p => p.1) = xs
  | [], [], _ => ⟨[], rfl, rfl⟩
  | [], _ :: _, h => by have := h.1; simp at this
  | _ :: _, [], h => by have := h.1; simp at this
  | v :: vs, x :: xs, h => by
    obtain ⟨t, ht⟩ := h.2 0 x rfl
    have ht' : v = .str x t := by simpa using ht
    have hr : TxtOf vs xs := ⟨by have := h.1; simpa using this, fun i y hy => by have := h.2 (i + 1) y (by simpa using hy); simpa using this⟩
    obtain ⟨l, e1, e2⟩ := TxtOf.texts hr
    exact ⟨(x, t) :: l, by rw [ht', e1]; rfl, by simp [e2]⟩
noncomputable def Few (xs : List Str) : Prop := xs.length ≤ 200 ∧ ∀ c ∈ xs, c.length ≤ 300
theorem Few.filter {xs : List Str} (h : Few xs) (p : Str → Bool) : Few (xs.filter p) := ⟨Nat.le_trans (List.length_filter_le ..) h.1, fun c hc => h.2 c (List.mem_filter.mp hc).1⟩
theorem Few.take {xs : List Str} (h : Few xs) (i : Nat) : Few (xs.take i) := ⟨Nat.le_trans (List.length_take_le' ..) h.1, fun c hc => h.2 c (List.mem_of_mem_take hc)⟩
theorem Few.lmin {xs ys : List Str} (h : Few xs) (k : Few ys) : Few (lmin xs ys) := by unfold Mine.lmin; split <;> assumption
theorem Few.sum : ∀ {xs : List Str}, (∀ c ∈ xs, c.length ≤ 300) → (xs.map (·.length)).sum ≤ 300 * xs.length
  | [], _ => Nat.le_refl _
  | x :: xs, h => by
    have h1 := h x List.mem_cons_self
    have h2 := Few.sum (xs := xs) fun c hc => h c (List.mem_cons_of_mem _ hc)
    simp only [List.map_cons, List.sum_cons, List.length_cons]
    lia
theorem Few.ok {xs : List Str} (h : Few xs) : JoinOk (Str.ofString "/") xs = true := by
  have h1 := Few.sum h.2
  have h2 := h.1
  exact joinOk_of_weight (by lia) (by rw [PySem.ofString_length]; decide)
theorem Few.fit {xs : List Str} (h : Few xs) : (Str.ofString "/").length + (Txt.join (Str.ofString "/") xs).length ≤ sizeLine := by
  have h1 := Few.sum h.2
  have h2 := h.1
  have e : (Str.ofString "/").length = 1 := by rw [PySem.ofString_length]; rfl
  have h3 : (Txt.join (Str.ofString "/") xs).length ≤ (xs.map (·.length)).sum + xs.length * (Str.ofString "/").length := by
    show (Builtin.Str.glued _ _).length ≤ _
    rw [StrLaws.glued_eq_join]; exact StrLaws.join_length_le _ _
  rw [e] at h3 ⊢
  rw [sizeLine_eq]; lia
theorem join_txt {prog : Program} {w : World} {A : Around} {E : Value → Shared → Prop} {s : Shared} {h₀ : Heap} {L l : Addr} {news : List (Addr × Obj)} {vs : List Value} {n : Nat} {x : Str} {t : Tok} {xs : List Str} {Q : Value → Shared → Prop}
    (N : News h₀ L s.heap news) (hl : (l, W.listOf vs.toArray n) ∈ news) (hT : TxtOf vs xs) (hok : JoinOk x xs = true)
    (hq : ∀ t' k, Q (.str (Txt.join x xs) t') { s with toks := k }) : wpAny (model prog w) A (call (.builtin "str.join") [.str x t, .ref l]) Q E s := by
  obtain ⟨l', rfl, e⟩ := hT.texts
  exact SC.join ⟨_, (N _ hl).1, rfl, n, rfl⟩ e hok hq
theorem kw_c_common_3 : True := by
  (k_with "call builtin:str.join" => ((k_here; (with_reducible show wpAny _ _ (call (Value.builtin "str.join") [Value.str _ _, Value.ref _]) _ _ _); k_dflt (refine' join_txt (by k_asm) (by k_mem) (by with_reducible assumption) (by with_reducible assumption) ?_); intro _ _; (try dsimp only))))
  (k_with "binaryOp Add str str" => ((k_here; (with_reducible show wpAny _ _ (binaryOp Operator.Add (Value.str _ _) (Value.str (Txt.join _ _) _)) _ _ _); refine PyProof.Rows.add_str ?_ (by with_reducible assumption); intro _ _)))
  trivial
theorem fr_two_more {h₀ : Heap} {L : Addr} {h : Heap} {m m₀ : Str → Option Value} {x y : Str} (F : Fr h₀ L h m) (hm : ∀ z, z ≠ x → z ≠ y → m z = m₀ z) : Fr h₀ L h (fun z => if z = x then m x else if z = y then m y else m₀ z) := by
  refine fr_eq F fun z => ?_
  by_cases h1 : z = x
  · simp [h1]
  · by_cases h2 : z = y
    · subst h2; simp [h1]
    · simp [h1, h2, hm z h1 h2]
theorem kw_c_common_4 : True := by
  (k_with "call builtin:min" => ((k_here; (with_reducible show wpAny _ _ (call (Value.builtin "min") [Value.ref _]) _ _ _); k_dflt (refine' min_any rfl (by k_asm) (by k_asm) (by k_mem) (by k_mem) (by k_mem) (by with_reducible assumption) (by with_reducible assumption) (by ktr_units) ?_); intro _ _ _ _ _ _ _ _; (try dsimp only))))
  (k_with "call builtin:max" => ((k_here; (with_reducible show wpAny _ _ (call (Value.builtin "max") [Value.ref _]) _ _ _); k_dflt (refine' max_any rfl (by k_asm) (by k_asm) (by k_mem) (by k_mem) (by k_mem) (by with_reducible assumption) (by with_reducible assumption) (by ktr_units) ?_); intro _ _ _ _ _ _ _ _; (try dsimp only))))
  trivial
set_option maxRecDepth 100000 in
set_option maxHeartbeats 8000000 in
theorem c_common {l : Addr} {n : Nat} {x y : Str} {t u : Tok} (hx : x.length ≤ 4096)  (hy : y.length ≤ 4096) {X Y : List Str} (hX : Txt.split x (Str.ofString "/") = X) (hY : Txt.split y (Str.ofString "/") = Y) (hXl : X.length ≤ 200) (hYl : Y.length ≤ 200) (hsx : Txt.startswith x (Str.ofString "/") = true) (hsy : Txt.startswith y (Str.ofString "/") = true) (hXf : ∀ c ∈ X, c.length ≤ 300) (hYf : ∀ c ∈ Y, c.length ≤ 300) : Con w loose mean mg mb 4 134 [(l, W.listOf [Value.str x t, Value.str y u].toArray n)] [.ref l] (fun _ _ v => ∃ t', v = .str (Str.ofString "/" ++ Txt.join (Str.ofString "/") (comm (X.filter keepS) (Y.filter keepS))) t') := by
  dsimp only [Con, fnSc]
  intro dp un gd cn ns ig ic mr a ccd cl outer A₀ base h₀ L m s Q E B0 F0 X0 N0 T0 hd0 hu0 hret
  walk_at "con enterC"
  intro g L' h1 tk1 cells1 FG F1 N1 Y1 B1 X1 T1 l1 kG; (try k_lt l1); k_cells Y1; (try dsimp only [List.cons_append, List.nil_append] at N1); (try dsimp only); (try k_lift B1); (try k_fold)
  k_steps
  rename Fr g L' _ _ => F2
  rename News g L' _ _ => N2
  refine map_K (n := n) (vs := [Value.str x t, Value.str y u]) F2 N2 (by k_mem) ?_
  intro M TI I h2 F3 N3 l3 l4 l5
  clear F2 N2
  (try dsimp only)
  (try k_fold)
  k_steps
  refine tuple_map_K (n := n) (vs := [Value.str x t, Value.str y u]) rfl F3 N3 (by k_mem) l3 l4 l5 (Nat.le_of_ble_eq_true rfl) ?_ ?_
  · intro v s₁ E₁ hv F₁
    simp only [List.mem_cons, List.not_mem_nil, or_false] at hv
    rcases hv with rfl | rfl <;> exact con_use c_fspath B1 F₁ X1 News.nil T1 (List.forall_mem_nil _) (by ktr_room) (by ktr_units) (fun v h' tk' _ _ hst hv => ⟨hv, h', tk', rfl, hst⟩)
  clear N3 F3
  intro D h3 tk3 F4 N4 l6
  (try k_lt l6)
  (try dsimp only)
  (try k_fold)
  k_steps
  refine wpAny_Try_except (wpAny_noRaise ?_)
  (try dsimp only)
  (try k_fold)
  walk_at "no comp"
  walk_at "assign comp seq"
  k_steps
  refine wpAny_Try_except (wpAny_noRaise ?_)
  (try dsimp only)
  (try k_fold)
  k_steps
  k_dflt (refine setcomp_true (by k_asm) (by rfl) (by rfl) (by decide) (by rfl) (by decide) (by rfl) ?_)
  k_steps
  k_dflt (refine' SetSrc.is ?F ?N ?mem (Or.inr rfl) ?len ?_ ?_; (case F => k_asm); (case N => k_asm); (case mem => k_mem); (case len => exact Nat.succ_pos _))
  · intro C oC v s₃ m₃ E₃ hv hC hx F3 N3
    simp only [List.mem_cons, List.not_mem_nil, or_false] at hv
    rcases hv with rfl | rfl
    · k_steps
      · exact congrArg Value.bool hsx
      · exact ⟨_, _, rfl, fun _ _ e => e⟩
    · k_steps
      · exact congrArg Value.bool hsy
      · exact ⟨_, _, rfl, fun _ _ e => e⟩
  intro D5 h5 tk5 F5 N5 l7
  (try k_lt l7)
  refine assign_one_set rfl F5 N5 (List.mem_cons_self) rfl rfl rfl ?_
  intro h6 tk6 F6 N6
  clear F5 N5
  (try dsimp only)
  (try k_fold)
  walk_at "no comp"
  walk_at "assign comp seq"
  walk_at "no comp"
  k_dflt (refine comp_test keepV (fun v y => y = v) (by k_asm) (by rfl) (by rfl) (by decide) (by rfl) (by decide) (by rfl) ?_)
  k_steps
  rename (_ = Txt.split x _) => hlx
  rename (_ = Txt.split y _) => hly
  k_dflt (refine' ValSrc.is ?F ?N ?mem (Or.inl rfl) ?len ?_ ?_ ?_; (case F => k_asm); (case N => k_asm); (case mem => k_mem); (case len => exact str_len (hlx.trans hX) hXl))
  · intro C oC v s₃ m₃ E₃ hv hC hxc F3 N3
    obtain ⟨q, hq, rfl⟩ := List.mem_map.mp hv
    have hql : q.1.length ≤ 4096 := Nat.le_trans (by first | assumption | (rename (∀ z, z ∈ List.map _ _ → Str.length z ≤ Str.length x) => hbx; exact hbx _ (List.mem_map_of_mem hq))) hx
    k_steps
    all_goals first | exact ⟨_, _, rfl, fun _ _ e => e⟩ | exact keep_yes (by assumption) (by assumption) | exact keep_dot (by assumption) | exact keep_no (by assumption)
  · intro C oC v s₃ m₃ E₃ hv hpv hC hxc F3 N3
    obtain ⟨q, hq, rfl⟩ := List.mem_map.mp hv
    k_steps
    exact ⟨_, _, rfl, fun _ _ e => e⟩
  intro D7 n7 ys7 h7 tk7 F7 N7 o7 st7 P7
  (try dsimp only)
  walk_at "CompEnd"
  walk_at "no comp"
  k_dflt (refine comp_test keepV (fun v y => y = v) (by k_asm) (by rfl) (by rfl) (by decide) (by rfl) (by decide) (by rfl) ?_)
  k_steps
  k_dflt (refine' ValSrc.is ?F ?N ?mem (Or.inl rfl) ?len ?_ ?_ ?_; (case F => k_asm); (case N => k_asm); (case mem => k_mem); (case len => exact str_len (hly.trans hY) hYl))
  · intro C oC v s₃ m₃ E₃ hv hC hxc F3 N3
    obtain ⟨q, hq, rfl⟩ := List.mem_map.mp hv
    have hql : q.1.length ≤ 4096 := Nat.le_trans (by first | assumption | (rename (∀ z, z ∈ List.map _ _ → Str.length z ≤ Str.length y) => hbx; exact hbx _ (List.mem_map_of_mem hq))) hy
    k_steps
    all_goals first | exact ⟨_, _, rfl, fun _ _ e => e⟩ | exact keep_yes (by assumption) (by assumption) | exact keep_dot (by assumption) | exact keep_no (by assumption)
  · intro C oC v s₃ m₃ E₃ hv hpv hC hxc F3 N3
    obtain ⟨q, hq, rfl⟩ := List.mem_map.mp hv
    k_steps
    exact ⟨_, _, rfl, fun _ _ e => e⟩
  intro D8 n8 ys8 h8 tk8 F8 N8 o8 st8 P8
  (try dsimp only)
  have T7 := kept_txt (hlx.trans hX) P7
  have T8 := kept_txt (hly.trans hY) P8
  walk_at "no for"
  refine wpAny_For ?_
  k_steps
  rename Fr g L' _ _ => F11
  rename News g L' _ _ => N11
  rename TxtOf _ (lmin _ _) => T9
  rename TxtOf _ (lmax _ _) => T10
  have FW : Few (lmin (X.filter keepS) (Y.filter keepS)) := Few.lmin (Few.filter ⟨hXl, hXf⟩ _) (Few.filter ⟨hYl, hYf⟩ _)
  have lsz1 := lmin_len T9 hXl hYl
  have lsz2 := lmax_len T10 hXl hYl
  refine enum_loop_same F11 N11 (by k_mem) rfl rfl rfl rfl (fun i => (lmin (X.filter keepS) (Y.filter keepS)).take i = (lmax (X.filter keepS) (Y.filter keepS)).take i) rfl ?_ ?_
  · intro e it i v tk oe oi h₁ tk₁ hv hP F12 N12 l1 l2
    (try k_lt l1)
    have hi1 : i < (lmin (X.filter keepS) (Y.filter keepS)).length := by have := (List.getElem?_eq_some_iff.mp hv).1; have := T9.1; lia
    have hi2 : i < (lmax (X.filter keepS) (Y.filter keepS)).length := le_len i _ _ (lmin_le _ _) hP hi1
    obtain ⟨t1, ht1⟩ := T9.at hi1
    obtain ⟨t2, ht2⟩ := T10.at hi2
    rw [ht1] at hv
    cases hv
    have T11 := T9.take i
    have J11 := (FW.take i).ok
    have K11 := (FW.take i).fit
    (try dsimp only)
    k_steps
    · refine hret _ _ _ (by assumption) ⟨_, congrArg (Value.str · _) (congrArg (fun z => Str.ofString "/" ++ Txt.join (Str.ofString "/") z) ?_)⟩
      rw [← comm_lmin (X.filter keepS) (Y.filter keepS)]
      have hne : ((lmin (X.filter keepS) (Y.filter keepS))[i] != (lmax (X.filter keepS) (Y.filter keepS))[i]) = true := by assumption
      exact (comm_take i _ _ hP hi1 hi2 (by simpa using hne)).symm
    · have hne : ((lmin (X.filter keepS) (Y.filter keepS))[i] != (lmax (X.filter keepS) (Y.filter keepS))[i]) = false := by assumption
      refine ⟨_, _, _, rfl, F12, N12, ⟨fun z h1 h2 => by simp [h1, h2], ?_⟩⟩
      rw [List.take_succ_eq_append_getElem hi1, List.take_succ_eq_append_getElem hi2, hP]
      rw [show (lmin (X.filter keepS) (Y.filter keepS))[i] = (lmax (X.filter keepS) (Y.filter keepS))[i] from by simpa using hne]
  · intro h13 tk13 m13 F13 N13 hm13 hP
    have F14 := fr_two_more F13 hm13
    have J1 := FW.ok
    have K1 := FW.fit
    clear F13
    (try dsimp only)
    k_steps
    refine hret _ _ _ (by assumption) ⟨_, congrArg (Value.str · _) (congrArg (fun z => Str.ofString "/" ++ Txt.join (Str.ofString "/") z) ?_)⟩
    rw [← comm_lmin (X.filter keepS) (Y.filter keepS)]
    refine (comm_whole _ _ ?_).symm
    rw [T9.1, List.take_length] at hP
    exact hP
end
section
noncomputable def sldGo (x : Str) (xs : List Str) (r : List Str → List Str × List Str) : List Str → List Str × List Str
  | [] => (x :: xs, [])
  | y :: ys =>
    if decide (x.cps.toList < y.cps.toList) = true then (x :: (r (y :: ys)).1, (r (y :: ys)).2)
    else if decide (y.cps.toList < x.cps.toList) = true then ((sldGo x xs r ys).1, y :: (sldGo x xs r ys).2)
    else r ys
noncomputable def sld : List Str → List Str → List Str × List Str
  | [] => fun ys => ([], ys)
  | x :: xs => sldGo x xs (sld xs)
theorem sld_cons (x y : Str) (xs ys : List Str) : sld (x :: xs) (y :: ys) =
    if decide (x.cps.toList < y.cps.toList) = true then (x :: (sld xs (y :: ys)).1, (sld xs (y :: ys)).2)
    else if decide (y.cps.toList < x.cps.toList) = true then ((sld (x :: xs) ys).1, y :: (sld (x :: xs) ys).2)
    else sld xs ys := rfl
theorem sld_nil (ys : List Str) : sld [] ys = ([], ys) := rfl
theorem sld_nil_right (xs : List Str) : sld xs [] = (xs, []) := by cases xs <;> rfl
theorem sld_len : ∀ (k : Nat) (xs ys : List Str), xs.length + ys.length ≤ k → (sld xs ys).1.length ≤ xs.length ∧ (sld xs ys).2.length ≤ ys.length
  | _, [], ys, _ => by rw [sld_nil]; exact ⟨Nat.le_refl _, Nat.le_refl _⟩
  | _, x :: xs, [], _ => by rw [sld_nil_right]; exact ⟨Nat.le_refl _, Nat.le_refl _⟩
  | 0, x :: xs, y :: ys, h => by simp at h
  | k + 1, x :: xs, y :: ys, h => by
    rw [sld_cons]
    simp only [List.length_cons] at h
    have h1 := sld_len k xs (y :: ys) (by simp only [List.length_cons]; lia)
    have h2 := sld_len k (x :: xs) ys (by simp only [List.length_cons]; lia)
    have h3 := sld_len k xs ys (by lia)
    simp only [List.length_cons] at h1 h2 ⊢
    split
    · simp only [List.length_cons]; lia
    · split
      · simp only [List.length_cons]; lia
      · lia
noncomputable def Adj (xs : List Str) : Prop := ∀ (i : Nat) (h : i + 1 < xs.length), (xs[i + 1] == xs[i]) = false
theorem adj_beq {xs : List Str} {i : Nat} (h : i + 1 < xs.length) (h' : i < xs.length) (A : Adj xs) : (xs[i + 1] == xs[i]) = false := A i h
noncomputable def InvS (xs ys a b : List Str) (i j : Nat) : Prop := (a ++ (sld (xs.drop i) (ys.drop j)).1, b ++ (sld (xs.drop i) (ys.drop j)).2) = sld xs ys
theorem inv_len {xs ys a b : List Str} {i j : Nat} (H : InvS xs ys a b i j) : a.length ≤ xs.length ∧ b.length ≤ ys.length := by
  have h := sld_len _ xs ys (Nat.le_refl _)
  unfold InvS at H
  rw [← H] at h
  simp only [List.length_append] at h
  lia
theorem inv_lt {xs ys a b : List Str} {i j : Nat} (H : InvS xs ys a b i j) (hi : i < xs.length) (hj : j < ys.length) (h : xs[i].cps.toList < ys[j].cps.toList) : InvS xs ys (a ++ [xs[i]]) b (i + 1) j := by
  unfold InvS at H ⊢
  rw [← H, List.drop_eq_getElem_cons hi, List.drop_eq_getElem_cons hj]
  conv => rhs; rw [sld_cons]
  rw [if_pos (decide_eq_true h)]
  simp
theorem inv_gt {xs ys a b : List Str} {i j : Nat} (H : InvS xs ys a b i j) (hi : i < xs.length) (hj : j < ys.length) (h : ¬ xs[i].cps.toList < ys[j].cps.toList) (h2 : ys[j].cps.toList < xs[i].cps.toList) : InvS xs ys a (b ++ [ys[j]]) i (j + 1) := by
  unfold InvS at H ⊢
  rw [← H, List.drop_eq_getElem_cons hi, List.drop_eq_getElem_cons hj]
  conv => rhs; rw [sld_cons]
  rw [if_neg (by simpa using h), if_pos (decide_eq_true h2)]
  simp
theorem inv_eq {xs ys a b : List Str} {i j : Nat} (H : InvS xs ys a b i j) (hi : i < xs.length) (hj : j < ys.length) (h : ¬ xs[i].cps.toList < ys[j].cps.toList) (h2 : ¬ ys[j].cps.toList < xs[i].cps.toList) : InvS xs ys a b (i + 1) (j + 1) := by
  unfold InvS at H ⊢
  rw [← H, List.drop_eq_getElem_cons hi, List.drop_eq_getElem_cons hj]
  conv => rhs; rw [sld_cons]
  rw [if_neg (by simpa using h), if_neg (by simpa using h2)]
theorem TxtOf.drop : ∀ {vs : List Value} {xs : List Str}, TxtOf vs xs → ∀ i, TxtOf (vs.drop i) (xs.drop i) := fun {vs xs} h i => by
  refine ⟨by rw [List.length_drop, List.length_drop, h.1], fun j y hy => ?_⟩
  rw [List.getElem?_drop] at hy ⊢
  exact h.2 _ y hy
theorem inv_end {xs ys a b : List Str} {i j : Nat} {vs ws ms us : List Value} (H : InvS xs ys a b i j) (he : xs.length ≤ i ∨ ys.length ≤ j) (hx : TxtOf vs xs) (hy : TxtOf ws ys) (ha : TxtOf ms a) (hb : TxtOf us b) :
    TxtOf (ms ++ vs.drop i) (sld xs ys).1 ∧ TxtOf (us ++ ws.drop j) (sld xs ys).2 := by
  unfold InvS at H
  have e : sld (xs.drop i) (ys.drop j) = (xs.drop i, ys.drop j) := by
    rcases he with h | h
    · rw [List.drop_of_length_le h, sld_nil]
    · rw [List.drop_of_length_le h, sld_nil_right]
  rw [e] at H
  rw [← H]
  exact ⟨ha.append (hx.drop i), hb.append (hy.drop j)⟩

variable {prog : Program} {w : World} {A A₀ : Around} {E : Value → Shared → Prop} {s : Shared} {base h₀ g : Heap} {L l e1 : Addr} {m : Str → Option Value} {news : List (Addr × Obj)} {vs ws : List Value} {xs ys : List Str} {n n2 : Nat} {outer : List Env} {env : Env}
theorem cast_up (i : Nat) : (i : Int) + 1 = ((i + 1 : Nat) : Int) := rfl
theorem item_or {value slice : PySem.Expr} {k : Int} {i : Nat} {u : Tok} {Q : Value → Shared → Prop} (N : News h₀ L s.heap news) (hl : (l, W.listOf vs.toArray n) ∈ news) (T : TxtOf vs xs) (hk : k = (i : Int)) (hi : i ≤ 1000) (hh : A.handled = none)
    (h_in : ∀ (hi : i < xs.length) t, vs[i]? = some (.str xs[i] t) → Q (.str xs[i] t) s)
    (h_out : xs.length ≤ i → ∀ h' tk e, NewIx s.heap h' e .none → E (.ref e) { s with heap := h', toks := tk })
    (hs : subscripted slice false (.ref l) (.int k u) = operate [.ref l, .int k u] (getItem (.ref l) (.int k u))) :
    wpAny (model prog w) A (subscriptTail value slice (.ref l) (.int k u)) Q E s := by
  subst hk
  have hl' : s.heap.IsList l vs.toArray := ⟨_, (N _ hl).1, rfl, n, rfl⟩
  by_cases h : i < xs.length
  · obtain ⟨t, ht⟩ := T.at h
    exact tail_any hl'.typeIs slot_list_getitem.lookup (wpAny_getItem_list hl' (by lia) (by lia) (by simpa using ht) (h_in h t ht)) hs
  · exact item_ix hh hl' (by simp [T.1]; lia) (by lia) (h_out (by lia)) hs
theorem item_orH {value slice : PySem.Expr} {k : Int} {i : Nat} {u : Tok} {oe : Obj} {es : Array Value} {Q : Value → Shared → Prop} (N : News h₀ L s.heap news) (hl : (l, W.listOf vs.toArray n) ∈ news) (T : TxtOf vs xs) (hk : k = (i : Int)) (hi : i ≤ 1000) (hh : A.handled = some (.ref e1))
    (h1 : (e1, oe) ∈ news) (hd : oe.data = .fields es) (h2 : es[2]? = some .none)
    (h_in : ∀ (hi : i < xs.length) t, vs[i]? = some (.str xs[i] t) → Q (.str xs[i] t) s)
    (h_out : xs.length ≤ i → ∀ h' tk e, NewIx s.heap h' e (.ref e1) → E (.ref e) { s with heap := h', toks := tk })
    (hs : subscripted slice false (.ref l) (.int k u) = operate [.ref l, .int k u] (getItem (.ref l) (.int k u))) :
    wpAny (model prog w) A (subscriptTail value slice (.ref l) (.int k u)) Q E s := by
  subst hk
  have hl' : s.heap.IsList l vs.toArray := ⟨_, (N _ hl).1, rfl, n, rfl⟩
  by_cases h : i < xs.length
  · obtain ⟨t, ht⟩ := T.at h
    exact tail_any hl'.typeIs slot_list_getitem.lookup (wpAny_getItem_list hl' (by lia) (by lia) (by simpa using ht) (h_in h t ht)) hs
  · exact item_ixH hh (N _ h1).1 hd h2 hl' (by simp [T.1]; lia) (by lia) (h_out (by lia)) hs
theorem while_once {test : PySem.Expr} {body : List Stmt} {pos : Pos} {Q : Flow → Shared → Prop}
    (h : wpAny (model prog w) A (isTrue test env (eval test env)) (fun b s₂ => b = false ∧ Q .next s₂) (notedBy (model prog w) A env (cameBackBy (model prog w) A env E)) s) : wpAny (model prog w) A (exec (.While test body [] pos) env) Q E s := by
  refine wpAny_While (codeAny_whileLoop (fun n s₁ => s₁ = s) (fun k s₁ hI => ?_) 0 rfl)
  subst hI
  refine wpAny_mono h (fun b s₂ h₂ => ?_) fun _ _ x => x
  obtain ⟨rfl, h₂⟩ := h₂
  simp only [Bool.false_eq_true, if_false]
  exact wpAny_execs_nil h₂
theorem pick_from (vs : List Value) (i : Nat) : (slicePick vs.toArray (some (i : Int)) none none).toList = vs.drop i := by
  have e : sliceBounds (some (i : Int)) none none vs.toArray.size = (((min i vs.toArray.size : Nat) : Int), ((vs.toArray.size : Nat) : Int), 1) := by
    simp only [sliceBounds, Option.getD_none, show (1 : Int) > 0 by decide, if_true, if_neg (show ¬ ((i : Int) < 0) by lia)]
    congr 1
    lia
  rw [kmk_pick_nat _ e]
  show (vs.drop (min i vs.toArray.size)).take (vs.toArray.size - min i vs.toArray.size) = _
  rw [List.size_toArray, kmk_drop_min, List.take_of_length_le]
  rw [List.length_drop]; lia
theorem ext_any {D b : Addr} {f : Obj → List (Addr × Obj)} {Q : Value → Shared → Prop} (F : Fr h₀ L s.heap m) (N : News h₀ L s.heap news) (hb : (b, W.listOf ws.toArray n2) ∈ news) (U : UpdF D (W.listOf vs.toArray n) news f) (hz : vs.length + ws.length ≤ sizeLine)
    (h : ∀ h' k, Fr h₀ L h' m → News h₀ L h' (f (W.listOf (vs ++ ws).toArray k)) → Q .none { s with heap := h' }) : wpAny (model prog w) A (call (.builtin "list.extend") [.ref D, .ref b]) Q E s := by
  obtain ⟨pre, post, rfl, hf, a, c⟩ := U.split
  have upd : ∀ o', Upd D (W.listOf vs.toArray n) o' (pre ++ (D, W.listOf vs.toArray n) :: post) (pre ++ (D, o') :: post) := fun o' => by
    clear U hb N hf
    induction pre with
    | nil => exact .head c
    | cons p pre ih => exact .tail (a p List.mem_cons_self) (ih fun q hq => a q (List.mem_cons_of_mem _ hq))
  have hd : ¬(!vs.toArray.isEmpty && Builtin.List.listTooLong (vs.toArray.size + ws.toArray.size)) = true := extend_door (by simpa using hz)
  by_cases hw : ws = []
  · subst hw
    refine kxn_extend F N hb rfl (upd _) hd (by simpa using hz) (by simp at hz ⊢; lia) fun h' F' N' => h h' n F' ?_
    rw [hf, List.append_nil]; exact N'
  · refine kl_extend (l := vs ++ ws) F N hb (by simp) (by simpa using hw) (upd _) hd (by simp at hz ⊢; lia) (by simp at hz ⊢; lia) fun h' F' N' => h h' (n + 1) F' ?_
    rw [hf]; exact N'
theorem app_any {D : Addr} {f : Obj → List (Addr × Obj)} {v : Value} {Q : Value → Shared → Prop} (F : Fr h₀ L s.heap m) (N : News h₀ L s.heap news) (U : UpdF D (W.listOf vs.toArray n) news f) (hz : vs.length ≤ 1000)
    (h : ∀ h' k, Fr h₀ L h' m → News h₀ L h' (f (W.listOf (vs ++ [v]).toArray k)) → Q .none { s with heap := h' }) : wpAny (model prog w) A (call (.builtin "list.append") [.ref D, v]) Q E s := by
  obtain ⟨pre, post, rfl, hf, a, c⟩ := U.split
  have upd : ∀ o', Upd D (W.listOf vs.toArray n) o' (pre ++ (D, W.listOf vs.toArray n) :: post) (pre ++ (D, o') :: post) := fun o' => by
    clear U N hf
    induction pre with
    | nil => exact .head c
    | cons p pre ih => exact .tail (a p List.mem_cons_self) (ih fun q hq => a q (List.mem_cons_of_mem _ hq))
  refine append_K F N (upd _) (fun h' F' N' => h h' (n + 1) F' ?_) (by rw [sizeLine_eq]; simp; lia)
  rw [hf]
  simpa using N'
theorem allne_of {d : Addr} : ∀ {l : List (Addr × Obj)}, AllLt d l → ∀ p ∈ l, p.1 ≠ d
  | [], _, _, h => nomatch h
  | _ :: _, ⟨h1, h2⟩, p, h => by
    rcases List.mem_cons.mp h with rfl | h
    · exact Nat.ne_of_lt h1
    · exact allne_of h2 p h
theorem lts_sld {l l2 D D1 D2 : Addr} {o o2 oD oD1 oD2 : Obj} {news : List (Addr × Obj)} (h1 : l < D1) (h2 : l2 < D1) (h3 : AllLt D1 news) (h4 : D1 < D2) (h5 : D1 < D) :
    ∀ p ∈ (l, o) :: (l2, o2) :: news, ∀ q ∈ [(D, oD), (D2, oD2), (D1, oD1)], p.1 < q.1 := by
  have h3' : ∀ p ∈ news, p.1 < D1 := by
    clear h1 h2 h4 h5
    induction news with
    | nil => exact fun p h => nomatch h
    | cons q r ih =>
      intro p hp
      rcases List.mem_cons.mp hp with rfl | hp
      · exact h3.1
      · exact ih h3.2 p hp
  intro p hp q hq
  have hp1 : p.1 < D1 := by
    rcases List.mem_cons.mp hp with rfl | hp
    · exact h1
    · rcases List.mem_cons.mp hp with rfl | hp
      · exact h2
      · exact h3' p hp
  simp only [List.mem_cons, List.not_mem_nil, or_false] at hq
  rcases hq with rfl | rfl | rfl
  · exact Nat.lt_trans hp1 h5
  · exact Nat.lt_trans hp1 h4
  · exact hp1
theorem sld_leave {xs ys : List Str} {us ms : List Value} {l l2 D D1 D2 L' : Addr} {o o2 : Obj} {k1 k2 : Nat} {news NL : List (Addr × Obj)} {g' : Heap} {m' : Str → Option Value} {s' s₀ : Shared} {Q E : Value → Shared → Prop}
    (NN : News g' L' s'.heap NL) (F : Fr g' L' s'.heap m') (Tu : KtsTurn ((env :: outer).filterMap (·.frame)) g g') (hD : (D, ({ cls := .type "tuple", data := .seq [Value.ref D1, Value.ref D2].toArray } : Obj)) ∈ NL) (hU : (D2, W.listOf us.toArray k2) ∈ NL) (hM : (D1, W.listOf ms.toArray k1) ∈ NL)
    (hl : (l, o) ∈ NL) (hl2 : (l2, o2) ∈ NL) (hs : ∀ p ∈ news, p ∈ NL) (h1 : l < D1) (h2 : l2 < D1) (h3 : AllLt D1 news) (h4 : D1 < D2) (h5 : D1 < D) (T : TxtOf ms (sld xs ys).1 ∧ TxtOf us (sld xs ys).2) (e : ∃ h tk, s' = { s₀ with heap := h, toks := tk })
    (hret : ∀ (v : Value) (h' : Heap) (tk' : Nat) (h₀' : Heap) (new : List (Addr × Obj)), KtsTurn (outer.filterMap (·.frame)) h₀ h₀' → Fr h₀' L h' m → News h₀' L h' (new ++ news) → (∀ p ∈ news, ∀ q ∈ new, p.1 < q.1) → Below A₀ base outer h₀' →
      (∃ D D1 D2 ms us k1 k2, new = [(D, ({ cls := .type "tuple", data := .seq [Value.ref D1, Value.ref D2].toArray } : Obj)), (D2, W.listOf (List.toArray us) k2), (D1, W.listOf (List.toArray ms) k1)] ∧ v = .ref D ∧ TxtOf ms (sld xs ys).1 ∧ TxtOf us (sld xs ys).2) → Q v { s₀ with heap := h', toks := tk' }) :
    LeaveT A₀ base h₀ outer env L m g ((l, o) :: (l2, o2) :: news) (fun r s' => match r with | .ok (.ret v) => Q v s' | .ok _ => False | .error e => E e s') (.ref D) s' := by
  obtain ⟨h, tk, rfl⟩ := e
  have hlt := lts_sld (o := o) (o2 := o2) (oD := ({ cls := .type "tuple", data := .seq [Value.ref D1, Value.ref D2].toArray } : Obj)) (oD1 := W.listOf ms.toArray k1) (oD2 := W.listOf us.toArray k2) h1 h2 h3 h4 h5
  refine ⟨g', L', m', [(D, ({ cls := .type "tuple", data := .seq [Value.ref D1, Value.ref D2].toArray } : Obj)), (D2, W.listOf us.toArray k2), (D1, W.listOf ms.toArray k1)], Tu, F, news_sub NN fun p hp => ?_, fun h₀' T' F' N' B' => hret _ h tk h₀' _ T' F' (news_sub N' fun p hp => ?_) (fun p hp => hlt p (List.mem_cons_of_mem _ (List.mem_cons_of_mem _ hp))) B' ⟨D, D1, D2, ms, us, k1, k2, rfl, rfl, T⟩⟩
  · rcases List.mem_append.mp hp with hp | hp
    · simp only [List.mem_cons, List.not_mem_nil, or_false] at hp
      rcases hp with rfl | rfl | rfl <;> assumption
    · rcases List.mem_cons.mp hp with rfl | hp
      · exact hl
      · rcases List.mem_cons.mp hp with rfl | hp
        · exact hl2
        · exact hs p hp
  · rcases List.mem_append.mp hp with hp | hp
    · exact List.mem_append_left _ hp
    · exact List.mem_append_right _ (List.mem_cons_of_mem _ (List.mem_cons_of_mem _ hp))
theorem in_turn {K : Frag} {b g' : Heap} (X : K.In b) (B : Below A₀ b outer g') : K.In g' := X.keeps B.stays
theorem top_turn {p : Program} {loose : List Str} {mean : ExcName → Option Value} {mg mb : Str → Option Value} {b g' : Heap} (X : Top p loose mean mg mb b) (B : Below A₀ b outer g') : Top p loose mean mg mb g' := X.keeps B.stays
end
theorem kw_c_sld_0 : True := by
  k_with_none
  (k_with "k_room" => (ktr_room))
  (k_with "con sub" => (first | exact List.forall_mem_nil _ | k_extra "sub" | (simp only [List.forall_mem_cons]; refine ⟨?_, ?_⟩ <;> first | exact List.forall_mem_nil _ | k_mem | k_extra "con sub") | k_sub))
  (k_with "con enter" => ((refine wpAny_call ?_; (refine' code_defG (by assumption) (by assumption) (by assumption) (by assumption) (by assumption) (by exact rfl) (by exact rfl) (by exact rfl) (by k_is) (by k_is) (by k_room) (by first | exact BindsTo.of_eq rfl | exact binds_K (by k_in) rfl (by k_is) rfl rfl rfl | fail "k_enter: no rule for these arguments") (by exact locs rfl) ?_ (by exact rfl) (by exact rfl) (by exact rfl) (by decide); k_whole))))
  (k_with "con start" => ((dsimp only [Con, fnSc]; intros; rename_i hret)))
  (k_with "LeaveK" => ((k_dflt (refine' leave_con (by with_reducible assumption) (by assumption) (by k_asm) (by k_asm) (by k_extra "con sub") ?_; k_whole); intro _; (try dsimp only))))
  (k_with "con enterC" => ((refine wpAny_call ?_; (refine' enter_cells (by assumption) (by assumption) (by assumption) (by assumption) (by assumption) (by exact rfl) (by exact rfl) (by exact rfl) (by k_is) (by k_is) (by k_room) (by exact BindsTo.of_eq rfl) (by exact rfl) (by decide +kernel) ?_ (by exact rfl) (by exact rfl) (by exact rfl); k_whole))))
  (k_with "con enterR" => ((refine wpAny_call ?_; (refine' enter_rest (by assumption) (by assumption) (by assumption) (by assumption) (by assumption) (by exact rfl) (by exact rfl) (by exact rfl) (by k_is) (by k_is) (by k_room) (by exact rfl) (by exact fun _ => locs rfl) ?_ (by exact rfl) (by exact rfl) (by exact rfl) (by decide); k_whole))))
  (k_with "callWith" => ((k_here; (with_reducible show wpAny _ _ (callWith _ (Value.builtin _) (_ :: _) (backTo _ (starEach (_ :: _) _)) []) _ _ _); (with_reducible refine' callWith_method1 ?_ (by k_dflt (exact rfl)) (by k_dflt (exact rfl))))))
  (k_with "mem at" => (with_reducible (first | exact List.mem_cons_self | exact List.Mem.head _ | (refine List.mem_cons_of_mem _ ?_; k_extra "mem at") | (refine List.mem_append_left _ ?_; k_extra "mem at") | (refine List.mem_append_right _ ?_; k_extra "mem at"))))
  (k_with "mem in" => (with_reducible (first | assumption | (refine List.mem_cons_of_mem _ ?_; k_extra "mem in") | (refine List.mem_append_right _ ?_; k_extra "mem in") | (refine List.mem_append_left _ ?_; k_extra "mem in"))))
  (k_with "sub" => (with_reducible (first | exact sub_nil | exact sub_refl | (refine sub_cons ?_ ?_; (focus k_extra "mem at"); k_extra "sub") | (refine subs_app ?_ ?_; (focus k_extra "sub"); k_extra "sub") | (intro _ _; k_extra "mem in"))))
  (k_with "no while" => (repeat' ((fail_if_success (with_reducible show wpAny _ _ (exec (Stmt.While _ _ _ _) _) _ _ _)); (first | (k_unfold; (try dsimp only)) | (k_end; wrow_close) | walk1 | (dsimp only; walk1) | (leave1; walk_say "STEP leave1"; try dsimp only) | fail "no step"))))
  (k_with "size small" => (first | size_fits | ((simp only [List.length_cons, List.length_nil, List.length_append, sizeLine_eq] at *); lia)))
  (k_with "binaryOp Add ref ref" => ((k_here; (with_reducible show wpAny _ _ (binaryOp _ (Value.ref _) (Value.ref _)) _ _ _); k_dflt (refine' add_lst (by k_asm) (by k_asm) (by k_mem) (by k_mem) ?_ (by k_extra "size small")); intro _ _ _ _ l1w9; (try k_lt l1w9); (try k_sweep))))
  trivial
section
variable {w : World} {loose : List Str} {mean : ExcName → Option Value} {mg mb : Str → Option Value}
inductive SldI (vs ws : List Value) (xs ys : List Str) (n n2 : Nat) (g : Heap) (L l l2 D1 D2 : Addr) (news : List (Addr × Obj)) (s : Shared) (k : Nat) (s₁ : Shared) : Prop
  | mk (i j : Nat) (h : Heap) (tk : Nat) (ti tj : Tok) (ms us : List Value) (k1 k2 : Nat) (M : Str → Option Value) (a b : List Str) (e : s₁ = { s with heap := h, toks := tk }) (hi : i ≤ xs.length) (hj : j ≤ ys.length) (hk : k = (xs.length - i) + (ys.length - j))
    (F : Fr g L h (fun y => if y = Str.ofString "i" then some (.int (i : Int) ti) else if y = Str.ofString "j" then some (.int (j : Int) tj) else if y = Str.ofString "expected" then some (.ref l) else if y = Str.ofString "actual" then some (.ref l2) else if y = Str.ofString "missing" then some (.ref D1) else if y = Str.ofString "unexpected" then some (.ref D2) else M y))
    (N : News g L h ((D2, W.listOf us.toArray k2) :: (D1, W.listOf ms.toArray k1) :: (l, W.listOf vs.toArray n) :: (l2, W.listOf ws.toArray n2) :: news)) (ha : TxtOf ms a) (hb : TxtOf us b) (hI : InvS xs ys a b i j) : SldI vs ws xs ys n n2 g L l l2 D1 D2 news s k s₁
theorem kw_c_sld_1 : True := by
  (k_with "con enterT" => ((refine wpAny_call ?_; (refine' enter_turn (by assumption) (by assumption) (by assumption) (by assumption) (by assumption) (by exact rfl) (by exact rfl) (by exact rfl) (by k_is) (by k_is) (by k_room) (by first | exact BindsTo.of_eq rfl | exact binds_K (by k_in) rfl (by k_is) rfl rfl rfl | fail "k_enter: no rule for these arguments") (by exact locs rfl) ?_ (by exact rfl) (by exact rfl) (by exact rfl) (by decide); k_whole))))
  (k_with "k_all" => (assumption))
  (k_with "k_ne" => (first | assumption | exact Ne.symm (by assumption) | (refine neN ?_; (try dsimp only); lia)))
  (k_with "exec Try" => (((with_reducible show wpAny _ _ (exec (Stmt.Try _ (_ :: _) _ [] _) _) _ _ _); refine wpAny_Try_except ?_; (try dsimp only); (try k_fold))))
  (k_with "exec Try" => (((with_reducible show wpAny _ _ (exec (Stmt.Try _ [] _ (_ :: _) _) _) _ _ _); refine wpAny_Try_finally ?_; (try dsimp only); (try k_fold))))
  (k_with "exec While" => (((with_reducible show wpAny _ _ (exec (Stmt.While (PySem.Expr.Compare _ _ _ _) _ [] _) _) _ _ _); refine while_once ?_; (try dsimp only); (try k_fold))))
  (k_with "sld idx" => (first | exact cast_up _ | exact rfl))
  (k_with "subscriptTail Name Name ref int" => ((k_here; (with_reducible show wpAny _ _ (subscriptTail _ _ (Value.ref _) (Value.int _ _)) _ _ _); first
  | (k_dflt (refine' item_or (by k_asm) (by k_mem) (by with_reducible assumption) (by k_extra "sld idx") (by lia) (by exact rfl) ?_ ?_ (by with_unfolding_all rfl)))
  | (k_dflt (refine' item_orH (by k_asm) (by k_mem) (by with_reducible assumption) (by k_extra "sld idx") (by lia) (by exact rfl) (by k_mem) (by assumption) (by assumption) ?_ ?_ (by with_unfolding_all rfl))))))
  (k_with "noteFrame ref" => (first
  | (k_dflt (refine' fly_again (by exact rfl) (by assumption) ?_); (try dsimp only))
  | (k_dflt (refine' fly_first (by assumption) rfl rfl rfl (by k_asm) (by k_asm) (by assumption) ?_); intro _ _; (try dsimp only))))
  (k_with "setFlight ref" => ((k_dflt (refine' fly_set (by assumption) ?_); intro _ x'w9; (try dsimp only); first
  | (with_reducible show wpAny _ _ (handleBy _ _ _) _ _ _)
  | (obtain ⟨g', oe, es, T, oT, ts, Tu, F', K', N', hc, hd, h1, h2, hTe, hdT, h3, hne⟩ := fly_ground (by assumption) x'w9; (simp only [List.forall_mem_cons] at hne); (obtain ⟨⟨n1, n2⟩, ⟨n3, n4⟩, ⟨n5, n6⟩, ⟨n7, n8⟩, n9⟩ := hne); (have X' := in_turn (by assumption) K'); (have Y' := top_turn (by assumption) K'); (try k_sweep)))))
  (k_with "cameBackBy ref" => ((k_dflt (refine' fly_back (by exact rfl) (by assumption) ?_); intro _ _; (try dsimp only))))
  (k_with "notedBy ref" => ((unfold notedBy; (try dsimp only))))
  (k_with "And" => (((with_reducible show (_ ≠ byPass) ∧ _); (refine ⟨ref_ne_byPass _, ?_⟩); (try dsimp only))))
  (k_with "And" => (((with_reducible show ((_ == _) = false) ∧ _); (refine ⟨(by exact adj_beq _ _ (by assumption)), ?_⟩); (try dsimp only))))
  (k_with "handleBy ref" => ((k_dflt (refine' fly_handle (by assumption) (by assumption) (by assumption) (by k_is) (by assumption) ?_); intro _ _ _ _ _ _ K'w9; (have X' := in_turn (by assumption) K'w9); (have Y' := top_turn (by assumption) K'w9); (try dsimp only); (try k_sweep))))
  (k_with "passOn ref" => ((k_dflt (refine' fly_pass (by exact rfl) (fly_from (by assumption) rfl (by k_asm) (by k_asm) (by (simp only [List.forall_mem_cons]; exact ⟨⟨by assumption, by assumption⟩, ⟨by assumption, by assumption⟩, ⟨by assumption, by assumption⟩, ⟨by assumption, by assumption⟩, by assumption⟩)) (by assumption) (by assumption) (by assumption) (by assumption) (by assumption) (by assumption) (by assumption)) ?_); intro _ _; (try dsimp only))))
  (k_with "call builtin:list.extend" => ((k_here; (with_reducible show wpAny _ _ (call (Value.builtin _) [Value.ref _, Value.ref _]) _ _ _); k_dflt (refine' ext_any (by k_asm) (by k_asm) (by k_mem) (by k_updF) (by (simp only [List.length_append, List.length_drop, List.length_cons, List.length_nil, sizeLine_eq]; lia)) ?_); intro _ _ _ N'w9; (try dsimp only at N'w9); (try k_sweep))))
  (k_with "call builtin:list.append" => ((k_here; (with_reducible show wpAny _ _ (call (Value.builtin _) [Value.ref _, _]) _ _ _); k_dflt (refine' app_any (by k_asm) (by k_asm) (by k_updF) (by lia) ?_); intro _ _ _ N'w9; (try dsimp only at N'w9); (try k_sweep))))
  (k_with "subscriptTail Name Slice ref ref" => ((k_here; (with_reducible show wpAny _ _ (subscriptTail _ (PySem.Expr.Slice (some _) none none _) (Value.ref _) (Value.ref _)) _ _ _); k_dflt (refine' kmk_slice_lit (by k_asm) (by k_asm) (by kmk_list) (by kmk_part) (by kmk_part) (by first | exact pick_from _ _ | exact pick_from _ (_ + 1)) ?_ (by with_unfolding_all rfl) (by kmk_pure) (by (simp only [List.size_toArray, sizeLine_eq]; lia))); intro _ _ _ _ l1w9; (try k_lt l1w9); (try k_sweep))))
  trivial
theorem fr_names6 {h₀ : Heap} {L : Addr} {h : Heap} {m : Str → Option Value} {x1 x2 x3 x4 x5 x6 : Str} {v1 v2 v3 v4 v5 v6 : Value} (F : Fr h₀ L h m) (h1 : m x1 = some v1) (h2 : m x2 = some v2) (h3 : m x3 = some v3) (h4 : m x4 = some v4) (h5 : m x5 = some v5) (h6 : m x6 = some v6) :
    Fr h₀ L h (fun y => if y = x1 then some v1 else if y = x2 then some v2 else if y = x3 then some v3 else if y = x4 then some v4 else if y = x5 then some v5 else if y = x6 then some v6 else m y) := by
  refine fr_eq F fun y => ?_
  by_cases e1 : y = x1
  · subst e1; simp [h1]
  · by_cases e2 : y = x2
    · subst e2; simp [e1, h2]
    · by_cases e3 : y = x3
      · subst e3; simp [e1, e2, h3]
      · by_cases e4 : y = x4
        · subst e4; simp [e1, e2, e3, h4]
        · by_cases e5 : y = x5
          · subst e5; simp [e1, e2, e3, e4, h5]
          · by_cases e6 : y = x6
            · subst e6; simp [e1, e2, e3, e4, e5, h6]
            · simp [e1, e2, e3, e4, e5, e6]
set_option maxRecDepth 100000 in
set_option maxHeartbeats 8000000 in
theorem c_sld {l l2 : Addr} {n n2 : Nat} {vs ws : List Value} {xs ys : List Str} (hx : TxtOf vs xs) (hy : TxtOf ws ys) (hxa : Adj xs) (hya : Adj ys) (hxl : xs.length ≤ 100) (hyl : ys.length ≤ 100) :
    ConX w loose mean mg mb 4 176 [(l, W.listOf vs.toArray n), (l2, W.listOf ws.toArray n2)] [.ref l, .ref l2]
      (fun v new => ∃ D D1 D2 ms us k1 k2, new = [(D, ({ cls := .type "tuple", data := .seq [Value.ref D1, Value.ref D2].toArray } : Obj)), (D2, W.listOf us.toArray k2), (D1, W.listOf ms.toArray k1)] ∧ v = .ref D ∧ TxtOf ms (sld xs ys).1 ∧ TxtOf us (sld xs ys).2) := by
  dsimp only [ConX, fnSc]
  intro dp un gd cn ns ig ic mr a ccd cl outer A₀ base h₀ L m s Q E news B0 F0 X0 N0' hs0 T0 hd0 hu0 hret
  have N0 : News h₀ L s.heap ((l, W.listOf vs.toArray n) :: (l2, W.listOf ws.toArray n2) :: news) := fun p hp => by
    rcases List.mem_cons.mp hp with rfl | hp
    · exact N0' _ (hs0 _ (by simp))
    · rcases List.mem_cons.mp hp with rfl | hp
      · exact N0' _ (hs0 _ (by simp))
      · exact N0' _ hp
  walk_at "con enterT"
  intro g L' h1 F1 N1 B1 X1 T1 l1 kG; (try k_lt l1); (try dsimp only); (try k_lift B1); (try k_fold)
  walk_at "no while"
  rename_i D1 q1 lD1 q2 q3 D2 q4 lD2 q5 F2 N2
  obtain ⟨hD2, hl2D2, hl22, hn2⟩ := lD2
  obtain ⟨hlD1, hl2D1, hn1⟩ := lD1
  have an1 := hn1
  replace hn1 := allne_of hn1
  replace hn2 := allne_of hn2
  refine while_rule (SldI vs ws xs ys n n2 g L' l l2 D1 D2 news s) (xs.length + ys.length) ⟨0, 0, _, _, _, _, [], [], 0, 0, _, [], [], rfl, Nat.zero_le _, Nat.zero_le _, rfl,
    fr_names6 F2 rfl rfl rfl rfl rfl rfl, N2, TxtOf.nil, TxtOf.nil, rfl⟩ ?_
  clear F2 N2
  rintro k s₁ ⟨i, j, h2, tk2, ti, tj, ms, us, k1, k2, M, a, b, rfl, hi, hj, hk, F2, N2, Ta, Tb, H⟩
  have hms : ms.length ≤ 100 := by have := (inv_len H).1; have := Ta.1; lia
  have hus : us.length ≤ 100 := by have := (inv_len H).2; have := Tb.1; lia
  have hvl : vs.length ≤ 100 := hx.1 ▸ hxl
  have hwl : ws.length ≤ 100 := hy.1 ▸ hyl
  (try k_fold)
  k_steps
  all_goals try (show Again _ _ _)
  · refine ⟨⟨(xs.length - (i + 1)) + (ys.length - j), ?_, i + 1, j, _, _, _, _, ms ++ [_], us, _, _, _, a ++ [xs[i]'(by assumption)], b, rfl, ?_, ?_, rfl, fr_names6 (by assumption) rfl rfl rfl rfl rfl rfl, by assumption, Ta.append (TxtOf.cons TxtOf.nil), Tb, inv_lt H (by assumption) (by assumption) (by assumption)⟩⟩
    all_goals lia
  · refine sld_leave (by assumption) (by assumption) ?_ (by k_mem) (by k_mem) (by k_mem) (by k_mem) (by k_mem) (fun p hp => ?_) hlD1 hl2D1 an1 hD2 ?_ ?_ ⟨_, _, rfl⟩ hret
    · first | assumption | exact KtsTurn.trans (by assumption) (by assumption)
    · repeat (first | exact hp | refine List.mem_cons_of_mem _ ?_)
    · refine ltN ?_; lia
    · exact inv_end (inv_lt H (by assumption) (by assumption) (by assumption)) (Or.inl (by assumption)) hx hy (Ta.append (TxtOf.cons TxtOf.nil)) Tb
  · refine ⟨⟨(xs.length - i) + (ys.length - (j + 1)), ?_, i, j + 1, _, _, _, _, ms, us ++ [_], _, _, _, a, b ++ [ys[j]'(by assumption)], rfl, ?_, ?_, rfl, fr_names6 (by assumption) rfl rfl rfl rfl rfl rfl, by assumption, Ta, Tb.append (TxtOf.cons TxtOf.nil), inv_gt H (by assumption) (by assumption) (by assumption) (by assumption)⟩⟩
    all_goals lia
  · refine sld_leave (by assumption) (by assumption) ?_ (by k_mem) (by k_mem) (by k_mem) (by k_mem) (by k_mem) (fun p hp => ?_) hlD1 hl2D1 an1 hD2 ?_ ?_ ⟨_, _, rfl⟩ hret
    · first | assumption | exact KtsTurn.trans (by assumption) (by assumption)
    · repeat (first | exact hp | refine List.mem_cons_of_mem _ ?_)
    · refine ltN ?_; lia
    · exact inv_end (inv_gt H (by assumption) (by assumption) (by assumption) (by assumption)) (Or.inr (by assumption)) hx hy Ta (Tb.append (TxtOf.cons TxtOf.nil))
  · refine ⟨⟨(xs.length - (i + 1)) + (ys.length - (j + 1)), ?_, i + 1, j + 1, _, _, _, _, ms, us, _, _, _, a, b, rfl, ?_, ?_, rfl, fr_names6 (by assumption) rfl rfl rfl rfl rfl rfl, by assumption, Ta, Tb, inv_eq H (by assumption) (by assumption) (by assumption) (by assumption)⟩⟩
    all_goals lia
  · refine sld_leave (by assumption) (by assumption) ?_ (by k_mem) (by k_mem) (by k_mem) (by k_mem) (by k_mem) (fun p hp => ?_) hlD1 hl2D1 an1 hD2 ?_ ?_ ⟨_, _, rfl⟩ hret
    · first | assumption | exact KtsTurn.trans (by assumption) (by assumption)
    · repeat (first | exact hp | refine List.mem_cons_of_mem _ ?_)
    · refine ltN ?_; lia
    · first
        | exact inv_end (inv_eq H (by assumption) (by assumption) (by assumption) (by assumption)) (Or.inl (by assumption)) hx hy Ta Tb
        | exact inv_end (inv_eq H (by assumption) (by assumption) (by assumption) (by assumption)) (Or.inr (by assumption)) hx hy Ta Tb
  · refine sld_leave (by assumption) (by assumption) ?_ (by k_mem) (by k_mem) (by k_mem) (by k_mem) (by k_mem) (fun p hp => ?_) hlD1 hl2D1 an1 hD2 ?_ ?_ ⟨_, _, rfl⟩ hret
    · first | assumption | exact KtsTurn.trans (by assumption) (by assumption)
    · repeat (first | exact hp | refine List.mem_cons_of_mem _ ?_)
    · refine ltN ?_; lia
    · first
        | exact inv_end (inv_eq H (by assumption) (by assumption) (by assumption) (by assumption)) (Or.inl (by assumption)) hx hy Ta Tb
        | exact inv_end (inv_eq H (by assumption) (by assumption) (by assumption) (by assumption)) (Or.inr (by assumption)) hx hy Ta Tb
  · refine sld_leave (by assumption) (by assumption) ?_ (by k_mem) (by k_mem) (by k_mem) (by k_mem) (by k_mem) (fun p hp => ?_) hlD1 hl2D1 an1 hD2 ?_ ?_ ⟨_, _, rfl⟩ hret
    · first | assumption | exact KtsTurn.trans (by assumption) (by assumption)
    · repeat (first | exact hp | refine List.mem_cons_of_mem _ ?_)
    · refine ltN ?_; lia
    · first
        | exact inv_end (inv_eq H (by assumption) (by assumption) (by assumption) (by assumption)) (Or.inl (by assumption)) hx hy Ta Tb
        | exact inv_end (inv_eq H (by assumption) (by assumption) (by assumption) (by assumption)) (Or.inr (by assumption)) hx hy Ta Tb
  · refine sld_leave (by assumption) (by assumption) ?_ (by k_mem) (by k_mem) (by k_mem) (by k_mem) (by k_mem) (fun p hp => ?_) hlD1 hl2D1 an1 hD2 ?_ ?_ ⟨_, _, rfl⟩ hret
    · first | assumption | exact KtsTurn.trans (by assumption) (by assumption)
    · repeat (first | exact hp | refine List.mem_cons_of_mem _ ?_)
    · refine ltN ?_; lia
    · first
        | exact inv_end H (Or.inl (by assumption)) hx hy Ta Tb
        | exact inv_end H (Or.inr (by assumption)) hx hy Ta Tb
  · refine sld_leave (by assumption) (by assumption) ?_ (by k_mem) (by k_mem) (by k_mem) (by k_mem) (by k_mem) (fun p hp => ?_) hlD1 hl2D1 an1 hD2 ?_ ?_ ⟨_, _, rfl⟩ hret
    · first | assumption | exact KtsTurn.trans (by assumption) (by assumption)
    · repeat (first | exact hp | refine List.mem_cons_of_mem _ ?_)
    · refine ltN ?_; lia
    · first
        | exact inv_end H (Or.inl (by assumption)) hx hy Ta Tb
        | exact inv_end H (Or.inr (by assumption)) hx hy Ta Tb
end
section
variable {prog : Program} {w : World} {A A₀ : Around} {E : Value → Shared → Prop} {s : Shared} {base h₀ : Heap} {L : Addr} {m : Str → Option Value} {news : List (Addr × Obj)} {env : Env}
noncomputable def SeqSrcX (prog : Program) (w : World) (A : Around) (L : Addr) (m : Str → Option Value) (env : Env) (elt : Expr) (x : Str) (scope : Scope) (cl : List (Str × Addr)) (Q : Value → Shared → Prop) (xv : Value) (s₁ : Shared) : Prop :=
  ∃ h₀, SeqSrc prog w A h₀ L m env elt x scope cl (fun s₂ => LCg.FinE h₀ L m s₂ Q) xv s₁
theorem comp_seqX {elt iter : Expr} {x : Str} {px : Pos} {scope : Scope} {cl : List (Str × Addr)} {pos : Pos} {Q : Value → Shared → Prop} (_F₀ : Fr h₀ L s.heap m)
    (hclos : closureFor scope env = pure cl) (hcell : ∀ y ∈ scope.names, y.2 ≠ .cell) (hkind : scope.kind = .function)
    (hnames : ∀ y ∈ scope.names, y.2 = .local → scope.names.lookup y.1 = some .local) (hx : scope.names.lookup x = some .local)
    (h : wpAny (model prog w) A (eval iter env) (SeqSrcX prog w A L m env elt x scope cl Q) E s)
    (hs : ∀ x, foldedSetIterable iter env x = pure x := by intro _; rfl) :
    wpAny (model prog w) A (eval (.ListComp elt [⟨.Name x px, iter, [], 0⟩] scope pos) env) Q E s := by
  rw [eval_ListComp]
  refine wpAny_comprehension_free (use := none) rfl hs hclos hkind hnames (wpAny_mono h (fun xv s₁ h₁ => ?_) fun _ _ e => e)
  obtain ⟨h₀, ax, T, vs, k, news, rfl, hh, hT, F, N, hm, hsz, R⟩ := h₁
  refine iter_seqU hh hT F N hm fun I fp St h' W hst hlive hSt hfp F' N' hLI hI₀ off => ?_
  refine LCg.block_U W hsz hlive hSt hcell hkind hx hst hfp F' N' hLI hI₀ off hm (R _ ⟨_, rfl⟩) ?_
  intro D C h' tk m' ys news' F' N' o1 hn hC₀ hD₀ hCL hDL hCD offC fin
  refine ⟨m', hn, fun h'' hs'' => fin D h'' tk (F'.change hs'' hCL hC₀) (fun p hp => ?_) o1⟩
  refine ⟨hs''.extBut _ _ ?_ (N' p hp).1, (N' p hp).2⟩
  rcases List.mem_cons.mp hp with rfl | hp
  · exact Ne.symm hCD
  · exact offC p hp
noncomputable def PlnSrc (prog : Program) (w : World) (A : Around) (h₀ : Heap) (L : Addr) (m : Str → Option Value) (env : Env) (elt : Expr) (x : Str) (scope : Scope) (cl : List (Str × Addr)) (R : Value → Value → Prop) (Q : Value → Shared → Prop) (xv : Value) (s₁ : Shared) : Prop :=
  ∃ ax T vs k news, xv = .ref ax ∧ (T = "list" ∨ T = "tuple") ∧ (ax, seqObj T vs k) ∈ news ∧ vs.length ≤ sizeLine ∧ Fr h₀ L s₁.heap m ∧ News h₀ L s₁.heap news ∧
      (∀ C oC v s₃ m₃ E', v ∈ vs → LCg.NsObj oC m₃ → m₃ x = some v → Fr h₀ L s₃.heap m → News h₀ L s₃.heap ((C, oC) :: news) →
        wpAny (model prog w) A (eval elt (compEnvC scope cl C env)) (fun y s₄ => R v y ∧ Keeps s₃ s₄) E' s₃) ∧
      (∀ D n ys h' tk, Fr h₀ L h' m → News h₀ L h' ((D, W.listOf (List.toArray ys) n) :: news) → LCg.Off1 D news → s₁.heap.StaysIn h' → Paired R vs ys → s₁.heap.get? D = none → Q (.ref D) { s₁ with heap := h', toks := tk })
theorem PlnSrc.is {elt : Expr} {x : Str} {scope : Scope} {cl : List (Str × Addr)} {R : Value → Value → Prop} {Q : Value → Shared → Prop} {ax : Addr} {T : String} {vs : List Value} {k : Nat}
    (F : Fr h₀ L s.heap m) (N : News h₀ L s.heap news) (hm : (ax, seqObj T vs k) ∈ news) (hT : T = "list" ∨ T = "tuple") (hz : vs.length ≤ sizeLine)
    (he : ∀ C oC v s₃ m₃ E', v ∈ vs → LCg.NsObj oC m₃ → m₃ x = some v → Fr h₀ L s₃.heap m → News h₀ L s₃.heap ((C, oC) :: news) →
        wpAny (model prog w) A (eval elt (compEnvC scope cl C env)) (fun y s₄ => R v y ∧ Keeps s₃ s₄) E' s₃)
    (hQ : ∀ D n ys h' tk, Fr h₀ L h' m → News h₀ L h' ((D, W.listOf (List.toArray ys) n) :: news) → LCg.Off1 D news → s.heap.StaysIn h' → Paired R vs ys → s.heap.get? D = none → Q (.ref D) { s with heap := h', toks := tk }) :
    PlnSrc prog w A h₀ L m env elt x scope cl R Q (.ref ax) s := ⟨ax, T, vs, k, news, rfl, hT, hm, hz, F, N, he, hQ⟩
theorem filter_tt' {α : Type} (l : List α) : l.filter (fun _ => true) = l := List.filter_eq_self.mpr fun _ _ => rfl
theorem comp_plain {elt iter : Expr} {x : Str} {px : Pos} {scope : Scope} {cl : List (Str × Addr)} {pos : Pos} {Q : Value → Shared → Prop} (R : Value → Value → Prop) (_F₀ : Fr h₀ L s.heap m)
    (hh : A.handled = none) (hclos : closureFor scope env = pure cl) (hcell : ∀ y ∈ scope.names, y.2 ≠ .cell) (hkind : scope.kind = .function)
    (hnames : ∀ y ∈ scope.names, y.2 = .local → scope.names.lookup y.1 = some .local) (hx : scope.names.lookup x = some .local)
    (h : wpAny (model prog w) A (eval iter env) (PlnSrc prog w A h₀ L m env elt x scope cl R Q) E s)
    (hs : ∀ x, foldedSetIterable iter env x = pure x := by intro _; rfl) :
    wpAny (model prog w) A (eval (.ListComp elt [⟨.Name x px, iter, [], 0⟩] scope pos) env) Q E s := by
  refine wpAny_ListComp_free (fun _ => true) R hclos hcell hkind hnames hx (wpAny_mono h (fun xv s₁ h₁ => ?_) fun _ _ e => e) hs
  obtain ⟨ax, T, vs, k, news, rfl, hT, hm, hz, F, N, helt, hQ⟩ := h₁
  have hfr : ∀ C, s₁.heap.objs.size ≤ C → C ≠ L ∧ h₀.get? C = none := fun C hC => by
    have e : s₁.heap.get? C = none := Heap.get?_none_of_le hC
    exact ⟨ne_frame F e, none_of_stays F.keep e⟩
  have hlt : ∀ p ∈ news, p.1 < s₁.heap.objs.size := fun p hp => Heap.lt_size (N p hp).1
  refine iter_seq hh hT F N hm fun I fp St h2 W hst hlive hfp F2 N2 hI hst2 hsz2 => ⟨I, fp, [I], vs.length, _, St, rfl, W, hz, hst, hfp, ⟨?_, ?_⟩, ?_⟩
  · intro C i v s₃ m₃ E' hC hP hn hmx hk _
    simp only [List.forIn_nil]
    exact wpAny_pure ⟨rfl, _, _, rfl, fun _ _ e => e⟩
  · intro C i v s₃ m₃ E' hC hP hp hn hmx hk _
    have st : s₁.heap.StaysIn s₃.heap := fun b o e => hk b o (by simp; rintro rfl; rw [hI] at e; cases e) (hst2 b o e)
    obtain ⟨oC, heC, hoC⟩ := LCg.ns_obj hn
    exact helt C oC v s₃ m₃ E' (List.mem_of_getElem? hP) hoC hmx (F.keeps st) (fun q hq => by
      rcases List.mem_cons.mp hq with rfl | hq
      · exact ⟨heC, hfr C (Nat.le_trans hsz2 hC)⟩
      · exact ⟨st _ _ (N q hq).1, (N q hq).2⟩)
  · intro D h' tk ys ws hD hlD hplD hlen hP hF hk
    have e := items_are hlen hP
    subst e
    have st : s₁.heap.StaysIn h' := fun b o e => hk b o (by simp; rintro rfl; rw [hI] at e; cases e) (hst2 b o e)
    obtain ⟨n, eD⟩ := hplD
    have hD1 : s₁.heap.get? D = none := none_of_stays hst2 hD
    rw [filter_tt'] at hF
    refine hQ D n ys.toList h' tk (F.keeps st) (fun q hq => ?_) (off1_of fun q hq e => by rw [← e, (N q hq).1] at hD1; cases hD1) st hF hD1
    · rcases List.mem_cons.mp hq with rfl | hq
      · exact ⟨by simpa using eD, ne_frame F hD1, none_of_stays F.keep hD1⟩
      · exact ⟨st _ _ (N q hq).1, (N q hq).2⟩

section
variable {loose : List Str} {mean : ExcName → Option Value} {mg mb : Str → Option Value} {led : List (Addr × Obj)} {f : Addr} {k : Nat} {vs : List Value} {Post : Value → List (Addr × Obj) → Prop}
  {dp un : Nat} {gd : Option (List Code)} {cn : Str} {ns : List (Str × NameKind)} {ig ic : Bool} {mr : List (Str × Const)} {a : Addr} {ccd : Value} {cl : List (Str × Addr)} {outer : List Env} {Q : Value → Shared → Prop}
theorem con_useXC (B : Below A₀ base outer h₀) (F : Fr h₀ L s.heap m) (X : (Mine.hd.heap_39 w.params).In base) (N : News h₀ L s.heap news) (T : Top topProg loose mean mg mb base)
    (hs : ∀ p ∈ led, p ∈ news) (hd : dp + k < recursionLimit) (hu : un + 8 * k < cLine) (C : ConX w loose mean mg mb k f led vs Post)
    (ret : ∀ (v : Value) (h' : Heap) (tk' : Nat) (h₀' : Heap) (new : List (Addr × Obj)), KtsTurn (outer.filterMap (·.frame)) h₀ h₀' → Fr h₀' L h' m → News h₀' L h' (new ++ news) → (∀ p ∈ news, ∀ q ∈ new, p.1 < q.1) → Below A₀ base outer h₀' → Post v new → Q v { s with heap := h', toks := tk' }) :
    wpAny (model PySem.Challenge.rw_ik0186_01.row.prog w) (ktrTop dp un gd cn (fnSc ns ig ic mr) L a ccd cl outer) (call (.ref f) vs) Q E s :=
  C _ _ _ _ _ _ _ _ _ _ _ _ _ _ _ _ _ _ _ _ _ B F X N hs T hd hu ret
end
end
theorem kw_r_compx_1 : True := by
  (k_with "comp seqX" => ((k_dflt (refine comp_seqX (_F₀ := by k_asm) (by rfl) (by decide) (by rfl) (by decide) (by rfl) ?_))))
  trivial
section
open PySem.StrLaws PySem.Builtin.Str
theorem first_eq : ∀ (a b x y : List Nat), 47 ∉ a → 47 ∉ b → a ++ 47 :: x = b ++ 47 :: y → a = b ∧ x = y
  | [], [], x, y, _, _, h => by simpa using h
  | [], c :: b, x, y, _, hb, h => by
    simp only [List.nil_append, List.cons_append, List.cons.injEq] at h
    exact absurd (by rw [← h.1]; exact List.mem_cons_self) hb
  | c :: a, [], x, y, ha, _, h => by
    simp only [List.nil_append, List.cons_append, List.cons.injEq] at h
    exact absurd (by rw [h.1]; exact List.mem_cons_self) ha
  | c :: a, d :: b, x, y, ha, hb, h => by
    simp only [List.cons_append, List.cons.injEq] at h
    obtain ⟨e1, e2⟩ := first_eq a b x y (fun q => ha (List.mem_cons_of_mem _ q)) (fun q => hb (List.mem_cons_of_mem _ q)) h.2
    exact ⟨by rw [h.1, e1], e2⟩
theorem join_two (a b : Str) (r : List Str) : (Str.join (Str.ofString "/") (a :: b :: r)).cps.toList = a.cps.toList ++ 47 :: (Str.join (Str.ofString "/") (b :: r)).cps.toList := by
  show (a ++ Str.ofString "/" ++ Str.join (Str.ofString "/") (b :: r)).cps.toList = _
  rw [app_list, app_list, sl_eq]; simp
theorem join_inj : ∀ A B : List Str, A ≠ [] → B ≠ [] → (∀ p ∈ A, 47 ∉ p.cps.toList) → (∀ p ∈ B, 47 ∉ p.cps.toList) → Str.join (Str.ofString "/") A = Str.join (Str.ofString "/") B → A = B
  | [], _, h, _, _, _, _ => absurd rfl h
  | _ :: _, [], _, h, _, _, _ => absurd rfl h
  | [a], [b], _, _, _, _, h => by rw [show a = b from h]
  | [a], b :: c :: r, _, _, ha, _, h => by
    have h1 := congrArg (fun x : Str => x.cps.toList) h
    simp only [join_two] at h1
    have h2 : a.cps.toList = b.cps.toList ++ 47 :: _ := h1
    exact absurd (by rw [h2]; simp) (ha a List.mem_cons_self)
  | a :: c :: r, [b], _, _, _, hb, h => by
    have h1 := congrArg (fun x : Str => x.cps.toList) h
    simp only [join_two] at h1
    have h2 : _ = b.cps.toList := h1
    exact absurd (by rw [← h2]; simp) (hb b List.mem_cons_self)
  | a :: c :: r, b :: d :: q, _, _, ha, hb, h => by
    have h1 := congrArg (fun x : Str => x.cps.toList) h
    simp only [join_two] at h1
    obtain ⟨e1, e2⟩ := first_eq _ _ _ _ (ha a List.mem_cons_self) (hb b List.mem_cons_self) h1
    rw [str_ext e1, join_inj (c :: r) (d :: q) (by simp) (by simp) (fun p hp => ha p (List.mem_cons_of_mem _ hp)) (fun p hp => hb p (List.mem_cons_of_mem _ hp)) (str_ext e2)]
theorem split_of {x : Str} {B : List Str} (hB : B ≠ []) (hf : ∀ p ∈ B, 47 ∉ p.cps.toList) (h : Str.join (Str.ofString "/") B = x) (hx : x.length ≠ 0) : Txt.split x (Str.ofString "/") = B := by
  have h1 := join_split x (Str.ofString "/")
  refine join_inj _ _ (fun e => ?_) hB ?_ hf (h1.trans h.symm)
  · rw [e] at h1
    exact hx (by rw [← h1]; rfl)
  · rw [sl_eq]; exact split_free x 47
theorem join_names : ∀ {cs : List Str}, cs ≠ [] → Str.ofString "/" ++ Str.join (Str.ofString "/") cs = pth cs
  | [], h => absurd rfl h
  | [c], _ => by show _ = Str.ofString "/" ++ c ++ Str.empty; rw [Str.append_empty]; rfl
  | c :: d :: r, _ => by
    show Str.ofString "/" ++ (c ++ Str.ofString "/" ++ Str.join (Str.ofString "/") (d :: r)) = Str.ofString "/" ++ c ++ pth (d :: r)
    rw [← join_names (cs := d :: r) (by simp)]
    simp only [Str.append_assoc]
theorem txt_join (sep : Str) (xs : List Str) : Txt.join sep xs = Str.join sep xs := by
  show Builtin.Str.glued _ _ = _
  exact StrLaws.glued_eq_join _ _
theorem shared_pth (cs : List Str) : Str.ofString "/" ++ Txt.join (Str.ofString "/") cs = pthR cs := by
  rw [txt_join]
  by_cases h : cs = []
  · subst h; rw [pthR_nil]; show Str.ofString "/" ++ Str.empty = _; rw [Str.append_empty]
  · rw [join_names h]; unfold pthR; rw [if_neg h]
theorem pth_len_ne {cs : List Str} (h : cs ≠ []) : (pth cs).length ≠ 0 := by
  obtain ⟨c, r, rfl⟩ := List.exists_cons_of_ne_nil h
  show (Str.ofString "/" ++ c ++ pth r).length ≠ 0
  rw [Str.length_append, Str.length_append, PySem.ofString_length]
  show "/".length + _ + _ ≠ 0
  have : "/".length = 1 := rfl
  lia
theorem empty_free : 47 ∉ (Str.empty).cps.toList := by simp [Str.empty]
theorem split_pth {cs : List Str} (h : cs ≠ []) (hn : ∀ c ∈ cs, Nm c) : Txt.split (pth cs) (Str.ofString "/") = Str.empty :: cs := by
  refine split_of (by simp) (fun p hp => ?_) ?_ (pth_len_ne h)
  · rcases List.mem_cons.mp hp with rfl | hp
    · exact empty_free
    · exact (hn p hp).free
  · rw [← join_names h]
    obtain ⟨c, r, rfl⟩ := List.exists_cons_of_ne_nil h
    show Str.empty ++ Str.ofString "/" ++ _ = _
    rw [Str.empty_append]
theorem dots_eq : Str.ofString "/./" = Str.ofString "/" ++ Str.ofString "." ++ Str.ofString "/" := by decide +kernel
theorem dot_free : 47 ∉ (Str.ofString ".").cps.toList := by decide +kernel
theorem split_dots {cs : List Str} (h : cs ≠ []) (hn : ∀ c ∈ cs, Nm c) : Txt.split (Str.ofString "/./" ++ pth cs) (Str.ofString "/") = Str.empty :: Str.ofString "." :: Str.empty :: cs := by
  refine split_of (by simp) (fun p hp => ?_) ?_ (by rw [Str.length_append]; have := pth_len_ne h; lia)
  · simp only [List.mem_cons] at hp
    rcases hp with rfl | rfl | rfl | hp
    · exact empty_free
    · exact dot_free
    · exact empty_free
    · exact (hn p hp).free
  · rw [← join_names h, dots_eq]
    obtain ⟨c, r, rfl⟩ := List.exists_cons_of_ne_nil h
    show Str.empty ++ Str.ofString "/" ++ (Str.ofString "." ++ Str.ofString "/" ++ (Str.empty ++ Str.ofString "/" ++ _)) = _
    rw [Str.empty_append]
    simp only [Str.append_assoc]
theorem starts_slash {x : Str} (h : x.cps.toList[0]? = some 47) : Txt.startswith x (Str.ofString "/") = true := by
  obtain ⟨h1, h2⟩ := (subAt_one x 47 0).mpr h
  unfold Txt.startswith
  rw [sl_eq, h2, Bool.and_true]
  exact decide_eq_true h1
theorem starts_pth {cs : List Str} (h : cs ≠ []) : Txt.startswith (pth cs) (Str.ofString "/") = true := by
  obtain ⟨c, r, rfl⟩ := List.exists_cons_of_ne_nil h
  refine starts_slash ?_
  show (Str.ofString "/" ++ c ++ pth r).cps.toList[0]? = _
  rw [app_list, app_list, sl_eq]; rfl
theorem starts_dots (x : Str) : Txt.startswith (Str.ofString "/./" ++ x) (Str.ofString "/") = true := by
  refine starts_slash ?_
  rw [app_list, dots_eq, app_list, app_list, sl_eq]; rfl
theorem keep_name {c : Str} (h : Nm c) : keepS c = true := by
  obtain ⟨A, z, e, hz, _⟩ := h.shape
  unfold keepS
  have h1 : (c.length == 0) = false := by rw [len_list, e]; simp
  have h2 : c ≠ Str.ofString "." := fun q => by
    rw [q] at e
    have e' : [46] = A ++ [z] := by rw [← e]; decide +kernel
    have := congrArg List.getLast? e'
    simp at this; lia
  rw [h1]; simp [h2]
theorem keep_empty : keepS Str.empty = false := rfl
theorem keep_dotS : keepS (Str.ofString ".") = false := by decide +kernel
theorem keep_names {cs : List Str} (hn : ∀ c ∈ cs, Nm c) : cs.filter keepS = cs := List.filter_eq_self.mpr fun c hc => keep_name (hn c hc)
theorem kept_x {cs : List Str} (hn : ∀ c ∈ cs, Nm c) : (Str.empty :: cs).filter keepS = cs := by
  rw [List.filter_cons_of_neg (by rw [keep_empty]; exact Bool.false_ne_true), keep_names hn]
theorem kept_y {cs : List Str} (hn : ∀ c ∈ cs, Nm c) : (Str.empty :: Str.ofString "." :: Str.empty :: cs).filter keepS = cs := by
  rw [List.filter_cons_of_neg (by rw [keep_empty]; exact Bool.false_ne_true), List.filter_cons_of_neg (by rw [keep_dotS]; exact Bool.false_ne_true), kept_x hn]
theorem comm_pre : ∀ xs ys : List Str, ∃ r, xs = comm xs ys ++ r
  | [], ys => ⟨[], by cases ys <;> rfl⟩
  | x :: xs, [] => ⟨x :: xs, rfl⟩
  | x :: xs, y :: ys => by
    unfold comm
    split
    · obtain ⟨r, e⟩ := comm_pre xs ys
      exact ⟨r, by rw [List.cons_append, ← e]⟩
    · exact ⟨x :: xs, rfl⟩
theorem line_append : ∀ (es : List Str) (ds r : List Str), lineFrom ds (es ++ r) = lineFrom ds es ++ lineFrom (ds ++ es) r
  | [], ds, r => by simp [lineFrom]
  | e :: es, ds, r => by
    show pth (ds ++ [e]) :: lineFrom (ds ++ [e]) (es ++ r) = pth (ds ++ [e]) :: (lineFrom (ds ++ [e]) es ++ _)
    rw [line_append es (ds ++ [e]) r]; simp
theorem line_snoc (cs : List Str) (c : Str) : lineOf (cs ++ [c]) = lineOf cs ++ [pth (cs ++ [c])] := by
  unfold lineOf; rw [line_append]; simp [lineFrom]
theorem line_last {cs : List Str} (h : cs ≠ []) : (lineOf cs)[cs.length - 1]? = some (pth cs) := by
  obtain ⟨ds, c, rfl⟩ : ∃ ds c, cs = ds ++ [c] := ⟨cs.dropLast, cs.getLast h, (List.dropLast_concat_getLast h).symm⟩
  rw [line_snoc]
  have : (lineOf ds).length = ds.length := lineFrom_length ds []
  simp [this]
theorem line_mem {cs ds r : List Str} (h : cs = ds ++ r) (hd : ds ≠ []) : pth ds ∈ lineOf cs := by
  subst h
  unfold lineOf
  rw [line_append]
  refine List.mem_append_left _ ?_
  exact List.mem_of_getElem? (line_last hd)
end
theorem kw_c_signs_0 : True := by
  k_with_none
  (k_with "k_room" => (ktr_room))
  (k_with "con sub" => (first | exact List.forall_mem_nil _ | k_extra "sub" | (simp only [List.forall_mem_cons]; refine ⟨?_, ?_⟩ <;> first | exact List.forall_mem_nil _ | k_mem | k_extra "con sub") | k_sub))
  (k_with "con enter" => ((refine wpAny_call ?_; (refine' code_defG (by assumption) (by assumption) (by assumption) (by assumption) (by assumption) (by exact rfl) (by exact rfl) (by exact rfl) (by k_is) (by k_is) (by k_room) (by first | exact BindsTo.of_eq rfl | exact binds_K (by k_in) rfl (by k_is) rfl rfl rfl | fail "k_enter: no rule for these arguments") (by exact locs rfl) ?_ (by exact rfl) (by exact rfl) (by exact rfl) (by decide); k_whole))))
  (k_with "con start" => ((dsimp only [Con, fnSc]; intros; rename_i hret)))
  (k_with "LeaveK" => ((k_dflt (refine' leave_con (by with_reducible assumption) (by assumption) (by k_asm) (by k_asm) (by k_extra "con sub") ?_; k_whole); intro _; (try dsimp only))))
  (k_with "con enterC" => ((refine wpAny_call ?_; (refine' enter_cells (by assumption) (by assumption) (by assumption) (by assumption) (by assumption) (by exact rfl) (by exact rfl) (by exact rfl) (by k_is) (by k_is) (by k_room) (by exact BindsTo.of_eq rfl) (by exact rfl) (by decide +kernel) ?_ (by exact rfl) (by exact rfl) (by exact rfl); k_whole))))
  (k_with "con enterR" => ((refine wpAny_call ?_; (refine' enter_rest (by assumption) (by assumption) (by assumption) (by assumption) (by assumption) (by exact rfl) (by exact rfl) (by exact rfl) (by k_is) (by k_is) (by k_room) (by exact rfl) (by exact fun _ => locs rfl) ?_ (by exact rfl) (by exact rfl) (by exact rfl) (by decide); k_whole))))
  (k_with "callWith" => ((k_here; (with_reducible show wpAny _ _ (callWith _ (Value.builtin _) (_ :: _) (backTo _ (starEach (_ :: _) _)) []) _ _ _); (with_reducible refine' callWith_method1 ?_ (by k_dflt (exact rfl)) (by k_dflt (exact rfl))))))
  (k_with "mem at" => (with_reducible (first | exact List.mem_cons_self | exact List.Mem.head _ | (refine List.mem_cons_of_mem _ ?_; k_extra "mem at") | (refine List.mem_append_left _ ?_; k_extra "mem at") | (refine List.mem_append_right _ ?_; k_extra "mem at"))))
  (k_with "mem in" => (with_reducible (first | assumption | (refine List.mem_cons_of_mem _ ?_; k_extra "mem in") | (refine List.mem_append_right _ ?_; k_extra "mem in") | (refine List.mem_append_left _ ?_; k_extra "mem in"))))
  (k_with "sub" => (with_reducible (first | exact sub_nil | exact sub_refl | (refine sub_cons ?_ ?_; (focus k_extra "mem at"); k_extra "sub") | (refine subs_app ?_ ?_; (focus k_extra "sub"); k_extra "sub") | (intro _ _; k_extra "mem in"))))
  (k_with "call builtin:issubclass" => ((k_here; (with_reducible show wpAny _ _ (call (Value.builtin "issubclass") [Value.type "str", Value.ref _]) _ _ _); refine' isc_call (by k_asm) (by k_mem) ?_; k_whole)))
  (k_with "call ref" => ((k_here; (with_reducible show wpAny _ _ (call (Value.ref 94) [Value.str _ _]) _ _ _); k_dflt (refine' con_use c_fspath (by k_asm) (by k_asm) (by k_asm) (by k_asm) (by k_asm) (by k_extra "con sub") (by ktr_room) (by ktr_units) ?_; k_whole); intro _ _ _ _ _ _ hv9w9; subst hv9w9; (try dsimp only); (try k_fold))))
  (k_with "CompEnd" => ((refine compEnd_lt (by assumption) ?_; intro l9'w9; k_lt l9'w9; lcg_end)))
  (k_with "FinE" => (((unfold LCg.FinE); intro _ _ _ _ N'w9 _; (try dsimp only [List.nil_append, List.cons_append] at N'w9); (try dsimp only))))
  (k_with "FinA" => (((unfold LCg.FinA); intro _ _ _ _ N'w9 _; (try dsimp only [List.nil_append, List.cons_append] at N'w9); (try dsimp only))))
  (k_with "lcg_off" => (first | exact True.intro | (with_reducible assumption) | (refine And.intro (by first | exact off3_at _ _ (by assumption) (by k_mem) rfl | exact ⟨by k_ne, by k_ne, by k_ne⟩) ?_; lcg_off) | (refine And.intro (by k_ne) ?_; lcg_off)))
  (k_with "SeqSrc" => ((k_here; k_dflt ((refine SeqSrc.is (by rfl) (by k_asm) (by k_asm) (by k_mem) (by first | exact Or.inl rfl | exact Or.inr rfl) (by first | size_fits | exact Nat.le_of_ble_eq_true rfl) ?_); intro _; lcg_lit))))
  (k_with "CompRest" => ((with_unfolding_all first
  | (refine LCg.CompRest.succ ?_; intro _ _ _ _ _ _ _ _ _ _ hv'w9 _ _ _ _ _ ne'w9; (replace hv'w9 := Option.some.inj hv'w9; (first | subst hv'w9 | dsimp only at hv'w9; subst hv'w9)); (replace ne'w9 : NeP _ _ _ := ne'w9))
  | refine LCg.CompRest.zero ?_)))
  (k_with "and" => ((with_reducible first | exact And.left (by assumption) | exact And.left (And.right (by assumption)) | exact And.left (And.right (And.right (by assumption))) | exact And.left (And.right (And.right (And.right (by assumption)))) | exact And.left (And.right (And.right (And.right (And.right (by assumption))))) | exact And.left (And.right (And.right (And.right (And.right (And.right (by assumption)))))) | exact And.left (And.right (And.right (And.right (And.right (And.right (And.right (by assumption))))))) | exact And.left (And.right (And.right (And.right (And.right (And.right (And.right (And.right (by assumption)))))))) | exact And.left (And.right (And.right (And.right (And.right (And.right (And.right (And.right (And.right (by assumption))))))))) | exact And.left (And.right (And.right (And.right (And.right (And.right (And.right (And.right (And.right (And.right (by assumption)))))))))) | exact And.left (And.right (And.right (And.right (And.right (And.right (And.right (And.right (And.right (And.right (And.right (by assumption))))))))))) | exact And.left (And.right (And.right (And.right (And.right (And.right (And.right (And.right (And.right (And.right (And.right (And.right (by assumption)))))))))))) | exact And.left (And.right (And.right (And.right (And.right (And.right (And.right (And.right (And.right (And.right (And.right (And.right (And.right (by assumption))))))))))))) | exact And.left (And.right (And.right (And.right (And.right (And.right (And.right (And.right (And.right (And.right (And.right (And.right (And.right (And.right (by assumption)))))))))))))) | exact And.left (And.right (And.right (And.right (And.right (And.right (And.right (And.right (And.right (And.right (And.right (And.right (And.right (And.right (And.right (by assumption))))))))))))))) | exact And.left (And.right (And.right (And.right (And.right (And.right (And.right (And.right (And.right (And.right (And.right (And.right (And.right (And.right (And.right (And.right (by assumption)))))))))))))))) | exact And.right (by assumption) | exact And.right (And.right (by assumption)) | exact And.right (And.right (And.right (by assumption))) | exact And.right (And.right (And.right (And.right (by assumption)))) | exact And.right (And.right (And.right (And.right (And.right (by assumption))))) | exact And.right (And.right (And.right (And.right (And.right (And.right (by assumption)))))) | exact And.right (And.right (And.right (And.right (And.right (And.right (And.right (by assumption))))))) | exact And.right (And.right (And.right (And.right (And.right (And.right (And.right (And.right (by assumption)))))))) | exact And.right (And.right (And.right (And.right (And.right (And.right (And.right (And.right (And.right (by assumption))))))))) | exact And.right (And.right (And.right (And.right (And.right (And.right (And.right (And.right (And.right (And.right (by assumption)))))))))) | exact And.right (And.right (And.right (And.right (And.right (And.right (And.right (And.right (And.right (And.right (And.right (by assumption))))))))))))))
  (k_with "and3" => ((with_reducible first | exact And.left (And.left (by assumption)) | exact And.left (And.right (And.left (by assumption))) | exact And.right (And.right (And.left (by assumption))) | exact And.left (And.left (And.right (by assumption))) | exact And.left (And.right (And.left (And.right (by assumption)))) | exact And.right (And.right (And.left (And.right (by assumption)))) | exact And.left (And.left (And.right (And.right (by assumption)))) | exact And.left (And.right (And.left (And.right (And.right (by assumption))))) | exact And.right (And.right (And.left (And.right (And.right (by assumption))))) | exact And.left (And.left (And.right (And.right (And.right (by assumption))))) | exact And.left (And.right (And.left (And.right (And.right (And.right (by assumption)))))) | exact And.right (And.right (And.left (And.right (And.right (And.right (by assumption)))))) | exact And.left (And.left (And.right (And.right (And.right (And.right (by assumption)))))) | exact And.left (And.right (And.left (And.right (And.right (And.right (And.right (by assumption))))))) | exact And.right (And.right (And.left (And.right (And.right (And.right (And.right (by assumption))))))) | exact And.left (And.left (And.right (And.right (And.right (And.right (And.right (by assumption))))))) | exact And.left (And.right (And.left (And.right (And.right (And.right (And.right (And.right (by assumption)))))))) | exact And.right (And.right (And.left (And.right (And.right (And.right (And.right (And.right (by assumption)))))))) | exact And.left (And.left (And.right (And.right (And.right (And.right (And.right (And.right (by assumption)))))))) | exact And.left (And.right (And.left (And.right (And.right (And.right (And.right (And.right (And.right (by assumption))))))))) | exact And.right (And.right (And.left (And.right (And.right (And.right (And.right (And.right (And.right (by assumption))))))))) | exact And.left (And.left (And.right (And.right (And.right (And.right (And.right (And.right (And.right (by assumption))))))))) | exact And.left (And.right (And.left (And.right (And.right (And.right (And.right (And.right (And.right (And.right (by assumption)))))))))) | exact And.right (And.right (And.left (And.right (And.right (And.right (And.right (And.right (And.right (And.right (by assumption)))))))))) | exact And.left (And.left (And.right (And.right (And.right (And.right (And.right (And.right (And.right (And.right (by assumption)))))))))) | exact And.left (And.right (And.left (And.right (And.right (And.right (And.right (And.right (And.right (And.right (And.right (by assumption))))))))))) | exact And.right (And.right (And.left (And.right (And.right (And.right (And.right (And.right (And.right (And.right (And.right (by assumption))))))))))))))
  (k_with "k_ne" => (first | (with_reducible assumption) | (with_reducible exact Ne.symm (by assumption)) | (refine neN ?_; (try dsimp only); first | (with_reducible assumption) | (with_reducible exact Nat.ne_of_lt (by assumption)) | (with_reducible exact Nat.ne_of_gt (by assumption)) | (with_reducible exact Nat.ne_of_lt (by k_extra "and")) | (with_reducible exact Nat.ne_of_gt (by k_extra "and")) | assumption | exact Ne.symm (by assumption) | k_extra "ne off" | (with_reducible exact Ne.symm (by k_extra "and3")) | (with_reducible k_extra "and3") | (with_reducible exact Ne.symm (by k_extra "and")) | (with_reducible k_extra "and") | lia) | assumption | exact Ne.symm (by assumption)))
  (k_with "ne off" => (first | exact off1_at (by assumption) (by k_mem) | exact Ne.symm (off1_at (by assumption) (by k_mem)) | exact neP1 (by assumption) | exact neP2 (by assumption) | exact neP3 (by assumption) | exact Ne.symm (neP1 (by assumption)) | exact Ne.symm (neP2 (by assumption)) | exact Ne.symm (neP3 (by assumption)) | exact off3_at1 (by assumption) (by k_mem) | exact off3_at2 (by assumption) (by k_mem) | exact off3_at3 (by assumption) (by k_mem) | exact Ne.symm (off3_at1 (by assumption) (by k_mem)) | exact Ne.symm (off3_at2 (by assumption) (by k_mem)) | exact Ne.symm (off3_at3 (by assumption) (by k_mem))))
  (k_with "lcg_src" => (k_mem))
  (k_with "comp seq" => ((k_dflt (refine comp_seq (_F₀ := by k_asm) (by rfl) (by decide) (by rfl) (by decide) (by rfl) ?_))))
  (k_with "assign comp seq" => ((k_dflt (refine assign_comp_seq (_F₀ := by k_asm) (by rfl) (by with_unfolding_all rfl) (by rfl) (by decide) (by rfl) (by decide) (by rfl) (by rfl) (by rfl) ?_))))
  (k_with "no comp" => (repeat' ((fail_if_success (with_reducible show wpAny _ _ (exec (Stmt.Assign [Expr.Name _ _] (Expr.ListComp _ _ _ _) _) _) _ _ _)); (fail_if_success (with_reducible show wpAny _ _ (eval (Expr.ListComp _ _ _ _) _) _ _ _)); (first | (k_unfold; (try dsimp only)) | (k_end; wrow_close) | walk1 | (dsimp only; walk1) | (leave1; walk_say "STEP leave1"; try dsimp only) | fail "no step"))))
  (k_with "str len" => (first | assumption | lia | ((simp only [Str.length_append, PySem.ofString_length] at *); lia)))
  (k_with "call ref" => ((k_here; (with_reducible show wpAny _ _ (call (Value.ref 115) [Value.str _ _, Value.str _ _]) _ _ _); k_dflt (refine' con_use (c_join (by k_extra "str len") (by k_extra "str len")) (by k_asm) (by k_asm) (by k_asm) (by k_asm) (by k_asm) (by k_extra "con sub") (by ktr_room) (by ktr_units) ?_; k_whole); intro _ _ _ _ _ _ hv9w9; obtain ⟨t9, hv9w9⟩ := hv9w9; subst hv9w9; (try dsimp only); (try k_fold))))
  (k_with "call ref" => ((k_here; (with_reducible show wpAny _ _ (call (Value.ref 122) [Value.str _ _]) _ _ _); k_dflt (refine' con_use (c_basename (by k_extra "str len")) (by k_asm) (by k_asm) (by k_asm) (by k_asm) (by k_asm) (by k_extra "con sub") (by ktr_room) (by ktr_units) ?_; k_whole); intro _ _ _ _ _ _ hv9w9; obtain ⟨t9, hv9w9⟩ := hv9w9; subst hv9w9; (try dsimp only); (try k_fold))))
  (k_with "call ref" => ((k_here; (with_reducible show wpAny _ _ (call (Value.ref 129) [Value.str _ _]) _ _ _); k_dflt (refine' con_use (c_dirname (by k_extra "str len")) (by k_asm) (by k_asm) (by k_asm) (by k_asm) (by k_asm) (by k_extra "con sub") (by ktr_room) (by ktr_units) ?_; k_whole); intro _ _ _ _ _ _ hv9w9; obtain ⟨t9, hv9w9⟩ := hv9w9; subst hv9w9; (try dsimp only); (try k_fold))))
  (k_with "binaryOp Add str str" => ((k_here; (with_reducible show wpAny _ _ (binaryOp Operator.Add (Value.str (Txt.slice _ _ _) _) (Value.str (Str.mk _) _)) _ _ _); refine PyProof.Rows.add_str ?_ (name_fits _ _); intro _ _)))
  (k_with "no while" => (repeat' ((fail_if_success (with_reducible show wpAny _ _ (exec (Stmt.While _ _ _ _) _) _ _ _)); (first | (k_unfold; (try dsimp only)) | (k_end; wrow_close) | walk1 | (dsimp only; walk1) | (leave1; walk_say "STEP leave1"; try dsimp only) | fail "no step"))))
  (k_with "size small" => (first | size_fits | ((simp only [List.length_cons, List.length_nil, List.length_append, sizeLine_eq] at *); lia)))
  (k_with "binaryOp Add ref ref" => ((k_here; (with_reducible show wpAny _ _ (binaryOp _ (Value.ref _) (Value.ref _)) _ _ _); k_dflt (refine' add_lst (by k_asm) (by k_asm) (by k_mem) (by k_mem) ?_ (by k_extra "size small")); intro _ _ _ _ l1w9; (try k_lt l1w9); (try k_sweep))))
  (k_with "no for" => (repeat' ((fail_if_success (with_reducible show wpAny _ _ (exec (Stmt.For _ _ _ _ _) _) _ _ _)); (first | (k_unfold; (try dsimp only)) | (k_end; wrow_close) | walk1 | (dsimp only; walk1) | (leave1; walk_say "STEP leave1"; try dsimp only) | fail "no step"))))
  trivial
section
variable {w : World} {loose : List Str} {mean : ExcName → Option Value} {mg mb : Str → Option Value}
theorem TxtOf.strs : ∀ {vs : List Value} {xs : List Str}, TxtOf vs xs → StrsAre vs xs
  | [], [], _ => .nil
  | [], _ :: _, h => by have := h.1; simp at this
  | _ :: _, [], h => by have := h.1; simp at this
  | v :: vs, x :: xs, h => by
    obtain ⟨t, ht⟩ := h.2 0 x rfl
    have ht' : v = .str x t := by simpa using ht
    have hr : TxtOf vs xs := ⟨by have := h.1; simpa using this, fun i y hy => by have := h.2 (i + 1) y (by simpa using hy); simpa using this⟩
    subst ht'
    exact .cons x t (TxtOf.strs hr)
theorem item_last {prog : Program} {A : Around} {E : Value → Shared → Prop} {s : Shared} {value slice : PySem.Expr} {h₀ : Heap} {L l : Addr} {news : List (Addr × Obj)} {vs : List Value} {n : Nat} {u : Tok} {v : Value} {Q : Value → Shared → Prop}
    (N : News h₀ L s.heap news) (hl : (l, W.listOf vs.toArray n) ∈ news) (hx : vs[vs.length - 1]? = some v) (h : Q v s)
    (hs : subscripted slice false (.ref l) (.int (-1) u) = operate [.ref l, .int (-1) u] (getItem (.ref l) (.int (-1) u))) :
    wpAny (model prog w) A (subscriptTail value slice (.ref l) (.int (-1) u)) Q E s := by
  have hl' : s.heap.IsList l vs.toArray := ⟨_, (N _ hl).1, rfl, n, rfl⟩
  have hp : 0 < vs.length := by
    cases vs with
    | nil => simp at hx
    | cons _ _ => simp
  refine tail_any hl'.typeIs slot_list_getitem.lookup (wpAny_getItem_list_neg hl' (by decide) (by simp; lia) (by decide) ?_ h) hs
  have e : (-1 + (vs.toArray.size : Int)).toNat = vs.length - 1 := by simp; lia
  rw [e]; simpa using hx
theorem con_post {loose : List Str} {mean : ExcName → Option Value} {mg mb : Str → Option Value} {k : Nat} {f : Addr} {led : List (Addr × Obj)} {vs : List Value} {P P' : Heap → Heap → Value → Prop} (C : Con w loose mean mg mb k f led vs P) (h : ∀ H h' v, P H h' v → P' H h' v) : Con w loose mean mg mb k f led vs P' :=
  fun dp un gd cn ns ig ic mr a ccd cl outer A₀ base h₀ L m s Q E B F X N T hd hu ret => C dp un gd cn ns ig ic mr a ccd cl outer A₀ base h₀ L m s Q E B F X N T hd hu fun v h' tk' st hp => ret v h' tk' st (h _ _ _ hp)
theorem few_free {cs : List Str} (hf : ∀ c ∈ cs, c.length ≤ 300) : ∀ c ∈ Str.empty :: cs, c.length ≤ 300 := fun c hc => by
  rcases List.mem_cons.mp hc with rfl | hc
  · exact Nat.zero_le _
  · exact hf c hc
theorem c_common2 {loose : List Str} {mean : ExcName → Option Value} {mg mb : Str → Option Value} {cs ds : List Str} {l : Addr} {n : Nat} {t u : Tok} (hc : cs ≠ []) (hd : ds ≠ []) (hnc : ∀ c ∈ cs, Nm c) (hnd : ∀ c ∈ ds, Nm c) (hcl : cs.length ≤ 100) (hdl : ds.length ≤ 100) (hcx : (pthR cs).length ≤ 4000) (hdx : (pthR ds).length ≤ 4000) (hcf : ∀ c ∈ cs, c.length ≤ 300) (hdf : ∀ c ∈ ds, c.length ≤ 300) :
    Con w loose mean mg mb 4 134 [(l, W.listOf [Value.str (pthR cs) t, Value.str (Str.ofString "/./" ++ pthR ds) u].toArray n)] [.ref l] (fun _ _ v => ∃ t', v = .str (pthR (comm cs ds)) t') := by
  have e1 : pthR cs = pth cs := if_neg hc
  have e2 : pthR ds = pth ds := if_neg hd
  have hl3 : (Str.ofString "/./").length = 3 := by rw [PySem.ofString_length]; rfl
  refine con_post (c_common (X := Str.empty :: cs) (Y := Str.empty :: Str.ofString "." :: Str.empty :: ds) (by lia) (by rw [Str.length_append, hl3]; lia) (by rw [e1]; exact split_pth hc hnc) (by rw [e2]; exact split_dots hd hnd) (by simp; lia) (by simp; lia)
    (by rw [e1]; exact starts_pth hc) (starts_dots _) (few_free hcf) (few_free fun c h => ?_)) fun _ _ v ⟨t', e⟩ => ⟨t', ?_⟩
  · rcases List.mem_cons.mp h with rfl | h
    · rw [PySem.ofString_length]; decide
    · exact few_free hdf c h
  · rw [e, kept_x hnc, kept_y hnd, shared_pth]
noncomputable def signsI (cs ds : List Str) : Int := ((pth (comm cs ds)).length : Int)
theorem signs_zero {cs ds : List Str} (h : (pthR (comm cs ds) == Str.ofString "/") = true) (hn : ∀ c ∈ comm cs ds, Nm c) : signsI cs ds = 0 := by
  have e : comm cs ds = [] := by
    apply Classical.byContradiction; intro hne
    obtain ⟨A, c, e⟩ : ∃ A c, comm cs ds = A ++ [c] := ⟨_, _, (List.dropLast_concat_getLast hne).symm⟩
    rw [e] at h
    exact pthR_ne (hn c (by rw [e]; simp)) (by simpa using h)
  unfold signsI; rw [e]; rfl
theorem kw_c_signs_1 : True := by
  (k_with "call ref" => ((k_here; (with_reducible show wpAny _ _ (call (Value.ref 134) [Value.ref _]) _ _ _); k_dflt (refine' con_useC (by k_asm) (by k_asm) (by k_asm) (by k_asm) (by k_asm) (by k_extra "con sub") (by ktr_room) (by ktr_units) (c_common2 (by assumption) (by assumption) (by assumption) (by assumption) (by assumption) (by assumption) (by assumption) (by assumption) (by assumption) (by assumption)) ?_; k_whole); intro _ _ _ _ _ _ hv9w9; obtain ⟨t9, hv9w9⟩ := hv9w9; subst hv9w9; (try dsimp only); (try k_fold))))
  (k_with "subscriptTail" => ((k_here; (with_reducible show wpAny _ _ (subscriptTail _ _ (Value.ref _) (Value.int (-1) _)) _ _ _); k_dflt (refine' item_last (by k_asm) (by k_mem) (by assumption) ?_ (by with_unfolding_all rfl); k_whole))))
  (k_with "compareOp In str ref" => ((k_here; (with_reducible show wpAny _ _ (compareOp CmpOp.In (Value.str _ _) (Value.ref _)) _ _ _); k_dflt (refine' in_list_strs (by kmk_list) (by exact TxtOf.strs (by assumption)) ?_))))
  trivial
set_option maxRecDepth 100000 in
set_option maxHeartbeats 8000000 in
theorem c_signs {cs ds : List Str} {t : Tok} (hc : cs ≠ []) (hd : ds ≠ []) (hnc : ∀ c ∈ cs, Nm c) (hnd : ∀ c ∈ ds, Nm c) (hcl : cs.length ≤ 100) (hdl : ds.length ≤ 100) (hcx : (pthR cs).length ≤ 4000) (hdx : (pthR ds).length ≤ 4000) (hcf : ∀ c ∈ cs, c.length ≤ 300) (hdf : ∀ c ∈ ds, c.length ≤ 300)
    {l : Addr} {n : Nat} {vs : List Value} (hv : TxtOf vs (lineOf cs)) : Con w loose mean mg mb 6 223 [(l, W.listOf vs.toArray n)] [.ref l, .str (pthR ds) t] (fun _ _ v => ∃ t', v = .int (signsI cs ds) t') := by
  dsimp only [Con, fnSc]
  intro dp un gd cn ns ig ic mr a ccd cl outer A₀ base h₀ L m s Q E B0 F0 X0 N0 T0 hd0 hu0 hret
  walk_at "con enter"
  intro g L' h1 FG F1 N1 B1 X1 T1 kG; (try dsimp only); (try k_lift B1); (try k_fold)
  have hlast : ∃ tl, vs[vs.length - 1]? = some (Value.str (pthR cs) tl) := by
    have e : (lineOf cs).length = cs.length := lineFrom_length cs []
    have h2 := line_last hc
    have h3 : pthR cs = pth cs := if_neg hc
    obtain ⟨tl, htl⟩ := hv.2 _ _ h2
    exact ⟨tl, by rw [hv.1, e, h3]; exact htl⟩
  obtain ⟨tl, htl⟩ := hlast
  obtain ⟨r, hr⟩ := comm_pre cs ds
  have hSL : (pthR (comm cs ds)).length ≤ 4000 := pthR_len_le hcx _ _ hr
  have hnC : ∀ c ∈ comm cs ds, Nm c := fun c hc => hnc c (by rw [hr]; exact List.mem_append_left _ hc)
  k_steps
  · have hz : (pthR (comm cs ds) == Str.ofString "/") = true := by assumption
    exact hret _ _ _ (by assumption) ⟨_, congrArg (Value.int · _) (signs_zero hz hnC).symm⟩
  · have hz : (pthR (comm cs ds) == Str.ofString "/") = false := by assumption
    have hne : comm cs ds ≠ [] := fun e => by rw [e] at hz; simp [pthR_nil] at hz
    refine hret _ _ _ (by assumption) ⟨_, congrArg (Value.int · _) ?_⟩
    unfold signsI; rw [show pthR (comm cs ds) = pth (comm cs ds) from if_neg hne]
  · exfalso
    have hz : (pthR (comm cs ds) == Str.ofString "/") = false := by assumption
    have hne : comm cs ds ≠ [] := fun e => by rw [e] at hz; simp [pthR_nil] at hz
    have hf : ((lineOf cs).any (· == pthR (comm cs ds))) = false := by assumption
    have hm := line_mem hr hne
    rw [show pthR (comm cs ds) = pth (comm cs ds) from if_neg hne] at hf
    rw [List.any_eq_false] at hf
    exact hf _ hm (by simp)
end
theorem kw_c_sides_0 : True := by
  k_with_none
  (k_with "k_room" => (ktr_room))
  (k_with "con sub" => (first | exact List.forall_mem_nil _ | k_extra "sub" | (simp only [List.forall_mem_cons]; refine ⟨?_, ?_⟩ <;> first | exact List.forall_mem_nil _ | k_mem | k_extra "con sub") | k_sub))
  (k_with "con enter" => ((refine wpAny_call ?_; (refine' code_defG (by assumption) (by assumption) (by assumption) (by assumption) (by assumption) (by exact rfl) (by exact rfl) (by exact rfl) (by k_is) (by k_is) (by k_room) (by first | exact BindsTo.of_eq rfl | exact binds_K (by k_in) rfl (by k_is) rfl rfl rfl | fail "k_enter: no rule for these arguments") (by exact locs rfl) ?_ (by exact rfl) (by exact rfl) (by exact rfl) (by decide); k_whole))))
  (k_with "con start" => ((dsimp only [Con, fnSc]; intros; rename_i hret)))
  (k_with "LeaveK" => ((k_dflt (refine' leave_con (by with_reducible assumption) (by assumption) (by k_asm) (by k_asm) (by k_extra "con sub") ?_; k_whole); intro _; (try dsimp only))))
  (k_with "con enterC" => ((refine wpAny_call ?_; (refine' enter_cells (by assumption) (by assumption) (by assumption) (by assumption) (by assumption) (by exact rfl) (by exact rfl) (by exact rfl) (by k_is) (by k_is) (by k_room) (by exact BindsTo.of_eq rfl) (by exact rfl) (by decide +kernel) ?_ (by exact rfl) (by exact rfl) (by exact rfl); k_whole))))
  (k_with "con enterR" => ((refine wpAny_call ?_; (refine' enter_rest (by assumption) (by assumption) (by assumption) (by assumption) (by assumption) (by exact rfl) (by exact rfl) (by exact rfl) (by k_is) (by k_is) (by k_room) (by exact rfl) (by exact fun _ => locs rfl) ?_ (by exact rfl) (by exact rfl) (by exact rfl) (by decide); k_whole))))
  (k_with "callWith" => ((k_here; (with_reducible show wpAny _ _ (callWith _ (Value.builtin _) (_ :: _) (backTo _ (starEach (_ :: _) _)) []) _ _ _); (with_reducible refine' callWith_method1 ?_ (by k_dflt (exact rfl)) (by k_dflt (exact rfl))))))
  (k_with "mem at" => (with_reducible (first | exact List.mem_cons_self | exact List.Mem.head _ | (refine List.mem_cons_of_mem _ ?_; k_extra "mem at") | (refine List.mem_append_left _ ?_; k_extra "mem at") | (refine List.mem_append_right _ ?_; k_extra "mem at"))))
  (k_with "mem in" => (with_reducible (first | assumption | (refine List.mem_cons_of_mem _ ?_; k_extra "mem in") | (refine List.mem_append_right _ ?_; k_extra "mem in") | (refine List.mem_append_left _ ?_; k_extra "mem in"))))
  (k_with "sub" => (with_reducible (first | exact sub_nil | exact sub_refl | (refine sub_cons ?_ ?_; (focus k_extra "mem at"); k_extra "sub") | (refine subs_app ?_ ?_; (focus k_extra "sub"); k_extra "sub") | (intro _ _; k_extra "mem in"))))
  (k_with "call builtin:issubclass" => ((k_here; (with_reducible show wpAny _ _ (call (Value.builtin "issubclass") [Value.type "str", Value.ref _]) _ _ _); refine' isc_call (by k_asm) (by k_mem) ?_; k_whole)))
  (k_with "call ref" => ((k_here; (with_reducible show wpAny _ _ (call (Value.ref 94) [Value.str _ _]) _ _ _); k_dflt (refine' con_use c_fspath (by k_asm) (by k_asm) (by k_asm) (by k_asm) (by k_asm) (by k_extra "con sub") (by ktr_room) (by ktr_units) ?_; k_whole); intro _ _ _ _ _ _ hv9w9; subst hv9w9; (try dsimp only); (try k_fold))))
  (k_with "CompEnd" => ((refine compEnd_lt (by assumption) ?_; intro l9'w9; k_lt l9'w9; lcg_end)))
  (k_with "FinE" => (((unfold LCg.FinE); intro _ _ _ _ N'w9 _; (try dsimp only [List.nil_append, List.cons_append] at N'w9); (try dsimp only))))
  (k_with "FinA" => (((unfold LCg.FinA); intro _ _ _ _ N'w9 _; (try dsimp only [List.nil_append, List.cons_append] at N'w9); (try dsimp only))))
  (k_with "lcg_off" => (first | exact True.intro | (with_reducible assumption) | (refine And.intro (by first | exact off3_at _ _ (by assumption) (by k_mem) rfl | exact ⟨by k_ne, by k_ne, by k_ne⟩) ?_; lcg_off) | (refine And.intro (by k_ne) ?_; lcg_off)))
  (k_with "SeqSrc" => ((k_here; k_dflt ((refine SeqSrc.is (by rfl) (by k_asm) (by k_asm) (by k_mem) (by first | exact Or.inl rfl | exact Or.inr rfl) (by first | size_fits | exact Nat.le_of_ble_eq_true rfl) ?_); intro _; lcg_lit))))
  (k_with "CompRest" => ((with_unfolding_all first
  | (refine LCg.CompRest.succ ?_; intro _ _ _ _ _ _ _ _ _ _ hv'w9 _ _ _ _ _ ne'w9; (replace hv'w9 := Option.some.inj hv'w9; (first | subst hv'w9 | dsimp only at hv'w9; subst hv'w9)); (replace ne'w9 : NeP _ _ _ := ne'w9))
  | refine LCg.CompRest.zero ?_)))
  (k_with "and" => ((with_reducible first | exact And.left (by assumption) | exact And.left (And.right (by assumption)) | exact And.left (And.right (And.right (by assumption))) | exact And.left (And.right (And.right (And.right (by assumption)))) | exact And.left (And.right (And.right (And.right (And.right (by assumption))))) | exact And.left (And.right (And.right (And.right (And.right (And.right (by assumption)))))) | exact And.left (And.right (And.right (And.right (And.right (And.right (And.right (by assumption))))))) | exact And.left (And.right (And.right (And.right (And.right (And.right (And.right (And.right (by assumption)))))))) | exact And.left (And.right (And.right (And.right (And.right (And.right (And.right (And.right (And.right (by assumption))))))))) | exact And.left (And.right (And.right (And.right (And.right (And.right (And.right (And.right (And.right (And.right (by assumption)))))))))) | exact And.left (And.right (And.right (And.right (And.right (And.right (And.right (And.right (And.right (And.right (And.right (by assumption))))))))))) | exact And.left (And.right (And.right (And.right (And.right (And.right (And.right (And.right (And.right (And.right (And.right (And.right (by assumption)))))))))))) | exact And.left (And.right (And.right (And.right (And.right (And.right (And.right (And.right (And.right (And.right (And.right (And.right (And.right (by assumption))))))))))))) | exact And.left (And.right (And.right (And.right (And.right (And.right (And.right (And.right (And.right (And.right (And.right (And.right (And.right (And.right (by assumption)))))))))))))) | exact And.left (And.right (And.right (And.right (And.right (And.right (And.right (And.right (And.right (And.right (And.right (And.right (And.right (And.right (And.right (by assumption))))))))))))))) | exact And.left (And.right (And.right (And.right (And.right (And.right (And.right (And.right (And.right (And.right (And.right (And.right (And.right (And.right (And.right (And.right (by assumption)))))))))))))))) | exact And.right (by assumption) | exact And.right (And.right (by assumption)) | exact And.right (And.right (And.right (by assumption))) | exact And.right (And.right (And.right (And.right (by assumption)))) | exact And.right (And.right (And.right (And.right (And.right (by assumption))))) | exact And.right (And.right (And.right (And.right (And.right (And.right (by assumption)))))) | exact And.right (And.right (And.right (And.right (And.right (And.right (And.right (by assumption))))))) | exact And.right (And.right (And.right (And.right (And.right (And.right (And.right (And.right (by assumption)))))))) | exact And.right (And.right (And.right (And.right (And.right (And.right (And.right (And.right (And.right (by assumption))))))))) | exact And.right (And.right (And.right (And.right (And.right (And.right (And.right (And.right (And.right (And.right (by assumption)))))))))) | exact And.right (And.right (And.right (And.right (And.right (And.right (And.right (And.right (And.right (And.right (And.right (by assumption))))))))))))))
  (k_with "and3" => ((with_reducible first | exact And.left (And.left (by assumption)) | exact And.left (And.right (And.left (by assumption))) | exact And.right (And.right (And.left (by assumption))) | exact And.left (And.left (And.right (by assumption))) | exact And.left (And.right (And.left (And.right (by assumption)))) | exact And.right (And.right (And.left (And.right (by assumption)))) | exact And.left (And.left (And.right (And.right (by assumption)))) | exact And.left (And.right (And.left (And.right (And.right (by assumption))))) | exact And.right (And.right (And.left (And.right (And.right (by assumption))))) | exact And.left (And.left (And.right (And.right (And.right (by assumption))))) | exact And.left (And.right (And.left (And.right (And.right (And.right (by assumption)))))) | exact And.right (And.right (And.left (And.right (And.right (And.right (by assumption)))))) | exact And.left (And.left (And.right (And.right (And.right (And.right (by assumption)))))) | exact And.left (And.right (And.left (And.right (And.right (And.right (And.right (by assumption))))))) | exact And.right (And.right (And.left (And.right (And.right (And.right (And.right (by assumption))))))) | exact And.left (And.left (And.right (And.right (And.right (And.right (And.right (by assumption))))))) | exact And.left (And.right (And.left (And.right (And.right (And.right (And.right (And.right (by assumption)))))))) | exact And.right (And.right (And.left (And.right (And.right (And.right (And.right (And.right (by assumption)))))))) | exact And.left (And.left (And.right (And.right (And.right (And.right (And.right (And.right (by assumption)))))))) | exact And.left (And.right (And.left (And.right (And.right (And.right (And.right (And.right (And.right (by assumption))))))))) | exact And.right (And.right (And.left (And.right (And.right (And.right (And.right (And.right (And.right (by assumption))))))))) | exact And.left (And.left (And.right (And.right (And.right (And.right (And.right (And.right (And.right (by assumption))))))))) | exact And.left (And.right (And.left (And.right (And.right (And.right (And.right (And.right (And.right (And.right (by assumption)))))))))) | exact And.right (And.right (And.left (And.right (And.right (And.right (And.right (And.right (And.right (And.right (by assumption)))))))))) | exact And.left (And.left (And.right (And.right (And.right (And.right (And.right (And.right (And.right (And.right (by assumption)))))))))) | exact And.left (And.right (And.left (And.right (And.right (And.right (And.right (And.right (And.right (And.right (And.right (by assumption))))))))))) | exact And.right (And.right (And.left (And.right (And.right (And.right (And.right (And.right (And.right (And.right (And.right (by assumption))))))))))))))
  (k_with "k_ne" => (first | (with_reducible assumption) | (with_reducible exact Ne.symm (by assumption)) | (refine neN ?_; (try dsimp only); first | (with_reducible assumption) | (with_reducible exact Nat.ne_of_lt (by assumption)) | (with_reducible exact Nat.ne_of_gt (by assumption)) | (with_reducible exact Nat.ne_of_lt (by k_extra "and")) | (with_reducible exact Nat.ne_of_gt (by k_extra "and")) | assumption | exact Ne.symm (by assumption) | k_extra "ne off" | (with_reducible exact Ne.symm (by k_extra "and3")) | (with_reducible k_extra "and3") | (with_reducible exact Ne.symm (by k_extra "and")) | (with_reducible k_extra "and") | lia) | assumption | exact Ne.symm (by assumption)))
  (k_with "ne off" => (first | exact off1_at (by assumption) (by k_mem) | exact Ne.symm (off1_at (by assumption) (by k_mem)) | exact neP1 (by assumption) | exact neP2 (by assumption) | exact neP3 (by assumption) | exact Ne.symm (neP1 (by assumption)) | exact Ne.symm (neP2 (by assumption)) | exact Ne.symm (neP3 (by assumption)) | exact off3_at1 (by assumption) (by k_mem) | exact off3_at2 (by assumption) (by k_mem) | exact off3_at3 (by assumption) (by k_mem) | exact Ne.symm (off3_at1 (by assumption) (by k_mem)) | exact Ne.symm (off3_at2 (by assumption) (by k_mem)) | exact Ne.symm (off3_at3 (by assumption) (by k_mem))))
  (k_with "lcg_src" => (k_mem))
  (k_with "comp seq" => ((k_dflt (refine comp_seq (_F₀ := by k_asm) (by rfl) (by decide) (by rfl) (by decide) (by rfl) ?_))))
  (k_with "assign comp seq" => ((k_dflt (refine assign_comp_seq (_F₀ := by k_asm) (by rfl) (by with_unfolding_all rfl) (by rfl) (by decide) (by rfl) (by decide) (by rfl) (by rfl) (by rfl) ?_))))
  (k_with "no comp" => (repeat' ((fail_if_success (with_reducible show wpAny _ _ (exec (Stmt.Assign [Expr.Name _ _] (Expr.ListComp _ _ _ _) _) _) _ _ _)); (fail_if_success (with_reducible show wpAny _ _ (eval (Expr.ListComp _ _ _ _) _) _ _ _)); (first | (k_unfold; (try dsimp only)) | (k_end; wrow_close) | walk1 | (dsimp only; walk1) | (leave1; walk_say "STEP leave1"; try dsimp only) | fail "no step"))))
  (k_with "str len" => (first | assumption | lia | ((simp only [Str.length_append, PySem.ofString_length] at *); lia)))
  (k_with "call ref" => ((k_here; (with_reducible show wpAny _ _ (call (Value.ref 115) [Value.str _ _, Value.str _ _]) _ _ _); k_dflt (refine' con_use (c_join (by k_extra "str len") (by k_extra "str len")) (by k_asm) (by k_asm) (by k_asm) (by k_asm) (by k_asm) (by k_extra "con sub") (by ktr_room) (by ktr_units) ?_; k_whole); intro _ _ _ _ _ _ hv9w9; obtain ⟨t9, hv9w9⟩ := hv9w9; subst hv9w9; (try dsimp only); (try k_fold))))
  (k_with "call ref" => ((k_here; (with_reducible show wpAny _ _ (call (Value.ref 122) [Value.str _ _]) _ _ _); k_dflt (refine' con_use (c_basename (by k_extra "str len")) (by k_asm) (by k_asm) (by k_asm) (by k_asm) (by k_asm) (by k_extra "con sub") (by ktr_room) (by ktr_units) ?_; k_whole); intro _ _ _ _ _ _ hv9w9; obtain ⟨t9, hv9w9⟩ := hv9w9; subst hv9w9; (try dsimp only); (try k_fold))))
  (k_with "call ref" => ((k_here; (with_reducible show wpAny _ _ (call (Value.ref 129) [Value.str _ _]) _ _ _); k_dflt (refine' con_use (c_dirname (by k_extra "str len")) (by k_asm) (by k_asm) (by k_asm) (by k_asm) (by k_asm) (by k_extra "con sub") (by ktr_room) (by ktr_units) ?_; k_whole); intro _ _ _ _ _ _ hv9w9; obtain ⟨t9, hv9w9⟩ := hv9w9; subst hv9w9; (try dsimp only); (try k_fold))))
  (k_with "binaryOp Add str str" => ((k_here; (with_reducible show wpAny _ _ (binaryOp Operator.Add (Value.str (Txt.slice _ _ _) _) (Value.str (Str.mk _) _)) _ _ _); refine PyProof.Rows.add_str ?_ (name_fits _ _); intro _ _)))
  (k_with "no while" => (repeat' ((fail_if_success (with_reducible show wpAny _ _ (exec (Stmt.While _ _ _ _) _) _ _ _)); (first | (k_unfold; (try dsimp only)) | (k_end; wrow_close) | walk1 | (dsimp only; walk1) | (leave1; walk_say "STEP leave1"; try dsimp only) | fail "no step"))))
  (k_with "size small" => (first | size_fits | ((simp only [List.length_cons, List.length_nil, List.length_append, sizeLine_eq] at *); lia)))
  (k_with "binaryOp Add ref ref" => ((k_here; (with_reducible show wpAny _ _ (binaryOp _ (Value.ref _) (Value.ref _)) _ _ _); k_dflt (refine' add_lst (by k_asm) (by k_asm) (by k_mem) (by k_mem) ?_ (by k_extra "size small")); intro _ _ _ _ l1w9; (try k_lt l1w9); (try k_sweep))))
  (k_with "comp seqX" => ((k_dflt (refine comp_seqX (_F₀ := by k_asm) (by rfl) (by decide) (by rfl) (by decide) (by rfl) ?_))))
  trivial
section
variable {w : World} {loose : List Str} {mean : ExcName → Option Value} {mg mb : Str → Option Value}
theorem kw_c_sides_1 : True := by
  (k_with "con enterT" => ((refine wpAny_call ?_; (refine' enter_turn (by assumption) (by assumption) (by assumption) (by assumption) (by assumption) (by exact rfl) (by exact rfl) (by exact rfl) (by k_is) (by k_is) (by k_room) (by first | exact BindsTo.of_eq rfl | exact binds_K (by k_in) rfl (by k_is) rfl rfl rfl | fail "k_enter: no rule for these arguments") (by exact locs rfl) ?_ (by exact rfl) (by exact rfl) (by exact rfl) (by decide); k_whole))))
  trivial
noncomputable def wtL (xs : List Str) : Int := (xs.map fun x => ((baseS x).length : Int) + 1).sum
theorem sld_sub : ∀ (k : Nat) (xs ys : List Str), xs.length + ys.length ≤ k → (∀ x ∈ (sld xs ys).1, x ∈ xs) ∧ (∀ x ∈ (sld xs ys).2, x ∈ ys)
  | _, [], ys, _ => by rw [sld_nil]; exact ⟨fun _ h => h, fun _ h => h⟩
  | _, x :: xs, [], _ => by rw [sld_nil_right]; exact ⟨fun _ h => h, fun _ h => h⟩
  | 0, x :: xs, y :: ys, h => by simp at h
  | k + 1, x :: xs, y :: ys, h => by
    rw [sld_cons]
    simp only [List.length_cons] at h
    have h1 := sld_sub k xs (y :: ys) (by simp only [List.length_cons]; lia)
    have h2 := sld_sub k (x :: xs) ys (by simp only [List.length_cons]; lia)
    have h3 := sld_sub k xs ys (by lia)
    split
    · refine ⟨fun z hz => ?_, h1.2⟩
      rcases List.mem_cons.mp hz with rfl | hz
      · exact List.mem_cons_self
      · exact List.mem_cons_of_mem _ (h1.1 z hz)
    · split
      · refine ⟨h2.1, fun z hz => ?_⟩
        rcases List.mem_cons.mp hz with rfl | hz
        · exact List.mem_cons_self
        · exact List.mem_cons_of_mem _ (h2.2 z hz)
      · exact ⟨fun z hz => List.mem_cons_of_mem _ (h3.1 z hz), fun z hz => List.mem_cons_of_mem _ (h3.2 z hz)⟩
theorem TxtOf.is : ∀ {vs : List Value} {xs : List Str}, TxtOf vs xs → ∀ v ∈ vs, ∃ x t, v = Value.str x t ∧ x ∈ xs := fun {vs xs} h v hv => by
  obtain ⟨i, hi, e⟩ := List.mem_iff_getElem.mp hv
  have hi' : i < xs.length := h.1 ▸ hi
  obtain ⟨t, ht⟩ := h.at hi'
  rw [List.getElem?_eq_getElem hi, e] at ht
  exact ⟨_, t, Option.some.inj ht, List.getElem_mem hi'⟩
theorem base_le (x : Str) : (baseS x).length ≤ x.length := Txt.slice_le _ _ _
noncomputable def WtR (v y : Value) : Prop := ∃ x t t', v = Value.str x t ∧ y = Value.int (((baseS x).length : Int) + 1) t'
theorem wt_ints : ∀ {vs : List Value} {xs : List Str} {ys : List Value}, TxtOf vs xs → Paired WtR vs ys → IntsAre ys (xs.map fun x => ((baseS x).length : Int) + 1)
  | [], [], _, _, .nil => .nil
  | [], _ :: _, _, h, _ => by have := h.1; simp at this
  | _ :: _, [], _, h, _ => by have := h.1; simp at this
  | v :: vs, x :: xs, _, h, .cons r p => by
    obtain ⟨t, ht⟩ := h.2 0 x rfl
    have ht' : v = .str x t := by simpa using ht
    have hr : TxtOf vs xs := ⟨by have := h.1; simpa using this, fun i y hy => by have := h.2 (i + 1) y (by simpa using hy); simpa using this⟩
    obtain ⟨x', t1, t2, e, rfl⟩ := r
    rw [ht'] at e; cases e
    exact .cons _ _ (wt_ints hr p)
theorem mem1 {p : Addr × Obj} {NL : List (Addr × Obj)} (h : p ∈ NL) : ∀ q ∈ [p], q ∈ NL := fun q hq => by rw [List.mem_singleton.mp hq]; exact h
theorem sub2 {p q : Addr × Obj} {news : List (Addr × Obj)} (hp : p ∈ news) (hq : q ∈ news) : ∀ x ∈ [p, q], x ∈ news := fun x hx => by
  rcases List.mem_cons.mp hx with rfl | hx
  · exact hp
  · rw [List.mem_singleton.mp hx]; exact hq
theorem kw_c_sides_2 : True := by
  (k_with "call ref" => ((k_here; (with_reducible show wpAny _ _ (call (Value.ref 176) [Value.ref _, Value.ref _]) _ _ _); k_dflt (refine' con_useXC (by k_asm) (by k_asm) (by k_asm) (by k_asm) (by k_asm) (by exact sub2 (by k_mem) (by k_mem)) (by ktr_room) (by ktr_units) (c_sld (by assumption) (by assumption) (by assumption) (by assumption) (by assumption) (by assumption)) ?_; k_whole))))
  (k_with "no call" => (repeat' ((fail_if_success (with_reducible show wpAny _ _ (call (Value.ref 176) _) _ _ _)); (first | (k_unfold; (try dsimp only)) | (k_end; wrow_close) | walk1 | (dsimp only; walk1) | (leave1; walk_say "STEP leave1"; try dsimp only) | fail "no step"))))
  trivial
set_option maxRecDepth 100000 in
set_option maxHeartbeats 8000000 in
theorem c_sides {l l2 : Addr} {n n2 : Nat} {vs ws : List Value} {xs ys : List Str} (hx : TxtOf vs xs) (hy : TxtOf ws ys) (hxa : Adj xs) (hya : Adj ys) (hxl : xs.length ≤ 100) (hyl : ys.length ≤ 100) (hxf : ∀ x ∈ xs, x.length ≤ 4000) (hyf : ∀ x ∈ ys, x.length ≤ 4000) :
    ConY w loose mean mg mb 6 228 [(l, W.listOf vs.toArray n), (l2, W.listOf ws.toArray n2)] [.ref l, .ref l2]
      (fun v new => ∃ D t1 t2 k, new = [(D, W.listOf [Value.int (wtL (sld xs ys).1) t1, Value.int (wtL (sld xs ys).2) t2].toArray k)] ∧ v = .ref D) := by
  dsimp only [ConY, fnSc]
  intro dp un gd cn ns ig ic mr a ccd cl outer A₀ base h₀ L m s Q E news B0 F0 X0 N0' hs0 T0 hd0 hu0 hret
  obtain ⟨⟨at', ot'⟩, hat, htop⟩ := exists_top (l := news) (fun e => by have := hs0 _ List.mem_cons_self; rw [e] at this; exact nomatch this)
  have hs3 : ∀ p ∈ [(l, W.listOf vs.toArray n), (l2, W.listOf ws.toArray n2), (at', ot')], p ∈ news := fun p hp => by
    simp only [List.mem_cons, List.not_mem_nil, or_false] at hp
    rcases hp with rfl | rfl | rfl
    · exact hs0 _ (by simp)
    · exact hs0 _ (by simp)
    · exact hat
  have N0 : News h₀ L s.heap [(l, W.listOf vs.toArray n), (l2, W.listOf ws.toArray n2), (at', ot')] := news_sub N0' hs3
  walk_at "con enterT"
  intro g L' h1 F1 N1 B1 X1 T1 l1 kG; (try k_lt l1); (try dsimp only); (try k_lift B1); (try k_fold)
  walk_at "no comp"
  walk_at "comp seqX"
  walk_at "no call"
  walk1
  intro v2 h2 tk2 g2 new2 Tu2 F2 N2 lt2 B2 hp2
  obtain ⟨D, D1, D2, ms, us, k1, k2, rfl, rfl, hms, hus⟩ := hp2
  dsimp only [List.cons_append, List.nil_append] at N2
  have X2 := in_turn X0 B2
  have Y2 := top_turn T0 B2
  clear F1 N1
  have hmz : ms.length ≤ sizeLine := by rw [hms.1, sizeLine_eq]; have := (sld_len _ xs ys (Nat.le_refl _)).1; lia
  have huz : us.length ≤ sizeLine := by rw [hus.1, sizeLine_eq]; have := (sld_len _ xs ys (Nat.le_refl _)).2; lia
  have hmf : ∀ x ∈ (sld xs ys).1, x.length ≤ 4000 := fun x h => hxf x ((sld_sub _ xs ys (Nat.le_refl _)).1 x h)
  have huf : ∀ x ∈ (sld xs ys).2, x.length ≤ 4000 := fun x h => hyf x ((sld_sub _ xs ys (Nat.le_refl _)).2 x h)
  refine ⟨g2, ?_⟩
  (try dsimp only)
  walk_at "no comp"
  k_dflt (refine comp_plain WtR (by k_asm) (by rfl) (by rfl) (by decide) (by rfl) (by decide) (by rfl) ?_)
  k_steps
  k_dflt (refine' PlnSrc.is ?F ?N ?mem (Or.inl rfl) ?len ?_ ?_; (case F => k_asm); (case N => k_asm); (case mem => k_mem); (case len => exact hmz))
  · intro C oC v s₃ m₃ E₃ hv hC hxc F3 N3
    obtain ⟨x, t, rfl, hxm⟩ := hms.is v hv
    have hx4 : x.length ≤ 4096 := Nat.le_trans (hmf x hxm) (by decide)
    have hb4 : (baseS x).length ≤ 4096 := Nat.le_trans (base_le x) hx4
    k_steps
    · exact ⟨x, t, _, rfl, rfl⟩
    · exact ⟨_, _, rfl, by assumption⟩
  intro D3 n3 ys3 h3 tk3 F3 N3 o3 st3 P3 _nD3
  have I3 := wt_ints hms P3
  (try dsimp only)
  walk_at "no comp"
  k_dflt (refine comp_plain WtR (by k_asm) (by rfl) (by rfl) (by decide) (by rfl) (by decide) (by rfl) ?_)
  k_steps
  k_dflt (refine' PlnSrc.is ?F ?N ?mem (Or.inl rfl) ?len ?_ ?_; (case F => k_asm); (case N => k_asm); (case mem => k_mem); (case len => exact huz))
  · intro C oC v s₃ m₃ E₃ hv hC hxc F3 N3
    obtain ⟨x, t, rfl, hxm⟩ := hus.is v hv
    have hx4 : x.length ≤ 4096 := Nat.le_trans (huf x hxm) (by decide)
    have hb4 : (baseS x).length ≤ 4096 := Nat.le_trans (base_le x) hx4
    k_steps
    · exact ⟨x, t, _, rfl, rfl⟩
    · exact ⟨_, _, rfl, by assumption⟩
  intro D4 n4 ys4 h4 tk4 F4 N4 o4 st4 P4 _nD4
  have I4 := wt_ints hus P4
  (try dsimp only)
  k_steps
  rename News g2 L' _ _ => N5
  rename LCg.Off1 _ _ => o5
  refine turn_leave (new := [(_, W.listOf [Value.int (wtL (sld xs ys).1) _, Value.int (wtL (sld xs ys).2) _].toArray _)]) B0 N0' kG hs3 rfl N5 (by assumption) Tu2 (mem1 List.mem_cons_self) (fun p hp => ?_) (fun p hp q hq => ?_) ⟨_, _, _, _, rfl, rfl⟩ ⟨_, _, rfl⟩ hret
  · simp only [List.mem_cons, List.not_mem_nil, or_false] at hp
    rcases hp with rfl | rfl | rfl <;> k_mem
  · rw [List.mem_singleton.mp hq]
    simp only [LCg.Off1, and_true] at o5
    simp only [List.mem_cons, List.not_mem_nil, or_false] at hp
    repeat (cases ‹_ ∧ _›)
    rcases hp with rfl | rfl | rfl <;> assumption
end
section
variable {w : World} {loose : List Str} {mean : ExcName → Option Value} {mg mb : Str → Option Value}
theorem news_at {h₀ h : Heap} {L a : Addr} {o : Obj} {news : List (Addr × Obj)} (N : News h₀ L h news) (hm : (a, o) ∈ news) : h.get? a = some o := (N (a, o) hm).1
theorem item_lit {prog : Program} {A : Around} {E : Value → Shared → Prop} {s : Shared} {value slice : PySem.Expr} {h₀ : Heap} {L l : Addr} {news : List (Addr × Obj)} {vs : List Value} {n : Nat} {k : Int} {u : Tok} {v : Value} {Q : Value → Shared → Prop}
    (N : News h₀ L s.heap news) (hl : (l, W.listOf vs.toArray n) ∈ news) (hx : vs[k.toNat]? = some v) (h0 : 0 ≤ k) (h1 : k < 2 ^ 63) (h : Q v s)
    (hs : subscripted slice false (.ref l) (.int k u) = operate [.ref l, .int k u] (getItem (.ref l) (.int k u))) :
    wpAny (model prog w) A (subscriptTail value slice (.ref l) (.int k u)) Q E s := by
  have hl' : s.heap.IsList l vs.toArray := ⟨_, (N _ hl).1, rfl, n, rfl⟩
  exact tail_any hl'.typeIs slot_list_getitem.lookup (wpAny_getItem_list hl' h0 h1 (by simpa using hx) h) hs
theorem kw_c_due_1 : True := by
  (k_with "subscriptTail" => ((k_here; (with_reducible show wpAny _ _ (subscriptTail _ _ (Value.ref _) (Value.int _ _)) _ _ _); k_dflt (refine' item_lit (by k_asm) (by k_mem) (by exact rfl) (by decide) (by decide) ?_ (by with_unfolding_all rfl); k_whole))))
  (k_with "subscriptTail Name BinOp ref int" => (walk_at "subscriptTail"))
  (k_with "subscriptTail Name Name ref int" => (walk_at "subscriptTail"))
  (k_with "subscriptTail Name Constant ref int" => (walk_at "subscriptTail"))
  trivial
noncomputable def dueNear (w0 w1 w2 w3 w4 : Int) : List Int := [w0, w0 * w1, w0 * w1 * w2, w0 * w1 * w2 * w3, w0 * w1 * w2 * w3 * w4]
noncomputable def dueFar (w0 w1 w2 w3 w4 : Int) : List Int := [w0, w0 * w0, -2 * (w0 + w1) * (w0 * w1), 4 * (w0 + w1 + w2) * (w0 * w1 * w2), -8 * (w0 + w1 + w2 + w3) * (w0 * w1 * w2 * w3), 16 * (w0 + w1 + w2 + w3 + w4) * (w0 * w1 * w2 * w3 * w4)]
theorem ints_cast {vs : List Value} {ns ms : List Int} (h : IntsAre vs ns) (e : ns = ms) : IntsAre vs ms := e ▸ h
inductive DueP (w0 w1 w2 w3 w4 : Int) (H h' : Heap) (v : Value) : Prop
  | mk (D n f : Addr) (kn kf : Nat) (vn vf : List Value) (e : v = .ref D) (hD : h'.get? D = some ({ cls := .type "tuple", data := .seq [Value.ref n, Value.ref f].toArray } : Obj)) (hn : h'.get? n = some (W.listOf vn.toArray kn)) (hf : h'.get? f = some (W.listOf vf.toArray kf)) (D0 : H.get? D = none) (n0 : H.get? n = none) (f0 : H.get? f = none)
    (In : IntsAre vn (dueNear w0 w1 w2 w3 w4)) (If : IntsAre vf (dueFar w0 w1 w2 w3 w4)) : DueP w0 w1 w2 w3 w4 H h' v
end
section
variable {prog : Program} {w : World} {A : Around} {E : Value → Shared → Prop} {s : Shared} {env : Env} {h₀ : Heap} {x : Str} {body : List Stmt} {Q : Flow → Shared → Prop}
theorem range_inv {r : Addr} {a₀ b₀ : Int} {t₀ u₀ v₀ : Tok} {n : Nat} {m₀ : Str → Option Value} {news : List (Addr × Obj)}
    (J : Nat → (Str → Option Value) → List (Addr × Obj) → Prop)
    (hh : A.handled = none) (hr : IsRange s.heap r a₀ b₀ 1 t₀ u₀ v₀) (hsmall : Builtin.Range.small a₀ b₀ 1 = true) (hn : Builtin.Range.rangeSize a₀ b₀ 1 = (n : Int)) (F : Fr h₀ env.locals s.heap m₀) (N : News h₀ env.locals s.heap news) (hj : J 0 m₀ news)
    (turn : ∀ i t m₁ nx h tk own, i < n → nx.map (·.1) = news.map (·.1) → OwnOff own (news.map (·.1)) → J i m₁ nx → Fr h₀ env.locals h (fun y => if y = x then some (.int (a₀ + (i : Int)) t) else m₁ y) → News h₀ env.locals h (nx ++ own) →
      wpAny (model prog w) A (execs body env) (InvPostN h₀ env.locals (J (i + 1)) own (news.map (·.1)) { s with heap := h, toks := tk } Q) E { s with heap := h, toks := tk })
    (done : ∀ m₁ nx h tk, J n m₁ nx → Fr h₀ env.locals h m₁ → News h₀ env.locals h nx → Q .next { s with heap := h, toks := tk }) :
    wpAny (model prog w) A (pyIter (.ref r)) (fun it s₂ => LoopAtV prog w A h₀ env x body Q E it s₂) E s := by
  refine wpAny_pyIter_range hr hsmall ?_
  have W : Walks prog w A s.heap.objs.size [s.heap.objs.size] [s.heap.objs.size] n (fun i v => i < n ∧ ∃ t, v = .int (a₀ + i * 1) t)
      (fun i h => IsRangeIter h s.heap.objs.size (a₀ + (i : Nat) * 1) ((n : Int) - (i : Nat)) 1) := (Walks.range hh _ a₀ 1 n).bound
  refine loop_invN J W ?_ ?_ ?_ ?_ (by show IsRangeIter _ _ _ _ _; rw [hn]; simpa using Heap.get?_push_size _ rfl) (F.push _) (fun p hp => ⟨Heap.get?_push_of_some _ (N p hp).1, (N p hp).2⟩) hj ?_ ?_
  · intro hm
    exact absurd F.ns.lt ((List.mem_singleton.mp hm) ▸ Nat.lt_irrefl _)
  · intro b hb
    rw [List.mem_singleton.mp hb]
    exact next_is_new F
  · intro p hp hI
    exact absurd (Heap.lt_size (N p hp).1) ((List.mem_singleton.mp hI) ▸ Nat.lt_irrefl _)
  · intro p hp hI
    exact absurd (Heap.lt_size (N p hp).1) ((List.mem_singleton.mp hI) ▸ Nat.lt_irrefl _)
  · rintro i v m₁ nx h tk own hi ⟨_, t, rfl⟩ ha ho hJ F' N'
    refine turn i t m₁ nx h tk own hi ha ho hJ ?_ N'
    rw [Int.mul_one] at F'; exact F'
  · exact done
theorem range_size (a b : Int) (n : Nat) (h : b - a = (n : Int)) : Builtin.Range.rangeSize a b 1 = (n : Int) := by
  unfold Builtin.Range.rangeSize
  rw [if_pos (by decide)]
  split
  · rw [Int.ediv_one]; lia
  · lia
theorem range_small (a b : Int) (n : Nat) (h : b - a = (n : Int)) (h0 : 0 ≤ a) (h1 : b ≤ 1000) : Builtin.Range.small a b 1 = true := by
  unfold Builtin.Range.small
  rw [range_size a b n h]
  unfold Builtin.Range.rangeFitsLong
  simp only [Bool.and_eq_true, Bool.or_eq_true, decide_eq_true_eq, show (1 : Int) > 0 by decide, if_true]
  lia
end
section
variable {prog : Program} {w : World} {A : Around} {E : Value → Shared → Prop} {s : Shared} {h₀ : Heap} {L : Addr} {m : Str → Option Value} {news : List (Addr × Obj)}
noncomputable def RowOf (n : Nat) (M : Nat → Int) (vs : List Value) : Prop := vs.length = n ∧ ∀ j, j < n → ∃ t, vs[j]? = some (.int (M j) t)
theorem RowOf.set {n : Nat} {M : Nat → Int} {vs : List Value} (h : RowOf n M vs) {q : Nat} {x : Int} {t : Tok} : RowOf n (fun j => if j = q then x else M j) (vs.set q (.int x t)) := by
  refine ⟨by rw [List.length_set]; exact h.1, fun j hj => ?_⟩
  by_cases e : j = q
  · subst e
    exact ⟨t, by simp [h.1, hj]⟩
  · obtain ⟨u, hu⟩ := h.2 j hj
    exact ⟨u, by rw [List.getElem?_set_ne (Ne.symm e), hu]; simp [e]⟩
theorem RowOf.congr {n : Nat} {M M' : Nat → Int} {vs : List Value} (h : RowOf n M vs) (e : ∀ j, j < n → M j = M' j) : RowOf n M' vs := ⟨h.1, fun j hj => by rw [← e j hj]; exact h.2 j hj⟩
structure MatL (n : Nat) (as : List Addr) (M : Nat → Nat → Int) (rl : List (Addr × Obj)) : Prop where
  adr : rl.map (·.1) = as
  row : ∀ i, i < as.length → ∃ a vs k, rl[i]? = some (a, W.listOf vs.toArray k) ∧ as[i]? = some a ∧ RowOf n (M i) vs
theorem MatL.congr {n : Nat} {as : List Addr} {M M' : Nat → Nat → Int} {rl : List (Addr × Obj)} (h : MatL n as M rl) (e : ∀ i j, i < as.length → j < n → M i j = M' i j) : MatL n as M' rl :=
  ⟨h.adr, fun i hi => by
    obtain ⟨a, vs, k, h1, h2, h3⟩ := h.row i hi
    exact ⟨a, vs, k, h1, h2, h3.congr fun j hj => e i j hi hj⟩⟩
theorem MatL.set {n : Nat} {as : List Addr} {M : Nat → Nat → Int} {rl : List (Addr × Obj)} (h : MatL n as M rl) {p q : Nat} {a : Addr} {vs : List Value} {k : Nat} {x : Int} {t : Tok} (h1 : rl[p]? = some (a, W.listOf vs.toArray k)) (h3 : RowOf n (M p) vs) :
    MatL n as (fun i j => if i = p ∧ j = q then x else M i j) (rl.set p (a, W.listOf (vs.set q (.int x t)).toArray k)) := by
  have hp : p < rl.length := (List.getElem?_eq_some_iff.mp h1).1
  have he : rl[p] = (a, W.listOf vs.toArray k) := (List.getElem?_eq_some_iff.mp h1).2
  refine ⟨?_, fun i hi => ?_⟩
  · rw [← h.adr, List.map_set]
    apply List.ext_getElem?
    intro i
    by_cases e : i = p
    · subst e; simp [hp, he]
    · rw [List.getElem?_set_ne (Ne.symm e)]
  · obtain ⟨b, ws, k', g1, g2, g3⟩ := h.row i hi
    by_cases e : i = p
    · subst e
      rw [h1] at g1
      cases g1
      refine ⟨a, vs.set q (.int x t), k, by simp [hp], g2, ?_⟩
      have := RowOf.set (q := q) (x := x) (t := t) h3
      refine this.congr fun j hj => ?_
      by_cases e2 : j = q <;> simp [e2]
    · exact ⟨b, ws, k', by rw [List.getElem?_set_ne (Ne.symm e)]; exact g1, g2, g3.congr fun j hj => by simp [e]⟩
theorem row_get {value slice : PySem.Expr} {R : Addr} {kR n i : Nat} {as : List Addr} {M : Nat → Nat → Int} {rl : List (Addr × Obj)} {u : Tok} {Q : Value → Shared → Prop}
    (N : News h₀ L s.heap news) (hR : (R, W.listOf (as.map Value.ref).toArray kR) ∈ news) (hM : MatL n as M rl) (hi : i < as.length) (hz : as.length ≤ 100)
    (h : ∀ a vs k, rl[i]? = some (a, W.listOf vs.toArray k) → RowOf n (M i) vs → Q (.ref a) s)
    (hs : subscripted slice false (.ref R) (.int (i : Int) u) = operate [.ref R, .int (i : Int) u] (getItem (.ref R) (.int (i : Int) u))) :
    wpAny (model prog w) A (subscriptTail value slice (.ref R) (.int (i : Int) u)) Q E s := by
  obtain ⟨a, vs, k, h1, h2, h3⟩ := hM.row i hi
  have hl' : s.heap.IsList R (as.map Value.ref).toArray := ⟨_, (N _ hR).1, rfl, kR, rfl⟩
  exact tail_any hl'.typeIs slot_list_getitem.lookup (wpAny_getItem_list hl' (by lia) (by lia) (by simp [h2]) (h a vs k h1 h3)) hs
theorem cell_get {value slice : PySem.Expr} {a : Addr} {n j k : Nat} {M : Nat → Int} {vs : List Value} {u : Tok} {Q : Value → Shared → Prop}
    (N : News h₀ L s.heap news) (ha : (a, W.listOf vs.toArray k) ∈ news) (hM : RowOf n M vs) (hj : j < n) (hz : n ≤ 100) (h : ∀ t, Q (.int (M j) t) s)
    (hs : subscripted slice false (.ref a) (.int (j : Int) u) = operate [.ref a, .int (j : Int) u] (getItem (.ref a) (.int (j : Int) u))) :
    wpAny (model prog w) A (subscriptTail value slice (.ref a) (.int (j : Int) u)) Q E s := by
  obtain ⟨t, ht⟩ := hM.2 j hj
  have hl' : s.heap.IsList a vs.toArray := ⟨_, (N _ ha).1, rfl, k, rfl⟩
  exact tail_any hl'.typeIs slot_list_getitem.lookup (wpAny_getItem_list hl' (by lia) (by lia) (by simpa using ht) (h t)) hs
theorem cell_set {a : Addr} {q k : Nat} {vs : List Value} {u : Tok} {v : Value} {Q : Unit → Shared → Prop} (F : Fr h₀ L s.heap m) (N : News h₀ L s.heap news) (ha : (a, W.listOf vs.toArray k) ∈ news) (hq : q < vs.length) (hz : vs.length ≤ 100)
    (h : ∀ h', Fr h₀ L h' m → (∀ news', (∀ p ∈ news', p = (a, W.listOf (vs.set q v).toArray k) ∨ (p ∈ news ∧ p.1 ≠ a)) → News h₀ L h' news') → Q () { s with heap := h' }) :
    wpAny (model prog w) A (setItem (.ref a) (.int (q : Int) u) v) Q E s := by
  have z := N _ ha
  refine ki_setAt z.1 (by lia) (by lia) (by simp; lia) (h _ (F.change (Heap.SameBut.update ..) z.2.1 z.2.2) fun news' hn p hp => ?_)
  rcases hn p hp with rfl | ⟨h1, h2⟩
  · refine ⟨?_, z.2⟩
    refine (Heap.get?_update_self _ z.1 (by simp [Obj.isFreed, Obj.mapSeq])).trans ?_
    simp [W.listOf, Obj.mapSeq]
  · exact ⟨(Heap.get?_update_other _ _ (Ne.symm h2)).trans (N p h1).1, (N p h1).2⟩
theorem RowOf.room {n : Nat} {M : Nat → Int} {vs : List Value} (h : RowOf n M vs) (hn : n ≤ 100 := by decide) : vs.toArray.size ≤ sizeLine := by rw [List.size_toArray, h.1, sizeLine_eq]; lia
theorem RowOf.snoc {n : Nat} {M : Nat → Int} {vs : List Value} {x : Int} {t : Tok} (h : RowOf n M vs) (e : M n = x) : RowOf (n + 1) M (vs ++ [.int x t]) := by
  refine ⟨by simp [h.1], fun j hj => ?_⟩
  by_cases hj' : j < n
  · obtain ⟨u, hu⟩ := h.2 j hj'
    exact ⟨u, by rw [List.getElem?_append_left (by rw [h.1]; exact hj')]; exact hu⟩
  · obtain rfl : j = n := by lia
    exact ⟨t, by rw [List.getElem?_append_right (by rw [h.1]; exact Nat.le_refl _), h.1, e]; simp⟩
theorem RowOf.ints : ∀ {n : Nat} {M : Nat → Int} {vs : List Value}, RowOf n M vs → IntsAre vs ((List.range n).map M)
  | 0, M, vs, h => by
    have : vs = [] := List.length_eq_zero_iff.mp h.1
    subst this; exact .nil
  | n + 1, M, vs, h => by
    obtain ⟨t, ht⟩ := h.2 0 (Nat.succ_pos n)
    cases vs with
    | nil => simp at ht
    | cons v vs =>
      obtain rfl : v = .int (M 0) t := by simpa using ht
      rw [List.range_succ_eq_map, List.map_cons, List.map_map]
      refine .cons _ _ (RowOf.ints ⟨by have := h.1; simpa using this, fun j hj => ?_⟩)
      obtain ⟨u, hu⟩ := h.2 (j + 1) (by lia)
      exact ⟨u, by simpa using hu⟩
theorem len_refs {R : Addr} {kR n : Nat} {as : List Addr} {Q : Value → Shared → Prop} (N : News h₀ L s.heap news) (hR : (R, W.listOf (as.map Value.ref).toArray kR) ∈ news) (hn : as.length = n) (hz : as.length ≤ 100)
    (h : Q (.int (n : Int) (s.toks + 1)) { s with toks := s.toks + 1 + 1 }) : wpAny (model prog w) A (call (.builtin "len") [.ref R]) Q E s := by
  have hl' : s.heap.IsList R (as.map Value.ref).toArray := ⟨_, (N _ hR).1, rfl, kR, rfl⟩
  have hs : (as.map Value.ref).toArray.size = n := by simp [hn]
  refine PySem.Calls.call_len_list hl' (by rw [hs]; lia) ?_
  rw [hs]; exact h
structure MinI (n : Nat) (as : List Addr) (R Mn : Addr) (kR : Nat) (rest : List (Addr × Obj)) (M : Nat → Nat → Int) (c : Nat) (mn : Nat → Int) (nx : List (Addr × Obj)) : Prop where
  ex : ∃ rl mv km, nx = (R, W.listOf (as.map Value.ref).toArray kR) :: (Mn, W.listOf (List.toArray mv) km) :: (rl ++ rest) ∧ MatL n as M rl ∧ RowOf c mn mv
end
section
variable {prog : Program} {w : World} {A : Around} {E : Value → Shared → Prop} {s : Shared} {h₀ : Heap} {L : Addr} {m : Str → Option Value} {news : List (Addr × Obj)} {env : Env}
noncomputable abbrev cellObj (v : Option Value) : Obj := { cls := .type "cell", data := .cell v }
noncomputable def RowIs (G : Value → List Value → Prop) (v : Value) (p : Addr × Obj) : Prop := ∃ its n, p.2 = W.listOf (List.toArray its) n ∧ G v its
noncomputable def RowNew (G : Value → List Value → Prop) (s₃ : Shared) (v y : Value) (s₄ : Shared) : Prop := ∃ T its n, y = .ref T ∧ s₃.heap.get? T = none ∧ s₄.heap.get? T = some (W.listOf (List.toArray its) n) ∧ G v its
noncomputable def CellSrc (prog : Program) (w : World) (A : Around) (h₀ : Heap) (L : Addr) (m : Str → Option Value) (env : Env) (elt : Expr) (x : Str) (scope : Scope) (cl : List (Str × Addr)) (G : Value → List Value → Prop) (Q : Value → Shared → Prop) (xv : Value) (s₁ : Shared) : Prop :=
  ∃ ax T vs k news, xv = .ref ax ∧ (T = "list" ∨ T = "tuple") ∧ (ax, seqObj T vs k) ∈ news ∧ vs.length ≤ sizeLine ∧ Fr h₀ L s₁.heap m ∧ News h₀ L s₁.heap news ∧
    (∀ C c oC m₃ v s₃ E', v ∈ vs → LCg.NsObj oC m₃ → Fr h₀ L s₃.heap m → News h₀ L s₃.heap ((c, cellObj (some v)) :: (C, oC) :: news) →
      wpAny (model prog w) A (eval elt (compEnvC scope ((x, c) :: cl) C env)) (fun y s₄ => RowNew G s₃ v y s₄ ∧ Keeps s₃ s₄) E' s₃) ∧
    (∀ D n ys h' tk rows, Fr h₀ L h' m → News h₀ L h' ((D, W.listOf (List.toArray ys) n) :: (rows ++ news)) → s₁.heap.StaysIn h' → s₁.heap.get? D = none → (∀ p ∈ rows, s₁.heap.get? p.1 = none ∧ p.1 ≠ D) → rows.Pairwise (fun p q => p.1 ≠ q.1) →
      ys = rows.map (fun p => Value.ref p.1) → Paired (RowIs G) vs rows → Q (.ref D) { s₁ with heap := h', toks := tk })
theorem CellSrc.is {elt : Expr} {x : Str} {scope : Scope} {cl : List (Str × Addr)} {G : Value → List Value → Prop} {Q : Value → Shared → Prop} {ax : Addr} {T : String} {vs : List Value} {k : Nat}
    (F : Fr h₀ L s.heap m) (N : News h₀ L s.heap news) (hm : (ax, seqObj T vs k) ∈ news) (hT : T = "list" ∨ T = "tuple") (hz : vs.length ≤ sizeLine)
    (he : ∀ C c oC m₃ v s₃ E', v ∈ vs → LCg.NsObj oC m₃ → Fr h₀ L s₃.heap m → News h₀ L s₃.heap ((c, cellObj (some v)) :: (C, oC) :: news) →
      wpAny (model prog w) A (eval elt (compEnvC scope ((x, c) :: cl) C env)) (fun y s₄ => RowNew G s₃ v y s₄ ∧ Keeps s₃ s₄) E' s₃)
    (hQ : ∀ D n ys h' tk rows, Fr h₀ L h' m → News h₀ L h' ((D, W.listOf (List.toArray ys) n) :: (rows ++ news)) → s.heap.StaysIn h' → s.heap.get? D = none → (∀ p ∈ rows, s.heap.get? p.1 = none ∧ p.1 ≠ D) → rows.Pairwise (fun p q => p.1 ≠ q.1) →
      ys = rows.map (fun p => Value.ref p.1) → Paired (RowIs G) vs rows → Q (.ref D) { s with heap := h', toks := tk }) :
    CellSrc prog w A h₀ L m env elt x scope cl G Q (.ref ax) s := ⟨ax, T, vs, k, news, rfl, hT, hm, hz, F, N, he, hQ⟩
theorem get_none {h : Heap} {a : Addr} (ha : h.objs.size ≤ a) : h.get? a = none := Heap.get?_none_of_le ha
theorem list_take_snoc {α : Type} {l : List α} {i : Nat} {v : α} (e : l[i]? = some v) : l.take (i + 1) = l.take i ++ [v] := by
  rw [List.take_add_one, e]; rfl
theorem new_fun_env1 {M : Model} {scope : Scope} {globals : Addr} {cl : List (Str × Addr)} {qual : Str} {x : Str} {Q : Env → Shared → Prop}
    (hc1 : ∀ k, cellsFrom k scope.names cl = (x, k) :: cl) (hc2 : ∀ h, pushCells h scope.names = h.push (cellObj none))
    (h : Q { scope, locals := s.heap.objs.size, globals, cells := (x, s.heap.objs.size + 1) :: cl, qual, func := none, code := env.code, frame := env.frame, builtins := env.builtins } { s with heap := (s.heap.push { cls := .type "dict", data := .dict #[] }).push (cellObj none) }) :
    wpAny M A (newFunctionEnv scope globals cl [] qual none .none (some env)) Q E s := by
  simp only [newFunctionEnv, Option.isSome_some, if_true]
  refine wpAny_bind (wpAny_alloc ?_)
  refine wpAny_bind (wpAny_layCells _ (fun name kind cells => by cases hkc : kind == NameKind.cell <;> simp) _ _ _ _ ?_)
  rw [hc1, hc2, show ({ s with heap := s.heap.push { cls := .type "dict", data := .dict #[] } } : Shared).heap.objs.size = s.heap.objs.size + 1 from Heap.size_push ..]
  rw [List.forIn_nil]
  exact wpAny_bind (wpAny_pure (wpAny_pure h))
theorem store_cell {env : Env} {name : Str} {c : Addr} {v₀ : Option Value} {v : Value} {M : Model} {Q : Unit → Shared → Prop} (hk : env.scope.kind = .function) (hl : env.kindOf name = some .cell)
    (hc : env.cells.lookup name = some c) (hv : s.heap.get? c = some (cellObj v₀))
    (h : ∀ h', h'.get? c = some (cellObj (some v)) → Heap.SameBut c s.heap h' → Q () { s with heap := h' }) : wpAny M A (storeName env name v) Q E s := by
  unfold storeName
  simp only [hl, hk]
  refine wpAny_bind (wpAny_cellOf hc ?_)
  unfold cellSet
  refine wpAny_bind (wpAny_load hv ?_)
  exact wpAny_update hv (h _ (Heap.get?_update_self _ hv rfl) (Heap.SameBut.update ..))
inductive CellI (s₁ : Shared) (h₀ : Heap) (L : Addr) (m : Str → Option Value) (St : Nat → Heap → Prop) (C D I : Addr) (h2 : Heap) (vs : List Value) (G : Value → List Value → Prop) (k : Nat) (s' : Shared) : Prop
  | mk (h' : Heap) (tk i : Nat) (ys : List Value) (m' : Str → Option Value) (rows : List (Addr × Obj)) (cv : Option Value) (e : s' = { s₁ with heap := h', toks := tk }) (hi : i ≤ vs.length) (hk : k = vs.length + 1 - i) (hz : St i h') (F : Fr h₀ L h' m) (hn : h'.Ns C m') (hc : h'.get? (C + 1) = some (cellObj cv)) (hD : h'.get? D = some (LCg.lst ys))
    (low : ∀ b o, b < D → b ≠ I → h2.get? b = some o → h'.get? b = some o) (hr : ∀ p ∈ rows, h'.get? p.1 = some p.2 ∧ p.1 ≠ I ∧ p.1 ≠ D ∧ p.1 ≠ C ∧ p.1 ≠ C + 1 ∧ s₁.heap.get? p.1 = none ∧ h₀.get? p.1 = none ∧ p.1 ≠ L) (pw : rows.Pairwise (fun p q => p.1 ≠ q.1)) (hys : ys = rows.map (fun p => Value.ref p.1)) (hP : Paired (RowIs G) (vs.take i) rows) : CellI s₁ h₀ L m St C D I h2 vs G k s'
theorem comp_cell {elt iter : Expr} {x : Str} {px : Pos} {scope : Scope} {cl : List (Str × Addr)} {pos : Pos} {Q : Value → Shared → Prop} (G : Value → List Value → Prop) (_F₀ : Fr h₀ L s.heap m)
    (hh : A.handled = none) (hclos : closureFor scope env = pure cl) (hkind : scope.kind = .function)
    (hnames : ∀ y ∈ scope.names, y.2 = .local → scope.names.lookup y.1 = some .local) (hx : (relabel scope env).names.lookup x = some .cell)
    (hc1 : ∀ k, cellsFrom k scope.names cl = (x, k) :: cl) (hc2 : ∀ h, pushCells h scope.names = h.push (cellObj none))
    (h : wpAny (model prog w) A (eval iter env) (CellSrc prog w A h₀ L m env elt x scope cl G Q) E s)
    (hs : ∀ x, foldedSetIterable iter env x = pure x := by intro _; rfl) :
    wpAny (model prog w) A (eval (.ListComp elt [⟨.Name x px, iter, [], 0⟩] scope pos) env) Q E s := by
  rw [eval_ListComp]
  refine wpAny_comprehension_free (use := none) rfl hs hclos hkind hnames (wpAny_mono h (fun xv s₁ h₁ => ?_) fun _ _ e => e)
  obtain ⟨ax, T, vs, k, news, rfl, hT, hm, hsz, F, N, helt, hQ⟩ := h₁
  refine iter_seq hh hT F N hm fun I fp St h2 Wk hst hlive hfp F2 N2 hI hst2 hsz2 => ?_
  refine wpAny_newObj_type (new_fun_env1 hc1 hc2 ?_)
  dsimp only
  generalize hH2 : h2.push { cls := .type "list", dict := none, data := .seq ([] : List Value).toArray } = H2
  have hD : H2.objs.size = h2.objs.size + 1 := by rw [← hH2, Heap.size_push]
  generalize hH3 : (H2.push { cls := .type "dict", data := .dict #[] }).push (cellObj none) = H3
  have hH3s : H3.objs.size = H2.objs.size + 2 := by rw [← hH3, Heap.size_push, Heap.size_push]
  have old : ∀ b o, h2.get? b = some o → H3.get? b = some o := fun b o e => by rw [← hH3]; exact Heap.get?_push_of_some _ (Heap.get?_push_of_some _ (hH2 ▸ Heap.get?_push_of_some _ e))
  have gD : H3.get? h2.objs.size = some (LCg.lst []) := by rw [← hH3]; exact Heap.get?_push_of_some _ (Heap.get?_push_of_some _ (hH2 ▸ Heap.get?_push_size _ rfl))
  have nC : H3.Ns H2.objs.size (fun _ => none) := by
    have z := (Heap.Ns.new H2 (.type "dict")).keeps (h' := H3) (fun b o e => by rw [← hH3]; exact Heap.get?_push_of_some _ e)
    exact z
  have gc : H3.get? (H2.objs.size + 1) = some (cellObj none) := by
    rw [← hH3, ← Heap.size_push H2 { cls := .type "dict", data := .dict #[] }]; exact Heap.get?_push_size _ rfl
  generalize eD : h2.objs.size = D at *
  generalize eC : H2.objs.size = C at *
  have hlow : ∀ b o, h2.get? b = some o → b < D := fun b o e => by rw [← eD]; exact Heap.lt_size e
  have fr₀ : ∀ a, D ≤ a → h₀.get? a = none ∧ a ≠ L ∧ s₁.heap.get? a = none := fun a ha => by
    have e2 : h2.get? a = none := get_none (by rw [eD]; exact ha)
    exact ⟨none_of_stays F2.keep e2, ne_frame F2 e2, none_of_stays hst2 e2⟩
  have hIf : I ∈ fp := Wk.sub I (List.mem_singleton.mpr rfl)
  have hID : I < D := hfp I hIf
  have hfpD : ∀ b, D ≤ b → b ∉ fp := fun b hb hm => Nat.lt_irrefl _ (Nat.lt_of_lt_of_le (hfp b hm) hb)
  have hDC : D < C := by rw [hD]; exact Nat.lt_succ_self _
  have hCc : C < C + 1 := Nat.lt_succ_self _
  have loop : ∀ s₃ : Shared, (∃ tk, s₃ = { s₁ with heap := H3, toks := tk }) →
      codeAny (model prog w) A (.compLoop (.ListComp elt [⟨.Name x px, iter, [], 0⟩] scope pos) 0 (.ref I) (.ref D) (compEnvC scope ((x, C + 1) :: cl) C env))
        (compPost (model prog w) A E none Q (.ref D) C) s₃ := by
    rintro s₃ ⟨tk₀, rfl⟩
    refine codeAny_compLoop_tests
      (CellI s₁ h₀ L m St C D I h2 vs G) ?_ (vs.length + 1)
      ⟨H3, tk₀, 0, [], _, [], none, rfl, Nat.zero_le _, rfl, Wk.frame _ _ _ hst fun b _ o e => old b o e, F2.keeps old, nC, gc, gD, fun b o _ _ e => old b o e, (fun p hp => by cases hp), List.Pairwise.nil, rfl, (by simpa using Paired.nil)⟩
    rintro k' s' ⟨h', tk, i, ys, m', rows, cv, rfl, hi, rfl, hst', F', hn', hc', hD', hlow', hrows, hpw, hys, hP⟩
    have hNI : ∀ hx : Heap, (∀ b o, b < D → b ≠ I → h2.get? b = some o → hx.get? b = some o) → News h₀ L hx news := fun hx hk p hp => by
      have z := N2 p hp
      refine ⟨hk _ _ (hlow _ _ z.1) ?_ z.1, z.2⟩
      rintro e
      have y := (N p hp).1
      rw [e, hI] at y; cases y
    have hIL : L ≠ I := fun e => by obtain ⟨_, _, _, y, _⟩ := F.ns; rw [e, hI] at y; cases y
    have hI₀ : h₀.get? I = none := none_of_stays F.keep hI
    have hIr : ∀ b, D ≤ b → b ∉ [I] := fun b hb hm => by rw [List.mem_singleton] at hm; subst hm; exact Nat.lt_irrefl _ (Nat.lt_of_lt_of_le hID hb)
    by_cases hlt : i < vs.length
    · refine Wk.item i _ _ _ hlt hst' fun v h₂ tk₂ hPv hst₂ hk₂ => ?_
      have hc₂ : h₂.get? (C + 1) = some (cellObj cv) := hk₂ _ _ (hIr _ (Nat.le_of_lt (Nat.lt_succ_of_lt hDC))) hc'
      refine wpAny_assign_Name (store_cell (c := C + 1) (v₀ := cv) (by simp [compEnvC, relabel, hkind]) hx (by simp [compEnvC]) hc₂ fun h₃ hoc hs₃ => ?_)
      refine wpAny_tests_nil ?_
      simp only [if_true]
      have hCc' : C ≠ C + 1 := Nat.ne_of_lt hCc
      have hDc' : D ≠ C + 1 := Nat.ne_of_lt (Nat.lt_trans hDC hCc)
      have hIc' : I ≠ C + 1 := Nat.ne_of_lt (Nat.lt_trans hID (Nat.lt_trans hDC hCc))
      have up₃ : ∀ b o, b ≠ C + 1 → b ≠ I → h'.get? b = some o → h₃.get? b = some o := fun b o h1 h2 e => hs₃.extBut b o h1 (hk₂ b o (by simpa using h2) e)
      have low₃ : ∀ b o, b < D → b ≠ I → h2.get? b = some o → h₃.get? b = some o := fun b o h1 h2 e => up₃ b o (Nat.ne_of_lt (Nat.lt_trans h1 (Nat.lt_trans hDC hCc))) h2 (hlow' b o h1 h2 e)
      have hst₃ : St (i + 1) h₃ := Wk.frame _ _ _ hst₂ fun b hb o e => hs₃.extBut b o (fun q => hfpD (C + 1) (Nat.le_of_lt (Nat.lt_trans hDC hCc)) (q ▸ hb)) e
      have hn₃ : h₃.Ns C m' := hn'.at' fun o e => up₃ _ o hCc' (Ne.symm (Nat.ne_of_lt (Nat.lt_trans hID hDC))) e
      obtain ⟨oC, heC, hoC⟩ := LCg.ns_obj hn₃
      have F₃ : Fr h₀ L h₃ m := (LCg.fr_but F' hk₂ hIL hI₀).change hs₃ (fr₀ _ (Nat.le_of_lt (Nat.lt_trans hDC hCc))).2.1 (fr₀ _ (Nat.le_of_lt (Nat.lt_trans hDC hCc))).1
      have N₃ : News h₀ L h₃ ((C + 1, cellObj (some v)) :: (C, oC) :: news) := fun p hp => by
        rcases List.mem_cons.mp hp with rfl | hp
        · exact ⟨hoc, (fr₀ _ (Nat.le_of_lt (Nat.lt_trans hDC hCc))).2.1, (fr₀ _ (Nat.le_of_lt (Nat.lt_trans hDC hCc))).1⟩
        · rcases List.mem_cons.mp hp with rfl | hp
          · exact ⟨heC, (fr₀ _ (Nat.le_of_lt hDC)).2.1, (fr₀ _ (Nat.le_of_lt hDC)).1⟩
          · exact hNI h₃ low₃ p hp
      have hvm : v ∈ vs := List.mem_of_getElem? hPv
      refine wpAny_mono (helt C (C + 1) oC m' v { s₁ with heap := h₃, toks := _ } _ hvm hoC F₃ N₃) (fun y s₄ h₄ => ?_) fun _ _ e => e
      obtain ⟨⟨T', its, n', rfl, hT₃, hT₄, hG⟩, h₄, tk₄, rfl, hk₄⟩ := h₄
      have hD₃ : h₃.get? D = some (LCg.lst ys) := up₃ _ _ hDc' (Ne.symm (Nat.ne_of_lt hID)) hD'
      have hTx : T' ≠ I ∧ T' ≠ D ∧ T' ≠ C ∧ T' ≠ C + 1 ∧ s₁.heap.get? T' = none ∧ h₀.get? T' = none ∧ T' ≠ L := by
        have hTI : T' ≠ I := by rintro rfl; obtain ⟨o, e⟩ := hlive _ _ hst₃; exact absurd rfl (ne_of_none_some hT₃ e)
        refine ⟨hTI, ne_of_none_some hT₃ hD₃, ne_of_none_some hT₃ heC, ne_of_none_some hT₃ hoc, ?_, none_of_stays F₃.keep hT₃, ne_frame F₃ hT₃⟩
        cases e : s₁.heap.get? T' with
        | none => rfl
        | some o => exact absurd rfl (ne_of_none_some hT₃ (low₃ _ _ (hlow _ _ (hst2 _ _ e)) hTI (hst2 _ _ e)))
      have hyl : ys.length = i := by rw [hys, List.length_map, ← hP.length, List.length_take]; exact Nat.min_eq_left hi
      refine append_at (hsz := by show ys.toArray.size ≤ sizeLine; rw [List.size_toArray, hyl]; exact Nat.le_trans hi hsz) (hk₄ _ _ hD₃) fun h₅ hs₅ hD₅ => ?_
      refine ⟨vs.length + 1 - (i + 1), by lia, h₅, tk₄, i + 1, ys ++ [.ref T'], m', rows ++ [(T', W.listOf (List.toArray its) n')], some v, rfl, hlt, rfl, Wk.frame _ _ _ hst₃ fun b hb o e => hs₅.extBut b o (fun q => hfpD D (Nat.le_refl _) (q ▸ hb)) (hk₄ b o e), ?_, ?_, ?_, ?_, ?_, ?_, ?_, ?_, ?_⟩
      · exact (F₃.keeps hk₄).change hs₅ (fr₀ _ (Nat.le_refl _)).2.1 (fr₀ _ (Nat.le_refl _)).1
      · exact (hn₃.keeps hk₄).sameBut hs₅ (Nat.ne_of_gt hDC)
      · exact hs₅.extBut _ _ (Ne.symm hDc') (hk₄ _ _ hoc)
      · exact hD₅.trans (congrArg some (LCg.lst_snoc ys _))
      · exact fun b o h1 h2 e => hs₅.extBut _ _ (Nat.ne_of_lt h1) (hk₄ _ _ (low₃ b o h1 h2 e))
      · intro p hp
        rcases List.mem_append.mp hp with hp | hp
        · have z := hrows p hp
          exact ⟨hs₅.extBut _ _ z.2.2.1 (hk₄ _ _ (up₃ _ _ z.2.2.2.2.1 z.2.1 z.1)), z.2⟩
        · rw [List.mem_singleton] at hp; subst hp
          exact ⟨hs₅.extBut _ _ hTx.2.1 hT₄, hTx⟩
      · refine List.pairwise_append.mpr ⟨hpw, List.pairwise_singleton _ _, fun p hp q hq => ?_⟩
        rw [List.mem_singleton] at hq; subst hq
        intro e
        have z := hrows p hp
        have y := up₃ _ _ z.2.2.2.2.1 z.2.1 z.1
        have e' : p.1 = T' := e
        rw [e', hT₃] at y; cases y
      · rw [List.map_append, ← hys]; rfl
      · rw [list_take_snoc hPv]
        exact Paired.snoc hP ⟨its, n', rfl, hG⟩
    · obtain rfl : i = vs.length := Nat.le_antisymm hi (Nat.not_lt.mp hlt)
      refine Wk.done _ _ _ hst' fun h₂ tk₂ hk₂ => ?_
      have hnC : ∀ b o, D ≤ b → h'.get? b = some o → h₂.get? b = some o := fun b o hb e => hk₂ b o (hIr b hb) e
      refine ⟨m', hn'.at' fun o e => hnC _ o (Nat.le_of_lt hDC) e, fun h'' hs'' => ?_⟩
      have F₂' : Fr h₀ L h'' m := (LCg.fr_but F' hk₂ hIL hI₀).change hs'' (fr₀ _ (Nat.le_of_lt hDC)).2.1 (fr₀ _ (Nat.le_of_lt hDC)).1
      have low'' : ∀ b o, b < D → b ≠ I → h2.get? b = some o → h''.get? b = some o := fun b o h1 h2 e => hs''.extBut _ _ (Nat.ne_of_lt (Nat.lt_trans h1 hDC)) (hk₂ _ _ (by simpa using h2) (hlow' b o h1 h2 e))
      refine hQ D ys.length ys h'' _ rows F₂' (fun p hp => ?_) (fun b o e => ?_) (fr₀ D (Nat.le_refl _)).2.2 (fun p hp => ⟨(hrows p hp).2.2.2.2.2.1, (hrows p hp).2.2.1⟩) hpw hys (by rw [List.take_length] at hP; exact hP)
      · rcases List.mem_cons.mp hp with rfl | hp
        · exact ⟨hs''.extBut _ _ (Nat.ne_of_lt hDC) (hnC _ _ (Nat.le_refl _) hD'), (fr₀ D (Nat.le_refl _)).2.1, (fr₀ D (Nat.le_refl _)).1⟩
        · rcases List.mem_append.mp hp with hp | hp
          · have z := hrows p hp
            exact ⟨hs''.extBut _ _ z.2.2.2.1 (hk₂ _ _ (by simpa using z.2.1) z.1), z.2.2.2.2.2.2.2, z.2.2.2.2.2.2.1⟩
          · exact hNI h'' low'' p hp
      · exact low'' b o (hlow _ _ (hst2 _ _ e)) (by rintro rfl; rw [hI] at e; cases e) (hst2 _ _ e)
  refine codeAny_compStart_list ?_ (Wk.self 0 _ _ _ (Wk.frame _ _ _ hst fun b _ o e => old b o e) ?_)
  · exact loop _ ⟨_, rfl⟩
  · exact loop _ ⟨_, rfl⟩
end
section
noncomputable def mnT (T : Nat → Nat → Nat → Int) : Nat → Int
  | 0 => 1
  | k + 1 => T k k k
noncomputable def curT (T : Nat → Nat → Nat → Int) (k : Nat) (i j : Nat) : Int := T (min k (min i j)) i j
noncomputable def curQ (T : Nat → Nat → Nat → Int) (k p q : Nat) (i j : Nat) : Int := if i < p ∨ (i = p ∧ j < q) then curT T (k + 1) i j else curT T k i j
theorem curQ_start (T : Nat → Nat → Nat → Int) (k : Nat) (i j : Nat) : curQ T k (k + 1) 0 i j = curT T k i j := by
  unfold curQ
  split
  · rename_i h
    have : min i j ≤ k := by lia
    unfold curT
    rw [show min (k + 1) (min i j) = min k (min i j) by lia]
  · rfl
theorem curQ_row (T : Nat → Nat → Nat → Int) (k p : Nat) (i j : Nat) : curQ T k p (k + 1) i j = curQ T k p 0 i j := by
  unfold curQ
  by_cases h1 : i < p
  · rw [if_pos (Or.inl h1), if_pos (Or.inl h1)]
  · by_cases h2 : i = p ∧ j < k + 1
    · rw [if_pos (Or.inr h2), if_neg (by lia)]
      unfold curT
      rw [show min (k + 1) (min i j) = min k (min i j) by lia]
    · rw [if_neg (by lia), if_neg (by lia)]
theorem curQ_next (T : Nat → Nat → Nat → Int) (n k p : Nat) (i j : Nat) (hj : j < n) : curQ T k p n i j = curQ T k (p + 1) 0 i j := by
  unfold curQ
  by_cases h : i < p ∨ (i = p ∧ j < n)
  · rw [if_pos h, if_pos (by lia)]
  · rw [if_neg h, if_neg (by lia)]
theorem curQ_end (T : Nat → Nat → Nat → Int) (n k : Nat) (i j : Nat) (hi : i < n) : curQ T k n 0 i j = curT T (k + 1) i j := by
  unfold curQ; rw [if_pos (Or.inl hi)]
theorem curQ_set {T : Nat → Nat → Nat → Int} {k p q : Nat} {x : Int} (hp : k < p) (hq : k < q) (hx : x = T (k + 1) p q) (i j : Nat) : (if i = p ∧ j = q then x else curQ T k p q i j) = curQ T k p (q + 1) i j := by
  unfold curQ
  by_cases h : i = p ∧ j = q
  · rw [if_pos h, if_pos (by lia), hx, h.1, h.2]
    unfold curT
    rw [show min (k + 1) (min p q) = k + 1 by lia]
  · rw [if_neg h]
    by_cases h2 : i < p ∨ (i = p ∧ j < q)
    · rw [if_pos h2, if_pos (by lia)]
    · rw [if_neg h2, if_neg (by lia)]
theorem curQ_pq {T : Nat → Nat → Nat → Int} {k p q : Nat} (hp : k < p) (hq : k < q) : curQ T k p q p q = T k p q := by
  unfold curQ; rw [if_neg (by lia)]; unfold curT; rw [show min k (min p q) = k by lia]
theorem curQ_kk {T : Nat → Nat → Nat → Int} {k p q : Nat} (hp : k < p) : curQ T k p q k k = T k k k := by
  unfold curQ; rw [if_pos (by lia)]; unfold curT; rw [show min (k + 1) (min k k) = k by lia]
theorem curQ_pk {T : Nat → Nat → Nat → Int} {k p q : Nat} (hp : k < p) (hq : k < q) : curQ T k p q p k = T k p k := by
  unfold curQ; rw [if_pos (by lia)]; unfold curT; rw [show min (k + 1) (min p k) = k by lia]
theorem curQ_kq {T : Nat → Nat → Nat → Int} {k p q : Nat} (hp : k < p) (hq : k < q) : curQ T k p q k q = T k k q := by
  unfold curQ; rw [if_pos (by lia)]; unfold curT; rw [show min (k + 1) (min k q) = k by lia]
theorem curT_kk (T : Nat → Nat → Nat → Int) (k : Nat) : curT T k k k = T k k k := by unfold curT; rw [show min k (min k k) = k by lia]
theorem corners (T : Nat → Nat → Nat → Int) (n : Nat) : ((List.range (n + 1)).map (mnT T)).drop 1 = (List.range n).map fun k => T k k k := by
  rw [List.range_succ_eq_map, List.map_cons, List.map_map, List.drop_one, List.tail_cons]; rfl
theorem mnT_small {T : Nat → Nat → Nat → Int} {n : Nat} (hB : ∀ k i j, k < n → i < n → j < n → -(2 ^ 29) ≤ T k i j ∧ T k i j ≤ 2 ^ 29) {k : Nat} (hk : k < n) : (mnT T k).natAbs < 1073741824 := by
  cases k with
  | zero => show (1 : Int).natAbs < _; decide
  | succ k =>
    have := hB k k k (by lia) (by lia) (by lia)
    show (T k k k).natAbs < _
    lia
structure MinS (n : Nat) (g : Heap) (L : Addr) (h : Heap) (M : Nat → Nat → Int) (led : List (Addr × Obj)) (R Mn : Addr) (as : List Addr) (kR : Nat) (rl rest : List (Addr × Obj)) (mv : List Value) (km : Nat) (m0 : Str → Option Value) : Prop where
  len : as.length = n
  fr : Fr g L h (fun y => if y = Str.ofString "rows" then some (Value.ref R) else if y = Str.ofString "minors" then some (Value.ref Mn) else m0 y)
  ns : News g L h ((R, W.listOf (as.map Value.ref).toArray kR) :: (Mn, W.listOf mv.toArray km) :: (rl ++ rest))
  mat : MatL n as M rl
  one : RowOf 1 (fun _ => 1) mv
  nd : as.Nodup
  offR : R ∉ as
  offM : Mn ∉ as
  rm : R ≠ Mn
  off : ∀ p ∈ rest, p.1 ∉ as ∧ p.1 ≠ R ∧ p.1 ≠ Mn
  led : ∀ p ∈ led, p ∈ rest
noncomputable def chainL : List (Str × Value) → (Str → Option Value) → Str → Option Value
  | [], M => M
  | (x, v) :: l, M => fun y => if y = x then some v else chainL l M y
theorem chainL_eq : ∀ (l : List (Str × Value)) (M : Str → Option Value), (∀ p ∈ l, M p.1 = some p.2) → ∀ y, M y = chainL l M y
  | [], _, _, _ => rfl
  | (x, v) :: l, M, h, y => by
    unfold chainL
    by_cases e : y = x
    · subst e; rw [if_pos rfl]; exact h (y, v) List.mem_cons_self
    · rw [if_neg e]; exact chainL_eq l M (fun p hp => h p (List.mem_cons_of_mem _ hp)) y
theorem frL {h₀ h : Heap} {L : Addr} {M : Str → Option Value} (l : List (Str × Value)) (F : Fr h₀ L h M) (hl : ∀ p ∈ l, M p.1 = some p.2) : Fr h₀ L h (chainL l M) := fr_eq F (chainL_eq l M hl)
theorem all2 {P : Str × Value → Prop} {a b : Str × Value} (h1 : P a) (h2 : P b) : ∀ p ∈ [a, b], P p := fun p hp => by
  simp only [List.mem_cons, List.not_mem_nil, or_false] at hp
  rcases hp with rfl | rfl <;> assumption
theorem all3 {P : Str × Value → Prop} {a b c : Str × Value} (h1 : P a) (h2 : P b) (h3 : P c) : ∀ p ∈ [a, b, c], P p := fun p hp => by
  simp only [List.mem_cons, List.not_mem_nil, or_false] at hp
  rcases hp with rfl | rfl | rfl <;> assumption
theorem all4 {P : Str × Value → Prop} {a b c d : Str × Value} (h1 : P a) (h2 : P b) (h3 : P c) (h4 : P d) : ∀ p ∈ [a, b, c, d], P p := fun p hp => by
  simp only [List.mem_cons, List.not_mem_nil, or_false] at hp
  rcases hp with rfl | rfl | rfl | rfl <;> assumption
theorem all5 {P : Str × Value → Prop} {a b c d e : Str × Value} (h1 : P a) (h2 : P b) (h3 : P c) (h4 : P d) (h5 : P e) : ∀ p ∈ [a, b, c, d, e], P p := fun p hp => by
  simp only [List.mem_cons, List.not_mem_nil, or_false] at hp
  rcases hp with rfl | rfl | rfl | rfl | rfl <;> assumption
theorem off_rest {R Mn : Addr} {as : List Addr} {rl rest own : List (Addr × Obj)} (hrl : rl.map (·.1) = as) (hM : Mn ∉ as) (hoff : ∀ p ∈ rest, p.1 ∉ as ∧ p.1 ≠ R ∧ p.1 ≠ Mn) (hown : ∀ p ∈ own, p.1 ≠ Mn) : ∀ p ∈ rl ++ (rest ++ own), p.1 ≠ Mn := fun p hp => by
  rcases List.mem_append.mp hp with hp | hp
  · intro e; exact hM (by rw [← hrl, ← e]; exact List.mem_map_of_mem hp)
  · rcases List.mem_append.mp hp with hp | hp
    · exact (hoff p hp).2.2
    · exact hown p hp
theorem off_own {R Mn : Addr} {as adr : List Addr} {rest own : List (Addr × Obj)} (hoff : ∀ p ∈ rest, p.1 ∉ as ∧ p.1 ≠ R ∧ p.1 ≠ Mn) (hown : OwnOff own adr) (h1 : ∀ a ∈ as, a ∈ adr) (h2 : R ∈ adr) (h3 : Mn ∈ adr) : ∀ p ∈ rest ++ own, p.1 ∉ as ∧ p.1 ≠ R ∧ p.1 ≠ Mn := fun p hp => by
  rcases List.mem_append.mp hp with hp | hp
  · exact hoff p hp
  · exact ⟨fun q => hown p hp _ (h1 _ q) rfl, hown p hp _ h2, hown p hp _ h3⟩
theorem mat_news {n p : Nat} {R Mn a : Addr} {oR oM o o' : Obj} {as : List Addr} {M : Nat → Nat → Int} {rl rest : List (Addr × Obj)} (hM : MatL n as M rl) (nd : as.Nodup) (hR : R ∉ as) (hMn : Mn ∉ as) (hoff : ∀ x ∈ rest, x.1 ∉ as) (hp : rl[p]? = some (a, o)) :
    ∀ x ∈ (R, oR) :: (Mn, oM) :: (rl.set p (a, o') ++ rest), x = (a, o') ∨ (x ∈ (R, oR) :: (Mn, oM) :: (rl ++ rest) ∧ x.1 ≠ a) := by
  have hpl : p < rl.length := (List.getElem?_eq_some_iff.mp hp).1
  have hpe : rl[p] = (a, o) := (List.getElem?_eq_some_iff.mp hp).2
  have ha : a ∈ as := by rw [← hM.adr]; exact List.mem_map.mpr ⟨(a, o), List.mem_of_getElem? hp, rfl⟩
  intro x hx
  rcases List.mem_cons.mp hx with rfl | hx
  · exact .inr ⟨List.mem_cons_self, fun e => hR (by rw [show R = a from e]; exact ha)⟩
  · rcases List.mem_cons.mp hx with rfl | hx
    · exact .inr ⟨List.mem_cons_of_mem _ List.mem_cons_self, fun e => hMn (by rw [show Mn = a from e]; exact ha)⟩
    · rcases List.mem_append.mp hx with hx | hx
      · obtain ⟨i, hi, he⟩ := List.mem_iff_getElem.mp hx
        rw [List.length_set] at hi
        rw [List.getElem_set] at he
        by_cases e : p = i
        · rw [if_pos e] at he; exact .inl he.symm
        · rw [if_neg e] at he
          refine .inr ⟨List.mem_cons_of_mem _ (List.mem_cons_of_mem _ (List.mem_append_left _ (he ▸ List.getElem_mem hi))), fun q => e ?_⟩
          have nd' : (rl.map (·.1)).Nodup := hM.adr ▸ nd
          refine (List.getElem_inj nd' (i := p) (j := i) (h₀ := by simpa using hpl) (h₁ := by simpa using hi)).mp ?_
          simp only [List.getElem_map, hpe, he, q]
      · exact .inr ⟨List.mem_cons_of_mem _ (List.mem_cons_of_mem _ (List.mem_append_right _ hx)), fun e => hoff x hx (by rw [show x.1 = a from e]; exact ha)⟩
theorem adr_app {R Mn : Addr} {oM oM' oR : Obj} {as : List Addr} {n : Nat} {M M' : Nat → Nat → Int} {rl rl' rest : List (Addr × Obj)} (h : MatL n as M rl) (h' : MatL n as M' rl') : ((R, oR) :: (Mn, oM) :: (rl ++ rest)).map (·.1) = ((R, oR) :: (Mn, oM') :: (rl' ++ rest)).map (·.1) := by
  simp [h.adr, h'.adr]
end
section
variable {prog : Program} {w : World} {A : Around} {E : Value → Shared → Prop} {s : Shared} {h₀ : Heap} {L : Addr} {m : Str → Option Value} {news : List (Addr × Obj)} {env : Env}
structure RowsAre (G : Nat → List Value → Prop) (n : Nat) (ys : List Value) (rows : List (Addr × Obj)) : Prop where
  len : rows.length = n
  refs : ys = rows.map (fun p => Value.ref p.1)
  row : ∀ i p, rows[i]? = some p → ∃ zs k, p.2 = W.listOf (List.toArray zs) k ∧ G i zs
theorem RowsAre.nil {G : Nat → List Value → Prop} : RowsAre G 0 [] [] := ⟨rfl, rfl, fun i p h => by simp at h⟩
theorem RowsAre.snoc {G : Nat → List Value → Prop} {n : Nat} {ys : List Value} {rows : List (Addr × Obj)} {a : Addr} {zs : List Value} {k : Nat} (h : RowsAre G n ys rows) (hz : G n zs) : RowsAre G (n + 1) (ys ++ [Value.ref a]) (rows ++ [(a, W.listOf zs.toArray k)]) := by
  refine ⟨by simp [h.len], by rw [h.refs]; simp, fun i p hp => ?_⟩
  by_cases hi : i < rows.length
  · rw [List.getElem?_append_left hi] at hp
    exact h.row i p hp
  · rw [List.getElem?_append_right (by lia)] at hp
    have : i - rows.length = 0 := by
      apply Classical.byContradiction; intro hne
      rw [List.getElem?_eq_none (by simp; lia)] at hp; cases hp
    rw [this] at hp
    cases hp
    have e : i = n := by have := h.len; lia
    subst e
    exact ⟨zs, k, rfl, hz⟩
inductive RowAt (G : Nat → List Value → Prop) (ys : List Value) (rows : List (Addr × Obj)) (i : Nat) : Prop
  | mk (a : Addr) (zs : List Value) (k : Nat) (h1 : rows[i]? = some (a, W.listOf (List.toArray zs) k)) (h2 : ys[i]? = some (.ref a)) (h3 : G i zs) : RowAt G ys rows i
theorem RowsAre.at {G : Nat → List Value → Prop} {n : Nat} {ys : List Value} {rows : List (Addr × Obj)} (h : RowsAre G n ys rows) {i : Nat} (hi : i < n) : RowAt G ys rows i := by
  have hl : i < rows.length := by rw [h.len]; exact hi
  obtain ⟨zs, k, e, g⟩ := h.row i rows[i] (List.getElem?_eq_getElem hl)
  refine ⟨rows[i].1, zs, k, ?_, ?_, g⟩
  · rw [List.getElem?_eq_getElem hl]; exact congrArg some (Prod.ext rfl e)
  · rw [h.refs, List.getElem?_map, List.getElem?_eq_getElem hl]; rfl
noncomputable def Apart (rows news : List (Addr × Obj)) : Prop := ∀ p ∈ rows, ∀ q ∈ news, p.1 ≠ q.1
theorem off3_app {I C D : Addr} : ∀ {l l' : List (Addr × Obj)}, LCg.Off3 I C D l → LCg.Off3 I C D l' → LCg.Off3 I C D (l ++ l')
  | [], _, _, h => h
  | _ :: _, _, ⟨a, b⟩, h => ⟨a, off3_app b h⟩
noncomputable def RowEnd (h₀ : Heap) (L : Addr) (m : Str → Option Value) (s₁ : Shared) (I : Addr) (oI : Obj) (C : Addr) (oC : Obj) (D : Addr) (oD : Obj) (G : List Value → Prop) (all : List (Addr × Obj)) (y : Value) (s₂ : Shared) : Prop :=
  ∃ h' tk a zs k, s₂ = { s₁ with heap := h', toks := tk } ∧ y = .ref a ∧ G zs ∧ Fr h₀ L h' m ∧ News h₀ L h' ((a, W.listOf (List.toArray zs) k) :: (I, oI) :: (C, oC) :: (D, oD) :: all) ∧ a ≠ I ∧ a ≠ C ∧ a ≠ D ∧ ∀ p ∈ all, p.1 ≠ a
theorem nd_snoc {rows : List (Addr × Obj)} {a : Addr} {o : Obj} (h : (rows.map (·.1)).Nodup) (hn : ∀ p ∈ rows, p.1 ≠ a) : ((rows ++ [(a, o)]).map (·.1)).Nodup := by
  rw [List.map_append]
  refine List.nodup_append.mpr ⟨h, by simp, fun x hx y hy e => ?_⟩
  obtain ⟨p, hp, rfl⟩ := List.mem_map.mp hx
  simp only [List.map_cons, List.map_nil, List.mem_singleton] at hy
  exact hn p hp (e.trans hy)
theorem row_end2 {h' : Heap} {s₁ : Shared} {I C D a : Addr} {oI oC oD : Obj} {G : List Value → Prop} {all : List (Addr × Obj)} {zs : List Value} {k tk : Nat} (F' : Fr h₀ L h' m) (N' : News h₀ L h' ((a, W.listOf (List.toArray zs) k) :: (I, oI) :: (C, oC) :: (D, oD) :: all))
    (hn : ∀ p ∈ (I, oI) :: (C, oC) :: (D, oD) :: all, p.1 ≠ a) (hG : G zs) : RowEnd h₀ L m s₁ I oI C oC D oD G all (.ref a) { s₁ with heap := h', toks := tk } :=
  ⟨h', tk, a, zs, k, rfl, rfl, hG, F', N', Ne.symm (hn (I, oI) (by simp)), Ne.symm (hn (C, oC) (by simp)), Ne.symm (hn (D, oD) (by simp)), fun p hp => hn p (by simp [hp])⟩
noncomputable def RowSrc (prog : Program) (w : World) (A : Around) (h₀ : Heap) (L : Addr) (m : Str → Option Value) (env : Env) (elt : Expr) (x : Str) (scope : Scope) (cl : List (Str × Addr)) (G : Nat → List Value → Prop) (Q : Value → Shared → Prop) (xv : Value) (s₁ : Shared) : Prop :=
  ∃ ax T vs k news, xv = .ref ax ∧ A.handled = none ∧ (T = "list" ∨ T = "tuple") ∧ (ax, seqObj T vs k) ∈ news ∧ vs.length ≤ sizeLine ∧ Fr h₀ L s₁.heap m ∧ News h₀ L s₁.heap news ∧
    (∀ i v I oI C oC D oD m₂ h tk E' rows, vs[i]? = some v → LCg.NsObj oC m₂ → m₂ x = some v → Fr h₀ L h m → News h₀ L h ((I, oI) :: (C, oC) :: (D, oD) :: (news ++ rows)) → LCg.Off3 I C D (news ++ rows) → ((@Ne Nat I C) ∧ (@Ne Nat I D) ∧ (@Ne Nat C D)) →
      wpAny (model prog w) A (eval elt (compEnvC scope cl C env)) (RowEnd h₀ L m { s₁ with heap := h, toks := tk } I oI C oC D oD (G i) (news ++ rows)) E' { s₁ with heap := h, toks := tk }) ∧
    (∀ D h' tk ys kD rows, Fr h₀ L h' m → News h₀ L h' ((D, W.listOf (List.toArray ys) kD) :: (news ++ rows)) → RowsAre G vs.length ys rows → (rows.map (·.1)).Nodup → Apart rows news → LCg.Off1 D (news ++ rows) → Q (.ref D) { s₁ with heap := h', toks := tk })
theorem RowSrc.is {elt : Expr} {x : Str} {scope : Scope} {cl : List (Str × Addr)} {G : Nat → List Value → Prop} {Q : Value → Shared → Prop} {ax : Addr} {T : String} {vs : List Value} {k : Nat}
    (hh : A.handled = none) (F : Fr h₀ L s.heap m) (N : News h₀ L s.heap news) (hm : (ax, seqObj T vs k) ∈ news) (hT : T = "list" ∨ T = "tuple") (hz : vs.length ≤ sizeLine)
    (he : ∀ i v I oI C oC D oD m₂ h tk E' rows, vs[i]? = some v → LCg.NsObj oC m₂ → m₂ x = some v → Fr h₀ L h m → News h₀ L h ((I, oI) :: (C, oC) :: (D, oD) :: (news ++ rows)) → LCg.Off3 I C D (news ++ rows) → ((@Ne Nat I C) ∧ (@Ne Nat I D) ∧ (@Ne Nat C D)) →
      wpAny (model prog w) A (eval elt (compEnvC scope cl C env)) (RowEnd h₀ L m { s with heap := h, toks := tk } I oI C oC D oD (G i) (news ++ rows)) E' { s with heap := h, toks := tk })
    (hQ : ∀ D h' tk ys kD rows, Fr h₀ L h' m → News h₀ L h' ((D, W.listOf (List.toArray ys) kD) :: (news ++ rows)) → RowsAre G vs.length ys rows → (rows.map (·.1)).Nodup → Apart rows news → LCg.Off1 D (news ++ rows) → Q (.ref D) { s with heap := h', toks := tk }) :
    RowSrc prog w A h₀ L m env elt x scope cl G Q (.ref ax) s := ⟨ax, T, vs, k, news, rfl, hh, hT, hm, hz, F, N, he, hQ⟩
theorem comp_rows {elt iter : Expr} {x : Str} {px : Pos} {scope : Scope} {cl : List (Str × Addr)} {pos : Pos} {Q : Value → Shared → Prop} (G : Nat → List Value → Prop) (_F₀ : Fr h₀ L s.heap m)
    (hclos : closureFor scope env = pure cl) (hcell : ∀ y ∈ scope.names, y.2 ≠ .cell) (hkind : scope.kind = .function)
    (hnames : ∀ y ∈ scope.names, y.2 = .local → scope.names.lookup y.1 = some .local) (hx : scope.names.lookup x = some .local)
    (h : wpAny (model prog w) A (eval iter env) (RowSrc prog w A h₀ L m env elt x scope cl G Q) E s)
    (hs : ∀ x, foldedSetIterable iter env x = pure x := by intro _; rfl) :
    wpAny (model prog w) A (eval (.ListComp elt [⟨.Name x px, iter, [], 0⟩] scope pos) env) Q E s := by
  refine comp_seq _F₀ hclos hcell hkind hnames hx (wpAny_mono h (fun xv s₁ h₁ => ?_) fun _ _ e => e) hs
  obtain ⟨ax, T, vs, k, news, rfl, hh, hT, hm, hz, F, N, he, hQ⟩ := h₁
  refine SeqSrc.is hh F N hm hT hz fun g => ?_
  have key : ∀ j i ys rows, j + i = vs.length → RowsAre G i ys rows → (rows.map (·.1)).Nodup → Apart rows news →
      LCg.CompRest prog w A h₀ L m env elt x scope cl { s₁ with heap := g } (fun nw => (ax, seqObj T vs k) ∈ nw) (fun i v => vs[i]? = some v) (LCg.FinE h₀ L m { s₁ with heap := g } Q) j i ys (news ++ rows) := by
    intro j
    induction j with
    | zero =>
      intro i ys rows hj hR hU hA
      refine LCg.CompRest.zero fun D h tk F' N' o1 => ?_
      have : i = vs.length := by lia
      subst this
      exact hQ D h tk ys _ rows F' N' hR hU hA o1
    | succ j ih =>
      intro i ys rows hj hR hU hA
      refine LCg.CompRest.succ fun v I oI C oC D m₂ h tk E' hv hC hx' F' N' off ne => ?_
      refine wpAny_mono (he i v I oI C oC D (LCg.lst ys) m₂ h tk E' rows hv hC hx' F' N' off ne) (fun y s₂ h₂ => ?_) fun _ _ e => e
      obtain ⟨h', tk', a, zs, kz, rfl, rfl, hG, F'', N'', n1, n2, n3, n4⟩ := h₂
      refine ⟨h', tk', (news ++ rows) ++ [(a, W.listOf zs.toArray kz)], rfl, F'', fun p hp => N'' p ?_, off3_app off ⟨⟨n1, n2, n3⟩, trivial⟩, ?_, ?_⟩
      · simp only [List.mem_cons, List.mem_append, List.not_mem_nil, or_false] at hp ⊢
        rcases hp with h | h | h | (h | h) | h
        · simp [h]
        · simp [h]
        · simp [h]
        · simp [h]
        · simp [h]
        · simp [h]
      · exact List.mem_append_left _ (List.mem_append_left _ hm)
      · rw [List.append_assoc]
        refine ih (i + 1) _ _ (by lia) (hR.snoc hG) (nd_snoc hU fun p hp => n4 p (List.mem_append_right _ hp)) fun p hp q hq => ?_
        rcases List.mem_append.mp hp with hp | hp
        · exact hA p hp q hq
        · rw [List.mem_singleton] at hp; subst hp
          exact Ne.symm (n4 q (List.mem_append_left _ hq))
  have := key vs.length 0 [] [] (by lia) .nil List.nodup_nil (fun p hp => absurd hp (by simp))
  rw [List.append_nil] at this
  exact this
noncomputable def RowSrcA (prog : Program) (w : World) (A : Around) (h₀ : Heap) (L : Addr) (m : Str → Option Value) (env : Env) (elt : Expr) (x : Str) (scope : Scope) (cl : List (Str × Addr)) (y : Str) (G : Nat → List Value → Prop) (Q : Flow → Shared → Prop) (xv : Value) (s₁ : Shared) : Prop :=
  ∃ ax T vs k news, xv = .ref ax ∧ A.handled = none ∧ (T = "list" ∨ T = "tuple") ∧ (ax, seqObj T vs k) ∈ news ∧ vs.length ≤ sizeLine ∧ Fr h₀ L s₁.heap m ∧ News h₀ L s₁.heap news ∧
    (∀ i v I oI C oC D oD m₂ h tk E' rows, vs[i]? = some v → LCg.NsObj oC m₂ → m₂ x = some v → Fr h₀ L h m → News h₀ L h ((I, oI) :: (C, oC) :: (D, oD) :: (news ++ rows)) → LCg.Off3 I C D (news ++ rows) → ((@Ne Nat I C) ∧ (@Ne Nat I D) ∧ (@Ne Nat C D)) →
      wpAny (model prog w) A (eval elt (compEnvC scope cl C env)) (RowEnd h₀ L m { s₁ with heap := h, toks := tk } I oI C oC D oD (G i) (news ++ rows)) E' { s₁ with heap := h, toks := tk }) ∧
    (∀ D h' tk ys kD rows, Fr h₀ L h' (fun z => if z = y then some (.ref D) else m z) → News h₀ L h' ((D, W.listOf (List.toArray ys) kD) :: (news ++ rows)) → RowsAre G vs.length ys rows → Apart rows news → LCg.Off1 D (news ++ rows) → Q .next { s₁ with heap := h', toks := tk })
theorem RowSrcA.is {elt : Expr} {x y : Str} {scope : Scope} {cl : List (Str × Addr)} {G : Nat → List Value → Prop} {Q : Flow → Shared → Prop} {ax : Addr} {T : String} {vs : List Value} {k : Nat}
    (hh : A.handled = none) (F : Fr h₀ L s.heap m) (N : News h₀ L s.heap news) (hm : (ax, seqObj T vs k) ∈ news) (hT : T = "list" ∨ T = "tuple") (hz : vs.length ≤ sizeLine)
    (he : ∀ i v I oI C oC D oD m₂ h tk E' rows, vs[i]? = some v → LCg.NsObj oC m₂ → m₂ x = some v → Fr h₀ L h m → News h₀ L h ((I, oI) :: (C, oC) :: (D, oD) :: (news ++ rows)) → LCg.Off3 I C D (news ++ rows) → ((@Ne Nat I C) ∧ (@Ne Nat I D) ∧ (@Ne Nat C D)) →
      wpAny (model prog w) A (eval elt (compEnvC scope cl C env)) (RowEnd h₀ L m { s with heap := h, toks := tk } I oI C oC D oD (G i) (news ++ rows)) E' { s with heap := h, toks := tk })
    (hQ : ∀ D h' tk ys kD rows, Fr h₀ L h' (fun z => if z = y then some (.ref D) else m z) → News h₀ L h' ((D, W.listOf (List.toArray ys) kD) :: (news ++ rows)) → RowsAre G vs.length ys rows → Apart rows news → LCg.Off1 D (news ++ rows) → Q .next { s with heap := h', toks := tk }) :
    RowSrcA prog w A h₀ L m env elt x scope cl y G Q (.ref ax) s := ⟨ax, T, vs, k, news, rfl, hh, hT, hm, hz, F, N, he, hQ⟩
theorem rows_key {elt : Expr} {x : Str} {scope : Scope} {cl : List (Str × Addr)} {G : Nat → List Value → Prop} {ax : Addr} {T : String} {vs : List Value} {k : Nat} {s₁ s₂ : Shared} {Fin : List Value → List (Addr × Obj) → Prop} (hs : ∃ g, s₂ = { s₁ with heap := g }) (hm : (ax, seqObj T vs k) ∈ news)
    (he : ∀ i v I oI C oC D oD m₂ h tk E' rows, vs[i]? = some v → LCg.NsObj oC m₂ → m₂ x = some v → Fr h₀ L h m → News h₀ L h ((I, oI) :: (C, oC) :: (D, oD) :: (news ++ rows)) → LCg.Off3 I C D (news ++ rows) → ((@Ne Nat I C) ∧ (@Ne Nat I D) ∧ (@Ne Nat C D)) →
      wpAny (model prog w) A (eval elt (compEnvC scope cl C env)) (RowEnd h₀ L m { s₁ with heap := h, toks := tk } I oI C oC D oD (G i) (news ++ rows)) E' { s₁ with heap := h, toks := tk })
    (hF : ∀ ys rows, RowsAre G vs.length ys rows → Apart rows news → Fin ys (news ++ rows)) :
    LCg.CompRest prog w A h₀ L m env elt x scope cl s₂ (fun nw => (ax, seqObj T vs k) ∈ nw) (fun i v => vs[i]? = some v) Fin vs.length 0 [] news := by
  obtain ⟨g, rfl⟩ := hs
  have key : ∀ j i ys rows, j + i = vs.length → RowsAre G i ys rows → Apart rows news →
      LCg.CompRest prog w A h₀ L m env elt x scope cl { s₁ with heap := g } (fun nw => (ax, seqObj T vs k) ∈ nw) (fun i v => vs[i]? = some v) Fin j i ys (news ++ rows) := by
    intro j
    induction j with
    | zero =>
      intro i ys rows hj hR hA
      have : i = vs.length := by lia
      subst this
      exact LCg.CompRest.zero (hF ys rows hR hA)
    | succ j ih =>
      intro i ys rows hj hR hA
      refine LCg.CompRest.succ fun v I oI C oC D m₂ h tk E' hv hC hx' F' N' off ne => ?_
      refine wpAny_mono (he i v I oI C oC D (LCg.lst ys) m₂ h tk E' rows hv hC hx' F' N' off ne) (fun y s₂ h₂ => ?_) fun _ _ e => e
      obtain ⟨h', tk', a, zs, kz, rfl, rfl, hG, F'', N'', n1, n2, n3, n4⟩ := h₂
      refine ⟨h', tk', (news ++ rows) ++ [(a, W.listOf zs.toArray kz)], rfl, F'', fun p hp => N'' p ?_, off3_app off ⟨⟨n1, n2, n3⟩, trivial⟩, ?_, ?_⟩
      · simp only [List.mem_cons, List.mem_append, List.not_mem_nil, or_false] at hp ⊢
        rcases hp with h | h | h | (h | h) | h
        · simp [h]
        · simp [h]
        · simp [h]
        · simp [h]
        · simp [h]
        · simp [h]
      · exact List.mem_append_left _ (List.mem_append_left _ hm)
      · rw [List.append_assoc]
        refine ih (i + 1) _ _ (by lia) (hR.snoc hG) fun p hp q hq => ?_
        rcases List.mem_append.mp hp with hp | hp
        · exact hA p hp q hq
        · rw [List.mem_singleton] at hp; subst hp
          exact Ne.symm (n4 q (List.mem_append_left _ hq))
  have := key vs.length 0 [] [] (by lia) .nil (fun p hp => absurd hp (by simp))
  rw [List.append_nil] at this
  exact this
theorem assign_rows {elt iter : Expr} {x y : Str} {px py : Pos} {scope : Scope} {cl : List (Str × Addr)} {pos spos : Pos} {Q : Flow → Shared → Prop} (G : Nat → List Value → Prop) (_F₀ : Fr h₀ L s.heap m) (hLe : env.locals = L)
    (hsw : swapsWith (.ListComp elt [⟨.Name x px, iter, [], 0⟩] scope pos) (some (.Name y py)) spos.line env = pure true)
    (hclos : closureFor scope env = pure cl) (hcell : ∀ z ∈ scope.names, z.2 ≠ .cell) (hkind : scope.kind = .function)
    (hnames : ∀ z ∈ scope.names, z.2 = .local → scope.names.lookup z.1 = some .local) (hx : scope.names.lookup x = some .local)
    (hy : env.kindOf y = some .local) (hp : (env.scope.kind == .class || (env.scope.kind == .module && env.locals != env.globals)) = false)
    (h : wpAny (model prog w) A (eval iter env) (RowSrcA prog w A h₀ L m env elt x scope cl y G Q) E s)
    (hs : ∀ x, foldedSetIterable iter env x = pure x := by intro _; rfl) :
    wpAny (model prog w) A (exec (.Assign [.Name y py] (.ListComp elt [⟨.Name x px, iter, [], 0⟩] scope pos) spos) env) Q E s := by
  refine assign_comp_seq _F₀ hLe hsw hclos hcell hkind hnames hx hy hp (wpAny_mono h (fun xv s₁ h₁ => ?_) fun _ _ e => e) hs
  obtain ⟨ax, T, vs, k, news, rfl, hh, hT, hm, hz, F, N, he, hQ⟩ := h₁
  refine SeqSrc.is hh F N hm hT hz fun g => rows_key ⟨g, rfl⟩ hm he fun ys rows hR hA D h tk F' N' o1 => ?_
  exact hQ D h tk ys _ rows F' N' hR hA o1
noncomputable def IntEnd (h₀ : Heap) (L : Addr) (m : Str → Option Value) (s₁ : Shared) (all : List (Addr × Obj)) (z : Int) (y : Value) (s₂ : Shared) : Prop :=
  ∃ h' tk t, s₂ = { s₁ with heap := h', toks := tk } ∧ y = .int z t ∧ Fr h₀ L h' m ∧ News h₀ L h' all
noncomputable def IntSrc (prog : Program) (w : World) (A : Around) (h₀ : Heap) (L : Addr) (m : Str → Option Value) (env : Env) (elt : Expr) (x : Str) (scope : Scope) (cl : List (Str × Addr)) (f : Nat → Int) (Q : Value → Shared → Prop) (xv : Value) (s₁ : Shared) : Prop :=
  ∃ ax T vs k news, xv = .ref ax ∧ A.handled = none ∧ (T = "list" ∨ T = "tuple") ∧ (ax, seqObj T vs k) ∈ news ∧ vs.length ≤ sizeLine ∧ Fr h₀ L s₁.heap m ∧ News h₀ L s₁.heap news ∧
    (∀ i v I oI C oC D oD m₂ h tk E', vs[i]? = some v → LCg.NsObj oC m₂ → m₂ x = some v → Fr h₀ L h m → News h₀ L h ((I, oI) :: (C, oC) :: (D, oD) :: news) → LCg.Off3 I C D news → ((@Ne Nat I C) ∧ (@Ne Nat I D) ∧ (@Ne Nat C D)) →
      wpAny (model prog w) A (eval elt (compEnvC scope cl C env)) (IntEnd h₀ L m { s₁ with heap := h, toks := tk } ((I, oI) :: (C, oC) :: (D, oD) :: news) (f i)) E' { s₁ with heap := h, toks := tk }) ∧
    (∀ D h' tk ys kD, Fr h₀ L h' m → News h₀ L h' ((D, W.listOf (List.toArray ys) kD) :: news) → IntsAre ys ((List.range vs.length).map f) → LCg.Off1 D news → Q (.ref D) { s₁ with heap := h', toks := tk })
theorem IntSrc.is {elt : Expr} {x : Str} {scope : Scope} {cl : List (Str × Addr)} {f : Nat → Int} {Q : Value → Shared → Prop} {ax : Addr} {T : String} {vs : List Value} {k : Nat}
    (hh : A.handled = none) (F : Fr h₀ L s.heap m) (N : News h₀ L s.heap news) (hm : (ax, seqObj T vs k) ∈ news) (hT : T = "list" ∨ T = "tuple") (hz : vs.length ≤ sizeLine)
    (he : ∀ i v I oI C oC D oD m₂ h tk E', vs[i]? = some v → LCg.NsObj oC m₂ → m₂ x = some v → Fr h₀ L h m → News h₀ L h ((I, oI) :: (C, oC) :: (D, oD) :: news) → LCg.Off3 I C D news → ((@Ne Nat I C) ∧ (@Ne Nat I D) ∧ (@Ne Nat C D)) →
      wpAny (model prog w) A (eval elt (compEnvC scope cl C env)) (IntEnd h₀ L m { s with heap := h, toks := tk } ((I, oI) :: (C, oC) :: (D, oD) :: news) (f i)) E' { s with heap := h, toks := tk })
    (hQ : ∀ D h' tk ys kD, Fr h₀ L h' m → News h₀ L h' ((D, W.listOf (List.toArray ys) kD) :: news) → IntsAre ys ((List.range vs.length).map f) → LCg.Off1 D news → Q (.ref D) { s with heap := h', toks := tk }) :
    IntSrc prog w A h₀ L m env elt x scope cl f Q (.ref ax) s := ⟨ax, T, vs, k, news, rfl, hh, hT, hm, hz, F, N, he, hQ⟩
theorem comp_ints {elt iter : Expr} {x : Str} {px : Pos} {scope : Scope} {cl : List (Str × Addr)} {pos : Pos} {Q : Value → Shared → Prop} (f : Nat → Int) (_F₀ : Fr h₀ L s.heap m)
    (hclos : closureFor scope env = pure cl) (hcell : ∀ y ∈ scope.names, y.2 ≠ .cell) (hkind : scope.kind = .function)
    (hnames : ∀ y ∈ scope.names, y.2 = .local → scope.names.lookup y.1 = some .local) (hx : scope.names.lookup x = some .local)
    (h : wpAny (model prog w) A (eval iter env) (IntSrc prog w A h₀ L m env elt x scope cl f Q) E s)
    (hs : ∀ x, foldedSetIterable iter env x = pure x := by intro _; rfl) :
    wpAny (model prog w) A (eval (.ListComp elt [⟨.Name x px, iter, [], 0⟩] scope pos) env) Q E s := by
  refine comp_seq _F₀ hclos hcell hkind hnames hx (wpAny_mono h (fun xv s₁ h₁ => ?_) fun _ _ e => e) hs
  obtain ⟨ax, T, vs, k, news, rfl, hh, hT, hm, hz, F, N, he, hQ⟩ := h₁
  refine SeqSrc.is hh F N hm hT hz fun g => ?_
  have key : ∀ j i ys, j + i = vs.length → IntsAre ys ((List.range i).map f) →
      LCg.CompRest prog w A h₀ L m env elt x scope cl { s₁ with heap := g } (fun nw => (ax, seqObj T vs k) ∈ nw) (fun i v => vs[i]? = some v) (LCg.FinE h₀ L m { s₁ with heap := g } Q) j i ys news := by
    intro j
    induction j with
    | zero =>
      intro i ys hj hR
      refine LCg.CompRest.zero fun D h tk F' N' o1 => ?_
      have : i = vs.length := by lia
      subst this
      exact hQ D h tk ys _ F' N' hR o1
    | succ j ih =>
      intro i ys hj hR
      refine LCg.CompRest.succ fun v I oI C oC D m₂ h tk E' hv hC hx' F' N' off ne => ?_
      refine wpAny_mono (he i v I oI C oC D (LCg.lst ys) m₂ h tk E' hv hC hx' F' N' off ne) (fun y s₂ h₂ => ?_) fun _ _ e => e
      obtain ⟨h', tk', t, rfl, rfl, F'', N''⟩ := h₂
      refine ⟨h', tk', news, rfl, F'', N'', off, hm, ih (i + 1) _ (by lia) ?_⟩
      rw [List.range_succ, List.map_append]
      exact hR.append (.cons _ _ .nil)
  exact key vs.length 0 [] (by lia) .nil
end
theorem kw_c_minors_0 : True := by
  k_with_none
  (k_with "k_room" => (ktr_room))
  (k_with "con sub" => (first | exact List.forall_mem_nil _ | k_extra "sub" | (simp only [List.forall_mem_cons]; refine ⟨?_, ?_⟩ <;> first | exact List.forall_mem_nil _ | k_mem | k_extra "con sub") | k_sub))
  (k_with "con enter" => ((refine wpAny_call ?_; (refine' code_defG (by assumption) (by assumption) (by assumption) (by assumption) (by assumption) (by exact rfl) (by exact rfl) (by exact rfl) (by k_is) (by k_is) (by k_room) (by first | exact BindsTo.of_eq rfl | exact binds_K (by k_in) rfl (by k_is) rfl rfl rfl | fail "k_enter: no rule for these arguments") (by exact locs rfl) ?_ (by exact rfl) (by exact rfl) (by exact rfl) (by decide); k_whole))))
  (k_with "con start" => ((dsimp only [Con, fnSc]; intros; rename_i hret)))
  (k_with "LeaveK" => ((k_dflt (refine' leave_con (by with_reducible assumption) (by assumption) (by k_asm) (by k_asm) (by k_extra "con sub") ?_; k_whole); intro _; (try dsimp only))))
  (k_with "con enterC" => ((refine wpAny_call ?_; (refine' enter_cells (by assumption) (by assumption) (by assumption) (by assumption) (by assumption) (by exact rfl) (by exact rfl) (by exact rfl) (by k_is) (by k_is) (by k_room) (by exact BindsTo.of_eq rfl) (by exact rfl) (by decide +kernel) ?_ (by exact rfl) (by exact rfl) (by exact rfl); k_whole))))
  (k_with "con enterR" => ((refine wpAny_call ?_; (refine' enter_rest (by assumption) (by assumption) (by assumption) (by assumption) (by assumption) (by exact rfl) (by exact rfl) (by exact rfl) (by k_is) (by k_is) (by k_room) (by exact rfl) (by exact fun _ => locs rfl) ?_ (by exact rfl) (by exact rfl) (by exact rfl) (by decide); k_whole))))
  (k_with "callWith" => ((k_here; (with_reducible show wpAny _ _ (callWith _ (Value.builtin _) (_ :: _) (backTo _ (starEach (_ :: _) _)) []) _ _ _); (with_reducible refine' callWith_method1 ?_ (by k_dflt (exact rfl)) (by k_dflt (exact rfl))))))
  (k_with "mem at" => (with_reducible (first | exact List.mem_cons_self | exact List.Mem.head _ | (refine List.mem_cons_of_mem _ ?_; k_extra "mem at") | (refine List.mem_append_left _ ?_; k_extra "mem at") | (refine List.mem_append_right _ ?_; k_extra "mem at"))))
  (k_with "mem in" => (with_reducible (first | assumption | (refine List.mem_cons_of_mem _ ?_; k_extra "mem in") | (refine List.mem_append_right _ ?_; k_extra "mem in") | (refine List.mem_append_left _ ?_; k_extra "mem in"))))
  (k_with "sub" => (with_reducible (first | exact sub_nil | exact sub_refl | (refine sub_cons ?_ ?_; (focus k_extra "mem at"); k_extra "sub") | (refine subs_app ?_ ?_; (focus k_extra "sub"); k_extra "sub") | (intro _ _; k_extra "mem in"))))
  (k_with "call builtin:issubclass" => ((k_here; (with_reducible show wpAny _ _ (call (Value.builtin "issubclass") [Value.type "str", Value.ref _]) _ _ _); refine' isc_call (by k_asm) (by k_mem) ?_; k_whole)))
  (k_with "call ref" => ((k_here; (with_reducible show wpAny _ _ (call (Value.ref 94) [Value.str _ _]) _ _ _); k_dflt (refine' con_use c_fspath (by k_asm) (by k_asm) (by k_asm) (by k_asm) (by k_asm) (by k_extra "con sub") (by ktr_room) (by ktr_units) ?_; k_whole); intro _ _ _ _ _ _ hv9w9; subst hv9w9; (try dsimp only); (try k_fold))))
  (k_with "CompEnd" => ((refine compEnd_lt (by assumption) ?_; intro l9'w9; k_lt l9'w9; lcg_end)))
  (k_with "FinE" => (((unfold LCg.FinE); intro _ _ _ _ N'w9 _; (try dsimp only [List.nil_append, List.cons_append] at N'w9); (try dsimp only))))
  (k_with "FinA" => (((unfold LCg.FinA); intro _ _ _ _ N'w9 _; (try dsimp only [List.nil_append, List.cons_append] at N'w9); (try dsimp only))))
  (k_with "lcg_off" => (first | exact True.intro | (with_reducible assumption) | (refine And.intro (by first | exact off3_at _ _ (by assumption) (by k_mem) rfl | exact ⟨by k_ne, by k_ne, by k_ne⟩) ?_; lcg_off) | (refine And.intro (by k_ne) ?_; lcg_off)))
  (k_with "SeqSrc" => ((k_here; k_dflt ((refine SeqSrc.is (by rfl) (by k_asm) (by k_asm) (by k_mem) (by first | exact Or.inl rfl | exact Or.inr rfl) (by first | size_fits | exact Nat.le_of_ble_eq_true rfl) ?_); intro _; lcg_lit))))
  (k_with "CompRest" => ((with_unfolding_all first
  | (refine LCg.CompRest.succ ?_; intro _ _ _ _ _ _ _ _ _ _ hv'w9 _ _ _ _ _ ne'w9; (replace hv'w9 := Option.some.inj hv'w9; (first | subst hv'w9 | dsimp only at hv'w9; subst hv'w9)); (replace ne'w9 : NeP _ _ _ := ne'w9))
  | refine LCg.CompRest.zero ?_)))
  (k_with "and" => ((with_reducible first | exact And.left (by assumption) | exact And.left (And.right (by assumption)) | exact And.left (And.right (And.right (by assumption))) | exact And.left (And.right (And.right (And.right (by assumption)))) | exact And.left (And.right (And.right (And.right (And.right (by assumption))))) | exact And.left (And.right (And.right (And.right (And.right (And.right (by assumption)))))) | exact And.left (And.right (And.right (And.right (And.right (And.right (And.right (by assumption))))))) | exact And.left (And.right (And.right (And.right (And.right (And.right (And.right (And.right (by assumption)))))))) | exact And.left (And.right (And.right (And.right (And.right (And.right (And.right (And.right (And.right (by assumption))))))))) | exact And.left (And.right (And.right (And.right (And.right (And.right (And.right (And.right (And.right (And.right (by assumption)))))))))) | exact And.left (And.right (And.right (And.right (And.right (And.right (And.right (And.right (And.right (And.right (And.right (by assumption))))))))))) | exact And.left (And.right (And.right (And.right (And.right (And.right (And.right (And.right (And.right (And.right (And.right (And.right (by assumption)))))))))))) | exact And.left (And.right (And.right (And.right (And.right (And.right (And.right (And.right (And.right (And.right (And.right (And.right (And.right (by assumption))))))))))))) | exact And.left (And.right (And.right (And.right (And.right (And.right (And.right (And.right (And.right (And.right (And.right (And.right (And.right (And.right (by assumption)))))))))))))) | exact And.left (And.right (And.right (And.right (And.right (And.right (And.right (And.right (And.right (And.right (And.right (And.right (And.right (And.right (And.right (by assumption))))))))))))))) | exact And.left (And.right (And.right (And.right (And.right (And.right (And.right (And.right (And.right (And.right (And.right (And.right (And.right (And.right (And.right (And.right (by assumption)))))))))))))))) | exact And.right (by assumption) | exact And.right (And.right (by assumption)) | exact And.right (And.right (And.right (by assumption))) | exact And.right (And.right (And.right (And.right (by assumption)))) | exact And.right (And.right (And.right (And.right (And.right (by assumption))))) | exact And.right (And.right (And.right (And.right (And.right (And.right (by assumption)))))) | exact And.right (And.right (And.right (And.right (And.right (And.right (And.right (by assumption))))))) | exact And.right (And.right (And.right (And.right (And.right (And.right (And.right (And.right (by assumption)))))))) | exact And.right (And.right (And.right (And.right (And.right (And.right (And.right (And.right (And.right (by assumption))))))))) | exact And.right (And.right (And.right (And.right (And.right (And.right (And.right (And.right (And.right (And.right (by assumption)))))))))) | exact And.right (And.right (And.right (And.right (And.right (And.right (And.right (And.right (And.right (And.right (And.right (by assumption))))))))))))))
  (k_with "and3" => ((with_reducible first | exact And.left (And.left (by assumption)) | exact And.left (And.right (And.left (by assumption))) | exact And.right (And.right (And.left (by assumption))) | exact And.left (And.left (And.right (by assumption))) | exact And.left (And.right (And.left (And.right (by assumption)))) | exact And.right (And.right (And.left (And.right (by assumption)))) | exact And.left (And.left (And.right (And.right (by assumption)))) | exact And.left (And.right (And.left (And.right (And.right (by assumption))))) | exact And.right (And.right (And.left (And.right (And.right (by assumption))))) | exact And.left (And.left (And.right (And.right (And.right (by assumption))))) | exact And.left (And.right (And.left (And.right (And.right (And.right (by assumption)))))) | exact And.right (And.right (And.left (And.right (And.right (And.right (by assumption)))))) | exact And.left (And.left (And.right (And.right (And.right (And.right (by assumption)))))) | exact And.left (And.right (And.left (And.right (And.right (And.right (And.right (by assumption))))))) | exact And.right (And.right (And.left (And.right (And.right (And.right (And.right (by assumption))))))) | exact And.left (And.left (And.right (And.right (And.right (And.right (And.right (by assumption))))))) | exact And.left (And.right (And.left (And.right (And.right (And.right (And.right (And.right (by assumption)))))))) | exact And.right (And.right (And.left (And.right (And.right (And.right (And.right (And.right (by assumption)))))))) | exact And.left (And.left (And.right (And.right (And.right (And.right (And.right (And.right (by assumption)))))))) | exact And.left (And.right (And.left (And.right (And.right (And.right (And.right (And.right (And.right (by assumption))))))))) | exact And.right (And.right (And.left (And.right (And.right (And.right (And.right (And.right (And.right (by assumption))))))))) | exact And.left (And.left (And.right (And.right (And.right (And.right (And.right (And.right (And.right (by assumption))))))))) | exact And.left (And.right (And.left (And.right (And.right (And.right (And.right (And.right (And.right (And.right (by assumption)))))))))) | exact And.right (And.right (And.left (And.right (And.right (And.right (And.right (And.right (And.right (And.right (by assumption)))))))))) | exact And.left (And.left (And.right (And.right (And.right (And.right (And.right (And.right (And.right (And.right (by assumption)))))))))) | exact And.left (And.right (And.left (And.right (And.right (And.right (And.right (And.right (And.right (And.right (And.right (by assumption))))))))))) | exact And.right (And.right (And.left (And.right (And.right (And.right (And.right (And.right (And.right (And.right (And.right (by assumption))))))))))))))
  (k_with "k_ne" => (first | (with_reducible assumption) | (with_reducible exact Ne.symm (by assumption)) | (refine neN ?_; (try dsimp only); first | (with_reducible assumption) | (with_reducible exact Nat.ne_of_lt (by assumption)) | (with_reducible exact Nat.ne_of_gt (by assumption)) | (with_reducible exact Nat.ne_of_lt (by k_extra "and")) | (with_reducible exact Nat.ne_of_gt (by k_extra "and")) | assumption | exact Ne.symm (by assumption) | k_extra "ne off" | (with_reducible exact Ne.symm (by k_extra "and3")) | (with_reducible k_extra "and3") | (with_reducible exact Ne.symm (by k_extra "and")) | (with_reducible k_extra "and") | lia) | assumption | exact Ne.symm (by assumption)))
  (k_with "ne off" => (first | exact off1_at (by assumption) (by k_mem) | exact Ne.symm (off1_at (by assumption) (by k_mem)) | exact neP1 (by assumption) | exact neP2 (by assumption) | exact neP3 (by assumption) | exact Ne.symm (neP1 (by assumption)) | exact Ne.symm (neP2 (by assumption)) | exact Ne.symm (neP3 (by assumption)) | exact off3_at1 (by assumption) (by k_mem) | exact off3_at2 (by assumption) (by k_mem) | exact off3_at3 (by assumption) (by k_mem) | exact Ne.symm (off3_at1 (by assumption) (by k_mem)) | exact Ne.symm (off3_at2 (by assumption) (by k_mem)) | exact Ne.symm (off3_at3 (by assumption) (by k_mem))))
  (k_with "lcg_src" => (k_mem))
  (k_with "comp seq" => ((k_dflt (refine comp_seq (_F₀ := by k_asm) (by rfl) (by decide) (by rfl) (by decide) (by rfl) ?_))))
  (k_with "assign comp seq" => ((k_dflt (refine assign_comp_seq (_F₀ := by k_asm) (by rfl) (by with_unfolding_all rfl) (by rfl) (by decide) (by rfl) (by decide) (by rfl) (by rfl) (by rfl) ?_))))
  (k_with "no comp" => (repeat' ((fail_if_success (with_reducible show wpAny _ _ (exec (Stmt.Assign [Expr.Name _ _] (Expr.ListComp _ _ _ _) _) _) _ _ _)); (fail_if_success (with_reducible show wpAny _ _ (eval (Expr.ListComp _ _ _ _) _) _ _ _)); (first | (k_unfold; (try dsimp only)) | (k_end; wrow_close) | walk1 | (dsimp only; walk1) | (leave1; walk_say "STEP leave1"; try dsimp only) | fail "no step"))))
  (k_with "comp seqX" => ((k_dflt (refine comp_seqX (_F₀ := by k_asm) (by rfl) (by decide) (by rfl) (by decide) (by rfl) ?_))))
  (k_with "no while" => (repeat' ((fail_if_success (with_reducible show wpAny _ _ (exec (Stmt.While _ _ _ _) _) _ _ _)); (first | (k_unfold; (try dsimp only)) | (k_end; wrow_close) | walk1 | (dsimp only; walk1) | (leave1; walk_say "STEP leave1"; try dsimp only) | fail "no step"))))
  (k_with "size small" => (first | size_fits | ((simp only [List.length_cons, List.length_nil, List.length_append, sizeLine_eq] at *); lia)))
  (k_with "binaryOp Add ref ref" => ((k_here; (with_reducible show wpAny _ _ (binaryOp _ (Value.ref _) (Value.ref _)) _ _ _); k_dflt (refine' add_lst (by k_asm) (by k_asm) (by k_mem) (by k_mem) ?_ (by k_extra "size small")); intro _ _ _ _ l1w9; (try k_lt l1w9); (try k_sweep))))
  (k_with "int small" => (first | lia | ((simp (config := { decide := true }) only [] at *); lia) | (simp; lia)))
  (k_with "binaryOp Mult int int" => ((k_here; (with_reducible show wpAny _ _ (binaryOp Operator.Mult (Value.int _ _) (Value.int _ _)) _ _ _); refine' PyProof.Rows.mul_int ?_ (by first | exact IntMulOk.of_left (bits64 (by k_extra "int small") (by k_extra "int small")) | exact IntMulOk.of_right (bits64 (by k_extra "int small") (by k_extra "int small"))))))
  (k_with "subscriptTail" => ((k_here; (with_reducible show wpAny _ _ (subscriptTail _ _ (Value.ref _) (Value.int _ _)) _ _ _); k_dflt (refine' item_lit (by k_asm) (by k_mem) (by exact rfl) (by decide) (by decide) ?_ (by with_unfolding_all rfl); k_whole))))
  (k_with "subscriptTail Name BinOp ref int" => (walk_at "subscriptTail"))
  (k_with "subscriptTail Name Name ref int" => (walk_at "subscriptTail"))
  (k_with "subscriptTail Name Constant ref int" => (walk_at "subscriptTail"))
  trivial
section
variable {w : World} {loose : List Str} {mean : ExcName → Option Value} {mg mb : Str → Option Value}
theorem kw_c_minors_1 : True := by
  (k_with "no iter" => (repeat' ((fail_if_success (with_reducible show wpAny _ _ (pyIter (Value.ref _)) (fun it s₂ => LoopAtV _ _ _ _ _ _ _ _ _ it s₂) _ _)); (first | (k_unfold; (try dsimp only)) | (k_end; wrow_close) | walk1 | (dsimp only; walk1) | (leave1; walk_say "STEP leave1"; try dsimp only) | fail "no step"))))
  (k_with "k_all" => (assumption))
  (k_with "k_ne" => (first | assumption | exact Ne.symm (by assumption) | (refine neN ?_; (try dsimp only); lia)))
  (k_with "row mem" => (first | exact List.mem_append_left _ (List.mem_of_getElem? (by assumption)) | (refine List.mem_cons_of_mem _ ?_; k_extra "row mem")))
  (k_with "subscriptTail" => ((k_here; (with_reducible show wpAny _ _ (subscriptTail _ _ (Value.ref _) (Value.int _ _)) _ _ _); first
  | (k_dflt (refine' row_get (by k_asm) (by k_mem) (by with_reducible assumption) (by lia) (by assumption) ?_ (by with_unfolding_all rfl)); intro _ _ _ _ _)
  | (k_dflt (refine' cell_get (by k_asm) (by first | k_mem | k_extra "row mem") (by with_reducible assumption) (by lia) (by lia) ?_ (by with_unfolding_all rfl)); intro _))))
  (k_with "subscriptTail Name Name ref int" => (walk_at "subscriptTail"))
  (k_with "subscriptTail Subscript Name ref int" => (walk_at "subscriptTail"))
  (k_with "call builtin:list.append" => ((k_here; (with_reducible show wpAny _ _ (call (Value.builtin _) [Value.ref _, _]) _ _ _); k_dflt (refine' app_any (by k_asm) (by k_asm) (by k_updF) (by assumption) ?_); intro _ _ _ N'w9; (try dsimp only at N'w9); (try k_sweep))))
  (k_with "no app" => (repeat' ((fail_if_success (with_reducible show wpAny _ _ (call (Value.builtin "list.append") _) _ _ _)); (first | (k_unfold; (try dsimp only)) | (k_end; wrow_close) | walk1 | (dsimp only; walk1) | (leave1; walk_say "STEP leave1"; try dsimp only) | fail "no step"))))
  (k_with "call type:range" => ((k_here; (with_reducible show wpAny _ _ (call (Value.type "range") [Value.int _ _, Value.int _ _]) _ _ _); k_dflt (refine' range2_rows (by k_asm) (by k_asm) ?_); intro _ _ _ _ _ _ _ _ _)))
  (k_with "call builtin:len" => ((k_here; (with_reducible show wpAny _ _ (call (Value.builtin "len") [Value.ref _]) _ _ _); k_dflt (refine' len_refs (by k_asm) (by k_mem) (by assumption) (by assumption) ?_))))
  (k_with "no set" => (repeat' ((fail_if_success (with_reducible show wpAny _ _ (PySem.setItem _ _ _) _ _ _)); (first | (k_unfold; (try dsimp only)) | (k_end; wrow_close) | walk1 | (dsimp only; walk1) | (leave1; walk_say "STEP leave1"; try dsimp only) | fail "no step"))))
  (k_with "binaryOp FloorDiv int int" => ((k_here; (with_reducible show wpAny _ _ (binaryOp _ (Value.int _ _) (Value.int _ _)) _ _ _); (with_reducible refine' PyProof.Rows.floordiv_int (by assumption) ?_))))
  (k_with "ends" => (repeat' ((fail_if_success (with_reducible show InvPostN _ _ _ _ _ _ _ _ _)); (first | (k_unfold; (try dsimp only)) | (k_end; wrow_close) | walk1 | (dsimp only; walk1) | (leave1; walk_say "STEP leave1"; try dsimp only) | fail "no step"))))
  (k_with "con sub" => ((intro _ hp'w9; repeat (first | exact List.mem_append_right _ (mem_led (by assumption) hp'w9) | refine List.mem_cons_of_mem _ ?_))))
  (k_with "no list" => (repeat' ((fail_if_success (with_reducible show wpAny _ _ (call (Value.type "list") [Value.ref _]) _ _ _)); (first | (k_unfold; (try dsimp only)) | (k_end; wrow_close) | walk1 | (dsimp only; walk1) | (leave1; walk_say "STEP leave1"; try dsimp only) | fail "no step"))))
  (k_with "no lc" => (repeat' ((fail_if_success (with_reducible show wpAny _ _ (eval (PySem.Expr.ListComp _ _ _ _) _) _ _ _)); (first | (k_unfold; (try dsimp only)) | (k_end; wrow_close) | walk1 | (dsimp only; walk1) | (leave1; walk_say "STEP leave1"; try dsimp only) | fail "no step"))))
  trivial
theorem mem_led {A B : List (Addr × Obj)} (h : ∀ q ∈ A, q ∈ B) {p : Addr × Obj} (hp : p ∈ A) : p ∈ B := h p hp
theorem allLt_mem {d : Nat} : ∀ {l : List (Addr × Obj)}, AllLt d l → ∀ p ∈ l, @LT.lt Nat _ p.1 d
  | [], _, _, h => nomatch h
  | _ :: _, ⟨h1, h2⟩, p, h => by
    rcases List.mem_cons.mp h with rfl | h
    · exact h1
    · exact allLt_mem h2 p h
inductive MinP (n : Nat) (T : Nat → Nat → Nat → Int) (H h' : Heap) (v : Value) : Prop
  | mk (D : Addr) (vs : List Value) (kk : Nat) (e : v = .ref D) (hg : h'.get? D = some (W.listOf (List.toArray vs) kk)) (h0 : H.get? D = none) (hI : IntsAre vs ((List.range n).map fun k => T k k k)) : MinP n T H h' v
inductive MinQ (n : Nat) (g : Heap) (L : Addr) (h : Heap) (M : Nat → Nat → Int) (led : List (Addr × Obj)) : Prop
  | mk (R Mn : Addr) (as : List Addr) (kR : Nat) (rl rest : List (Addr × Obj)) (mv : List Value) (km : Nat) (m0 : Str → Option Value) (S : MinS n g L h M led R Mn as kR rl rest mv km m0) : MinQ n g L h M led
theorem packN {g h : Heap} {L R Mn : Addr} {NL led rows : List (Addr × Obj)} {M : Nat → Nat → Int} {kR km n : Nat} {t : Tok} {m0 : Str → Option Value}
    (F : Fr g L h (fun y => if y = Str.ofString "rows" then some (Value.ref R) else if y = Str.ofString "minors" then some (Value.ref Mn) else m0 y)) (N : News g L h NL)
    (hR : (R, W.listOf ((rows.map (·.1)).map Value.ref).toArray kR) ∈ NL) (hM : (Mn, W.listOf [Value.int 1 t].toArray km) ∈ NL) (hr : ∀ p ∈ rows, p ∈ NL) (hl : ∀ p ∈ led, p ∈ NL)
    (RA : RowsAre (fun i zs => RowOf n (M i) zs) n ((rows.map (·.1)).map Value.ref) rows) (nd : (rows.map (·.1)).Nodup) (aL : Apart rows led) (oL : LCg.Off1 R (led ++ rows)) (lR : @LT.lt Nat _ R Mn) (lM : AllLt Mn (led ++ rows)) :
    MinQ n g L h M led := by
  have oR : ∀ p ∈ led ++ rows, p.1 ≠ R := fun p hp => off1_at (o := p.2) oL hp
  have oM : ∀ p ∈ led ++ rows, p.1 ≠ Mn := fun p hp => Nat.ne_of_lt (allLt_mem lM p hp)
  refine ⟨R, Mn, rows.map (·.1), kR, rows, led, [.int 1 t], km, m0, by rw [List.length_map, RA.len], F, fun p hp => ?_, ⟨rfl, fun i hi => ?_⟩, ⟨rfl, fun j hj => ⟨t, by rw [show j = 0 by lia]; rfl⟩⟩, nd, fun q => ?_, fun q => ?_, Nat.ne_of_lt lR, fun p hp => ⟨fun q => ?_, oR p (List.mem_append_left _ hp), oM p (List.mem_append_left _ hp)⟩, fun _ h => h⟩
  · rcases List.mem_cons.mp hp with rfl | hp
    · exact N _ hR
    · rcases List.mem_cons.mp hp with rfl | hp
      · exact N _ hM
      · rcases List.mem_append.mp hp with hp | hp
        · exact N _ (hr _ hp)
        · exact N _ (hl _ hp)
  · rw [List.length_map, RA.len] at hi
    obtain ⟨a, zs, k, h1, h2, h3⟩ := RA.at hi
    exact ⟨a, zs, k, h1, by rw [List.getElem?_map, h1]; rfl, h3⟩
  · obtain ⟨p, hp, e⟩ := List.mem_map.mp q
    exact oR p (List.mem_append_right _ hp) e
  · obtain ⟨p, hp, e⟩ := List.mem_map.mp q
    exact oM p (List.mem_append_right _ hp) e
  · obtain ⟨x, hx, e⟩ := List.mem_map.mp q
    exact aL x hx p hp e
set_option maxRecDepth 100000 in
set_option maxHeartbeats 8000000 in
theorem c_minors {l : Addr} {n NN : Nat} {as0 : List Addr} {rl0 : List (Addr × Obj)} {M : Nat → Nat → Int} (hM0 : MatL NN as0 M rl0) (hNN : as0.length = NN) (hN1 : 1 ≤ NN) (hN9 : NN ≤ 9)
    (T : Nat → Nat → Nat → Int) (hT0 : ∀ i j, i < NN → j < NN → T 0 i j = M i j) (hTs : ∀ k i j, k < i → k < j → i < NN → j < NN → T (k + 1) i j = Int.fdiv (T k i j * T k k k - T k i k * T k k j) (mnT T k)) (hmn : ∀ k, k < NN → mnT T k ≠ 0) (hB : ∀ k i j, k < NN → i < NN → j < NN → -(2 ^ 29) ≤ T k i j ∧ T k i j ≤ 2 ^ 29) :
    Con w loose mean mg mb 2 238 ((l, W.listOf (as0.map Value.ref).toArray n) :: rl0) [.ref l]
      (fun H h' v => MinP NN T H h' v) := by
  dsimp only [Con, fnSc]
  intro dp un gd cn ns ig ic mr a ccd cl outer A₀ base h₀ L m s Q E B0 F0 X0 N0 T0 hd0 hu0 hret
  walk_at "con enter"
  intro g L' hh1 FG F1 N1 B1 X1 T1 kG; (try dsimp only); (try k_lift B1); (try k_fold)
  walk_at "no lc"
  k_dflt (refine comp_rows (fun i zs => RowOf NN (M i) zs) (by k_asm) (by rfl) (by decide) (by rfl) (by decide) (by rfl) ?_)
  walk1
  (try dsimp only)
  k_dflt (refine' RowSrc.is (by rfl) ?rF ?rN ?rm (Or.inl rfl) ?rz ?_ ?_)
  case rF => k_asm
  case rN => k_asm
  case rm => k_mem
  case rz => rw [List.length_map, hNN, sizeLine_eq]; lia
  · intro i v I oI C oC D oD m₂ hE tkE E' rows hv hC hx FE NE offE neE
    rw [List.getElem?_map] at hv
    obtain ⟨a9, ha9, rfl⟩ := Option.map_eq_some_iff.mp hv
    have hi9 := (List.getElem?_eq_some_iff.mp ha9).1
    obtain ⟨aT, zT, kT, hrT, hTx, hGT⟩ := hM0.row i hi9
    rw [ha9] at hTx; cases hTx
    have hmT := List.mem_of_getElem? hrT
    walk_at "no list"
    k_dflt (refine' list_copyK (by k_asm) NE (News.isList NE (List.mem_cons_of_mem _ (List.mem_cons_of_mem _ (List.mem_cons_of_mem _ (List.mem_append_left _ (List.mem_cons_of_mem _ hmT)))))) ?_ (by rw [List.size_toArray, hGT.1, sizeLine_eq]; lia))
    intro D9 c9 h9 F9 N9 l9
    exact row_end2 F9 N9 (fun p hp => Nat.ne_of_lt (l9 p hp)) hGT
  · intro R9 h10 tk10 ys kR9 rows F10 N10 RA nd9 aL oL
    obtain rfl : ys = (rows.map (·.1)).map Value.ref := by rw [RA.refs, List.map_map]; rfl
    have hasl : (rows.map (·.1)).length = NN := by rw [List.length_map, RA.len, List.length_map, hNN]
    have hz : (rows.map (·.1)).length ≤ 100 := by lia
    rw [List.length_map, hNN] at RA
    dsimp only [List.cons_append] at N10
    (try dsimp only)
    walk_at "no iter"
    rename (@LT.lt Nat _ R9 _ ∧ _) => lm
    obtain ⟨lm1, lm2, lm3⟩ := lm
    rename IsRange _ _ _ _ _ _ _ _ => HR
    rename Fr g _ _ _ => F2
    rename News g _ _ _ => N2
    obtain ⟨R, Mn, as, kR, rl, rest, mv, km, m0, S⟩ := packN F2 N2 (by k_mem) (by k_mem) (fun p hp => List.mem_cons_of_mem _ (List.mem_cons_of_mem _ (List.mem_cons_of_mem _ (List.mem_cons_of_mem _ (List.mem_append_right _ hp))))) (fun p hp => List.mem_cons_of_mem _ (List.mem_cons_of_mem _ (List.mem_cons_of_mem _ (by rcases List.mem_cons.mp hp with rfl | hp; exact List.mem_cons_self; exact List.mem_cons_of_mem _ (List.mem_append_left _ hp))))) RA nd9 aL oL lm1 ⟨lm2, lm3⟩
    clear lm1 lm2 lm3 RA nd9 aL oL hasl hz
    clear F2 N2
    refine range_inv (n := NN) (fun k m nx => MinI NN as R Mn kR rest (curT T k) (k + 1) (mnT T) nx ∧ m (Str.ofString "rows") = some (.ref R) ∧ m (Str.ofString "minors") = some (.ref Mn)) rfl HR (range_small _ _ NN (by lia) (by decide) (by lia)) (range_size _ _ NN (by lia)) S.fr S.ns ?_ ?_ ?_
    · refine ⟨⟨rl, mv, km, rfl, S.mat.congr fun i j hi hj => ?_, S.one.congr fun j hj => ?_⟩, rfl, rfl⟩
      · unfold curT; rw [Nat.zero_min]; exact (hT0 i j (S.len ▸ hi) hj).symm
      · rw [show j = 0 by lia]; rfl
    · rintro k t m₁ nx h tk own hk hadr hown ⟨⟨rl1, mv1, km1, rfl, hM, hV⟩, hm1, hm2⟩ F3 N3
      rw [Int.zero_add] at F3
      simp only [List.cons_append, List.append_assoc] at N3
      have hkl : k < as.length := S.len ▸ hk
      have hz : as.length ≤ 100 := by rw [S.len]; lia
      have hRMn := S.rm
      have hin : ∀ a ∈ as, a ∈ ((R, W.listOf (as.map Value.ref).toArray kR) :: (Mn, W.listOf mv.toArray km) :: (rl ++ rest)).map (·.1) := fun a ha => by
        simp only [List.map_cons, List.map_append, S.mat.adr, List.mem_cons, List.mem_append]; exact Or.inr (Or.inr (Or.inl ha))
      have off1 := off_own S.off hown hin (by simp) (by simp)
      have hallM := off_rest hM.adr S.offM S.off (fun p hp => (off1 p (List.mem_append_right _ hp)).2.2)
      replace F3 := frL [(Str.ofString "step", .int (k : Int) t), (Str.ofString "rows", .ref R), (Str.ofString "minors", .ref Mn)] F3 (all3 rfl hm1 hm2)
      dsimp only [chainL] at F3
      have hmvl : mv1.length ≤ 1000 := by rw [hV.1]; lia
      have hasl := S.len
      walk_at "no iter"
      rename IsRange _ _ _ _ _ _ _ _ => HR3
      rename Fr g _ _ _ => F4
      rename News g _ _ _ => N4
      refine range_inv (n := NN - (k + 1)) (fun i m nx => MinI NN as R Mn kR (rest ++ own) (curQ T k (k + 1 + i) 0) (k + 1 + 1) (mnT T) nx ∧ m (Str.ofString "rows") = some (.ref R) ∧ m (Str.ofString "minors") = some (.ref Mn) ∧ m (Str.ofString "step") = some (.int (k : Int) t)) rfl HR3 (range_small _ _ (NN - (k + 1)) (by lia) (by lia) (by lia)) (range_size _ _ (NN - (k + 1)) (by lia)) F4 N4 ?_ ?_ ?_
      · exact ⟨⟨rl1, _, _, rfl, hM.congr fun i j hi hj => (curQ_start T k i j).symm, hV.snoc (curT_kk T k).symm⟩, rfl, rfl, rfl⟩
      · rintro i t2 m₂ nx2 h2 tk2 own2 hi hadr2 hown2 ⟨⟨rl2, mv2, km2, rfl, hM2, hV2⟩, hm21, hm22, hm23⟩ F5 N5
        have ep : ((k : Int) + 1 + (i : Int)) = ((k + 1 + i : Nat) : Int) := by lia
        rw [ep] at F5
        obtain ⟨p, hp⟩ : ∃ p, p = k + 1 + i := ⟨_, rfl⟩
        have hnx2 : (curQ T k (k + 1 + (i + 1)) 0) = curQ T k (p + 1) 0 := by rw [hp]; rfl
        rw [hnx2]
        rw [← hp] at F5 hM2
        have hpk : k < p := by lia
        have hpl : p < as.length := by lia
        have hpn : p < NN := by lia
        simp only [List.cons_append, List.append_assoc] at N5
        have hin2 : ∀ a ∈ as, a ∈ ((R, W.listOf (as.map Value.ref).toArray kR) :: (Mn, W.listOf mv.toArray km) :: (rl1 ++ (rest ++ own))).map (·.1) := fun a ha => by
          simp only [List.map_cons, List.map_append, hM.adr, List.mem_cons, List.mem_append]; exact Or.inr (Or.inr (Or.inl ha))
        have off2 : ∀ p ∈ rest ++ (own ++ own2), p.1 ∉ as ∧ p.1 ≠ R ∧ p.1 ≠ Mn := fun p hp => off_own off1 hown2 hin2 (by simp) (by simp) p (by simpa [List.append_assoc] using hp)
        replace F5 := frL [(Str.ofString "place", .int (p : Int) t2), (Str.ofString "step", .int (k : Int) t), (Str.ofString "rows", .ref R), (Str.ofString "minors", .ref Mn)] F5 (all4 rfl hm23 hm21 hm22)
        dsimp only [chainL] at F5
        walk_at "no iter"
        rename IsRange _ _ _ _ _ _ _ _ => HR5
        rename Fr g _ _ _ => F6
        rename News g _ _ _ => N6
        refine range_inv (n := NN - (k + 1)) (fun j m nx => MinI NN as R Mn kR (rest ++ (own ++ own2)) (curQ T k p (k + 1 + j)) (k + 1 + 1) (mnT T) nx ∧ m (Str.ofString "rows") = some (.ref R) ∧ m (Str.ofString "minors") = some (.ref Mn) ∧ m (Str.ofString "step") = some (.int (k : Int) t) ∧ m (Str.ofString "place") = some (.int (p : Int) t2)) rfl HR5 (range_small _ _ (NN - (k + 1)) (by lia) (by lia) (by lia)) (range_size _ _ (NN - (k + 1)) (by lia)) F6 N6 ?_ ?_ ?_
        · exact ⟨⟨rl2, _, _, rfl, hM2.congr fun i j hi hj => (curQ_row T k p i j).symm, hV2⟩, rfl, rfl, rfl, rfl⟩
        · rintro j t3 m₃ nx3 h3 tk3 own3 hj hadr3 hown3 ⟨⟨rl3, mv3, km3, rfl, hM3, hV3⟩, hm31, hm32, hm33, hm34⟩ F7 N7
          have eq' : ((k : Int) + 1 + (j : Int)) = ((k + 1 + j : Nat) : Int) := by lia
          rw [eq'] at F7
          obtain ⟨q, hq⟩ : ∃ q, q = k + 1 + j := ⟨_, rfl⟩
          have hnx3 : (curQ T k p (k + 1 + (j + 1))) = curQ T k p (q + 1) := by rw [hq]; rfl
          rw [hnx3]
          rw [← hq] at F7 hM3
          have hqk : k < q := by lia
          have hqn : q < NN := by lia
          simp only [List.cons_append, List.append_assoc] at N7
          replace F7 := frL [(Str.ofString "spot", .int (q : Int) t3), (Str.ofString "place", .int (p : Int) t2), (Str.ofString "step", .int (k : Int) t), (Str.ofString "rows", .ref R), (Str.ofString "minors", .ref Mn)] F7 (all5 rfl hm34 hm33 hm31 hm32)
          dsimp only [chainL] at F7
          have hb1 := hB k p q hk hpn hqn
          have hb2 := hB k k k hk hk hk
          have hb3 := hB k p k hk hpn hk
          have hb4 := hB k k q hk hk hqn
          rw [← curQ_pq (T := T) hpk hqk] at hb1
          rw [← curQ_kk (T := T) (q := q) hpk] at hb2
          rw [← curQ_pk (T := T) hpk hqk] at hb3
          rw [← curQ_kq (T := T) hpk hqk] at hb4
          have hmk := hmn k hk
          have hms := mnT_small hB hk
          walk_at "no set"
          rename (rl3[p]? = some _) => hrp
          rename RowOf NN _ _ => hRp
          refine cell_set (by k_asm) (by k_asm) (by walk_at "row mem") (by rw [hRp.1]; exact hqn) (by rw [hRp.1]; lia) ?_
          intro h5 F8 NW
          have hin3 : ∀ a ∈ as, a ∈ ((R, W.listOf (as.map Value.ref).toArray kR) :: (Mn, W.listOf mv2.toArray km2) :: (rl2 ++ (rest ++ (own ++ own2)))).map (·.1) := fun a ha => by
            simp only [List.map_cons, List.map_append, hM2.adr, List.mem_cons, List.mem_append]; exact Or.inr (Or.inr (Or.inl ha))
          have hx : Int.fdiv (curQ T k p q p q * curQ T k p q k k - curQ T k p q p k * curQ T k p q k q) (mnT T k) = T (k + 1) p q := by
            rw [curQ_pq hpk hqk, curQ_kk hpk, curQ_pk hpk hqk, curQ_kq hpk hqk]; exact (hTs k p q hpk hqk hpn hqn).symm
          obtain ⟨rl4, N8, hM4⟩ : ∃ rl4, News g _ h5 ((R, W.listOf (as.map Value.ref).toArray kR) :: (Mn, W.listOf mv3.toArray km3) :: (rl4 ++ (rest ++ (own ++ (own2 ++ own3))))) ∧ MatL NN as (curQ T k p (q + 1)) rl4 :=
            ⟨_, NW _ (mat_news (oR := W.listOf (as.map Value.ref).toArray kR) (oM := W.listOf mv3.toArray km3) hM3 S.nd S.offR S.offM (fun x hx => (off_own off2 hown3 hin3 (by simp) (by simp) x (by simpa [List.append_assoc] using hx)).1) hrp), (hM3.set hrp hRp).congr fun i j _ _ => curQ_set hpk hqk hx i j⟩
          (try dsimp only)
          walk_at "ends"
          show InvEndN _ _ _ _ _ _ _
          refine InvEndN.intro F8 N8 (nx := (R, W.listOf (as.map Value.ref).toArray kR) :: (Mn, W.listOf mv3.toArray km3) :: (rl4 ++ (rest ++ (own ++ own2)))) ⟨⟨_, _, _, rfl, hM4, hV3⟩, rfl, rfl, rfl, rfl⟩ ?_ ?_ ?_
          · exact adr_app hM4 hM2
          · walk_at "sub"
          · intro x hx; walk_at "mem in"
        · rintro m₃ nx3 h3 tk3 ⟨⟨rl3, mv3, km3, rfl, hM3, hV3⟩, hm31, hm32, hm33, hm34⟩ F7 N7
          have e5 : k + 1 + (NN - (k + 1)) = NN := by lia
          rw [e5] at hM3
          (try dsimp only)
          walk_at "ends"
          show InvEndN _ _ _ _ _ _ _
          refine InvEndN.intro F7 N7 (nx := (R, W.listOf (as.map Value.ref).toArray kR) :: (Mn, W.listOf mv3.toArray km3) :: (rl3 ++ (rest ++ own))) ⟨⟨_, _, _, rfl, hM3.congr fun i j _ hj => curQ_next T NN k p i j hj, hV3⟩, hm31, hm32, hm33⟩ ?_ ?_ ?_
          · exact adr_app hM3 hM
          · walk_at "sub"
          · intro x hx; walk_at "mem in"
      · rintro m₂ nx2 h2 tk2 ⟨⟨rl2, mv2, km2, rfl, hM2, hV2⟩, hm21, hm22, hm23⟩ F5 N5
        have e5 : k + 1 + (NN - (k + 1)) = NN := by lia
        rw [e5] at hM2
        (try dsimp only)
        walk_at "ends"
        show InvEndN _ _ _ _ _ _ _
        refine InvEndN.intro F5 N5 (nx := (R, W.listOf (as.map Value.ref).toArray kR) :: (Mn, W.listOf mv2.toArray km2) :: (rl2 ++ rest)) ⟨⟨_, _, _, rfl, hM2.congr fun i j hi _ => curQ_end T NN k i j (hasl ▸ hi), hV2⟩, hm21, hm22⟩ ?_ ?_ ?_
        · exact adr_app hM2 S.mat
        · walk_at "sub"
        · intro x hx; walk_at "mem in"
    · rintro m₁ nx h tk ⟨⟨rl1, mv1, km1, rfl, hM, hV⟩, hm1, hm2⟩ F3 N3
      have hI := hV.ints
      have hmz := hV.room (by lia)
      have hled := S.led
      replace F3 := frL [(Str.ofString "rows", .ref R), (Str.ofString "minors", .ref Mn)] F3 (all2 hm1 hm2)
      dsimp only [chainL] at F3
      (try dsimp only)
      k_steps
      rename News g _ _ _ => N9
      rename IntsAre _ _ => hI9
      rename (R < _ ∧ _) => l9
      obtain ⟨_, _, l9⟩ := l9
      have hne9 := allne_of l9
      refine hret _ _ _ (by assumption) ⟨_, _, _, rfl, news_at N9 List.mem_cons_self, fresh_of kG N9 List.mem_cons_self (fun hm => ?_), ints_cast hI9 (corners T NN)⟩
      obtain ⟨q, hq, eq⟩ := List.mem_map.mp hm
      exact hne9 q (List.mem_append_right _ (hled q hq)) eq
end
section
variable {prog : Program} {w : World} {A : Around} {E : Value → Shared → Prop} {s : Shared} {h₀ : Heap} {L : Addr} {m : Str → Option Value} {news : List (Addr × Obj)}
theorem ints_get : ∀ {vs : List Value} {ns : List Int}, IntsAre vs ns → vs.length = ns.length ∧ ∀ (i : Nat) x, ns[i]? = some x → ∃ t, vs[i]? = some (.int x t)
  | _, _, .nil => ⟨rfl, fun i x e => by simp at e⟩
  | _, _, .cons n t h => by
    have z := ints_get h
    refine ⟨by simp [z.1], fun i x e => ?_⟩
    cases i with
    | zero => simp at e; subst e; exact ⟨t, rfl⟩
    | succ i => simpa using z.2 i x (by simpa using e)
theorem row_mem {N : Nat} {M : Nat → Int} {ys : List Value} (h : RowOf N M ys) {v : Value} (hv : v ∈ ys) : ∃ p t, p < N ∧ v = .int (M p) t := by
  obtain ⟨i, hi, e⟩ := List.mem_iff_getElem.mp hv
  obtain ⟨t, ht⟩ := h.2 i (h.1 ▸ hi)
  rw [List.getElem?_eq_getElem hi, e] at ht
  exact ⟨i, t, h.1 ▸ hi, Option.some.inj ht⟩
theorem paired_get {α β : Type} {F : α → β → Prop} : ∀ {l₁ : List α} {l₂ : List β}, Paired F l₁ l₂ → ∀ (i : Nat) a, l₁[i]? = some a → ∃ b, l₂[i]? = some b ∧ F a b
  | _, _, .nil, i, a, e => by simp at e
  | _, _, .cons h t, i, a, e => by
    cases i with
    | zero => simp at e; subst e; exact ⟨_, rfl, h⟩
    | succ i => obtain ⟨b, hb, hf⟩ := paired_get t i a (by simpa using e); exact ⟨b, by simpa using hb, hf⟩
theorem max2 {p q : Nat} {t u : Tok} {Q : Value → Shared → Prop} (hh : A.handled = none) (F : Fr h₀ L s.heap m) (N : News h₀ L s.heap news)
    (h : ∀ t' h' tk, Fr h₀ L h' m → News h₀ L h' news → (∀ c o, s.heap.get? c = some o → h'.get? c = some o) → Q (.int ((max p q : Nat) : Int) t') { s with heap := h', toks := tk }) :
    wpAny (model prog w) A (call (.builtin "max") [.int (p : Int) t, .int (q : Int) u]) Q E s := by
  refine PySem.Flt.max_two_num hh (.int _ _) (.int _ _) fun h' tk kp => ?_
  by_cases e : p < q
  · rw [show PySem.Flt.ltV (.int (p : Int) t) (.int (q : Int) u) = true from decide_eq_true (Int.ofNat_lt.mpr e), if_pos rfl]
    have := h u h' tk (F.keeps kp) (fun x hx => ⟨kp _ _ (N x hx).1, (N x hx).2⟩) kp
    rwa [Nat.max_eq_right (Nat.le_of_lt e)] at this
  · rw [show PySem.Flt.ltV (.int (p : Int) t) (.int (q : Int) u) = false from decide_eq_false fun h => e (Int.ofNat_lt.mp h), if_neg Bool.false_ne_true]
    have := h t h' tk (F.keeps kp) (fun x hx => ⟨kp _ _ (N x hx).1, (N x hx).2⟩) kp
    rwa [Nat.max_eq_left (Nat.not_lt.mp e)] at this
theorem min2 {p q : Nat} {t u : Tok} {Q : Value → Shared → Prop} (hh : A.handled = none) (F : Fr h₀ L s.heap m) (N : News h₀ L s.heap news)
    (h : ∀ t' h' tk, Fr h₀ L h' m → News h₀ L h' news → (∀ c o, s.heap.get? c = some o → h'.get? c = some o) → Q (.int ((min p q : Nat) : Int) t') { s with heap := h', toks := tk }) :
    wpAny (model prog w) A (call (.builtin "min") [.int (p : Int) t, .int (q : Int) u]) Q E s := by
  refine PySem.Flt.min_two_num hh (.int _ _) (.int _ _) fun h' tk kp => ?_
  by_cases e : q < p
  · rw [show PySem.Flt.ltV (.int (q : Int) u) (.int (p : Int) t) = true from decide_eq_true (Int.ofNat_lt.mpr e), if_pos rfl]
    have := h u h' tk (F.keeps kp) (fun x hx => ⟨kp _ _ (N x hx).1, (N x hx).2⟩) kp
    rwa [Nat.min_eq_right (Nat.le_of_lt e)] at this
  · rw [show PySem.Flt.ltV (.int (q : Int) u) (.int (p : Int) t) = false from decide_eq_false fun h => e (Int.ofNat_lt.mp h), if_neg Bool.false_ne_true]
    have := h t h' tk (F.keeps kp) (fun x hx => ⟨kp _ _ (N x hx).1, (N x hx).2⟩) kp
    rwa [Nat.min_eq_left (Nat.not_lt.mp e)] at this
noncomputable def TriN (as : List Addr) (M : Nat → Nat → Int) (news : List (Addr × Obj)) : Prop := ∀ i, i < as.length → ∃ a vs k, as[i]? = some a ∧ (a, W.listOf (List.toArray vs) k) ∈ news ∧ RowOf (i + 1) (M i) vs
theorem TriN.mono {as : List Addr} {M : Nat → Nat → Int} {l l' : List (Addr × Obj)} (h : TriN as M l) (hs : ∀ p ∈ l, p ∈ l') : TriN as M l' := fun i hi => by
  obtain ⟨a, vs, k, h1, h2, h3⟩ := h i hi
  exact ⟨a, vs, k, h1, hs _ h2, h3⟩
theorem tri_row {value slice : PySem.Expr} {R : Addr} {kR i : Nat} {as : List Addr} {M : Nat → Nat → Int} {u : Tok} {Q : Value → Shared → Prop}
    (N : News h₀ L s.heap news) (hM : TriN as M news) (hR : (R, W.listOf (as.map Value.ref).toArray kR) ∈ news) (hi : i < as.length) (hz : as.length ≤ 100)
    (h : ∀ a vs k, (a, W.listOf (List.toArray vs) k) ∈ news → RowOf (i + 1) (M i) vs → Q (.ref a) s)
    (hs : subscripted slice false (.ref R) (.int (i : Int) u) = operate [.ref R, .int (i : Int) u] (getItem (.ref R) (.int (i : Int) u))) :
    wpAny (model prog w) A (subscriptTail value slice (.ref R) (.int (i : Int) u)) Q E s := by
  obtain ⟨a, vs, k, h1, h2, h3⟩ := hM i hi
  have hl' : s.heap.IsList R (as.map Value.ref).toArray := ⟨_, (N _ hR).1, rfl, kR, rfl⟩
  exact tail_any hl'.typeIs slot_list_getitem.lookup (wpAny_getItem_list hl' (by lia) (by lia) (by simp [h1]) (h a vs k h2 h3)) hs
theorem mem3 {p : Addr × Obj} {a b c : Addr × Obj} {l : List (Addr × Obj)} (h : p ∈ l) : p ∈ a :: b :: c :: l := .tail _ (.tail _ (.tail _ h))
noncomputable def sqM (M : Nat → Nat → Int) (i j : Nat) : Int := M (max i j) (min i j)
noncomputable def SqR (M : Nat → Nat → Int) (p : Nat) (v y : Value) : Prop := ∃ q t t', v = .int ((q : Nat) : Int) t ∧ y = .int (sqM M p q) t'
noncomputable def SqG (N : Nat) (M : Nat → Nat → Int) (v : Value) (its : List Value) : Prop := ∃ p t, v = .int ((p : Nat) : Int) t ∧ RowOf N (sqM M p) its
theorem sq_row {N p : Nat} {M : Nat → Nat → Int} {ys zs : List Value} (h : RowOf N (fun j => (j : Int)) ys) (P : Paired (SqR M p) ys zs) : RowOf N (sqM M p) zs := by
  refine ⟨by rw [← P.length, h.1], fun j hj => ?_⟩
  obtain ⟨t, ht⟩ := h.2 j hj
  obtain ⟨b, hb, q, t1, t2, e, rfl⟩ := paired_get P j _ ht
  have : j = q := by injection e with e _; exact Int.ofNat.inj e
  subst this
  exact ⟨t2, hb⟩
theorem sq_rows {N : Nat} {M : Nat → Nat → Int} {ys : List Value} {rows : List (Addr × Obj)} (h : RowOf N (fun j => (j : Int)) ys) (P : Paired (RowIs (SqG N M)) ys rows) : MatL N (rows.map (·.1)) (sqM M) rows := by
  refine ⟨rfl, fun i hi => ?_⟩
  rw [List.length_map, ← P.length, h.1] at hi
  obtain ⟨t, ht⟩ := h.2 i hi
  obtain ⟨b, hb, its, n, e, p, t1, e1, hr⟩ := paired_get P i _ ht
  have : i = p := by injection e1 with e1 _; exact Int.ofNat.inj e1
  subst this
  exact ⟨b.1, its, n, by rw [hb, ← e], by simp [hb], hr⟩
theorem not_led {g : Heap} {h : Heap} {D : Addr} {led nn : List (Addr × Obj)} (N : News g L h nn) (hs : ∀ p ∈ led, p ∈ nn) (e : h.get? D = none) : D ∉ led.map (·.1) := fun hm => by
  obtain ⟨p, hp, rfl⟩ := List.mem_map.mp hm
  rw [(N p (hs p hp)).1] at e; cases e
inductive SqP (N : Nat) (M : Nat → Nat → Int) (H h' : Heap) (v : Value) : Prop
  | mk (D : Addr) (k : Nat) (rl : List (Addr × Obj)) (e : v = .ref D) (D0 : H.get? D = none) (hD : h'.get? D = some (W.listOf (List.toArray (rl.map fun p => Value.ref p.1)) k)) (hl : rl.length = N) (hM : MatL N (rl.map (·.1)) (sqM M) rl) (hr : ∀ p ∈ rl, h'.get? p.1 = some p.2 ∧ H.get? p.1 = none ∧ p.1 ≠ D) (pw : rl.Pairwise (fun p q => p.1 ≠ q.1)) : SqP N M H h' v
end
theorem kw_c_square_0 : True := by
  k_with_none
  (k_with "k_room" => (ktr_room))
  (k_with "con sub" => (first | exact List.forall_mem_nil _ | k_extra "sub" | (simp only [List.forall_mem_cons]; refine ⟨?_, ?_⟩ <;> first | exact List.forall_mem_nil _ | k_mem | k_extra "con sub") | k_sub))
  (k_with "con enter" => ((refine wpAny_call ?_; (refine' code_defG (by assumption) (by assumption) (by assumption) (by assumption) (by assumption) (by exact rfl) (by exact rfl) (by exact rfl) (by k_is) (by k_is) (by k_room) (by first | exact BindsTo.of_eq rfl | exact binds_K (by k_in) rfl (by k_is) rfl rfl rfl | fail "k_enter: no rule for these arguments") (by exact locs rfl) ?_ (by exact rfl) (by exact rfl) (by exact rfl) (by decide); k_whole))))
  (k_with "con start" => ((dsimp only [Con, fnSc]; intros; rename_i hret)))
  (k_with "LeaveK" => ((k_dflt (refine' leave_con (by with_reducible assumption) (by assumption) (by k_asm) (by k_asm) (by k_extra "con sub") ?_; k_whole); intro _; (try dsimp only))))
  (k_with "con enterC" => ((refine wpAny_call ?_; (refine' enter_cells (by assumption) (by assumption) (by assumption) (by assumption) (by assumption) (by exact rfl) (by exact rfl) (by exact rfl) (by k_is) (by k_is) (by k_room) (by exact BindsTo.of_eq rfl) (by exact rfl) (by decide +kernel) ?_ (by exact rfl) (by exact rfl) (by exact rfl); k_whole))))
  (k_with "con enterR" => ((refine wpAny_call ?_; (refine' enter_rest (by assumption) (by assumption) (by assumption) (by assumption) (by assumption) (by exact rfl) (by exact rfl) (by exact rfl) (by k_is) (by k_is) (by k_room) (by exact rfl) (by exact fun _ => locs rfl) ?_ (by exact rfl) (by exact rfl) (by exact rfl) (by decide); k_whole))))
  (k_with "callWith" => ((k_here; (with_reducible show wpAny _ _ (callWith _ (Value.builtin _) (_ :: _) (backTo _ (starEach (_ :: _) _)) []) _ _ _); (with_reducible refine' callWith_method1 ?_ (by k_dflt (exact rfl)) (by k_dflt (exact rfl))))))
  (k_with "mem at" => (with_reducible (first | exact List.mem_cons_self | exact List.Mem.head _ | (refine List.mem_cons_of_mem _ ?_; k_extra "mem at") | (refine List.mem_append_left _ ?_; k_extra "mem at") | (refine List.mem_append_right _ ?_; k_extra "mem at"))))
  (k_with "mem in" => (with_reducible (first | assumption | (refine List.mem_cons_of_mem _ ?_; k_extra "mem in") | (refine List.mem_append_right _ ?_; k_extra "mem in") | (refine List.mem_append_left _ ?_; k_extra "mem in"))))
  (k_with "sub" => (with_reducible (first | exact sub_nil | exact sub_refl | (refine sub_cons ?_ ?_; (focus k_extra "mem at"); k_extra "sub") | (refine subs_app ?_ ?_; (focus k_extra "sub"); k_extra "sub") | (intro _ _; k_extra "mem in"))))
  (k_with "call builtin:issubclass" => ((k_here; (with_reducible show wpAny _ _ (call (Value.builtin "issubclass") [Value.type "str", Value.ref _]) _ _ _); refine' isc_call (by k_asm) (by k_mem) ?_; k_whole)))
  (k_with "call ref" => ((k_here; (with_reducible show wpAny _ _ (call (Value.ref 94) [Value.str _ _]) _ _ _); k_dflt (refine' con_use c_fspath (by k_asm) (by k_asm) (by k_asm) (by k_asm) (by k_asm) (by k_extra "con sub") (by ktr_room) (by ktr_units) ?_; k_whole); intro _ _ _ _ _ _ hv9w9; subst hv9w9; (try dsimp only); (try k_fold))))
  (k_with "CompEnd" => ((refine compEnd_lt (by assumption) ?_; intro l9'w9; k_lt l9'w9; lcg_end)))
  (k_with "FinE" => (((unfold LCg.FinE); intro _ _ _ _ N'w9 _; (try dsimp only [List.nil_append, List.cons_append] at N'w9); (try dsimp only))))
  (k_with "FinA" => (((unfold LCg.FinA); intro _ _ _ _ N'w9 _; (try dsimp only [List.nil_append, List.cons_append] at N'w9); (try dsimp only))))
  (k_with "lcg_off" => (first | exact True.intro | (with_reducible assumption) | (refine And.intro (by first | exact off3_at _ _ (by assumption) (by k_mem) rfl | exact ⟨by k_ne, by k_ne, by k_ne⟩) ?_; lcg_off) | (refine And.intro (by k_ne) ?_; lcg_off)))
  (k_with "SeqSrc" => ((k_here; k_dflt ((refine SeqSrc.is (by rfl) (by k_asm) (by k_asm) (by k_mem) (by first | exact Or.inl rfl | exact Or.inr rfl) (by first | size_fits | exact Nat.le_of_ble_eq_true rfl) ?_); intro _; lcg_lit))))
  (k_with "CompRest" => ((with_unfolding_all first
  | (refine LCg.CompRest.succ ?_; intro _ _ _ _ _ _ _ _ _ _ hv'w9 _ _ _ _ _ ne'w9; (replace hv'w9 := Option.some.inj hv'w9; (first | subst hv'w9 | dsimp only at hv'w9; subst hv'w9)); (replace ne'w9 : NeP _ _ _ := ne'w9))
  | refine LCg.CompRest.zero ?_)))
  (k_with "and" => ((with_reducible first | exact And.left (by assumption) | exact And.left (And.right (by assumption)) | exact And.left (And.right (And.right (by assumption))) | exact And.left (And.right (And.right (And.right (by assumption)))) | exact And.left (And.right (And.right (And.right (And.right (by assumption))))) | exact And.left (And.right (And.right (And.right (And.right (And.right (by assumption)))))) | exact And.left (And.right (And.right (And.right (And.right (And.right (And.right (by assumption))))))) | exact And.left (And.right (And.right (And.right (And.right (And.right (And.right (And.right (by assumption)))))))) | exact And.left (And.right (And.right (And.right (And.right (And.right (And.right (And.right (And.right (by assumption))))))))) | exact And.left (And.right (And.right (And.right (And.right (And.right (And.right (And.right (And.right (And.right (by assumption)))))))))) | exact And.left (And.right (And.right (And.right (And.right (And.right (And.right (And.right (And.right (And.right (And.right (by assumption))))))))))) | exact And.left (And.right (And.right (And.right (And.right (And.right (And.right (And.right (And.right (And.right (And.right (And.right (by assumption)))))))))))) | exact And.left (And.right (And.right (And.right (And.right (And.right (And.right (And.right (And.right (And.right (And.right (And.right (And.right (by assumption))))))))))))) | exact And.left (And.right (And.right (And.right (And.right (And.right (And.right (And.right (And.right (And.right (And.right (And.right (And.right (And.right (by assumption)))))))))))))) | exact And.left (And.right (And.right (And.right (And.right (And.right (And.right (And.right (And.right (And.right (And.right (And.right (And.right (And.right (And.right (by assumption))))))))))))))) | exact And.left (And.right (And.right (And.right (And.right (And.right (And.right (And.right (And.right (And.right (And.right (And.right (And.right (And.right (And.right (And.right (by assumption)))))))))))))))) | exact And.right (by assumption) | exact And.right (And.right (by assumption)) | exact And.right (And.right (And.right (by assumption))) | exact And.right (And.right (And.right (And.right (by assumption)))) | exact And.right (And.right (And.right (And.right (And.right (by assumption))))) | exact And.right (And.right (And.right (And.right (And.right (And.right (by assumption)))))) | exact And.right (And.right (And.right (And.right (And.right (And.right (And.right (by assumption))))))) | exact And.right (And.right (And.right (And.right (And.right (And.right (And.right (And.right (by assumption)))))))) | exact And.right (And.right (And.right (And.right (And.right (And.right (And.right (And.right (And.right (by assumption))))))))) | exact And.right (And.right (And.right (And.right (And.right (And.right (And.right (And.right (And.right (And.right (by assumption)))))))))) | exact And.right (And.right (And.right (And.right (And.right (And.right (And.right (And.right (And.right (And.right (And.right (by assumption))))))))))))))
  (k_with "and3" => ((with_reducible first | exact And.left (And.left (by assumption)) | exact And.left (And.right (And.left (by assumption))) | exact And.right (And.right (And.left (by assumption))) | exact And.left (And.left (And.right (by assumption))) | exact And.left (And.right (And.left (And.right (by assumption)))) | exact And.right (And.right (And.left (And.right (by assumption)))) | exact And.left (And.left (And.right (And.right (by assumption)))) | exact And.left (And.right (And.left (And.right (And.right (by assumption))))) | exact And.right (And.right (And.left (And.right (And.right (by assumption))))) | exact And.left (And.left (And.right (And.right (And.right (by assumption))))) | exact And.left (And.right (And.left (And.right (And.right (And.right (by assumption)))))) | exact And.right (And.right (And.left (And.right (And.right (And.right (by assumption)))))) | exact And.left (And.left (And.right (And.right (And.right (And.right (by assumption)))))) | exact And.left (And.right (And.left (And.right (And.right (And.right (And.right (by assumption))))))) | exact And.right (And.right (And.left (And.right (And.right (And.right (And.right (by assumption))))))) | exact And.left (And.left (And.right (And.right (And.right (And.right (And.right (by assumption))))))) | exact And.left (And.right (And.left (And.right (And.right (And.right (And.right (And.right (by assumption)))))))) | exact And.right (And.right (And.left (And.right (And.right (And.right (And.right (And.right (by assumption)))))))) | exact And.left (And.left (And.right (And.right (And.right (And.right (And.right (And.right (by assumption)))))))) | exact And.left (And.right (And.left (And.right (And.right (And.right (And.right (And.right (And.right (by assumption))))))))) | exact And.right (And.right (And.left (And.right (And.right (And.right (And.right (And.right (And.right (by assumption))))))))) | exact And.left (And.left (And.right (And.right (And.right (And.right (And.right (And.right (And.right (by assumption))))))))) | exact And.left (And.right (And.left (And.right (And.right (And.right (And.right (And.right (And.right (And.right (by assumption)))))))))) | exact And.right (And.right (And.left (And.right (And.right (And.right (And.right (And.right (And.right (And.right (by assumption)))))))))) | exact And.left (And.left (And.right (And.right (And.right (And.right (And.right (And.right (And.right (And.right (by assumption)))))))))) | exact And.left (And.right (And.left (And.right (And.right (And.right (And.right (And.right (And.right (And.right (And.right (by assumption))))))))))) | exact And.right (And.right (And.left (And.right (And.right (And.right (And.right (And.right (And.right (And.right (And.right (by assumption))))))))))))))
  (k_with "k_ne" => (first | (with_reducible assumption) | (with_reducible exact Ne.symm (by assumption)) | (refine neN ?_; (try dsimp only); first | (with_reducible assumption) | (with_reducible exact Nat.ne_of_lt (by assumption)) | (with_reducible exact Nat.ne_of_gt (by assumption)) | (with_reducible exact Nat.ne_of_lt (by k_extra "and")) | (with_reducible exact Nat.ne_of_gt (by k_extra "and")) | assumption | exact Ne.symm (by assumption) | k_extra "ne off" | (with_reducible exact Ne.symm (by k_extra "and3")) | (with_reducible k_extra "and3") | (with_reducible exact Ne.symm (by k_extra "and")) | (with_reducible k_extra "and") | lia) | assumption | exact Ne.symm (by assumption)))
  (k_with "ne off" => (first | exact off1_at (by assumption) (by k_mem) | exact Ne.symm (off1_at (by assumption) (by k_mem)) | exact neP1 (by assumption) | exact neP2 (by assumption) | exact neP3 (by assumption) | exact Ne.symm (neP1 (by assumption)) | exact Ne.symm (neP2 (by assumption)) | exact Ne.symm (neP3 (by assumption)) | exact off3_at1 (by assumption) (by k_mem) | exact off3_at2 (by assumption) (by k_mem) | exact off3_at3 (by assumption) (by k_mem) | exact Ne.symm (off3_at1 (by assumption) (by k_mem)) | exact Ne.symm (off3_at2 (by assumption) (by k_mem)) | exact Ne.symm (off3_at3 (by assumption) (by k_mem))))
  (k_with "lcg_src" => (k_mem))
  (k_with "comp seq" => ((k_dflt (refine comp_seq (_F₀ := by k_asm) (by rfl) (by decide) (by rfl) (by decide) (by rfl) ?_))))
  (k_with "assign comp seq" => ((k_dflt (refine assign_comp_seq (_F₀ := by k_asm) (by rfl) (by with_unfolding_all rfl) (by rfl) (by decide) (by rfl) (by decide) (by rfl) (by rfl) (by rfl) ?_))))
  (k_with "no comp" => (repeat' ((fail_if_success (with_reducible show wpAny _ _ (exec (Stmt.Assign [Expr.Name _ _] (Expr.ListComp _ _ _ _) _) _) _ _ _)); (fail_if_success (with_reducible show wpAny _ _ (eval (Expr.ListComp _ _ _ _) _) _ _ _)); (first | (k_unfold; (try dsimp only)) | (k_end; wrow_close) | walk1 | (dsimp only; walk1) | (leave1; walk_say "STEP leave1"; try dsimp only) | fail "no step"))))
  (k_with "no while" => (repeat' ((fail_if_success (with_reducible show wpAny _ _ (exec (Stmt.While _ _ _ _) _) _ _ _)); (first | (k_unfold; (try dsimp only)) | (k_end; wrow_close) | walk1 | (dsimp only; walk1) | (leave1; walk_say "STEP leave1"; try dsimp only) | fail "no step"))))
  (k_with "size small" => (first | size_fits | ((simp only [List.length_cons, List.length_nil, List.length_append, sizeLine_eq] at *); lia)))
  (k_with "binaryOp Add ref ref" => ((k_here; (with_reducible show wpAny _ _ (binaryOp _ (Value.ref _) (Value.ref _)) _ _ _); k_dflt (refine' add_lst (by k_asm) (by k_asm) (by k_mem) (by k_mem) ?_ (by k_extra "size small")); intro _ _ _ _ l1w9; (try k_lt l1w9); (try k_sweep))))
  (k_with "int small" => (first | lia | ((simp (config := { decide := true }) only [] at *); lia) | (simp; lia)))
  (k_with "binaryOp Mult int int" => ((k_here; (with_reducible show wpAny _ _ (binaryOp Operator.Mult (Value.int _ _) (Value.int _ _)) _ _ _); refine' PyProof.Rows.mul_int ?_ (by first | exact IntMulOk.of_left (bits64 (by k_extra "int small") (by k_extra "int small")) | exact IntMulOk.of_right (bits64 (by k_extra "int small") (by k_extra "int small"))))))
  (k_with "subscriptTail" => ((k_here; (with_reducible show wpAny _ _ (subscriptTail _ _ (Value.ref _) (Value.int _ _)) _ _ _); k_dflt (refine' item_lit (by k_asm) (by k_mem) (by exact rfl) (by decide) (by decide) ?_ (by with_unfolding_all rfl); k_whole))))
  (k_with "subscriptTail Name BinOp ref int" => (walk_at "subscriptTail"))
  (k_with "subscriptTail Name Name ref int" => (walk_at "subscriptTail"))
  (k_with "subscriptTail Name Constant ref int" => (walk_at "subscriptTail"))
  (k_with "comp seqX" => ((k_dflt (refine comp_seqX (_F₀ := by k_asm) (by rfl) (by decide) (by rfl) (by decide) (by rfl) ?_))))
  trivial
section
variable {w : World} {loose : List Str} {mean : ExcName → Option Value} {mg mb : Str → Option Value}
theorem row_ks {N : Nat} {ys : List Value} (h : IntsAre ys (rangeKs 0 ((N : Int) - 0).toNat)) : RowOf N (fun j => (j : Int)) ys := by
  have z := ints_get h
  rw [show ((N : Int) - 0).toNat = N by lia] at z
  refine ⟨by rw [z.1]; unfold rangeKs; rw [List.length_map, List.length_range], fun j hj => ?_⟩
  obtain ⟨t, ht⟩ := z.2 j (j : Int) (by unfold rangeKs; rw [List.getElem?_map, List.getElem?_range hj]; simp)
  exact ⟨t, ht⟩
theorem allNe {d c : Nat} {l : List (Addr × Obj)} (h : AllLt d l) (hc : d ≤ c) : ∀ p ∈ l, p.1 ≠ c := fun p hp => by
  induction l with
  | nil => cases hp
  | cons q l ih =>
    rcases List.mem_cons.mp hp with rfl | hp
    · exact Nat.ne_of_lt (Nat.lt_of_lt_of_le h.1 hc)
    · exact ih h.2 hp
theorem kw_c_square_1 : True := by
  (k_with "no store" => (repeat' ((fail_if_success (with_reducible show wpAny _ _ (storeName _ _ _) _ _ _)); (first | (k_unfold; (try dsimp only)) | (k_end; wrow_close) | walk1 | (dsimp only; walk1) | (leave1; walk_say "STEP leave1"; try dsimp only) | fail "no step"))))
  (k_with "call builtin:max" => ((k_here; (with_reducible show wpAny _ _ (call (Value.builtin "max") [Value.int _ _, Value.int _ _]) _ _ _); k_dflt (refine' max2 rfl (by k_asm) (by k_asm) ?_; intro _ _ _ _ _ kp9w9; (try dsimp only at kp9w9); (try dsimp only)))))
  (k_with "call builtin:min" => ((k_here; (with_reducible show wpAny _ _ (call (Value.builtin "min") [Value.int _ _, Value.int _ _]) _ _ _); k_dflt (refine' min2 rfl (by k_asm) (by k_asm) ?_; intro _ _ _ _ _ kp9w9; (try dsimp only at kp9w9); (try dsimp only)))))
  (k_with "subscriptTail" => ((k_here; (with_reducible show wpAny _ _ (subscriptTail _ _ (Value.ref _) (Value.int (Nat.cast (max _ _)) _)) _ _ _); k_dflt (refine' tri_row (by k_asm) (by (refine TriN.mono (by assumption) ?_; intro _ hqw9; (repeat (first | exact hqw9 | apply List.mem_cons_of_mem)))) (by k_mem) (by assumption) (by assumption) ?_ (by with_unfolding_all rfl); intro _ _ _ _ _; (try dsimp only)))))
  (k_with "subscriptTail" => ((k_here; (with_reducible show wpAny _ _ (subscriptTail _ _ (Value.ref _) (Value.int (Nat.cast (min _ _)) _)) _ _ _); k_dflt (refine' cell_get (by k_asm) (by assumption) (by assumption) (by assumption) (by lia) ?_ (by with_unfolding_all rfl); k_whole))))
  (k_with "call builtin:len" => ((k_here; (with_reducible show wpAny _ _ (call (Value.builtin "len") [Value.ref _]) _ _ _); k_dflt (refine' len_refs (by k_asm) (by k_mem) (by assumption) (by assumption) ?_))))
  (k_with "k_all" => (first | assumption | exact List.forall_mem_nil _ | (refine List.forall_mem_cons.mpr ⟨?_, ?_⟩; k_ne; k_all) | exact allNe (by assumption) (by lia)))
  trivial
set_option maxRecDepth 100000 in
set_option maxHeartbeats 8000000 in
theorem c_square {l : Addr} {n NN : Nat} {as : List Addr} {rl0 : List (Addr × Obj)} {M : Nat → Nat → Int} (hT0 : TriN as M rl0) (hNN : as.length = NN) (hN1 : 1 ≤ NN) (hN9 : NN ≤ 9) :
    Con w loose mean mg mb 2 233 ((l, W.listOf (as.map Value.ref).toArray n) :: rl0) [.ref l] (SqP NN M) := by
  dsimp only [Con, fnSc]
  intro dp un gd cn ns ig ic mr a ccd cl outer A₀ base h₀ L m s Q E B0 F0 X0 N0 T0 hd0 hu0 hret
  have TR : TriN as M ((l, W.listOf (as.map Value.ref).toArray n) :: rl0) := hT0.mono fun p hp => List.mem_cons_of_mem _ hp
  have hz : as.length ≤ 100 := by lia
  walk_at "con enterC"
  intro g L' h1 tk1 cells1 FG F1 N1 Y1 B1 X1 T1 l1 kG; (try k_lt l1); k_cells Y1; (try dsimp only [List.cons_append, List.nil_append] at N1); (try dsimp only); (try k_lift B1); (try k_fold)
  walk_at "no store"
  rename IntsAre _ (rangeKs _ _) => I9
  have R9 := row_ks I9
  walk_at "no comp"
  k_dflt (refine comp_cell (SqG NN M) (by k_asm) (by rfl) (by rfl) (by rfl) (by decide) (by rfl) (fun k => rfl) (fun h => rfl) ?_)
  k_steps
  k_dflt (refine' CellSrc.is ?F ?N ?mem (Or.inl rfl) ?len ?_ ?_; (case F => k_asm); (case N => k_asm); (case mem => k_mem); (case len => rw [R9.1, sizeLine_eq]; lia))
  · intro C c oC m₃ v s₃ E₃ hv hoC F3 N3
    obtain ⟨p, t, hp, rfl⟩ := row_mem R9 hv
    generalize hoc9 : cellObj (some (Value.int ((p : Nat) : Int) t)) = oc9 at N3
    have dc9 : oc9.data = Data.cell (some (Value.int ((p : Nat) : Int) t)) := by rw [← hoc9]
    clear hoc9
    walk_at "no comp"
    k_dflt (refine comp_plain (SqR M p) (by k_asm) (by rfl) (by rfl) (by decide) (by rfl) (by decide) (by rfl) ?_)
    k_steps
    k_dflt (refine' PlnSrc.is ?F ?N ?mem (Or.inl rfl) ?len ?_ ?_; (case F => k_asm); (case N => k_asm); (case mem => k_mem); (case len => rw [R9.1, sizeLine_eq]; lia))
    · intro C4 oC4 v4 s4 m4 E4 hv4 hC4 hx4 F4 N4
      obtain ⟨q, t4, hq, rfl⟩ := row_mem R9 hv4
      have hp5 : p < NN := hp
      have hq5 : q < NN := hq
      have hmx : max p q < as.length := by rw [hNN]; exact Nat.max_lt.mpr ⟨hp5, hq5⟩
      have hmn : min p q < max p q + 1 := Nat.lt_succ_of_le (Nat.le_trans (Nat.min_le_left _ _) (Nat.le_max_left _ _))
      k_steps
      · exact ⟨q, t4, _, rfl, rfl⟩
      · refine ⟨_, _, rfl, fun b o e => ?_⟩
        solve_by_elim
    · intro D4 n4 ys4 h4 tk4 F4 N4 o4 st4 P4 nD4
      exact ⟨⟨D4, ys4, n4, rfl, nD4, news_at N4 List.mem_cons_self, p, t, rfl, sq_row R9 P4⟩, _, _, rfl, st4⟩
  · rename News g _ _ _ => N6
    intro D5 n5 ys5 h5 tk5 rows5 F5 N5 st5 nD5 fr5 pw5 e5 P5
    subst e5
    (try dsimp only)
    k_steps
    exact hret _ _ _ (by assumption) ⟨D5, n5, rows5, rfl, fresh_of kG N5 List.mem_cons_self (not_led N6 (fun q hq => mem3 hq) nD5), news_at N5 List.mem_cons_self, by rw [← P5.length, R9.1], sq_rows R9 P5,
      fun q hq => ⟨(N5 q (List.mem_cons_of_mem _ (List.mem_append_left _ hq))).1, fresh_of kG N5 (List.mem_cons_of_mem _ (List.mem_append_left _ hq)) (not_led N6 (fun q hq => mem3 hq) (fr5 q hq).1), (fr5 q hq).2⟩, pw5⟩
end
section
noncomputable def nmW (q : Nat → Int) (j : Nat) : Str := nameS (q j) (j : Int)
noncomputable def parW (q : Nat → Int) (j : Nat) : Nat := (Int.fmod (Int.fmod (q j) 256) ((j : Int) + 1)).toNat
noncomputable def txts (q : Nat → Int) : Nat → List Str
  | 0 => [Str.ofString ""]
  | k + 1 => txts q k ++ [((txts q k)[parW q k]?).getD (Str.ofString "") ++ Str.ofString "/" ++ nmW q k]
theorem txts_len (q : Nat → Int) : ∀ k, (txts q k).length = k + 1
  | 0 => rfl
  | k + 1 => by show (txts q k ++ [_]).length = _; rw [List.length_append, txts_len q k]; rfl
theorem parW_lt (q : Nat → Int) (j : Nat) : parW q j < j + 1 := by
  unfold parW
  have h1 : (0 : Int) < (j : Int) + 1 := by lia
  have := Int.fmod_nonneg_of_pos (Int.fmod (q j) 256) h1
  have := Int.fmod_lt_of_pos (Int.fmod (q j) 256) h1
  lia
theorem parW_cast (q : Nat → Int) (j : Nat) : Int.fmod (Int.fmod (q j) 256) ((j : Int) + 1) = (parW q j : Int) := by
  unfold parW
  have h1 : (0 : Int) < (j : Int) + 1 := by lia
  have := Int.fmod_nonneg_of_pos (Int.fmod (q j) 256) h1
  lia
theorem txt_at {prog : Program} {w : World} {A : Around} {E : Value → Shared → Prop} {s : Shared} {h₀ : Heap} {L : Addr} {news : List (Addr × Obj)} {value slice : PySem.Expr} {R : Addr} {kR i : Nat} {vs : List Value} {xs : List Str} {x : Str} {z : Int} {u : Tok} {Q : Value → Shared → Prop}
    (N : News h₀ L s.heap news) (hR : (R, W.listOf vs.toArray kR) ∈ news) (hM : TxtOf vs xs) (hx : xs[i]? = some x) (e : z = (i : Int)) (hz : i < 1000)
    (h : ∀ t, Q (.str x t) s)
    (hs : subscripted slice false (.ref R) (.int z u) = operate [.ref R, .int z u] (getItem (.ref R) (.int z u))) :
    wpAny (model prog w) A (subscriptTail value slice (.ref R) (.int z u)) Q E s := by
  obtain ⟨t, ht⟩ := hM.2 i x hx
  subst e
  have hl' : s.heap.IsList R vs.toArray := ⟨_, (N _ hR).1, rfl, kR, rfl⟩
  exact tail_any hl'.typeIs slot_list_getitem.lookup (wpAny_getItem_list hl' (by lia) (by lia) (by simpa using ht) (h t)) hs
theorem nameS_len (n p : Int) : (nameS n p).length ≤ 5 := by
  unfold nameS
  have h1 := slice4_le (Int.fmod (Int.fdiv n 256) 5)
  rw [Str.length_append]
  have h2 : (⟨#[(128 + Int.fmod (Int.fdiv n 1280) 16 * 8 + p).toNat]⟩ : Str).length = 1 := rfl
  lia
theorem txts_le (q : Nat → Int) : ∀ k, ∀ x ∈ txts q k, x.length ≤ 6 * k
  | 0, x, h => by
    rw [show txts q 0 = [Str.ofString ""] from rfl, List.mem_singleton] at h
    subst h; exact Nat.le_refl 0
  | k + 1, x, h => by
    rcases List.mem_append.mp h with h | h
    · have := txts_le q k x h; lia
    · rw [List.mem_singleton] at h; subst h
      have h1 : (((txts q k)[parW q k]?).getD (Str.ofString "")).length ≤ 6 * k := by
        rw [List.getElem?_eq_getElem (by rw [txts_len]; exact parW_lt q k)]
        exact txts_le q k _ (List.getElem_mem _)
      rw [Str.length_append, Str.length_append]
      have h2 : (Str.ofString "/").length = 1 := rfl
      have h3 : (nmW q k).length ≤ 5 := nameS_len _ _
      lia
end
theorem kw_c_spelled_0 : True := by
  k_with_none
  (k_with "k_room" => (ktr_room))
  (k_with "con sub" => (first | exact List.forall_mem_nil _ | k_extra "sub" | (simp only [List.forall_mem_cons]; refine ⟨?_, ?_⟩ <;> first | exact List.forall_mem_nil _ | k_mem | k_extra "con sub") | k_sub))
  (k_with "con enter" => ((refine wpAny_call ?_; (refine' code_defG (by assumption) (by assumption) (by assumption) (by assumption) (by assumption) (by exact rfl) (by exact rfl) (by exact rfl) (by k_is) (by k_is) (by k_room) (by first | exact BindsTo.of_eq rfl | exact binds_K (by k_in) rfl (by k_is) rfl rfl rfl | fail "k_enter: no rule for these arguments") (by exact locs rfl) ?_ (by exact rfl) (by exact rfl) (by exact rfl) (by decide); k_whole))))
  (k_with "con start" => ((dsimp only [Con, fnSc]; intros; rename_i hret)))
  (k_with "LeaveK" => ((k_dflt (refine' leave_con (by with_reducible assumption) (by assumption) (by k_asm) (by k_asm) (by k_extra "con sub") ?_; k_whole); intro _; (try dsimp only))))
  (k_with "con enterC" => ((refine wpAny_call ?_; (refine' enter_cells (by assumption) (by assumption) (by assumption) (by assumption) (by assumption) (by exact rfl) (by exact rfl) (by exact rfl) (by k_is) (by k_is) (by k_room) (by exact BindsTo.of_eq rfl) (by exact rfl) (by decide +kernel) ?_ (by exact rfl) (by exact rfl) (by exact rfl); k_whole))))
  (k_with "con enterR" => ((refine wpAny_call ?_; (refine' enter_rest (by assumption) (by assumption) (by assumption) (by assumption) (by assumption) (by exact rfl) (by exact rfl) (by exact rfl) (by k_is) (by k_is) (by k_room) (by exact rfl) (by exact fun _ => locs rfl) ?_ (by exact rfl) (by exact rfl) (by exact rfl) (by decide); k_whole))))
  (k_with "callWith" => ((k_here; (with_reducible show wpAny _ _ (callWith _ (Value.builtin _) (_ :: _) (backTo _ (starEach (_ :: _) _)) []) _ _ _); (with_reducible refine' callWith_method1 ?_ (by k_dflt (exact rfl)) (by k_dflt (exact rfl))))))
  (k_with "mem at" => (with_reducible (first | exact List.mem_cons_self | exact List.Mem.head _ | (refine List.mem_cons_of_mem _ ?_; k_extra "mem at") | (refine List.mem_append_left _ ?_; k_extra "mem at") | (refine List.mem_append_right _ ?_; k_extra "mem at"))))
  (k_with "mem in" => (with_reducible (first | assumption | (refine List.mem_cons_of_mem _ ?_; k_extra "mem in") | (refine List.mem_append_right _ ?_; k_extra "mem in") | (refine List.mem_append_left _ ?_; k_extra "mem in"))))
  (k_with "sub" => (with_reducible (first | exact sub_nil | exact sub_refl | (refine sub_cons ?_ ?_; (focus k_extra "mem at"); k_extra "sub") | (refine subs_app ?_ ?_; (focus k_extra "sub"); k_extra "sub") | (intro _ _; k_extra "mem in"))))
  (k_with "call builtin:issubclass" => ((k_here; (with_reducible show wpAny _ _ (call (Value.builtin "issubclass") [Value.type "str", Value.ref _]) _ _ _); refine' isc_call (by k_asm) (by k_mem) ?_; k_whole)))
  (k_with "call ref" => ((k_here; (with_reducible show wpAny _ _ (call (Value.ref 94) [Value.str _ _]) _ _ _); k_dflt (refine' con_use c_fspath (by k_asm) (by k_asm) (by k_asm) (by k_asm) (by k_asm) (by k_extra "con sub") (by ktr_room) (by ktr_units) ?_; k_whole); intro _ _ _ _ _ _ hv9w9; subst hv9w9; (try dsimp only); (try k_fold))))
  (k_with "binaryOp Add str str" => ((k_here; (with_reducible show wpAny _ _ (binaryOp Operator.Add (Value.str (Txt.slice _ _ _) _) (Value.str (Str.mk _) _)) _ _ _); refine PyProof.Rows.add_str ?_ (name_fits _ _); intro _ _)))
  (k_with "no while" => (repeat' ((fail_if_success (with_reducible show wpAny _ _ (exec (Stmt.While _ _ _ _) _) _ _ _)); (first | (k_unfold; (try dsimp only)) | (k_end; wrow_close) | walk1 | (dsimp only; walk1) | (leave1; walk_say "STEP leave1"; try dsimp only) | fail "no step"))))
  (k_with "size small" => (first | size_fits | ((simp only [List.length_cons, List.length_nil, List.length_append, sizeLine_eq] at *); lia)))
  (k_with "binaryOp Add ref ref" => ((k_here; (with_reducible show wpAny _ _ (binaryOp _ (Value.ref _) (Value.ref _)) _ _ _); k_dflt (refine' add_lst (by k_asm) (by k_asm) (by k_mem) (by k_mem) ?_ (by k_extra "size small")); intro _ _ _ _ l1w9; (try k_lt l1w9); (try k_sweep))))
  trivial
section
variable {w : World} {loose : List Str} {mean : ExcName → Option Value} {mg mb : Str → Option Value}
theorem kw_c_spelled_1 : True := by
  (k_with "no iter" => (repeat' ((fail_if_success (with_reducible show wpAny _ _ (pyIter _) _ _ _)); (first | (k_unfold; (try dsimp only)) | (k_end; wrow_close) | walk1 | (dsimp only; walk1) | (leave1; walk_say "STEP leave1"; try dsimp only) | fail "no step"))))
  (k_with "call ref" => ((k_here; (with_reducible show wpAny _ _ (call (Value.ref 197) [Value.int _ _, Value.int _ _]) _ _ _); k_dflt (refine' con_useC (by k_asm) (by k_asm) (by k_asm) (by k_asm) (by k_asm) (by k_extra "con sub") (by ktr_room) (by ktr_units) (c_name (by assumption) (by assumption) (by lia) (by lia)) ?_; k_whole); intro _ _ _ _ _ _ hv9w9; obtain ⟨t9, hv9w9⟩ := hv9w9; subst hv9w9; (try dsimp only); (try k_fold))))
  (k_with "subscriptTail" => ((k_here; (with_reducible show wpAny _ _ (subscriptTail _ _ (Value.ref _) (Value.int _ _)) _ _ _); k_dflt (refine' cell_get (by k_asm) (by k_mem) (by with_reducible assumption) (by lia) (by lia) ?_ (by with_unfolding_all rfl)); intro _; (try dsimp only))))
  (k_with "subscriptTail Name Name ref int" => (walk_at "subscriptTail"))
  (k_with "subscriptTail Name BinOp ref int" => ((k_here; (with_reducible show wpAny _ _ (subscriptTail _ _ (Value.ref _) (Value.int _ _)) _ _ _); k_dflt (refine' txt_at (by k_asm) (by k_mem) (by with_reducible assumption) (by assumption) (by exact parW_cast _ _) (by lia) ?_ (by with_unfolding_all rfl)); intro _; (try dsimp only))))
  (k_with "binaryOp Add str str" => ((k_here; (with_reducible show wpAny _ _ (binaryOp Operator.Add (Value.str _ _) (Value.str _ _)) _ _ _); refine PyProof.Rows.add_str ?_ (by assumption); intro _ _; (try dsimp only))))
  (k_with "call builtin:list.append" => ((k_here; (with_reducible show wpAny _ _ (call (Value.builtin _) [Value.ref _, _]) _ _ _); k_dflt (refine' app_any (by k_asm) (by k_asm) (by k_updF) (by assumption) ?_); intro _ _ _ N'w9; (try dsimp only at N'w9); (try k_sweep))))
  (k_with "subscriptTail Name Slice ref ref" => ((k_here; (with_reducible show wpAny _ _ (subscriptTail _ (PySem.Expr.Slice (some _) none none _) (Value.ref _) (Value.ref _)) _ _ _); k_dflt (refine' kmk_slice_lit (by k_asm) (by k_asm) (by kmk_list) (by kmk_part) (by kmk_part) (by exact pick_from _ 1) ?_ (by with_unfolding_all rfl) (by kmk_pure) (by (simp only [List.size_toArray, sizeLine_eq]; lia))); intro _ _ _ _ l1w9; (try k_lt l1w9); (try k_sweep))))
  (k_with "size small" => (((simp only [List.length_cons, List.length_nil, List.length_append, List.length_drop, sizeLine_eq] at *); lia)))
  (k_with "k_all" => (assumption))
  trivial
set_option maxRecDepth 100000 in
set_option maxHeartbeats 8000000 in
theorem c_spelled {l : Addr} {n : Nat} {q : Nat → Int} {vs : List Value} (hR : RowOf 5 q vs) (hq : ∀ i, i < 5 → 0 ≤ q i ∧ q i < 1000000) : Con w loose mean mg mb 3 209 [(l, W.listOf vs.toArray n)] [.ref l]
    (fun H h' v => NewTxt (fun ys => TxtOf ys (Str.ofString "/" :: (txts q 5).drop 1)) H h' v) := by
  dsimp only [Con, fnSc]
  intro dp un gd cn ns ig ic mr a ccd cl outer A₀ base h₀ L m s Q E B0 F0 X0 N0 T0 hd0 hu0 hret
  walk_at "con enter"
  intro g L' h1 FG F1 N1 B1 X1 T1 kG; (try dsimp only); (try k_lift B1); (try k_fold)
  walk_at "no iter"
  rename IsRange _ _ _ _ _ _ _ _ => HR
  rename Fr g _ _ _ => F2
  rename News g _ _ _ => N2
  obtain ⟨X, kX, tX, m0, F3, N3, lX, mX1, mX2⟩ : ∃ X kX tX m0, Fr g L' _ m0 ∧ News g L' _ [(X, W.listOf [Value.str (Str.ofString "") tX].toArray kX), (l, W.listOf vs.toArray n)] ∧ l < X ∧ m0 (Str.ofString "texts") = some (.ref X) ∧ m0 (Str.ofString "numbers") = some (.ref l) := ⟨_, _, _, _, F2, N2, by first | assumption | exact and_t1 (by assumption) | exact and_t2 (by assumption), rfl, rfl⟩
  clear F2 N2
  refine range_inv (n := 5) (fun k m nx => ∃ ys kY, nx = [(X, W.listOf (List.toArray ys) kY), (l, W.listOf vs.toArray n)] ∧ TxtOf ys (txts q k) ∧ m (Str.ofString "texts") = some (.ref X) ∧ m (Str.ofString "numbers") = some (.ref l)) rfl HR (range_small _ _ 5 rfl (by decide) (by decide)) (range_size _ _ 5 rfl) F3 N3 ?_ ?_ ?_
  · exact ⟨_, _, rfl, .cons .nil, mX1, mX2⟩
  · rintro k t m₁ nx h tk own hk hadr hown ⟨ys, kY, rfl, hY, hm1, hm2⟩ F4 N4
    rw [Int.zero_add] at F4
    dsimp only [List.cons_append, List.nil_append] at N4
    replace F4 := frL [(Str.ofString "place", .int (k : Int) t), (Str.ofString "texts", .ref X), (Str.ofString "numbers", .ref l)] F4 (all3 rfl hm1 hm2)
    dsimp only [chainL] at F4
    have hq0 := (hq k hk).1
    have hq1 := (hq k hk).2
    have hX : ∀ p ∈ (l, W.listOf vs.toArray n) :: own, p.1 ≠ X := fun p hp => by
      rcases List.mem_cons.mp hp with rfl | hp
      · exact Nat.ne_of_lt lX
      · exact hown p hp X (by simp)
    obtain ⟨O, hO⟩ : ∃ O, (txts q k)[parW q k]? = some O := ⟨_, List.getElem?_eq_getElem (by rw [txts_len]; exact parW_lt q k)⟩
    have hpl := parW_lt q k
    have hOl : O.length ≤ 6 * k := txts_le q k O (List.mem_of_getElem? hO)
    have hYl : ys.length ≤ 1000 := by rw [hY.1, txts_len]; lia
    have hz1 : O.length + (Str.ofString "/").length ≤ sizeLine := by rw [sizeLine_eq]; have : (Str.ofString "/").length = 1 := rfl; lia
    have hz2 : (O ++ Str.ofString "/").length + (nameS (q k) (k : Int)).length ≤ sizeLine := by rw [sizeLine_eq, Str.length_append]; have : (Str.ofString "/").length = 1 := rfl; have := nameS_len (q k) (k : Int); lia
    k_steps
    rename News g _ _ _ => N5
    rename Fr g _ _ _ => F5
    obtain ⟨tz, kz, N6⟩ : ∃ tz kz, News g _ _ ((X, W.listOf (List.toArray (ys ++ [Value.str (O ++ Str.ofString "/" ++ nameS (q k) (k : Int)) tz])) kz) :: (l, W.listOf vs.toArray n) :: own) := ⟨_, _, N5⟩
    refine InvEndN.intro F5 N6 (nx := [(X, W.listOf (List.toArray (ys ++ [Value.str (O ++ Str.ofString "/" ++ nameS (q k) (k : Int)) tz])) kz), (l, W.listOf vs.toArray n)]) ⟨_, _, rfl, ?_, rfl, rfl⟩ ?_ ?_ ?_
    · show TxtOf _ (txts q k ++ [((txts q k)[parW q k]?).getD (Str.ofString "") ++ Str.ofString "/" ++ nmW q k])
      rw [hO]
      exact hY.append (.cons .nil)
    · rfl
    · walk_at "sub"

    · intro p hp; simp [hp]
  · rintro m₁ nx h tk ⟨ys, kY, rfl, hY, hm1, hm2⟩ F4 N4
    replace F4 := frL [(Str.ofString "texts", .ref X), (Str.ofString "numbers", .ref l)] F4 (all2 hm1 hm2)
    dsimp only [chainL] at F4
    have hYz : ys.length = 6 := by rw [hY.1, txts_len]
    k_steps
    rename News g _ _ _ => N5
    refine hret _ _ _ (by assumption) ⟨_, _, _, rfl, fresh_of kG N5 List.mem_cons_self ?_, (N5 _ List.mem_cons_self).1, ?_⟩
    · simp only [List.map_cons, List.map_nil, List.mem_singleton]
      repeat (cases ‹_ ∧ _›)
      refine neN ?_; lia
    · exact (TxtOf.cons .nil).append (hY.drop 1)
end
section
variable {prog : Program} {w : World} {A : Around} {E : Value → Shared → Prop} {s : Shared} {h₀ : Heap} {L : Addr} {m : Str → Option Value} {news : List (Addr × Obj)} {env : Env}
noncomputable def SgnSrc (prog : Program) (w : World) (A : Around) (h₀ : Heap) (L : Addr) (m : Str → Option Value) (env : Env) (elt : Expr) (x : Str) (scope : Scope) (cl : List (Str × Addr)) (f : Nat → Int) (Q : Value → Shared → Prop) (xv : Value) (s₁ : Shared) : Prop :=
  ∃ y t news, xv = .str y t ∧ y.cps.size ≤ sizeLine ∧ Fr h₀ L s₁.heap m ∧ News h₀ L s₁.heap news ∧
      (∀ C oC c u s₃ m₃ E', c ∈ y.cps.toList → LCg.NsObj oC m₃ → m₃ x = some (.str ⟨#[c]⟩ u) → Fr h₀ L s₃.heap m → News h₀ L s₃.heap ((C, oC) :: news) →
        wpAny (model prog w) A (eval elt (compEnvC scope cl C env)) (fun y s₄ => (∃ t', y = .int (f c) t') ∧ Keeps s₃ s₄) E' s₃) ∧
      (∀ D n ys h' tk, Fr h₀ L h' m → News h₀ L h' ((D, W.listOf (List.toArray ys) n) :: news) → LCg.Off1 D news → IntsAre ys (y.cps.toList.map f) → Q (.ref D) { s₁ with heap := h', toks := tk })
theorem SgnSrc.is {elt : Expr} {x : Str} {scope : Scope} {cl : List (Str × Addr)} {f : Nat → Int} {Q : Value → Shared → Prop} {y : Str} {t : Tok}
    (hz : y.cps.size ≤ sizeLine) (F : Fr h₀ L s.heap m) (N : News h₀ L s.heap news)
    (he : ∀ C oC c u s₃ m₃ E', c ∈ y.cps.toList → LCg.NsObj oC m₃ → m₃ x = some (.str ⟨#[c]⟩ u) → Fr h₀ L s₃.heap m → News h₀ L s₃.heap ((C, oC) :: news) →
        wpAny (model prog w) A (eval elt (compEnvC scope cl C env)) (fun y s₄ => (∃ t', y = .int (f c) t') ∧ Keeps s₃ s₄) E' s₃)
    (hQ : ∀ D n ys h' tk, Fr h₀ L h' m → News h₀ L h' ((D, W.listOf (List.toArray ys) n) :: news) → LCg.Off1 D news → IntsAre ys (y.cps.toList.map f) → Q (.ref D) { s with heap := h', toks := tk }) :
    SgnSrc prog w A h₀ L m env elt x scope cl f Q (.str y t) s := ⟨y, t, news, rfl, hz, F, N, he, hQ⟩
theorem sgn_ints {f : Nat → Int} {y : Str} : ∀ {vs ys : List Value} {cs : List Nat}, vs.length = cs.length → (∀ (j : Nat) v, vs[j]? = some v → ∃ c u, cs[j]? = some c ∧ v = Value.str ⟨#[c]⟩ u) → Paired (fun v r => ∃ c u t', v = Value.str ⟨#[c]⟩ u ∧ r = Value.int (f c) t') vs ys → IntsAre ys (cs.map f)
  | [], _, [], _, _, .nil => .nil
  | [], _, _ :: _, h, _, _ => by simp at h
  | _ :: _, _, [], h, _, _ => by simp at h
  | v :: vs, _, c :: cs, h, hP, .cons r p => by
    obtain ⟨c1, u1, e1, rfl⟩ := hP 0 v rfl
    simp only [List.getElem?_cons_zero, Option.some.injEq] at e1
    subst e1
    obtain ⟨c2, u2, t2, e2, rfl⟩ := r
    have : c = c2 := by injection e2 with e2 _; injection e2 with e2; simpa using e2
    subst this
    exact .cons _ _ (sgn_ints (y := y) (by simpa using h) (fun j v hj => by have := hP (j + 1) v (by simpa using hj); simpa using this) p)
theorem comp_sign {elt iter : Expr} {x : Str} {px : Pos} {scope : Scope} {cl : List (Str × Addr)} {pos : Pos} {Q : Value → Shared → Prop} (f : Nat → Int) (_F₀ : Fr h₀ L s.heap m)
    (hh : A.handled = none) (hclos : closureFor scope env = pure cl) (hcell : ∀ y ∈ scope.names, y.2 ≠ .cell) (hkind : scope.kind = .function)
    (hnames : ∀ y ∈ scope.names, y.2 = .local → scope.names.lookup y.1 = some .local) (hx : scope.names.lookup x = some .local)
    (h : wpAny (model prog w) A (eval iter env) (SgnSrc prog w A h₀ L m env elt x scope cl f Q) E s)
    (hs : ∀ x, foldedSetIterable iter env x = pure x := by intro _; rfl) :
    wpAny (model prog w) A (eval (.ListComp elt [⟨.Name x px, iter, [], 0⟩] scope pos) env) Q E s := by
  refine wpAny_ListComp_free (fun _ => true) (fun v r => ∃ c u t', v = Value.str ⟨#[c]⟩ u ∧ r = Value.int (f c) t') hclos hcell hkind hnames hx (wpAny_mono h (fun xv s₁ h₁ => ?_) fun _ _ e => e) hs
  obtain ⟨y, t, news, rfl, hz, F, N, helt, hQ⟩ := h₁
  have hfr : ∀ C, s₁.heap.objs.size ≤ C → C ≠ L ∧ h₀.get? C = none := fun C hC => by
    have e : s₁.heap.get? C = none := Heap.get?_none_of_le hC
    exact ⟨ne_frame F e, none_of_stays F.keep e⟩
  refine wpAny_pyIter_str fun o St W hst => ?_
  have up : ∀ (h' : Heap), (∀ b o', b ∉ [s₁.heap.objs.size] → (s₁.heap.push o).get? b = some o' → h'.get? b = some o') → ∀ b o', s₁.heap.get? b = some o' → h'.get? b = some o' :=
    fun h' hk b o' e => hk b o' (old_not_new e) (Heap.get?_push_of_some _ e)
  refine ⟨s₁.heap.objs.size, [s₁.heap.objs.size], [s₁.heap.objs.size], y.cps.size, SignAt y, St, rfl, W A hh, hz, hst, ?_, ⟨?_, ?_⟩, ?_⟩
  · intro b hb
    show b < (s₁.heap.push o).objs.size
    rw [Heap.size_push, List.mem_singleton.mp hb]
    exact Nat.lt_succ_self _
  · intro C i v s₃ m₃ E' hC hP hn hm hk htk
    simp only [List.forIn_nil]
    exact wpAny_pure ⟨rfl, _, _, rfl, fun _ _ e => e⟩
  · intro C i v s₃ m₃ E' hC hP _ hn hm hk htk
    obtain ⟨c, u, hc, rfl⟩ := hP
    have st := up _ hk
    obtain ⟨oC, heC, hoC⟩ := LCg.ns_obj hn
    have hcm : c ∈ y.cps.toList := by
      rw [← Array.getElem?_toList] at hc
      exact List.mem_of_getElem? hc
    have hC' : s₁.heap.objs.size ≤ C := Nat.le_trans (Nat.le_succ _) (by have : (s₁.heap.push o).objs.size ≤ C := hC; rwa [Heap.size_push] at this)
    refine wpAny_mono (helt C oC c u s₃ m₃ E' hcm hoC hm (F.keeps st) (fun q hq => ?_)) (fun r s₄ h₄ => ⟨?_, h₄.2⟩) fun _ _ e => e
    · rcases List.mem_cons.mp hq with rfl | hq
      · exact ⟨heC, hfr C hC'⟩
      · exact ⟨st _ _ (N q hq).1, (N q hq).2⟩
    · obtain ⟨t', ht'⟩ := h₄.1
      exact ⟨c, u, t', rfl, ht'⟩
  · intro D h' tk ys vs hD hlD hplD hlen hP hF hk
    have st := up h' hk
    obtain ⟨n, eD⟩ := hplD
    have hD1 : s₁.heap.get? D = none := by
      cases e : s₁.heap.get? D with
      | none => rfl
      | some o' => rw [Heap.get?_push_of_some _ e] at hD; cases hD
    rw [filter_tt'] at hF
    refine hQ D n ys.toList h' tk (F.keeps st) (fun q hq => ?_) (off1_of fun q hq e => by rw [← e, (N q hq).1] at hD1; cases hD1) (sgn_ints (y := y) (by rw [hlen]; simp) (fun j v hj => ?_) hF)
    · rcases List.mem_cons.mp hq with rfl | hq
      · exact ⟨by simpa using eD, ne_frame F hD1, none_of_stays F.keep hD1⟩
      · exact ⟨st _ _ (N q hq).1, (N q hq).2⟩
    · obtain ⟨c, u, hc, rfl⟩ := hP j v hj
      exact ⟨c, u, by simpa using hc, rfl⟩
end
section
noncomputable abbrev ConG (w : World) (loose : List Str) (mean : ExcName → Option Value) (mg mb : Str → Option Value) (k : Nat) (f : Addr) (c P : Addr) (led : List (Addr × Obj)) (vs : List Value) (Post : Heap → Heap → Value → Prop) : Prop :=
  ∀ (dp un : Nat) (gd : Option (List Code)) (cn : Str) (ns : List (Str × NameKind)) (ig ic : Bool) (mr : List (Str × Const)) (a : Addr) (ccd : Value) (cl : List (Str × Addr)) (outer : List Env) (A₀ : Around) (base h₀ : Heap) (L : Addr) (m : Str → Option Value) (s : Shared) (Q E : Value → Shared → Prop),
    CodeHd base c P → Below A₀ base outer h₀ → Fr h₀ L s.heap m → (Mine.hd.heap_39 w.params).In h₀ → News h₀ L s.heap ((P, tabObj #[]) :: led) → Top topProg loose mean mg mb h₀ →
    dp + k < recursionLimit → un + 8 * k < cLine → (∀ (v : Value) (h' : Heap) (tk' : Nat), Heap.ExtBut P s.heap h' → (∃ ps, h'.get? P = some (tabObj ps)) → Post s.heap h' v → Q v { s with heap := h', toks := tk' }) →
    wpAny (model PySem.Challenge.rw_ik0186_01.row.prog w) (ktrTop dp un gd cn (fnSc ns ig ic mr) L a ccd cl outer) (call (.ref f) vs) Q E s
variable {h₀ : Heap} {L P : Addr} {m : Str → Option Value} {led news : List (Addr × Obj)}
theorem grow_stays {H H' g : Heap} {L' : Addr} {m' : Str → Option Value} (G : GSub H g (((P, tabObj #[]) :: led).map (·.1))) (N : News h₀ L H ((P, tabObj #[]) :: led)) (F' : Fr g L' H' m') (N' : News g L' H' news) (hs : ∀ p ∈ led, p ∈ news) : Heap.ExtBut P H H' := fun b o hb e => by
  by_cases hm : b ∈ led.map (·.1)
  · obtain ⟨p, hp, rfl⟩ := List.mem_map.mp hm
    have h1 := (N p (List.mem_cons_of_mem _ hp)).1
    rw [e] at h1
    cases h1
    exact (N' p (hs p hp)).1
  · refine F'.keep b o (G b o e fun h => ?_)
    rcases List.mem_cons.mp h with h | h
    · exact hb h
    · exact hm h
end
section
variable {prog : Program} {w : World} {A : Around} {E : Value → Shared → Prop} {s : Shared} {h₀ : Heap} {L : Addr} {m : Str → Option Value} {news : List (Addr × Obj)} {vs ws : List Value} {n n2 : Nat}
theorem fills_iadd : fillsInplaceSlot (.type "list") "add" (Operator.Add == .Add) = pure false := by
  simp only [fillsInplaceSlot, PySem.F.slot_list_iadd.lookup, pure_bind, Option.isSome_some, Bool.true_and]
  rfl
theorem seq_iadd : seqSlot? (.type "list") (dunderI "add") = pure (some (.builtin "list.__iadd__")) := PySem.seqSlot_of PySem.F.slot_list_iadd.lookup (by decide +kernel)
theorem iadd_any {D b : Addr} {f : Obj → List (Addr × Obj)} {Q : Value → Shared → Prop} (F : Fr h₀ L s.heap m) (N : News h₀ L s.heap news) (hb : (b, W.listOf ws.toArray n2) ∈ news) (U : UpdF D (W.listOf vs.toArray n) news f) (hz : vs.length + ws.length ≤ sizeLine) (hw : ws ≠ [])
    (h : ∀ h' k, Fr h₀ L h' m → News h₀ L h' (f (W.listOf (vs ++ ws).toArray k)) → Q (.ref D) { s with heap := h' }) : wpAny (model prog w) A (inplaceOp .Add (.ref D) (.ref b)) Q E s := by
  obtain ⟨pre, post, rfl, hf, a, c⟩ := U.split
  have hd : ¬(!vs.toArray.isEmpty && Builtin.List.listTooLong (vs.toArray.size + ws.toArray.size)) = true := extend_door (by simpa using hz)
  have z := N (D, W.listOf vs.toArray n) (List.mem_append.mpr (.inr (.head _)))
  have hT : s.TypeIs (.ref D) "list" := ⟨_, z.1, rfl⟩
  have hTb : s.TypeIs (.ref b) "list" := ⟨_, (N _ hb).1, rfl⟩
  unfold inplaceOp
  refine wpAny_holding ?_
  refine wpAny_bind (wpAny_typeOf hT (wpAny_bind (wpAny_of_eq fills_iadd ?_)))
  show wpAny _ _ (if false = true then _ else _) Q E s
  rw [if_neg Bool.false_ne_true]
  refine wpAny_bind (binaryOp1_none (nm := "add") hT hTb noFill_list_add ?_)
  refine wpAny_bind (wpAny_of_eq seq_iadd ?_)
  refine wpAny_bind (wpAny_rule ?_)
  refine call_meets PySem.F.slot_list_iadd hT PySem.F.entry_list_iadd (PySem.F.args_list_iadd_2 _ _) (PySem.AutoSeq1.list___iadd___list_list_0 D vs.toArray n b ws.toArray n2 hd (by simp at hz ⊢; lia) (by simp at hz ⊢; lia)) ⟨z.1, (N _ hb).1, ?_⟩
  refine h _ (n + 1) (F.change (Heap.SameBut.update ..) z.2.1 z.2.2) ?_
  rw [hf]
  refine kl_turn _ N a c ?_ ?_
  · simp
  · simp; exact hw
end
theorem kw_r_iadd_1 : True := by
  (k_with "inplaceOp Add ref ref" => ((k_here; (with_reducible show wpAny _ _ (inplaceOp Operator.Add (Value.ref _) (Value.ref _)) _ _ _); k_dflt (refine' iadd_any (by k_asm) (by k_asm) (by k_mem) (by k_updF) (by k_extra "size small") (by simp) ?_); intro _ _ _ N'w9; (try dsimp only at N'w9); (try k_sweep))))
  trivial
section
open PySem.StrLaws PySem.Builtin.Str
theorem slice4_take : ∀ k : Nat, k < 5 → (Txt.slice (Str.ofString ".\n.a") none (some (k : Int))).cps.toList = [46, 10, 46, 97].take k
  | 0, _ => by decide +kernel
  | 1, _ => by decide +kernel
  | 2, _ => by decide +kernel
  | 3, _ => by decide +kernel
  | 4, _ => by decide +kernel
  | _ + 5, h => absurd h (by lia)
noncomputable def headN (n : Int) : Nat := (Int.fmod (Int.fdiv n 256) 5).toNat
noncomputable def lastN (n p : Int) : Nat := (128 + Int.fmod (Int.fdiv n 1280) 16 * 8 + p).toNat
theorem headN_lt (n : Int) : headN n < 5 := by
  unfold headN
  have := Int.fmod_lt_of_pos (Int.fdiv n 256) (show (0 : Int) < 5 by decide)
  have := Int.fmod_nonneg_of_pos (Int.fdiv n 256) (show (0 : Int) < 5 by decide)
  lia
theorem headN_cast (n : Int) : Int.fmod (Int.fdiv n 256) 5 = (headN n : Int) := by
  unfold headN
  have := Int.fmod_nonneg_of_pos (Int.fdiv n 256) (show (0 : Int) < 5 by decide)
  lia
theorem nameS_cps (n p : Int) : (nameS n p).cps.toList = [46, 10, 46, 97].take (headN n) ++ [lastN n p] := by
  unfold nameS
  rw [app_list, headN_cast, slice4_take _ (headN_lt n)]
  rfl
theorem lastN_ge (n : Int) (j : Nat) : 128 ≤ lastN n j := by
  unfold lastN
  have := Int.fmod_nonneg_of_pos (Int.fdiv n 1280) (show (0 : Int) < 16 by decide)
  lia
theorem lastN_lt (n : Int) {j : Nat} (h : j < 5) : lastN n j < 256 := by
  unfold lastN
  have := Int.fmod_lt_of_pos (Int.fdiv n 1280) (show (0 : Int) < 16 by decide)
  lia
theorem lastN_mod (n : Int) {j : Nat} (h : j < 5) : lastN n j % 8 = j := by
  unfold lastN
  have := Int.fmod_nonneg_of_pos (Int.fdiv n 1280) (show (0 : Int) < 16 by decide)
  lia
theorem head_small {k c : Nat} (h : c ∈ ([46, 10, 46, 97] : List Nat).take k) : c < 128 ∧ c ≠ 47 := by
  have := List.mem_of_mem_take h
  simp only [List.mem_cons, List.not_mem_nil, or_false] at this
  lia
theorem nm_W (q : Nat → Int) (j : Nat) : Nm (nmW q j) := ⟨_, _, nameS_cps (q j) j, lastN_ge _ _, fun _ h => head_small h⟩
theorem nmW_len (q : Nat → Int) (j : Nat) : (nmW q j).length = headN (q j) + 1 := by
  show (nameS (q j) j).length = _
  rw [len_list, nameS_cps]
  have := headN_lt (q j)
  simp only [List.length_append, List.length_take, List.length_cons, List.length_nil]
  lia
theorem nmW_codes (q : Nat → Int) {j : Nat} (h : j < 5) : ∀ c ∈ (nmW q j).cps.toList, c < 256 := fun c hc => by
  rw [show (nmW q j).cps.toList = _ from nameS_cps (q j) j] at hc
  rcases List.mem_append.mp hc with hc | hc
  · have := (head_small hc).1; lia
  · rw [List.mem_singleton.mp hc]; exact lastN_lt _ h
theorem nmW_inj {q : Nat → Int} {i j : Nat} (hi : i < 5) (hj : j < 5) (h : nmW q i = nmW q j) : i = j := by
  have e : (nmW q i).cps.toList = (nmW q j).cps.toList := by rw [h]
  rw [show (nmW q i).cps.toList = _ from nameS_cps (q i) i, show (nmW q j).cps.toList = _ from nameS_cps (q j) j] at e
  have := congrArg List.getLast? e
  simp only [List.getLast?_append, List.getLast?_singleton, Option.some_or, Option.some.injEq] at this
  rw [← lastN_mod (q i) hi, ← lastN_mod (q j) hj, this]
noncomputable def comps (q : Nat → Int) : Nat → List (List Str)
  | 0 => [[]]
  | k + 1 => comps q k ++ [((comps q k)[parW q k]?).getD [] ++ [nmW q k]]
theorem comps_len (q : Nat → Int) : ∀ k, (comps q k).length = k + 1
  | 0 => rfl
  | k + 1 => by show (comps q k ++ [_]).length = _; rw [List.length_append, comps_len q k]; rfl
theorem comps_at (q : Nat → Int) (k : Nat) : ∃ cs, (comps q k)[parW q k]? = some cs := ⟨_, List.getElem?_eq_getElem (by rw [comps_len]; exact parW_lt q k)⟩
theorem comps_nm (q : Nat → Int) : ∀ k, ∀ cs ∈ comps q k, ∀ c ∈ cs, Nm c
  | 0, cs, h, c, hc => by rw [show comps q 0 = [[]] from rfl, List.mem_singleton] at h; subst h; exact absurd hc (by simp)
  | k + 1, cs, h, c, hc => by
    rcases List.mem_append.mp h with h | h
    · exact comps_nm q k cs h c hc
    · rw [List.mem_singleton] at h; subst h
      obtain ⟨ds, hd⟩ := comps_at q k
      rw [hd] at hc
      rcases List.mem_append.mp hc with hc | hc
      · exact comps_nm q k ds (List.mem_of_getElem? hd) c hc
      · rw [List.mem_singleton.mp hc]; exact nm_W q k
theorem pth_str (cs : List Str) (c : Str) : pth cs ++ Str.ofString "/" ++ c = pth (cs ++ [c]) := by rw [pth_snoc, Str.append_assoc]
theorem txts_comps (q : Nat → Int) : ∀ k, txts q k = (comps q k).map pth
  | 0 => rfl
  | k + 1 => by
    show txts q k ++ [_] = (comps q k ++ [_]).map pth
    obtain ⟨ds, hd⟩ := comps_at q k
    rw [List.map_append, ← txts_comps q k, hd, show (txts q k)[parW q k]? = some (pth ds) by rw [txts_comps q k, List.getElem?_map, hd]; rfl]
    show _ ++ [pth ds ++ Str.ofString "/" ++ nmW q k] = _ ++ [pth (ds ++ [nmW q k])]
    rw [pth_str]
theorem comps_pth_len (q : Nat → Int) (k : Nat) : ∀ cs ∈ comps q k, (pthR cs).length ≤ 6 * k + 1 := fun cs h => by
  have h1 : (pth cs).length ≤ 6 * k := txts_le q k _ (by rw [txts_comps]; exact List.mem_map_of_mem h)
  unfold pthR
  split
  · have : (Str.ofString "/").length = 1 := rfl
    lia
  · lia
theorem comps_ne (q : Nat → Int) : ∀ k i, 0 < i → ∀ cs, (comps q k)[i]? = some cs → cs ≠ []
  | 0, i, hi, cs, h => by
    rw [show comps q 0 = [[]] from rfl, List.getElem?_eq_none (by show 1 ≤ i; lia)] at h; exact absurd h (by simp)
  | k + 1, i, hi, cs, h => by
    by_cases hk : i < k + 1
    · rw [show (comps q (k + 1))[i]? = (comps q k)[i]? from List.getElem?_append_left (by rw [comps_len]; exact hk)] at h
      exact comps_ne q k i hi cs h
    · rw [show (comps q (k + 1))[i]? = _ from List.getElem?_append_right (by rw [comps_len]; lia)] at h
      have := List.mem_of_getElem? h
      rw [List.mem_singleton] at this; subst this
      simp
theorem comps_pre (q : Nat → Int) (k i : Nat) (h : i < k + 1) : (comps q (k + 1))[i]? = (comps q k)[i]? := List.getElem?_append_left (by rw [comps_len]; exact h)
theorem map_pthR (q : Nat → Int) (k : Nat) : (comps q k).map pthR = Str.ofString "/" :: (txts q k).drop 1 := by
  have h0 : ∀ k, (comps q k)[0]? = some [] := fun k => by
    induction k with
    | zero => rfl
    | succ k ih => rw [comps_pre q k 0 (by lia), ih]
  apply List.ext_getElem?
  intro i
  rw [List.getElem?_map]
  cases i with
  | zero => rw [h0]; rfl
  | succ i =>
    rw [List.getElem?_cons_succ, List.getElem?_drop, txts_comps, List.getElem?_map, show 1 + i = i + 1 from Nat.add_comm 1 i]
    cases e : (comps q k)[i + 1]? with
    | none => rfl
    | some cs =>
      show some (pthR cs) = some (pth cs)
      rw [show pthR cs = pth cs from if_neg (comps_ne q k _ (Nat.succ_pos i) cs e)]
theorem ends_slash {x : Str} {A : List Nat} {z : Nat} (h : x.cps.toList = A ++ [z]) (hz : z ≠ 47) : Txt.endswith x (Str.ofString "/") = false := by
  unfold Txt.endswith
  rw [sl_eq]
  have h1 : (⟨#[47]⟩ : Str).length = 1 := rfl
  have hl : x.length = A.length + 1 := by rw [len_list, h]; simp
  rw [h1, Bool.and_eq_false_iff]
  right
  cases e : subAt x ⟨#[47]⟩ (x.length - 1) with
  | false => rfl
  | true =>
    have := (subAt_one x 47 (x.length - 1)).mp ⟨by rw [h1]; lia, e⟩
    rw [h, hl, List.getElem?_append_right (by lia)] at this
    simp at this
    exact absurd this hz
theorem starts_name {c : Str} (h : Nm c) : Txt.startswith c (Str.ofString "/") = false := by
  cases e : Txt.startswith c (Str.ofString "/") with
  | false => rfl
  | true =>
    unfold Txt.startswith at e
    rw [sl_eq, Bool.and_eq_true] at e
    have := (subAt_one c 47 0).mp ⟨of_decide_eq_true e.1, e.2⟩
    exact absurd (List.mem_of_getElem? this) h.free
theorem join_pth {cs : List Str} {c : Str} (hn : ∀ d ∈ cs, Nm d) (hc : Nm c) : joinS (pthR cs) c = pthR (cs ++ [c]) := by
  unfold joinS
  by_cases h : cs = []
  · subst h
    have h1 : (pthR []).length = 1 := rfl
    have h2 : Txt.endswith (pthR []) (Str.ofString "/") = true := by rw [pthR_nil]; decide +kernel
    rw [if_neg (by rw [starts_name hc, h1]; simp), if_pos h2, pthR_snoc_eq, pthR_nil]
    show _ = Str.ofString "/" ++ c ++ Str.empty
    rw [Str.append_empty]
  · have hp : pthR cs = pth cs := if_neg h
    obtain ⟨A, z, e, hz⟩ := pth_last h hn
    rw [hp, if_neg (by rw [starts_name hc]; simpa using pth_len_ne h), if_neg (by rw [ends_slash e hz]; simp), pthR_snoc]
theorem pth_small : ∀ {cs : List Str}, (∀ c ∈ cs, ∀ k ∈ c.cps.toList, k < 256) → ∀ k ∈ (pth cs).cps.toList, k < 256
  | [], _, k, hk => by simp [pth, Str.empty] at hk
  | c :: r, h, k, hk => by
    rw [show pth (c :: r) = Str.ofString "/" ++ c ++ pth r from rfl, app_list, app_list, sl_eq] at hk
    rcases List.mem_append.mp hk with hk | hk
    · rcases List.mem_append.mp hk with hk | hk
      · have : k = 47 := by simpa using hk
        lia
      · exact h c List.mem_cons_self k hk
    · exact pth_small (fun d hd => h d (List.mem_cons_of_mem _ hd)) k hk
theorem comps_small (q : Nat → Int) : ∀ k, k ≤ 5 → ∀ cs ∈ comps q k, ∀ c ∈ cs, ∀ z ∈ c.cps.toList, z < 256
  | 0, _, cs, h, c, hc, z, hz => by rw [show comps q 0 = [[]] from rfl, List.mem_singleton] at h; subst h; exact absurd hc (by simp)
  | k + 1, hk, cs, h, c, hc, z, hz => by
    rcases List.mem_append.mp h with h | h
    · exact comps_small q k (by lia) cs h c hc z hz
    · rw [List.mem_singleton] at h; subst h
      obtain ⟨ds, hd⟩ := comps_at q k
      rw [hd] at hc
      rcases List.mem_append.mp hc with hc | hc
      · exact comps_small q k (by lia) ds (List.mem_of_getElem? hd) c hc z hz
      · rw [List.mem_singleton.mp hc] at hz; exact nmW_codes q (by lia) z hz
theorem paths_ok (q : Nat → Int) : ∀ x ∈ (comps q 5).map pthR, PyData.strOk x = true := fun x hx => by
  obtain ⟨cs, hcs, rfl⟩ := List.mem_map.mp hx
  unfold pthR PyData.strOk
  split
  · decide +kernel
  · rw [← Array.all_toList, List.all_eq_true]
    intro z hz
    have := pth_small (fun c hc => comps_small q 5 (Nat.le_refl 5) cs hcs c hc) z hz
    exact decide_eq_true (by lia)
end
theorem kw_r_loop_0 : True := by
  k_with_none
  (k_with "k_room" => (ktr_room))
  (k_with "con sub" => (first | exact List.forall_mem_nil _ | k_extra "sub" | (simp only [List.forall_mem_cons]; refine ⟨?_, ?_⟩ <;> first | exact List.forall_mem_nil _ | k_mem | k_extra "con sub") | k_sub))
  (k_with "con enter" => ((refine wpAny_call ?_; (refine' code_defG (by assumption) (by assumption) (by assumption) (by assumption) (by assumption) (by exact rfl) (by exact rfl) (by exact rfl) (by k_is) (by k_is) (by k_room) (by first | exact BindsTo.of_eq rfl | exact binds_K (by k_in) rfl (by k_is) rfl rfl rfl | fail "k_enter: no rule for these arguments") (by exact locs rfl) ?_ (by exact rfl) (by exact rfl) (by exact rfl) (by decide); k_whole))))
  (k_with "con start" => ((dsimp only [Con, fnSc]; intros; rename_i hret)))
  (k_with "LeaveK" => ((k_dflt (refine' leave_con (by with_reducible assumption) (by assumption) (by k_asm) (by k_asm) (by k_extra "con sub") ?_; k_whole); intro _; (try dsimp only))))
  (k_with "con enterC" => ((refine wpAny_call ?_; (refine' enter_cells (by assumption) (by assumption) (by assumption) (by assumption) (by assumption) (by exact rfl) (by exact rfl) (by exact rfl) (by k_is) (by k_is) (by k_room) (by exact BindsTo.of_eq rfl) (by exact rfl) (by decide +kernel) ?_ (by exact rfl) (by exact rfl) (by exact rfl); k_whole))))
  (k_with "con enterR" => ((refine wpAny_call ?_; (refine' enter_rest (by assumption) (by assumption) (by assumption) (by assumption) (by assumption) (by exact rfl) (by exact rfl) (by exact rfl) (by k_is) (by k_is) (by k_room) (by exact rfl) (by exact fun _ => locs rfl) ?_ (by exact rfl) (by exact rfl) (by exact rfl) (by decide); k_whole))))
  (k_with "callWith" => ((k_here; (with_reducible show wpAny _ _ (callWith _ (Value.builtin _) (_ :: _) (backTo _ (starEach (_ :: _) _)) []) _ _ _); (with_reducible refine' callWith_method1 ?_ (by k_dflt (exact rfl)) (by k_dflt (exact rfl))))))
  (k_with "mem at" => (with_reducible (first | exact List.mem_cons_self | exact List.Mem.head _ | (refine List.mem_cons_of_mem _ ?_; k_extra "mem at") | (refine List.mem_append_left _ ?_; k_extra "mem at") | (refine List.mem_append_right _ ?_; k_extra "mem at"))))
  (k_with "mem in" => (with_reducible (first | assumption | (refine List.mem_cons_of_mem _ ?_; k_extra "mem in") | (refine List.mem_append_right _ ?_; k_extra "mem in") | (refine List.mem_append_left _ ?_; k_extra "mem in"))))
  (k_with "sub" => (with_reducible (first | exact sub_nil | exact sub_refl | (refine sub_cons ?_ ?_; (focus k_extra "mem at"); k_extra "sub") | (refine subs_app ?_ ?_; (focus k_extra "sub"); k_extra "sub") | (intro _ _; k_extra "mem in"))))
  (k_with "str len" => (first | assumption | lia | ((simp only [Str.length_append, PySem.ofString_length] at *); lia)))
  (k_with "call ref" => ((k_here; (with_reducible show wpAny _ _ (call (Value.ref 115) [Value.str _ _, Value.str _ _]) _ _ _); k_dflt (refine' con_use (c_join (by k_extra "str len") (by k_extra "str len")) (by k_asm) (by k_asm) (by k_asm) (by k_asm) (by k_asm) (by k_extra "con sub") (by ktr_room) (by ktr_units) ?_; k_whole); intro _ _ _ _ _ _ hv9w9; obtain ⟨t9, hv9w9⟩ := hv9w9; subst hv9w9; (try dsimp only); (try k_fold))))
  (k_with "call ref" => ((k_here; (with_reducible show wpAny _ _ (call (Value.ref 122) [Value.str _ _]) _ _ _); k_dflt (refine' con_use (c_basename (by k_extra "str len")) (by k_asm) (by k_asm) (by k_asm) (by k_asm) (by k_asm) (by k_extra "con sub") (by ktr_room) (by ktr_units) ?_; k_whole); intro _ _ _ _ _ _ hv9w9; obtain ⟨t9, hv9w9⟩ := hv9w9; subst hv9w9; (try dsimp only); (try k_fold))))
  (k_with "call ref" => ((k_here; (with_reducible show wpAny _ _ (call (Value.ref 129) [Value.str _ _]) _ _ _); k_dflt (refine' con_use (c_dirname (by k_extra "str len")) (by k_asm) (by k_asm) (by k_asm) (by k_asm) (by k_asm) (by k_extra "con sub") (by ktr_room) (by ktr_units) ?_; k_whole); intro _ _ _ _ _ _ hv9w9; obtain ⟨t9, hv9w9⟩ := hv9w9; subst hv9w9; (try dsimp only); (try k_fold))))
  (k_with "binaryOp Add str str" => ((k_here; (with_reducible show wpAny _ _ (binaryOp Operator.Add (Value.str (Txt.slice _ _ _) _) (Value.str (Str.mk _) _)) _ _ _); refine PyProof.Rows.add_str ?_ (name_fits _ _); intro _ _)))
  (k_with "no while" => (repeat' ((fail_if_success (with_reducible show wpAny _ _ (exec (Stmt.While _ _ _ _) _) _ _ _)); (first | (k_unfold; (try dsimp only)) | (k_end; wrow_close) | walk1 | (dsimp only; walk1) | (leave1; walk_say "STEP leave1"; try dsimp only) | fail "no step"))))
  (k_with "size small" => (first | size_fits | ((simp only [List.length_cons, List.length_nil, List.length_append, sizeLine_eq] at *); lia)))
  (k_with "binaryOp Add ref ref" => ((k_here; (with_reducible show wpAny _ _ (binaryOp _ (Value.ref _) (Value.ref _)) _ _ _); k_dflt (refine' add_lst (by k_asm) (by k_asm) (by k_mem) (by k_mem) ?_ (by k_extra "size small")); intro _ _ _ _ l1w9; (try k_lt l1w9); (try k_sweep))))
  trivial
section
noncomputable def octN (q : Nat → Int) (j : Nat) : List Int := [Int.fmod (q j) 256, ((nmW q j).length : Int)] ++ (nmW q j).cps.toList.map (fun c : Nat => (c : Int))
noncomputable def octs (q : Nat → Int) : Nat → List Int
  | 0 => []
  | k + 1 => octs q k ++ octN q k
theorem octN_len (q : Nat → Int) (j : Nat) : (octN q j).length ≤ 7 := by
  have h := nameS_len (q j) (j : Int)
  unfold octN
  simp only [List.length_append, List.length_cons, List.length_nil, List.length_map, Array.length_toList]
  have : (nmW q j).cps.size = (nameS (q j) (j : Int)).length := rfl
  lia
theorem octs_len (q : Nat → Int) : ∀ k, (octs q k).length ≤ 7 * k
  | 0 => Nat.le_refl 0
  | k + 1 => by
    show (octs q k ++ octN q k).length ≤ _
    rw [List.length_append]
    have := octs_len q k
    have := octN_len q k
    lia
theorem octN_ok (q : Nat → Int) {k : Nat} (hk : k < 5) : ∀ b ∈ octN q k, 0 ≤ b ∧ b < 256 := fun b h => by
  unfold octN at h
  rcases List.mem_append.mp h with h | h
  · rcases List.mem_cons.mp h with rfl | h
    · exact ⟨Int.fmod_nonneg_of_pos _ (by decide), Int.fmod_lt_of_pos _ (by decide)⟩
    · rw [List.mem_singleton.mp h, nmW_len]
      have := headN_lt (q k)
      lia
  · obtain ⟨c, hc, rfl⟩ := List.mem_map.mp h
    have := nmW_codes q hk c hc
    lia
theorem octs_ok (q : Nat → Int) : ∀ k, k ≤ 5 → ∀ b ∈ octs q k, 0 ≤ b ∧ b < 256
  | 0, _, b, h => absurd h (by rw [show octs q 0 = [] from rfl]; simp)
  | k + 1, hk, b, h => by
    rcases List.mem_append.mp h with h | h
    · exact octs_ok q k (by lia) b h
    · exact octN_ok q (by lia) b h
noncomputable def octT (q : Nat → Int) : Nat → List Int
  | 0 => []
  | n + 1 => octN q (4 - n) ++ octT q n
theorem octs_T (q : Nat → Int) : octs q 5 = octT q 5 := by
  simp only [octs, octT, List.nil_append, List.append_nil, List.append_assoc]
theorem octT_ok (q : Nat → Int) : ∀ n, n ≤ 5 → ∀ b ∈ octT q n, 0 ≤ b ∧ b < 256
  | 0, _, b, h => absurd h (by rw [show octT q 0 = [] from rfl]; simp)
  | k + 1, hk, b, h => by
    rcases List.mem_append.mp h with h | h
    · exact octN_ok q (by lia) b h
    · exact octT_ok q k (by lia) b h
theorem octT_len (q : Nat → Int) : ∀ k, (octT q k).length ≤ 7 * k
  | 0 => Nat.le_refl 0
  | k + 1 => by
    show (octN q (4 - k) ++ octT q k).length ≤ _
    rw [List.length_append]
    have := octT_len q k
    have := octN_len q (4 - k)
    lia
variable {prog : Program} {w : World} {A : Around} {E : Value → Shared → Prop} {s : Shared} {h₀ : Heap} {m : Str → Option Value}
structure GrowI (q : Nat → Int) (h₀ : Heap) (L Pl S Dd : Addr) (h1 : Int) (k1 : Value) (e2 : DictEntry) (kd : Nat) (pre post : List (Addr × Obj)) (n : Nat) (ys : List Value) (kY : Nat) (t : Tok) (m : Str → Option Value) (h : Heap) : Prop where
  le : n ≤ 5
  txt : TxtOf ys ((comps q (5 - n)).map pthR)
  stm : m (Str.ofString "stream") = some (.ref S)
  pts : m (Str.ofString "paths") = some (.ref Pl)
  fr : Fr h₀ L h m
  nw : News h₀ L h ((Pl, W.listOf ys.toArray kY) :: pre ++ (Dd, dictOf [{ hash := h1, key := k1, val := Value.bytes (byteArr (octT q n)) t }, e2] kd) :: post)
structure GrowX (I : List Value → Nat → Tok → (Str → Option Value) → Heap → Prop) (s s₁ : Shared) : Prop where
  ex : ∃ ys kY t m h tk, s₁ = { s with heap := h, toks := tk } ∧ I ys kY t m h
set_option maxRecDepth 100000 in
theorem grown_while {q : Nat → Int} {test : Expr} {body : List Stmt} {pos : Pos} {env : Env} {Q : Flow → Shared → Prop} {Dt Pl f c S Dd Cl X P l : Addr} {oT oF oC oS oL oX oP oZ : Obj} {k0 kd : Nat} {h1 : Int} {k1 : Value} {e2 : DictEntry} {t tt : Tok}
    (F : Fr h₀ env.locals s.heap m) (N : News h₀ env.locals s.heap [(Dt, oT), (Pl, W.listOf [Value.str (Str.ofString "/") tt].toArray k0), (f, oF), (c, oC), (S, oS), (Dd, dictOf [{ hash := h1, key := k1, val := Value.bytes (byteArr (octs q 5)) t }, e2] kd), (Cl, oL), (X, oX), (P, oP), (l, oZ)])
    (hm1 : m (Str.ofString "stream") = some (.ref S)) (hm2 : m (Str.ofString "paths") = some (.ref Pl))
    (turn : ∀ n ys kY t m h tk, n < 5 → GrowI q h₀ env.locals Pl S Dd h1 k1 e2 kd [(f, oF), (c, oC), (S, oS)] [(Cl, oL), (P, oP), (l, oZ)] (n + 1) ys kY t m h →
      wpAny (model prog w) A (isTrue test env (eval test env)) (fun b s₂ =>
      if b then wpAny (model prog w) A (execs body env) (fun fl s₃ => match fl with
          | .next | .cont => GrowX (GrowI q h₀ env.locals Pl S Dd h1 k1 e2 kd [(f, oF), (c, oC), (S, oS)] [(Cl, oL), (P, oP), (l, oZ)] n) s s₃
          | .brk => Q .next s₃
          | .ret v => Q (.ret v) s₃) (fun _ _ => False) s₂
      else Q .next s₂) (fun _ _ => False) { s with heap := h, toks := tk })
    (stop : ∀ ys kY t m h tk, GrowI q h₀ env.locals Pl S Dd h1 k1 e2 kd [(f, oF), (c, oC), (S, oS)] [(Cl, oL), (P, oP), (l, oZ)] 0 ys kY t m h →
      wpAny (model prog w) A (isTrue test env (eval test env)) (fun b s₂ => b = false ∧ Q .next s₂) (fun _ _ => False) { s with heap := h, toks := tk }) :
    wpAny (model prog w) A (exec (.While test body [] pos) env) Q E s := by
  refine while_rule (fun n s₁ => GrowX (GrowI q h₀ env.locals Pl S Dd h1 k1 e2 kd [(f, oF), (c, oC), (S, oS)] [(Cl, oL), (P, oP), (l, oZ)] n) s s₁) 5 ⟨[Value.str (Str.ofString "/") tt], k0, t, m, s.heap, s.toks, rfl, ⟨Nat.le_refl 5, TxtOf.cons TxtOf.nil, hm1, hm2, F, news_sub N (by rw [← octs_T]; dsimp only [List.cons_append, List.nil_append]; walk_at "sub")⟩⟩ ?_
  · rintro n s₁ ⟨⟨ys, kY, t, m, h, tk, rfl, I⟩⟩
    cases n with
    | zero =>
      refine wpAny_mono (stop ys kY t m h tk I) (fun b s₂ hb => ?_) fun _ _ e => e
      obtain ⟨rfl, hq⟩ := hb
      simpa using hq
    | succ n =>
      refine wpAny_mono (turn n ys kY t m h tk I.le I) (fun b s₂ hb => ?_) fun _ _ e => e
      cases b with
      | false => simpa using hb
      | true =>
        simp only [if_true] at hb ⊢
        refine wpAny_mono hb (fun fl s₃ hf => ?_) fun _ _ e => e
        cases fl with
        | next => exact ⟨n, Nat.lt_succ_self n, hf⟩
        | cont => exact ⟨n, Nat.lt_succ_self n, hf⟩
        | brk => exact hf
        | ret v => exact hf
theorem len_vals {L R : Addr} {kR n : Nat} {vs : List Value} {news : List (Addr × Obj)} {Q : Value → Shared → Prop} (N : News h₀ L s.heap news) (hR : (R, W.listOf vs.toArray kR) ∈ news) (hn : vs.length = n) (hz : n ≤ 1000)
    (h : Q (.int (n : Int) (s.toks + 1)) { s with toks := s.toks + 1 + 1 }) : wpAny (model prog w) A (call (.builtin "len") [.ref R]) Q E s := by
  have hl' : s.heap.IsList R vs.toArray := ⟨_, (N _ hR).1, rfl, kR, rfl⟩
  have hs : vs.toArray.size = n := by simp [hn]
  refine PySem.Calls.call_len_list hl' (by rw [hs]; lia) ?_
  rw [hs]; exact h
theorem eq_self {a : Int} {t u : Tok} {Q : Value → Shared → Prop} (h : Q (.bool true) s) : wpAny (model prog w) A (compareOp .Eq (.int a t) (.int a u)) Q E s := PyProof.Rows.eq_int (by simpa using h)
theorem ge_true {a b : Int} {t u : Tok} {Q : Value → Shared → Prop} (e : b ≤ a) (h : Q (.bool true) s) : wpAny (model prog w) A (compareOp .GtE (.int a t) (.int b u)) Q E s := PyProof.Rows.ge_int (by rw [decide_eq_true e]; exact h)
theorem lt_true {a b : Int} {t u : Tok} {Q : Value → Shared → Prop} (e : a < b) (h : Q (.bool true) s) : wpAny (model prog w) A (compareOp .Lt (.int a t) (.int b u)) Q E s := PyProof.Rows.lt_int (by rw [decide_eq_true e]; exact h)
theorem lt_false {a b : Int} {t u : Tok} {Q : Value → Shared → Prop} (e : ¬ a < b) (h : Q (.bool false) s) : wpAny (model prog w) A (compareOp .Lt (.int a t) (.int b u)) Q E s := PyProof.Rows.lt_int (by rw [decide_eq_false e]; exact h)
end
theorem kw_r_loop_1 : True := by
  (k_with "call builtin:len" => ((k_here; (with_reducible show wpAny _ _ (call (Value.builtin "len") [Value.ref _]) _ _ _); k_dflt (refine' len_vals (by k_asm) (by k_mem) (by with_reducible assumption) (by lia) ?_))))
  (k_with "compareOp Eq int int" => ((k_here; with_reducible refine eq_self ?_)))
  (k_with "compareOp GtE int int" => ((k_here; (with_reducible refine' ge_true (by lia) ?_))))
  (k_with "compareOp Lt int int" => ((k_here; first | ((with_reducible refine' lt_true (by lia) ?_)) | ((with_reducible refine' lt_false (by lia) ?_)))))
  trivial
section
open PySem.Builtin
theorem byt_picked_to (A R : List Int) : KBy.picked (byteArr (A ++ R)) none (some ((A.length : Nat) : Int)) = byteArr A := by
  rw [KBc.picked_eq]
  have e1 : (byteArr (A ++ R)).size = A.length + R.length := by rw [byteArr_size, List.length_append]
  simp only [Option.elim_none, Option.elim_some, e1, clipAt_nat]
  rw [Nat.min_eq_left (Nat.le_add_right _ _), Nat.sub_zero, List.drop_zero]
  unfold byteArr
  simp
theorem byt_picked_from (A R : List Int) : KBy.picked (byteArr (A ++ R)) (some ((A.length : Nat) : Int)) none = byteArr R := by
  rw [KBc.picked_eq]
  have e1 : (byteArr (A ++ R)).size = A.length + R.length := by rw [byteArr_size, List.length_append]
  simp only [Option.elim_none, Option.elim_some, e1, clipAt_nat]
  rw [Nat.min_eq_left (Nat.le_add_right _ _), Nat.add_sub_cancel_left]
  unfold byteArr
  simp
  exact List.take_of_length_le (by simp)
theorem byt_ints {A : List Int} (h : ∀ b ∈ A, 0 ≤ b ∧ b < 256) : KBw.bInts (byteArr A) = A := by
  unfold KBw.bInts byteArr
  simp only [List.map_map]
  conv => rhs; rw [← List.map_id A]
  refine List.map_congr_left fun b hb => ?_
  have := h b hb
  show ((b.toNat.toUInt8.toNat : Nat) : Int) = b
  have e : b.toNat.toUInt8.toNat = b.toNat % 256 := rfl
  rw [e]
  lia
section
variable {prog : Program} {w : World} {A : Around} {E : Value → Shared → Prop} {s : Shared} {value slice : PySem.Expr} {t u : Tok} {h₀ : Heap} {L : Addr} {m : PySem.Str → Option Value} {news : List (Addr × Obj)} {Q : Value → Shared → Prop} {B R : List Int} {c : Int}
theorem byt_to (hF : Fr h₀ L s.heap m) (hN : News h₀ L s.heap news) (hr : ∀ b ∈ B ++ R, 0 ≤ b ∧ b < 256) (hc : c = ((B.length : Nat) : Int)) (hz : (B ++ R).length ≤ 1000)
    (h : ∀ h' t' k, Fr h₀ L h' m → News h₀ L h' news → Q (.bytes (byteArr B) t') { s with heap := h', toks := k })
    (hs : subscripted slice false (.bytes (byteArr (B ++ R)) t) (.ref s.heap.objs.size) = operate [.ref s.heap.objs.size, .bytes (byteArr (B ++ R)) t] (getItem (.bytes (byteArr (B ++ R)) t) (.ref s.heap.objs.size)))
    (ht : ∀ r, letTemporaryGo value (.bytes (byteArr (B ++ R)) t) r = pure ()) :
    wpAny (model prog w) A (subscriptTail value slice (.bytes (byteArr (B ++ R)) t) (.ref s.heap.objs.size)) Q E { s with heap := s.heap.push { cls := .type "slice", data := .fields #[.none, .int c u, .none] } } := by
  subst hc
  refine KBc.slice_K (lo := none) (hi := some ((B.length : Nat) : Int)) hF hN (byt_ints hr) (by constructor) (by constructor) (by lia) (fun h' t' k F N _ => ?_) hs ht
  rw [byt_picked_to]
  exact h h' t' k F N
theorem byt_from (hF : Fr h₀ L s.heap m) (hN : News h₀ L s.heap news) (hr : ∀ b ∈ B ++ R, 0 ≤ b ∧ b < 256) (hc : c = ((B.length : Nat) : Int)) (hz : (B ++ R).length ≤ 1000)
    (h : ∀ h' t' k, Fr h₀ L h' m → News h₀ L h' news → Q (.bytes (byteArr R) t') { s with heap := h', toks := k })
    (hs : subscripted slice false (.bytes (byteArr (B ++ R)) t) (.ref s.heap.objs.size) = operate [.ref s.heap.objs.size, .bytes (byteArr (B ++ R)) t] (getItem (.bytes (byteArr (B ++ R)) t) (.ref s.heap.objs.size)))
    (ht : ∀ r, letTemporaryGo value (.bytes (byteArr (B ++ R)) t) r = pure ()) :
    wpAny (model prog w) A (subscriptTail value slice (.bytes (byteArr (B ++ R)) t) (.ref s.heap.objs.size)) Q E { s with heap := s.heap.push { cls := .type "slice", data := .fields #[.int c u, .none, .none] } } := by
  subst hc
  refine KBc.slice_K (lo := some ((B.length : Nat) : Int)) (hi := none) hF hN (byt_ints hr) (by constructor) (by constructor) (by lia) (fun h' t' k F N _ => ?_) hs ht
  rw [byt_picked_from]
  exact h h' t' k F N
theorem byt_first (hr : ∀ b ∈ c :: R, 0 ≤ b ∧ b < 256) (hz : (c :: R).length ≤ 1000) (h : ∀ t' k, Q (.int c t') { s with toks := k })
    (hs : subscripted slice false (.bytes (byteArr (c :: R)) t) (.int 0 u) = operate [.bytes (byteArr (c :: R)) t, .int 0 u] (getItem (.bytes (byteArr (c :: R)) t) (.int 0 u)))
    (ht : ∀ r, letTemporaryGo value (.bytes (byteArr (c :: R)) t) r = pure ()) :
    wpAny (model prog w) A (subscriptTail value slice (.bytes (byteArr (c :: R)) t) (.int 0 u)) Q E s :=
  KBw.item_K (byt_ints hr) (by lia) (Int.le_refl 0) (by simp) (fun t' k _ _ => h t' k) hs ht
theorem byt_len (hr : ∀ b ∈ B, 0 ≤ b ∧ b < 256) (hz : B.length ≤ 1000) (hc : c = ((B.length : Nat) : Int)) (h : ∀ t' k, Q (.int c t') { s with toks := k }) : wpAny (model prog w) A (call (.builtin "len") [.bytes (byteArr B) t]) Q E s := by
  subst hc
  exact KBw.len_K (byt_ints hr) (by lia) (h _ _)
theorem byt_true {Q : Bool → Shared → Prop} (hr : ∀ b ∈ B, 0 ≤ b ∧ b < 256) (hz : B.length ≤ 1000) (hB : B ≠ []) (h : ∀ k, Q true { s with toks := k }) : wpAny (model prog w) A (truthy (.bytes (byteArr B) t)) Q E s := by
  refine KBw.truthy_K (byt_ints hr) (by lia) ?_
  rw [decide_eq_true (List.length_pos_iff.mpr hB)]
  exact h _
end
section
variable {e v : PySem.Expr} {x y : PySem.Str} {p p1 p2 : Pos} {b : Array UInt8} {t u : Tok} {r : Addr} {r2 : Value} {n : Int}
theorem sub_to : subscripted (.Slice none (some e) none p) false (.bytes b t) (.ref r) = operate [.ref r, .bytes b t] (getItem (.bytes b t) (.ref r)) := by with_unfolding_all rfl
theorem sub_from : subscripted (.Slice (some e) none none p) false (.bytes b t) (.ref r) = operate [.ref r, .bytes b t] (getItem (.bytes b t) (.ref r)) := by with_unfolding_all rfl
theorem let_attr : ∀ r, letTemporaryGo (.Attribute (.Name x p1) y p2) (.bytes b t) r = pure () := by intro _; with_unfolding_all rfl
end
section
variable {x : PySem.Str} {n : Nat} {c : UInt8} {cs : List UInt8} {b : Array UInt8} {t t1 t2 : Tok} {d : PySem.Str}
theorem road_latin {id : String} : _codecs.decodeRoad id b (PySem.Str.ofString "latin-1") none [] = (_codecs.runDecoder id _codecs.latin1Decoder none true b 0 [] >>= fun r => mkStr ⟨r.1⟩) := by kernel_rfl
theorem meets_latin (hd : ∀ id, _codecs.runDecoder id _codecs.latin1Decoder none true b 0 [] = pure (x.cps, n)) :
    Meets («_codecs.decode.text» ⟨[.bytes b t, .str (PySem.Str.ofString "latin-1") t1, .none, .str d t2], []⟩) (fun _ R s => x.length ≤ sizeLine ∧ R (.ok (.ret (.str x s.toks))) { s with toks := s.toks + 1 }) := by
  refine .of_wp fun prog w A R s hS => ?_
  obtain ⟨hsz, h⟩ := hS
  show wpAny _ _ (Bytes.bytesLike _ (.bytes b t) >>= fun r => _) _ _ s
  refine wpAny_bind (wpAny_of_eq KBd.like_eq ?_)
  refine wpAny_bind (wpAny_of_eq KBd.held_eq ?_)
  show wpAny _ _ (_codecs.decodeRoad _ b (PySem.Str.ofString "latin-1") none [] >>= fun v => _) _ _ s
  rw [road_latin, hd]
  refine wpAny_bind (wpAny_bind (wpAny_pure ?_))
  exact wpAny_mkStr (wpAny_pure ⟨_, rfl, h⟩) hsz
theorem entry_latin : «bytes.decode» ⟨[.bytes (c :: cs).toArray t, .str (PySem.Str.ofString "latin-1") t1], []⟩ = (mkStr (PySem.Str.ofString "utf-8") >>= fun _ => mkStr (PySem.Str.ofString "latin-1") >>= fun e => mkStr (PySem.Str.ofString "bytes.decode") >>= fun d =>
    call (.builtin "_codecs.decode.text") [.bytes (c :: cs).toArray t, e, .none, d] >>= fun v => ret v) := by kernel_rfl
theorem meets_dec2 (hd : ∀ id, _codecs.runDecoder id _codecs.latin1Decoder none true (c :: cs).toArray 0 [] = pure (x.cps, n)) :
    Meets («bytes.decode» ⟨[.bytes (c :: cs).toArray t, .str (PySem.Str.ofString "latin-1") t1], []⟩) (fun _ R s => x.length ≤ sizeLine ∧ ∀ t' k, R (.ok (.ret (.str x t'))) { s with toks := k }) := by
  refine .of_wp fun prog w A R s hS => ?_
  obtain ⟨hsz, h⟩ := hS
  rw [entry_latin]
  refine wpAny_bind (wpAny_mkStr ?_ (by decide))
  refine wpAny_bind (wpAny_mkStr ?_ (by decide))
  refine wpAny_bind (wpAny_mkStr ?_ (by decide))
  exact wpAny_bind (call_function_meets KBd.kind_text KBd.plain_text KBd.entry_text (KBd.args_text _ _ _ _) (meets_latin hd) ⟨hsz, wpAny_pure ⟨_, rfl, h _ _⟩⟩)
theorem args_decode_2 (a b : Value) : argsOk "bytes.decode" ⟨[a, b], []⟩ := by
  unfold argsOk; rw [signature?_of (id := "bytes.decode") (n := ['e', 'd', 'o', 'c', 'e', 'd']) (o := ['s', 'e', 't', 'y', 'b']) (by kernel_rfl) FB.owner_bytes]; kernel_rfl
end
section
variable {prog : Program} {w : World} {A : Around} {E : Value → Shared → Prop} {s : Shared} {c : UInt8} {cs : List UInt8} {t u : Tok} {x : PySem.Str} {n : Nat}
theorem dec_latin {Q : Value → Shared → Prop} (hd : ∀ id, _codecs.runDecoder id _codecs.latin1Decoder none true (c :: cs).toArray 0 [] = pure (x.cps, n)) (hsz : x.length ≤ 1000) (h : ∀ t' k, Q (.str x t') { s with toks := k }) :
    wpAny (model prog w) A (call (.builtin "bytes.decode") [.bytes (c :: cs).toArray t, .str (PySem.Str.ofString "latin-1") u]) Q E s :=
  call_meets FB.slot_bytes_decode (typeIs_bytes _ _ _) FB.entry_bytes_decode (args_decode_2 _ _) (meets_dec2 hd) ⟨by rw [sizeLine_eq]; lia, h⟩
theorem run_latin : ∀ (k : Nat) (z : UInt8), k < 5 → ∀ id, _codecs.runDecoder id _codecs.latin1Decoder none true (([46, 10, 46, 97] : List UInt8).take k ++ [z]).toArray 0 [] = pure (((([46, 10, 46, 97] : List Nat).take k ++ [z.toNat]).toArray), k + 1)
  | 0, z, _ => fun id => by kernel_rfl
  | 1, z, _ => fun id => by kernel_rfl
  | 2, z, _ => fun id => by kernel_rfl
  | 3, z, _ => fun id => by kernel_rfl
  | 4, z, _ => fun id => by kernel_rfl
  | _ + 5, _, h => absurd h (by lia)
theorem dec_name {q : Nat → Int} {j : Nat} {Q : Value → Shared → Prop} (hj : j < 5) (h : ∀ t' k, Q (.str (nmW q j) t') { s with toks := k }) :
    wpAny (model prog w) A (call (.builtin "bytes.decode") [.bytes (byteArr ((nmW q j).cps.toList.map (fun c : Nat => (c : Int)))) t, .str (PySem.Str.ofString "latin-1") u]) Q E s := by
  have hz : lastN (q j) j < 256 := lastN_lt (q j) hj
  have hk := headN_lt (q j)
  have e1 : (nmW q j).cps.toList = ([46, 10, 46, 97] : List Nat).take (headN (q j)) ++ [lastN (q j) j] := nameS_cps (q j) j
  have e2 : byteArr ((nmW q j).cps.toList.map (fun c : Nat => (c : Int))) = (([46, 10, 46, 97] : List UInt8).take (headN (q j)) ++ [(lastN (q j) j).toUInt8]).toArray := by
    rw [e1]
    unfold byteArr
    simp only [List.map_append, List.map_map, List.map_take, List.map_cons, List.map_nil]
    rfl
  have e3 : (lastN (q j) j).toUInt8.toNat = lastN (q j) j := by
    have : (lastN (q j) j).toUInt8.toNat = lastN (q j) j % 256 := rfl
    lia
  have hr := run_latin (headN (q j)) (lastN (q j) j).toUInt8 hk
  rw [e3] at hr
  rw [e2]
  have e4 : (nmW q j).cps = (([46, 10, 46, 97] : List Nat).take (headN (q j)) ++ [lastN (q j) j]).toArray := by rw [← e1, Array.toArray_toList]
  generalize hl : ([46, 10, 46, 97] : List UInt8).take (headN (q j)) ++ [(lastN (q j) j).toUInt8] = l at hr
  cases l with
  | nil => simp at hl
  | cons c cs => exact dec_latin (x := nmW q j) (fun id => by rw [hr id, e4]) (Nat.le_trans (nameS_len (q j) j) (by decide)) h
end
end
theorem kw_r_bytes_1 : True := by
  (k_with "subscriptTail" => ((k_here; (with_reducible show wpAny _ _ (subscriptTail _ (PySem.Expr.Slice none (some _) none _) (Value.bytes (byteArr (_ ++ _)) _) (Value.ref _)) _ _ _); k_dflt (refine' byt_to (s := ⟨_, _, _, _, _⟩) (by k_asm) (by k_asm) (by with_reducible assumption) (by first | with_reducible assumption | rfl) (by with_reducible assumption) ?_ (by exact sub_to) (by exact let_attr)); intro _ _ _ _ _; (try dsimp only))))
  (k_with "subscriptTail" => ((k_here; (with_reducible show wpAny _ _ (subscriptTail _ (PySem.Expr.Slice (some _) none none _) (Value.bytes (byteArr (_ ++ _)) _) (Value.ref _)) _ _ _); k_dflt (refine' byt_from (s := ⟨_, _, _, _, _⟩) (by k_asm) (by k_asm) (by with_reducible assumption) (by first | with_reducible assumption | rfl) (by with_reducible assumption) ?_ (by exact sub_from) (by exact let_attr)); intro _ _ _ _ _; (try dsimp only))))
  (k_with "subscriptTail" => ((k_here; (with_reducible show wpAny _ _ (subscriptTail _ _ (Value.bytes (byteArr (_ :: _)) _) (Value.int 0 _)) _ _ _); k_dflt (refine' byt_first (by with_reducible assumption) (by exact Nat.le_of_ble_eq_true rfl) ?_ (by with_unfolding_all rfl) (by (intro _; with_unfolding_all rfl))); intro _ _; (try dsimp only))))
  (k_with "call builtin:len" => ((k_here; (with_reducible show wpAny _ _ (call (Value.builtin "len") [Value.bytes (byteArr _) _]) _ _ _); k_dflt (refine' byt_len (by with_reducible assumption) (by with_reducible assumption) (by with_reducible assumption) ?_); intro _ _; (try dsimp only))))
  (k_with "truthy bytes" => ((k_here; (with_reducible show wpAny _ _ (truthy (Value.bytes (byteArr _) _)) _ _ _); k_dflt (refine' byt_true (by with_reducible assumption) (by exact Nat.le_of_ble_eq_true rfl) (by exact List.cons_ne_nil _ _) ?_); intro _; (try dsimp only))))
  (k_with "call builtin:bytes.decode" => ((k_here; (with_reducible show wpAny _ _ (call (Value.builtin "bytes.decode") [Value.bytes (byteArr (List.map _ _)) _, Value.str _ _]) _ _ _); k_dflt (refine' dec_name (by with_reducible assumption) ?_); intro _ _; (try dsimp only))))
  trivial
theorem kw_c_grown_0 : True := by
  k_with_none
  (k_with "k_room" => (ktr_room))
  (k_with "con sub" => (first | exact List.forall_mem_nil _ | k_extra "sub" | (simp only [List.forall_mem_cons]; refine ⟨?_, ?_⟩ <;> first | exact List.forall_mem_nil _ | k_mem | k_extra "con sub") | k_sub))
  (k_with "con enter" => ((refine wpAny_call ?_; (refine' code_defG (by assumption) (by assumption) (by assumption) (by assumption) (by assumption) (by exact rfl) (by exact rfl) (by exact rfl) (by k_is) (by k_is) (by k_room) (by first | exact BindsTo.of_eq rfl | exact binds_K (by k_in) rfl (by k_is) rfl rfl rfl | fail "k_enter: no rule for these arguments") (by exact locs rfl) ?_ (by exact rfl) (by exact rfl) (by exact rfl) (by decide); k_whole))))
  (k_with "con start" => ((dsimp only [Con, fnSc]; intros; rename_i hret)))
  (k_with "LeaveK" => ((k_dflt (refine' leave_con (by with_reducible assumption) (by assumption) (by k_asm) (by k_asm) (by k_extra "con sub") ?_; k_whole); intro _; (try dsimp only))))
  (k_with "con enterC" => ((refine wpAny_call ?_; (refine' enter_cells (by assumption) (by assumption) (by assumption) (by assumption) (by assumption) (by exact rfl) (by exact rfl) (by exact rfl) (by k_is) (by k_is) (by k_room) (by exact BindsTo.of_eq rfl) (by exact rfl) (by decide +kernel) ?_ (by exact rfl) (by exact rfl) (by exact rfl); k_whole))))
  (k_with "con enterR" => ((refine wpAny_call ?_; (refine' enter_rest (by assumption) (by assumption) (by assumption) (by assumption) (by assumption) (by exact rfl) (by exact rfl) (by exact rfl) (by k_is) (by k_is) (by k_room) (by exact rfl) (by exact fun _ => locs rfl) ?_ (by exact rfl) (by exact rfl) (by exact rfl) (by decide); k_whole))))
  (k_with "callWith" => ((k_here; (with_reducible show wpAny _ _ (callWith _ (Value.builtin _) (_ :: _) (backTo _ (starEach (_ :: _) _)) []) _ _ _); (with_reducible refine' callWith_method1 ?_ (by k_dflt (exact rfl)) (by k_dflt (exact rfl))))))
  (k_with "mem at" => (with_reducible (first | exact List.mem_cons_self | exact List.Mem.head _ | (refine List.mem_cons_of_mem _ ?_; k_extra "mem at") | (refine List.mem_append_left _ ?_; k_extra "mem at") | (refine List.mem_append_right _ ?_; k_extra "mem at"))))
  (k_with "mem in" => (with_reducible (first | assumption | (refine List.mem_cons_of_mem _ ?_; k_extra "mem in") | (refine List.mem_append_right _ ?_; k_extra "mem in") | (refine List.mem_append_left _ ?_; k_extra "mem in"))))
  (k_with "sub" => (with_reducible (first | exact sub_nil | exact sub_refl | (refine sub_cons ?_ ?_; (focus k_extra "mem at"); k_extra "sub") | (refine subs_app ?_ ?_; (focus k_extra "sub"); k_extra "sub") | (intro _ _; k_extra "mem in"))))
  (k_with "call builtin:issubclass" => ((k_here; (with_reducible show wpAny _ _ (call (Value.builtin "issubclass") [Value.type "str", Value.ref _]) _ _ _); refine' isc_call (by k_asm) (by k_mem) ?_; k_whole)))
  (k_with "call ref" => ((k_here; (with_reducible show wpAny _ _ (call (Value.ref 94) [Value.str _ _]) _ _ _); k_dflt (refine' con_use c_fspath (by k_asm) (by k_asm) (by k_asm) (by k_asm) (by k_asm) (by k_extra "con sub") (by ktr_room) (by ktr_units) ?_; k_whole); intro _ _ _ _ _ _ hv9w9; subst hv9w9; (try dsimp only); (try k_fold))))
  (k_with "CompEnd" => ((refine compEnd_lt (by assumption) ?_; intro l9'w9; k_lt l9'w9; lcg_end)))
  (k_with "FinE" => (((unfold LCg.FinE); intro _ _ _ _ N'w9 _; (try dsimp only [List.nil_append, List.cons_append] at N'w9); (try dsimp only))))
  (k_with "FinA" => (((unfold LCg.FinA); intro _ _ _ _ N'w9 _; (try dsimp only [List.nil_append, List.cons_append] at N'w9); (try dsimp only))))
  (k_with "lcg_off" => (first | exact True.intro | (with_reducible assumption) | (refine And.intro (by first | exact off3_at _ _ (by assumption) (by k_mem) rfl | exact ⟨by k_ne, by k_ne, by k_ne⟩) ?_; lcg_off) | (refine And.intro (by k_ne) ?_; lcg_off)))
  (k_with "SeqSrc" => ((k_here; k_dflt ((refine SeqSrc.is (by rfl) (by k_asm) (by k_asm) (by k_mem) (by first | exact Or.inl rfl | exact Or.inr rfl) (by first | size_fits | exact Nat.le_of_ble_eq_true rfl) ?_); intro _; lcg_lit))))
  (k_with "CompRest" => ((with_unfolding_all first
  | (refine LCg.CompRest.succ ?_; intro _ _ _ _ _ _ _ _ _ _ hv'w9 _ _ _ _ _ ne'w9; (replace hv'w9 := Option.some.inj hv'w9; (first | subst hv'w9 | dsimp only at hv'w9; subst hv'w9)); (replace ne'w9 : NeP _ _ _ := ne'w9))
  | refine LCg.CompRest.zero ?_)))
  (k_with "and" => ((with_reducible first | exact And.left (by assumption) | exact And.left (And.right (by assumption)) | exact And.left (And.right (And.right (by assumption))) | exact And.left (And.right (And.right (And.right (by assumption)))) | exact And.left (And.right (And.right (And.right (And.right (by assumption))))) | exact And.left (And.right (And.right (And.right (And.right (And.right (by assumption)))))) | exact And.left (And.right (And.right (And.right (And.right (And.right (And.right (by assumption))))))) | exact And.left (And.right (And.right (And.right (And.right (And.right (And.right (And.right (by assumption)))))))) | exact And.left (And.right (And.right (And.right (And.right (And.right (And.right (And.right (And.right (by assumption))))))))) | exact And.left (And.right (And.right (And.right (And.right (And.right (And.right (And.right (And.right (And.right (by assumption)))))))))) | exact And.left (And.right (And.right (And.right (And.right (And.right (And.right (And.right (And.right (And.right (And.right (by assumption))))))))))) | exact And.left (And.right (And.right (And.right (And.right (And.right (And.right (And.right (And.right (And.right (And.right (And.right (by assumption)))))))))))) | exact And.left (And.right (And.right (And.right (And.right (And.right (And.right (And.right (And.right (And.right (And.right (And.right (And.right (by assumption))))))))))))) | exact And.left (And.right (And.right (And.right (And.right (And.right (And.right (And.right (And.right (And.right (And.right (And.right (And.right (And.right (by assumption)))))))))))))) | exact And.left (And.right (And.right (And.right (And.right (And.right (And.right (And.right (And.right (And.right (And.right (And.right (And.right (And.right (And.right (by assumption))))))))))))))) | exact And.left (And.right (And.right (And.right (And.right (And.right (And.right (And.right (And.right (And.right (And.right (And.right (And.right (And.right (And.right (And.right (by assumption)))))))))))))))) | exact And.right (by assumption) | exact And.right (And.right (by assumption)) | exact And.right (And.right (And.right (by assumption))) | exact And.right (And.right (And.right (And.right (by assumption)))) | exact And.right (And.right (And.right (And.right (And.right (by assumption))))) | exact And.right (And.right (And.right (And.right (And.right (And.right (by assumption)))))) | exact And.right (And.right (And.right (And.right (And.right (And.right (And.right (by assumption))))))) | exact And.right (And.right (And.right (And.right (And.right (And.right (And.right (And.right (by assumption)))))))) | exact And.right (And.right (And.right (And.right (And.right (And.right (And.right (And.right (And.right (by assumption))))))))) | exact And.right (And.right (And.right (And.right (And.right (And.right (And.right (And.right (And.right (And.right (by assumption)))))))))) | exact And.right (And.right (And.right (And.right (And.right (And.right (And.right (And.right (And.right (And.right (And.right (by assumption))))))))))))))
  (k_with "and3" => ((with_reducible first | exact And.left (And.left (by assumption)) | exact And.left (And.right (And.left (by assumption))) | exact And.right (And.right (And.left (by assumption))) | exact And.left (And.left (And.right (by assumption))) | exact And.left (And.right (And.left (And.right (by assumption)))) | exact And.right (And.right (And.left (And.right (by assumption)))) | exact And.left (And.left (And.right (And.right (by assumption)))) | exact And.left (And.right (And.left (And.right (And.right (by assumption))))) | exact And.right (And.right (And.left (And.right (And.right (by assumption))))) | exact And.left (And.left (And.right (And.right (And.right (by assumption))))) | exact And.left (And.right (And.left (And.right (And.right (And.right (by assumption)))))) | exact And.right (And.right (And.left (And.right (And.right (And.right (by assumption)))))) | exact And.left (And.left (And.right (And.right (And.right (And.right (by assumption)))))) | exact And.left (And.right (And.left (And.right (And.right (And.right (And.right (by assumption))))))) | exact And.right (And.right (And.left (And.right (And.right (And.right (And.right (by assumption))))))) | exact And.left (And.left (And.right (And.right (And.right (And.right (And.right (by assumption))))))) | exact And.left (And.right (And.left (And.right (And.right (And.right (And.right (And.right (by assumption)))))))) | exact And.right (And.right (And.left (And.right (And.right (And.right (And.right (And.right (by assumption)))))))) | exact And.left (And.left (And.right (And.right (And.right (And.right (And.right (And.right (by assumption)))))))) | exact And.left (And.right (And.left (And.right (And.right (And.right (And.right (And.right (And.right (by assumption))))))))) | exact And.right (And.right (And.left (And.right (And.right (And.right (And.right (And.right (And.right (by assumption))))))))) | exact And.left (And.left (And.right (And.right (And.right (And.right (And.right (And.right (And.right (by assumption))))))))) | exact And.left (And.right (And.left (And.right (And.right (And.right (And.right (And.right (And.right (And.right (by assumption)))))))))) | exact And.right (And.right (And.left (And.right (And.right (And.right (And.right (And.right (And.right (And.right (by assumption)))))))))) | exact And.left (And.left (And.right (And.right (And.right (And.right (And.right (And.right (And.right (And.right (by assumption)))))))))) | exact And.left (And.right (And.left (And.right (And.right (And.right (And.right (And.right (And.right (And.right (And.right (by assumption))))))))))) | exact And.right (And.right (And.left (And.right (And.right (And.right (And.right (And.right (And.right (And.right (And.right (by assumption))))))))))))))
  (k_with "k_ne" => (first | (with_reducible assumption) | (with_reducible exact Ne.symm (by assumption)) | (refine neN ?_; (try dsimp only); first | (with_reducible assumption) | (with_reducible exact Nat.ne_of_lt (by assumption)) | (with_reducible exact Nat.ne_of_gt (by assumption)) | (with_reducible exact Nat.ne_of_lt (by k_extra "and")) | (with_reducible exact Nat.ne_of_gt (by k_extra "and")) | assumption | exact Ne.symm (by assumption) | k_extra "ne off" | (with_reducible exact Ne.symm (by k_extra "and3")) | (with_reducible k_extra "and3") | (with_reducible exact Ne.symm (by k_extra "and")) | (with_reducible k_extra "and") | lia) | assumption | exact Ne.symm (by assumption)))
  (k_with "ne off" => (first | exact off1_at (by assumption) (by k_mem) | exact Ne.symm (off1_at (by assumption) (by k_mem)) | exact neP1 (by assumption) | exact neP2 (by assumption) | exact neP3 (by assumption) | exact Ne.symm (neP1 (by assumption)) | exact Ne.symm (neP2 (by assumption)) | exact Ne.symm (neP3 (by assumption)) | exact off3_at1 (by assumption) (by k_mem) | exact off3_at2 (by assumption) (by k_mem) | exact off3_at3 (by assumption) (by k_mem) | exact Ne.symm (off3_at1 (by assumption) (by k_mem)) | exact Ne.symm (off3_at2 (by assumption) (by k_mem)) | exact Ne.symm (off3_at3 (by assumption) (by k_mem))))
  (k_with "lcg_src" => (k_mem))
  (k_with "comp seq" => ((k_dflt (refine comp_seq (_F₀ := by k_asm) (by rfl) (by decide) (by rfl) (by decide) (by rfl) ?_))))
  (k_with "assign comp seq" => ((k_dflt (refine assign_comp_seq (_F₀ := by k_asm) (by rfl) (by with_unfolding_all rfl) (by rfl) (by decide) (by rfl) (by decide) (by rfl) (by rfl) (by rfl) ?_))))
  (k_with "no comp" => (repeat' ((fail_if_success (with_reducible show wpAny _ _ (exec (Stmt.Assign [Expr.Name _ _] (Expr.ListComp _ _ _ _) _) _) _ _ _)); (fail_if_success (with_reducible show wpAny _ _ (eval (Expr.ListComp _ _ _ _) _) _ _ _)); (first | (k_unfold; (try dsimp only)) | (k_end; wrow_close) | walk1 | (dsimp only; walk1) | (leave1; walk_say "STEP leave1"; try dsimp only) | fail "no step"))))
  (k_with "str len" => (first | assumption | lia | ((simp only [Str.length_append, PySem.ofString_length] at *); lia)))
  (k_with "call ref" => ((k_here; (with_reducible show wpAny _ _ (call (Value.ref 115) [Value.str _ _, Value.str _ _]) _ _ _); k_dflt (refine' con_use (c_join (by k_extra "str len") (by k_extra "str len")) (by k_asm) (by k_asm) (by k_asm) (by k_asm) (by k_asm) (by k_extra "con sub") (by ktr_room) (by ktr_units) ?_; k_whole); intro _ _ _ _ _ _ hv9w9; obtain ⟨t9, hv9w9⟩ := hv9w9; subst hv9w9; (try dsimp only); (try k_fold))))
  (k_with "call ref" => ((k_here; (with_reducible show wpAny _ _ (call (Value.ref 122) [Value.str _ _]) _ _ _); k_dflt (refine' con_use (c_basename (by k_extra "str len")) (by k_asm) (by k_asm) (by k_asm) (by k_asm) (by k_asm) (by k_extra "con sub") (by ktr_room) (by ktr_units) ?_; k_whole); intro _ _ _ _ _ _ hv9w9; obtain ⟨t9, hv9w9⟩ := hv9w9; subst hv9w9; (try dsimp only); (try k_fold))))
  (k_with "call ref" => ((k_here; (with_reducible show wpAny _ _ (call (Value.ref 129) [Value.str _ _]) _ _ _); k_dflt (refine' con_use (c_dirname (by k_extra "str len")) (by k_asm) (by k_asm) (by k_asm) (by k_asm) (by k_asm) (by k_extra "con sub") (by ktr_room) (by ktr_units) ?_; k_whole); intro _ _ _ _ _ _ hv9w9; obtain ⟨t9, hv9w9⟩ := hv9w9; subst hv9w9; (try dsimp only); (try k_fold))))
  (k_with "binaryOp Add str str" => ((k_here; (with_reducible show wpAny _ _ (binaryOp Operator.Add (Value.str (Txt.slice _ _ _) _) (Value.str (Str.mk _) _)) _ _ _); refine PyProof.Rows.add_str ?_ (name_fits _ _); intro _ _)))
  (k_with "no while" => (repeat' ((fail_if_success (with_reducible show wpAny _ _ (exec (Stmt.While _ _ _ _) _) _ _ _)); (first | (k_unfold; (try dsimp only)) | (k_end; wrow_close) | walk1 | (dsimp only; walk1) | (leave1; walk_say "STEP leave1"; try dsimp only) | fail "no step"))))
  (k_with "size small" => (first | size_fits | ((simp only [List.length_cons, List.length_nil, List.length_append, sizeLine_eq] at *); lia)))
  (k_with "binaryOp Add ref ref" => ((k_here; (with_reducible show wpAny _ _ (binaryOp _ (Value.ref _) (Value.ref _)) _ _ _); k_dflt (refine' add_lst (by k_asm) (by k_asm) (by k_mem) (by k_mem) ?_ (by k_extra "size small")); intro _ _ _ _ l1w9; (try k_lt l1w9); (try k_sweep))))
  (k_with "comp seqX" => ((k_dflt (refine comp_seqX (_F₀ := by k_asm) (by rfl) (by decide) (by rfl) (by decide) (by rfl) ?_))))
  (k_with "inplaceOp Add ref ref" => ((k_here; (with_reducible show wpAny _ _ (inplaceOp Operator.Add (Value.ref _) (Value.ref _)) _ _ _); k_dflt (refine' iadd_any (by k_asm) (by k_asm) (by k_mem) (by k_updF) (by k_extra "size small") (by simp) ?_); intro _ _ _ N'w9; (try dsimp only at N'w9); (try k_sweep))))
  (k_with "call builtin:len" => ((k_here; (with_reducible show wpAny _ _ (call (Value.builtin "len") [Value.ref _]) _ _ _); k_dflt (refine' len_vals (by k_asm) (by k_mem) (by with_reducible assumption) (by lia) ?_))))
  (k_with "compareOp Eq int int" => ((k_here; with_reducible refine eq_self ?_)))
  (k_with "compareOp GtE int int" => ((k_here; (with_reducible refine' ge_true (by lia) ?_))))
  (k_with "compareOp Lt int int" => ((k_here; first | ((with_reducible refine' lt_true (by lia) ?_)) | ((with_reducible refine' lt_false (by lia) ?_)))))
  (k_with "subscriptTail" => ((k_here; (with_reducible show wpAny _ _ (subscriptTail _ (PySem.Expr.Slice none (some _) none _) (Value.bytes (byteArr (_ ++ _)) _) (Value.ref _)) _ _ _); k_dflt (refine' byt_to (s := ⟨_, _, _, _, _⟩) (by k_asm) (by k_asm) (by with_reducible assumption) (by first | with_reducible assumption | rfl) (by with_reducible assumption) ?_ (by exact sub_to) (by exact let_attr)); intro _ _ _ _ _; (try dsimp only))))
  (k_with "subscriptTail" => ((k_here; (with_reducible show wpAny _ _ (subscriptTail _ (PySem.Expr.Slice (some _) none none _) (Value.bytes (byteArr (_ ++ _)) _) (Value.ref _)) _ _ _); k_dflt (refine' byt_from (s := ⟨_, _, _, _, _⟩) (by k_asm) (by k_asm) (by with_reducible assumption) (by first | with_reducible assumption | rfl) (by with_reducible assumption) ?_ (by exact sub_from) (by exact let_attr)); intro _ _ _ _ _; (try dsimp only))))
  (k_with "subscriptTail" => ((k_here; (with_reducible show wpAny _ _ (subscriptTail _ _ (Value.bytes (byteArr (_ :: _)) _) (Value.int 0 _)) _ _ _); k_dflt (refine' byt_first (by with_reducible assumption) (by exact Nat.le_of_ble_eq_true rfl) ?_ (by with_unfolding_all rfl) (by (intro _; with_unfolding_all rfl))); intro _ _; (try dsimp only))))
  (k_with "call builtin:len" => ((k_here; (with_reducible show wpAny _ _ (call (Value.builtin "len") [Value.bytes (byteArr _) _]) _ _ _); k_dflt (refine' byt_len (by with_reducible assumption) (by with_reducible assumption) (by with_reducible assumption) ?_); intro _ _; (try dsimp only))))
  (k_with "truthy bytes" => ((k_here; (with_reducible show wpAny _ _ (truthy (Value.bytes (byteArr _) _)) _ _ _); k_dflt (refine' byt_true (by with_reducible assumption) (by exact Nat.le_of_ble_eq_true rfl) (by exact List.cons_ne_nil _ _) ?_); intro _; (try dsimp only))))
  (k_with "call builtin:bytes.decode" => ((k_here; (with_reducible show wpAny _ _ (call (Value.builtin "bytes.decode") [Value.bytes (byteArr (List.map _ _)) _, Value.str _ _]) _ _ _); k_dflt (refine' dec_name (by with_reducible assumption) ?_); intro _ _; (try dsimp only))))
  trivial
section
theorem kw_c_grown_1 : True := by
  (k_with "no set" => (repeat' ((fail_if_success (with_reducible show wpAny _ _ (PySem.setAttr _ _ (Value.bytes (byteArr _) _)) _ _ _)); (first | (k_unfold; (try dsimp only)) | (k_end; wrow_close) | walk1 | (dsimp only; walk1) | (leave1; walk_say "STEP leave1"; try dsimp only) | fail "no step"))))
  trivial
variable {w : World} {loose : List Str} {mean : ExcName → Option Value} {mg mb : Str → Option Value}
theorem kw_c_grown_2 : True := by
  (k_with "no iter" => (repeat' ((fail_if_success (with_reducible show wpAny _ _ (pyIter (Value.ref _)) (fun it s₂ => LoopAtV _ _ _ _ _ _ _ _ _ it s₂) _ _)); (first | (k_unfold; (try dsimp only)) | (k_end; wrow_close) | walk1 | (dsimp only; walk1) | (leave1; walk_say "STEP leave1"; try dsimp only) | fail "no step"))))
  (k_with "call ref" => ((k_here; (with_reducible show wpAny _ _ (call (Value.ref 197) [Value.int _ _, Value.int _ _]) _ _ _); k_dflt (refine' con_useC (by k_asm) (by k_asm) (by k_asm) (by k_asm) (by k_asm) (by k_extra "con sub") (by ktr_room) (by ktr_units) (c_name (by assumption) (by assumption) (by lia) (by lia)) ?_; k_whole); intro _ _ _ _ _ _ hv9w9; obtain ⟨t9, hv9w9⟩ := hv9w9; subst hv9w9; (try dsimp only); (try k_fold))))
  (k_with "subscriptTail" => ((k_here; (with_reducible show wpAny _ _ (subscriptTail _ _ (Value.ref _) (Value.int _ _)) _ _ _); k_dflt (refine' cell_get (by k_asm) (by k_mem) (by with_reducible assumption) (by lia) (by lia) ?_ (by with_unfolding_all rfl)); intro _; (try dsimp only))))
  (k_with "subscriptTail Name Name ref int" => (walk_at "subscriptTail"))
  (k_with "subscriptTail Name BinOp ref int" => ((k_here; (with_reducible show wpAny _ _ (subscriptTail _ _ (Value.ref _) (Value.int _ _)) _ _ _); k_dflt (refine' txt_at (by k_asm) (by k_mem) (by with_reducible assumption) (by with_reducible assumption) (by exact parW_cast _ _) (by lia) ?_ (by with_unfolding_all rfl)); intro _; (try dsimp only))))
  (k_with "call builtin:list.append" => ((k_here; (with_reducible show wpAny _ _ (call (Value.builtin _) [Value.ref _, _]) _ _ _); k_dflt (refine' app_any (by k_asm) (by k_asm) (by k_updF) (by assumption) ?_); intro _ _ _ N'w9; (try dsimp only at N'w9); (try k_sweep))))
  (k_with "k_all" => (assumption))
  trivial
set_option maxRecDepth 100000 in
set_option maxHeartbeats 8000000 in
theorem c_grown {l : Addr} {n : Nat} {q : Nat → Int} {vs : List Value} (hR : RowOf 5 q vs) (hq : ∀ i, i < 5 → 0 ≤ q i ∧ q i < 1000000) : ConG w loose mean mg mb 8 202 189 185 [(l, W.listOf vs.toArray n)] [.ref l] (fun H h' v => NewTxt (fun ys => TxtOf ys ((comps q 5).map pthR)) H h' v) := by
  dsimp only [ConG, fnSc]
  intro dp un gd cn ns ig ic mr a ccd cl outer A₀ base h₀ L m s Q E C0 B0 F0 X0 N0 T0 hd0 hu0 hret
  walk_at "con enter"
  intro g L' h1 FG F1 N1 B1 X1 T1 kG; (try dsimp only); (try k_lift B1); (try k_fold)
  walk_at "no iter"
  rename IsRange _ _ _ _ _ _ _ _ => HR
  rename Fr g _ _ _ => F2
  rename News g _ _ _ => N2
  obtain ⟨X, kX, m0, F3, N3, lX, mX1, mX2⟩ : ∃ X kX m0, Fr g L' _ m0 ∧ News g L' _ [(X, W.listOf [].toArray kX), (185, tabObj #[]), (l, W.listOf vs.toArray n)] ∧ (185 < X ∧ l < X) ∧ m0 (Str.ofString "octets") = some (.ref X) ∧ m0 (Str.ofString "numbers") = some (.ref l) := ⟨_, _, _, F2, N2, by first | assumption | exact and_t1 (by assumption) | exact and_t2 (by assumption), rfl, rfl⟩
  clear F2 N2
  refine range_inv (n := 5) (fun k m nx => ∃ ys kY, nx = [(X, W.listOf (List.toArray ys) kY), (185, tabObj #[]), (l, W.listOf vs.toArray n)] ∧ IntsAre ys (octs q k) ∧ m (Str.ofString "octets") = some (.ref X) ∧ m (Str.ofString "numbers") = some (.ref l)) rfl HR (range_small _ _ 5 rfl (by decide) (by decide)) (range_size _ _ 5 rfl) F3 N3 ?_ ?_ ?_
  · exact ⟨_, _, rfl, .nil, mX1, mX2⟩
  · rintro k t m₁ nx h tk own hk hadr hown ⟨ys, kY, rfl, hY, hm1, hm2⟩ F4 N4
    rw [Int.zero_add] at F4
    dsimp only [List.cons_append, List.nil_append] at N4
    replace F4 := frL [(Str.ofString "place", .int (k : Int) t), (Str.ofString "octets", .ref X), (Str.ofString "numbers", .ref l)] F4 (all3 rfl hm1 hm2)
    dsimp only [chainL] at F4
    have hq0 := (hq k hk).1
    have hq1 := (hq k hk).2
    have hX : ∀ p ∈ (185, tabObj #[]) :: (l, W.listOf vs.toArray n) :: own, p.1 ≠ X := fun p hp => by
      rcases List.mem_cons.mp hp with rfl | hp
      · exact Nat.ne_of_lt lX.1
      rcases List.mem_cons.mp hp with rfl | hp
      · exact Nat.ne_of_lt lX.2
      · exact hown p hp X (by simp)
    have hYl : ys.length ≤ 100 := by rw [hY.length]; have := octs_len q k; lia
    have hnl : (nameS (q k) (k : Int)).length ≤ 4096 := Nat.le_trans (nameS_len _ _) (by decide)
    walk_at "no comp"
    k_dflt (refine comp_sign (fun c => (c : Int)) (by k_asm) (by rfl) (by rfl) (by decide) (by rfl) (by decide) (by rfl) ?_)
    walk1
    refine' SgnSrc.is ?z ?F ?N ?_ ?_
    case F => k_asm
    case N => k_asm
    case z => exact Nat.le_trans hnl (by rw [sizeLine_eq]; decide)
    · intro C oC c u s₃ m₃ E₃ hc hC hxc F5 N5
      k_steps
      exact ⟨_, _, rfl, fun _ _ e => e⟩
    · intro D5 n5 ys5 h5 tk5 F5 N5 o5 I5
      (try dsimp only)
      have hI5 : ys5.length ≤ 5 := by rw [I5.length, List.length_map, Array.length_toList]; exact nameS_len (q k) (k : Int)
      k_steps
      rename News g _ _ _ => N6
      rename Fr g _ _ _ => F6
      obtain ⟨vz, kz, hvz, N7⟩ : ∃ vz kz, IntsAre vz (octs q k ++ octN q k) ∧ News g _ _ ((X, W.listOf vz.toArray kz) :: (185, tabObj #[]) :: (l, W.listOf vs.toArray n) :: own) := ⟨_, _, hY.append (IntsAre.append (.cons _ _ (.cons _ _ .nil)) I5), news_sub N6 fun p hp => List.mem_cons_of_mem _ (List.mem_cons_of_mem _ (List.mem_cons_of_mem _ hp))⟩
      refine InvEndN.intro F6 N7 (nx := [(X, W.listOf vz.toArray kz), (185, tabObj #[]), (l, W.listOf vs.toArray n)]) ⟨_, _, rfl, hvz, rfl, rfl⟩ ?_ ?_ ?_
      · rfl
      · walk_at "sub"

      · intro p hp; simp [hp]
  · rintro m₁ nx h tk ⟨ys, kY, rfl, hY, hm1, hm2⟩ F4 N4
    replace F4 := frL [(Str.ofString "octets", .ref X), (Str.ofString "numbers", .ref l)] F4 (all2 hm1 hm2)
    dsimp only [chainL] at F4
    have hYl : ys.length ≤ 100 := by rw [hY.length]; exact Nat.le_trans (octs_len q 5) (by decide)
    have hl9 : l ≠ 185 := by
      rintro rfl
      have e1 := (N0 _ List.mem_cons_self).1
      have e2 := (N0 _ (List.mem_cons_of_mem _ List.mem_cons_self)).1
      rw [e1] at e2
      exact absurd (congrArg Obj.cls (Option.some.inj e2)) (by simp)
    have hX5 := lX.1
    have hXl := lX.2
    have hB := octs_ok q 5 (Nat.le_refl 5)
    walk_at "no while"
    rename News g _ _ _ => N5
    rename Fr g _ _ _ => F5
    refine grown_while F5 N5 rfl rfl ?_ ?_
    · rintro n ys2 kY2 t2 m2 h2 tk2 hn I2
      obtain ⟨hle, htx, hs1, hs2, F6, N6⟩ := I2
      dsimp only [List.cons_append, List.nil_append] at N6
      replace F6 := frL [(Str.ofString "stream", .ref _), (Str.ofString "paths", .ref _)] F6 (all2 hs1 hs2)
      dsimp only [chainL] at F6
      clear F5 N5
      obtain ⟨k, hk⟩ : ∃ k, n + k = 4 := ⟨4 - n, by lia⟩
      have e4 : 4 - n = k := by lia
      have e5 : 5 - (n + 1) = k := by lia
      rw [e5] at htx
      have hyl2 : ys2.length = k + 1 := by rw [htx.1, List.length_map, comps_len]
      have hyl3 : ys2.length ≤ 100 := by lia
      have eo : octT q (n + 1) = [Int.fmod (q k) 256] ++ ([((nmW q k).length : Int)] ++ ((nmW q k).cps.toList.map (fun c : Nat => (c : Int)) ++ octT q n)) := by
        show octN q (4 - n) ++ octT q n = _
        rw [e4]; unfold octN; simp only [List.append_assoc, List.cons_append, List.nil_append]
      have hr1 := octT_ok q (n + 1) (by lia)
      have hz1 := octT_len q (n + 1)
      rw [eo] at hr1 hz1 N6
      have hr2 := fun b hb => hr1 b (List.mem_append_right _ hb)
      have hr3 := fun b hb => hr2 b (List.mem_append_right _ hb)
      have hrA := fun b hb => hr1 b (List.mem_append_left _ hb)
      have hrB := fun b hb => hr2 b (List.mem_append_left _ hb)
      have hrC := fun b hb => hr3 b (List.mem_append_left _ hb)
      have hcl : ((nmW q k).length : Int) = ((((nmW q k).cps.toList.map (fun c : Nat => (c : Int))).length : Nat) : Int) := by simp [Str.length]
      have hz1' : ([Int.fmod (q k) 256] ++ ([((nmW q k).length : Int)] ++ ((nmW q k).cps.toList.map (fun c : Nat => (c : Int)) ++ octT q n))).length ≤ 1000 := by lia
      have hz2' : ([((nmW q k).length : Int)] ++ ((nmW q k).cps.toList.map (fun c : Nat => (c : Int)) ++ octT q n)).length ≤ 1000 := by rw [List.length_append] at hz1'; lia
      have hz3' : ((nmW q k).cps.toList.map (fun c : Nat => (c : Int)) ++ octT q n).length ≤ 1000 := by rw [List.length_append] at hz2'; lia
      have hz4' : ((nmW q k).cps.toList.map (fun c : Nat => (c : Int))).length ≤ 1000 := by rw [List.length_append] at hz3'; lia
      have hk5 : k < 5 := by lia
      obtain ⟨cs, hcs⟩ := comps_at q k
      have hpx : ((comps q k).map pthR)[parW q k]? = some (pthR cs) := by rw [List.getElem?_map, hcs]; rfl
      have hpl := parW_lt q k
      have hcx : (pthR cs).length ≤ 4096 := Nat.le_trans (comps_pth_len q k cs (List.mem_of_getElem? hcs)) (by lia)
      have hnx : (nmW q k).length ≤ 4096 := Nat.le_trans (nameS_len (q k) k) (by decide)
      have hyl4 : ys2.length ≤ 1000 := by lia
      k_steps
      dsimp only
      rename News g _ _ _ => N7
      rename Fr g _ _ _ => F7
      rw [join_pth (comps_nm q k cs (List.mem_of_getElem? hcs)) (nm_W q k)] at N7
      obtain ⟨tz, kz, tb, N8⟩ : ∃ tz kz tb, News g _ _ ((_, W.listOf (List.toArray (ys2 ++ [Value.str (pthR (cs ++ [nmW q k])) tz])) kz) :: _ :: _ :: _ :: (_, dictOf [{ hash := _, key := _, val := Value.bytes (byteArr (octT q n)) tb }, _] _) :: _) := ⟨_, _, _, N7⟩
      have e6 : 5 - n = k + 1 := by lia
      refine ⟨⟨_, kz, tb, _, _, _, rfl, ⟨by lia, ?_, rfl, rfl, F7, by simp only [List.cons_append, List.nil_append]; exact N8⟩⟩⟩
      rw [e6]
      show TxtOf _ ((comps q k ++ [((comps q k)[parW q k]?).getD [] ++ [nmW q k]]).map pthR)
      rw [hcs, List.map_append]
      exact htx.append (.cons .nil)
    · rintro ys2 kY2 t2 m2 h2 tk2 I2
      obtain ⟨hle, htx, hs1, hs2, F6, N6⟩ := I2
      dsimp only [List.cons_append, List.nil_append] at N6
      replace F6 := frL [(Str.ofString "stream", .ref _), (Str.ofString "paths", .ref _)] F6 (all2 hs1 hs2)
      dsimp only [chainL] at F6
      clear F5 N5
      have hyl2 : ys2.length = 6 := by rw [htx.1, List.length_map, comps_len]
      k_steps
      refine hret _ h2 _ (grow_stays kG N0 F6 N6 (fun p hp => by rw [List.mem_singleton] at hp; subst hp; k_mem)) ⟨_, (N6 (185, tabObj _) (by k_mem)).1⟩ ⟨_, kY2, ys2, rfl, fresh_of kG N6 List.mem_cons_self ?_, (N6 _ List.mem_cons_self).1, htx⟩
      simp only [List.map_cons, List.map_nil, List.mem_cons, List.not_mem_nil, or_false, not_or]
      repeat (cases ‹_ ∧ _›)
      refine ⟨neN ?_, neN ?_⟩ <;> lia
end
section
variable {w : World} {loose : List Str} {mean : ExcName → Option Value} {mg mb : Str → Option Value} {led news : List (Addr × Obj)} {f c P : Addr} {k : Nat} {vs : List Value} {Post : Heap → Heap → Value → Prop}
  {dp un : Nat} {gd : Option (List Code)} {cn : Str} {ns : List (Str × NameKind)} {ig ic : Bool} {mr : List (Str × Const)} {a : Addr} {ccd : Value} {cl : List (Str × Addr)} {outer : List Env} {A₀ : Around} {base h₀ : Heap} {L : Addr} {m : Str → Option Value} {s : Shared} {Q E : Value → Shared → Prop}
theorem grow_use {g : Obj → List (Addr × Obj)} (C : ConG w loose mean mg mb k f c P led vs Post) (hc : CodeHd base c P) (B : Below A₀ base outer h₀) (F : Fr h₀ L s.heap m) (X : (Mine.hd.heap_39 w.params).In h₀) (N : News h₀ L s.heap news) (T : Top topProg loose mean mg mb h₀)
    (U : UpdF P (tabObj #[]) news g) (hs : ∀ p ∈ led, p ∈ news) (hd : dp + k < recursionLimit) (hu : un + 8 * k < cLine)
    (ret : ∀ (v : Value) (h' : Heap) (tk' : Nat) (ps : Array Value), Fr h₀ L h' m → News h₀ L h' (g (tabObj ps)) → Post s.heap h' v → Q v { s with heap := h', toks := tk' }) :
    wpAny (model PySem.Challenge.rw_ik0186_01.row.prog w) (ktrTop dp un gd cn (fnSc ns ig ic mr) L a ccd cl outer) (call (.ref f) vs) Q E s := by
  obtain ⟨pre, post, rfl, hg, h1, h2⟩ := U.split
  have hP := N (P, tabObj #[]) (List.mem_append_right _ (.head _))
  refine C _ _ _ _ _ _ _ _ _ _ _ _ _ _ _ _ _ _ _ _ hc B F X (fun p hp => ?_) T hd hu fun v h' tk' hx ⟨ps, hps⟩ hpost => ret v h' tk' ps ⟨F.ns.at' fun o e => hx _ _ (Ne.symm hP.2.1) e, fun b o e => hx _ _ (fun q => by rw [q, hP.2.2] at e; cases e) (F.keep b o e), F.above⟩ ?_ hpost
  · rcases List.mem_cons.mp hp with rfl | hp
    · exact hP
    · exact N p (hs p hp)
  · rw [hg]
    intro p hp
    rcases List.mem_append.mp hp with hp | hp
    · exact ⟨hx _ _ (h1 p hp) (N p (List.mem_append_left _ hp)).1, (N p (List.mem_append_left _ hp)).2⟩
    · rcases List.mem_cons.mp hp with rfl | hp
      · exact ⟨hps, hP.2⟩
      · exact ⟨hx _ _ (h2 p hp) (N p (List.mem_append_right _ (.tail _ hp))).1, (N p (List.mem_append_right _ (.tail _ hp))).2⟩
theorem turn_same {g g' : Heap} (T : KtsTurn [] g g') (b : Addr) : g'.get? b = g.get? b := by
  cases e : g.get? b with
  | none => exact T.none_ b e
  | some o => exact T.other b o e (by simp)
theorem fr_same {g g' h : Heap} {m : Str → Option Value} (T : KtsTurn [] g g') (F : Fr g' L h m) : Fr g L h m := ⟨F.ns, fun b o e => F.keep b o (by rw [turn_same T]; exact e), by rw [← T.size]; exact F.above⟩
theorem news_same {g g' h : Heap} (T : KtsTurn [] g g') (N : News g' L h news) : News g L h news := fun p hp => ⟨(N p hp).1, (N p hp).2.1, by rw [← turn_same T]; exact (N p hp).2.2⟩
theorem con_use0 {Post : Value → List (Addr × Obj) → Prop} (C : ConY w loose mean mg mb k f led vs Post) (B : Below A₀ base [] h₀) (F : Fr h₀ L s.heap m) (X : (Mine.hd.heap_39 w.params).In base) (N : News h₀ L s.heap news) (T : Top topProg loose mean mg mb base)
    (hs : ∀ p ∈ led, p ∈ news) (hd : dp + k < recursionLimit) (hu : un + 8 * k < cLine)
    (ret : ∀ (v : Value) (h' : Heap) (tk' : Nat) (new : List (Addr × Obj)), Fr h₀ L h' m → News h₀ L h' (new ++ news) → (∀ p ∈ news, ∀ q ∈ new, p.1 ≠ q.1) → Post v new → Q v { s with heap := h', toks := tk' }) :
    wpAny (model PySem.Challenge.rw_ik0186_01.row.prog w) (ktrTop dp un gd cn (fnSc ns ig ic mr) L a ccd cl []) (call (.ref f) vs) Q E s :=
  C _ _ _ _ _ _ _ _ _ _ _ _ _ _ _ _ _ _ _ _ _ B F X N hs T hd hu fun v h' tk' h₀' new hT F' N' hne _ hp => ret v h' tk' new (fr_same hT F') (news_same hT N') hne hp
theorem off_none {h : Heap} {a : Addr} (N : News h₀ L h news) (hn : h.get? a = none) : ∀ p ∈ news, p.1 ≠ a := fun p hp e => by
  rw [← e, (N p hp).1] at hn; cases hn
theorem news_new {H h : Heap} {a : Addr} {o : Obj} (F : Fr h₀ L H m) (N : News h₀ L h news) (hn : H.get? a = none) (he : h.get? a = some o) : News h₀ L h ((a, o) :: news) := fun p hp => by
  rcases List.mem_cons.mp hp with rfl | hp
  · exact ⟨he, ne_frame F hn, none_of_stays F.keep hn⟩
  · exact N p hp
theorem off1_mem {D : Addr} : ∀ {l : List (Addr × Obj)}, LCg.Off1 D l → ∀ p ∈ l, p.1 ≠ D
  | [], _, _, h => nomatch h
  | _ :: _, ⟨h1, h2⟩, p, h => by
    rcases List.mem_cons.mp h with rfl | h
    · exact h1
    · exact off1_mem h2 p h
theorem apart_ne {rows : List (Addr × Obj)} {c : Addr} (h : ∀ p ∈ rows, ∀ q ∈ news, p.1 ≠ q.1) (hc : c ∈ news.map (·.1)) : ∀ p ∈ rows, p.1 ≠ c := fun p hp => by
  obtain ⟨q, hq, rfl⟩ := List.mem_map.mp hc
  exact h p hp q hq
end
section
variable {prog : Program} {w : World} {A : Around} {E : Value → Shared → Prop} {s : Shared} {env : Env} {h₀ : Heap} {x : Str} {px : Pos} {body : List Stmt} {Q : Flow → Shared → Prop}
noncomputable def LoopC (prog : Program) (w : World) (A : Around) (env : Env) (target : Expr) (body : List Stmt) (Q : Flow → Shared → Prop) (E : Value → Shared → Prop) (it : Value) (s₂ : Shared) : Prop :=
  codeAny (model prog w) A (.forLoop target it body [] env) (fun r s' => match r with | .ok f => Q f s' | .error e => cameBackBy (model prog w) A env E e s') s₂
theorem For_C {target iter : Expr} {pos : Pos} (h : wpAny (model prog w) A (eval iter env) (fun xv s₁ => wpAny (model prog w) A (pyIter xv) (fun it s₂ => LoopC prog w A env target body Q E it s₂) E s₁) E s)
    (hs : ∀ x, foldedSetIterable iter env x = pure x := by intro _; rfl) : wpAny (model prog w) A (exec (.For target iter body [] pos) env) Q E s := wpAny_For h hs
noncomputable def CellStep (h₀ : Heap) (L : Addr) (c It : Addr) (oI : Obj) (J : (Str → Option Value) → List (Addr × Obj) → Prop) (s₁ : Shared) (Qr : Value → Shared → Prop) (f : Flow) (s₂ : Shared) : Prop :=
  match f with
  | .ret v => Qr v s₂
  | .brk => False
  | _ => ∃ h' tk m nx oc, s₂ = { s₁ with heap := h', toks := tk } ∧ Fr h₀ L h' m ∧ News h₀ L h' ((c, oc) :: (It, oI) :: nx) ∧ (∃ z, oc.data = .cell z) ∧ (∀ p ∈ nx, p.1 ≠ c ∧ p.1 ≠ It) ∧ J m nx
inductive ForI (s : Shared) (h₀ : Heap) (L c It : Addr) (a₀ : Int) (n : Nat) (J : Nat → (Str → Option Value) → List (Addr × Obj) → Prop) (k : Nat) (s' : Shared) : Prop
  | mk (h' : Heap) (tk : Nat) (m' : Str → Option Value) (nx : List (Addr × Obj)) (oc : Obj) (i : Nat) (e : s' = { s with heap := h', toks := tk }) (hr : IsRangeIter h' It (a₀ + (i : Nat) * 1) ((n : Int) - (i : Nat)) 1) (F : Fr h₀ L h' m') (N : News h₀ L h' ((c, oc) :: nx)) (hz : ∃ z, oc.data = .cell z) (off : ∀ p ∈ nx, p.1 ≠ c ∧ p.1 ≠ It) (hJ : J i m' nx) (hi : i ≤ n) (hk : k = n + 1 - i) : ForI s h₀ L c It a₀ n J k s'
theorem cell_inv {c r : Addr} {oc : Obj} {z₀ : Option Value} {a₀ b₀ : Int} {t₀ u₀ v₀ : Tok} {n : Nat} {m₀ : Str → Option Value} {news : List (Addr × Obj)} (J : Nat → (Str → Option Value) → List (Addr × Obj) → Prop)
    (hk : env.scope.kind = .function) (hx : env.kindOf x = some .cell) (hc : env.cells.lookup x = some c) (hh : A.handled = none) (hr : IsRange s.heap r a₀ b₀ 1 t₀ u₀ v₀) (hsmall : Builtin.Range.small a₀ b₀ 1 = true) (hn : Builtin.Range.rangeSize a₀ b₀ 1 = (n : Int))
    (F : Fr h₀ env.locals s.heap m₀) (N : News h₀ env.locals s.heap ((c, oc) :: news)) (hz : oc.data = .cell z₀) (hoff : ∀ p ∈ news, p.1 ≠ c) (hj : J 0 m₀ news)
    (turn : ∀ i t m₁ nx h tk It oI oc, i < n → J i m₁ nx → Fr h₀ env.locals h m₁ → News h₀ env.locals h ((c, oc) :: (It, oI) :: nx) → oc.data = .cell (some (.int (a₀ + (i : Int)) t)) → (∀ p ∈ nx, p.1 ≠ c ∧ p.1 ≠ It) → c ≠ It →
      wpAny (model prog w) A (execs body env) (CellStep h₀ env.locals c It oI (J (i + 1)) { s with heap := h, toks := tk } (fun v s' => Q (.ret v) s')) (fun _ _ => False) { s with heap := h, toks := tk })
    (done : ∀ m₁ nx h tk oc, J n m₁ nx → Fr h₀ env.locals h m₁ → News h₀ env.locals h ((c, oc) :: nx) → Q .next { s with heap := h, toks := tk }) :
    wpAny (model prog w) A (pyIter (.ref r)) (fun it s₂ => LoopC prog w A env (.Name x px) body Q E it s₂) E s := by
  refine wpAny_pyIter_range hr hsmall ?_
  have W : Walks prog w A s.heap.objs.size [s.heap.objs.size] [s.heap.objs.size] n (fun i v => ∃ t, v = .int (a₀ + i * 1) t)
      (fun i h => IsRangeIter h s.heap.objs.size (a₀ + (i : Nat) * 1) ((n : Int) - (i : Nat)) 1) := Walks.range hh _ a₀ 1 n
  generalize hI : s.heap.objs.size = It at W ⊢
  have hLI : env.locals ≠ It := by rw [← hI]; exact Nat.ne_of_lt F.ns.lt
  have hI₀ : h₀.get? It = none := by rw [← hI]; exact next_is_new F
  have hcN := N (c, oc) List.mem_cons_self
  have hcI : c ≠ It := by rw [← hI]; exact Nat.ne_of_lt (Heap.lt_size hcN.1)
  unfold LoopC
  refine codeAny_forLoop
    (ForI s h₀ env.locals c It a₀ n J) ?_ (n + 1)
    ⟨_, s.toks, m₀, news, oc, 0, rfl, ?_, F.push _, fun p hp => ⟨Heap.get?_push_of_some _ (N p hp).1, (N p hp).2⟩, ⟨z₀, hz⟩, fun p hp => ⟨hoff p hp, ?_⟩, hj, Nat.zero_le _, rfl⟩
  · rintro k s' ⟨h', tk, m', nx, oc, i, rfl, hst', F', N', ⟨z, hz⟩, hoff', hJ, hi, rfl⟩
    by_cases hlt : i < n
    · refine W.item i _ _ _ hlt hst' fun v h₁ tk₁ hP hst₁ hk₁ => ?_
      obtain ⟨t, rfl⟩ := hP
      have F₁ : Fr h₀ env.locals h₁ m' := ⟨F'.ns.at' fun o e => hk₁ _ o (by simpa using hLI) e, fun b o e => hk₁ b o (fun hb => by rw [List.mem_singleton.mp hb, hI₀] at e; cases e) (F'.keep b o e), F'.above⟩
      have N₁ : News h₀ env.locals h₁ ((c, oc) :: nx) := fun p hp => ⟨hk₁ _ _ (fun hb => by
        rcases List.mem_cons.mp hp with rfl | hp
        · exact hcI (List.mem_singleton.mp hb)
        · exact (hoff' p hp).2 (List.mem_singleton.mp hb)) (N' p hp).1, (N' p hp).2⟩
      have hc₁ := N₁ (c, oc) List.mem_cons_self
      refine wpAny_assign_Name (wpAny_storeName_cell hk hx hc ⟨oc, hc₁.1, hz⟩ fun h₂ hv hs => ?_)
      obtain ⟨oc', ho', hd'⟩ := hv
      have F₂ : Fr h₀ env.locals h₂ m' := F₁.change hs hc₁.2.1 hc₁.2.2
      have hI₁ : ∃ oI, h₁.get? It = some oI := ⟨_, hst₁⟩
      obtain ⟨oI, hoI⟩ := hI₁
      have hI₂ : h₂.get? It = some oI := (hs.2 It (Ne.symm hcI)).trans hoI
      refine wpAny_mono (turn i t m' nx h₂ tk₁ It oI oc' hlt hJ F₂ (fun p hp => ?_) (by rw [hd', Int.mul_one]) hoff' hcI) (fun f s₃ h₃ => ?_) fun _ _ e => e.elim
      · rcases List.mem_cons.mp hp with rfl | hp
        · exact ⟨ho', hc₁.2⟩
        rcases List.mem_cons.mp hp with rfl | hp
        · exact ⟨hI₂, Ne.symm hLI, hI₀⟩
        · exact ⟨(hs.2 _ (hoff' p hp).1).trans (N₁ p (List.mem_cons_of_mem _ hp)).1, (N₁ p (List.mem_cons_of_mem _ hp)).2⟩
      · have fin : (∃ h' tk m nx oc, s₃ = { s with heap := h', toks := tk } ∧ Fr h₀ env.locals h' m ∧ News h₀ env.locals h' ((c, oc) :: (It, oI) :: nx) ∧ (∃ z, oc.data = .cell z) ∧ (∀ p ∈ nx, p.1 ≠ c ∧ p.1 ≠ It) ∧ J (i + 1) m nx) →
            ∃ mm, mm < n + 1 - i ∧ ForI s h₀ env.locals c It a₀ n J mm s₃ := by
          rintro ⟨h₄, tk₄, m₄, nx₄, oc₄, rfl, F₄, N₄, hz₄, hoff₄, hJ₄⟩
          refine ⟨n + 1 - (i + 1), by lia, h₄, tk₄, m₄, nx₄, oc₄, i + 1, rfl, ?_, F₄, fun p hp => N₄ p ?_, hz₄, hoff₄, hJ₄, hlt, rfl⟩
          · refine W.frame _ _ _ hst₁ fun b hb o e => ?_
            rw [List.mem_singleton.mp hb] at e ⊢
            rw [hoI] at e
            cases e
            exact (N₄ (It, oI) (by simp)).1
          · rcases List.mem_cons.mp hp with rfl | hp
            · exact List.mem_cons_self
            · exact List.mem_cons_of_mem _ (List.mem_cons_of_mem _ hp)
        cases f with
        | ret v => exact h₃
        | brk => exact h₃.elim
        | cont => exact fin h₃
        | next => exact fin h₃
    · have hin : i = n := by lia
      subst hin
      refine W.done _ _ _ hst' fun h₁ tk₁ hk₁ => wpAny_execs_nil ?_
      refine done m' nx h₁ tk₁ oc hJ ⟨F'.ns.at' fun o e => hk₁ _ o (by simpa using hLI) e, fun b o e => hk₁ b o (fun hb => by rw [List.mem_singleton.mp hb, hI₀] at e; cases e) (F'.keep b o e), F'.above⟩ fun p hp => ⟨hk₁ _ _ (fun hb => ?_) (N' p hp).1, (N' p hp).2⟩
      rcases List.mem_cons.mp hp with rfl | hp
      · exact hcI (List.mem_singleton.mp hb)
      · exact (hoff' p hp).2 (List.mem_singleton.mp hb)
  · show IsRangeIter _ _ _ _ _
    rw [hn, ← hI]; simpa using Heap.get?_push_size _ rfl
  · rw [← hI]; exact Nat.ne_of_lt (Heap.lt_size (N p (List.mem_cons_of_mem _ hp)).1)
end
section
variable {prog : Program} {w : World} {A : Around} {E : Value → Shared → Prop} {s : Shared} {h₀ : Heap} {L : Addr} {m : Str → Option Value} {news : List (Addr × Obj)} {env : Env}
noncomputable def ZipP (prog : Program) (w : World) (A : Around) (env : Env) (elt iter : Expr) (x x₂ : Str) (px px₂ tp : Pos) (tk : Nat) (scope : Scope) (cl : List (Str × Addr)) (pos : Pos) (Q : Value → Shared → Prop) (E : Value → Shared → Prop) (xv : Value) (s₁ : Shared) : Prop :=
  wpAny (model prog w) A (pyIter xv) (fun it s₂ => wpAny (model prog w) A (newList []) (fun acc s₃ =>
      wpAny (model prog w) A (newFunctionEnv scope env.globals cl [] env.qual none .none (some env)) (fun cenv s₄ =>
        codeAny (model prog w) A (.compStart (.ListComp elt [⟨.Tuple [.Name x px, .Name x₂ px₂] tk tp, iter, [], 0⟩] scope pos) 0 it acc { cenv with scope := relabel scope env }) (compPost (model prog w) A E none Q acc cenv.locals) s₄) E s₃) E s₂) E s₁
theorem comp_zip {elt iter : Expr} {x x₂ : Str} {px px₂ tp : Pos} {tk : Nat} {scope : Scope} {cl : List (Str × Addr)} {pos : Pos} {Q : Value → Shared → Prop}
    (hclos : closureFor scope env = pure cl) (hkind : scope.kind = .function) (hnames : ∀ y ∈ scope.names, y.2 = .local → scope.names.lookup y.1 = some .local)
    (h : wpAny (model prog w) A (eval iter env) (ZipP prog w A env elt iter x x₂ px px₂ tp tk scope cl pos Q E) E s)
    (hs : ∀ x, foldedSetIterable iter env x = pure x := by intro _; rfl) :
    wpAny (model prog w) A (eval (.ListComp elt [⟨.Tuple [.Name x px, .Name x₂ px₂] tk tp, iter, [], 0⟩] scope pos) env) Q E s := by
  rw [eval_ListComp]
  exact wpAny_comprehension_free (use := none) rfl hs hclos hkind hnames h
inductive ZipI (s : Shared) (b0 n : Nat) (Z : Nat → Heap → Prop) (G : Nat → List Value → Prop) (k : Nat) (s' : Shared) : Prop
  | mk (h' : Heap) (tk i : Nat) (ys : List Value) (m' : Str → Option Value) (rows : List (Addr × Obj)) (e : s' = { s with heap := h', toks := tk }) (hi : i ≤ n) (hk : k = n + 1 - i) (hz : Z i h') (st : s.heap.StaysIn h') (hn : h'.Ns (b0 + 6) m') (hD : h'.get? (b0 + 5) = some (LCg.lst ys))
    (hr : ∀ p ∈ rows, h'.get? p.1 = some p.2 ∧ p.1 ≠ b0 + 5 ∧ p.1 ≠ b0 + 6 ∧ p.1 ∉ [b0 + 4, b0 + 3, b0, b0 + 1] ∧ s.heap.get? p.1 = none) (hR : RowsAre G i ys rows) : ZipI s b0 n Z G k s'
theorem zip_rows {elt iter : Expr} {x x₂ : Str} {px px₂ tp : Pos} {tk : Nat} {scope : Scope} {cl : List (Str × Addr)} {pos : Pos} {Q : Value → Shared → Prop} (G : Nat → List Value → Prop) {l1 l2 : Addr} {k1 k2 : Nat} {xs zs : List Value}
    (hh : A.handled = none) (hcell : ∀ y ∈ scope.names, y.2 ≠ .cell) (hkind : scope.kind = .function) (hx : scope.names.lookup x = some .local) (hx₂ : scope.names.lookup x₂ = some .local) (hxx : x ≠ x₂)
    (F : Fr h₀ L s.heap m) (N : News h₀ L s.heap news) (hm1 : (l1, W.listOf (List.toArray xs) k1) ∈ news) (hm2 : (l2, W.listOf (List.toArray zs) k2) ∈ news) (hsz : xs.length ≤ sizeLine)
    (he : ∀ i u v C oC m₂ s₃ E', xs[i]? = some u → zs[i]? = some v → LCg.NsObj oC m₂ → m₂ x = some u → m₂ x₂ = some v → Fr h₀ L s₃.heap m → News h₀ L s₃.heap ((C, oC) :: news) →
      wpAny (model prog w) A (eval elt (compEnvC scope cl C env)) (fun y s₄ => RowNew (fun _ r => G i r) s₃ .none y s₄ ∧ Keeps s₃ s₄) E' s₃)
    (hQ : ∀ D h' tk ys kD rows, Fr h₀ L h' m → News h₀ L h' ((D, W.listOf (List.toArray ys) kD) :: (news ++ rows)) → RowsAre G (min xs.length zs.length) ys rows → Apart rows news → (∀ p ∈ news ++ rows, p.1 ≠ D) → Q (.ref D) { s with heap := h', toks := tk }) :
    wpAny (model prog w) A (call (.type "zip") [.ref l1, .ref l2]) (ZipP prog w A env elt iter x x₂ px px₂ tp tk scope cl pos Q E) E s := by
  have hl1 : s.heap.IsList l1 xs.toArray := ⟨_, (N _ hm1).1, rfl, k1, rfl⟩
  have hl2 : s.heap.IsList l2 zs.toArray := ⟨_, (N _ hm2).1, rfl, k2, rfl⟩
  have hlt1 : l1 < s.heap.objs.size := Heap.lt_size (N _ hm1).1
  have hlt2 : l2 < s.heap.objs.size := Heap.lt_size (N _ hm2).1
  have D4 : ZipApart (s.heap.objs.size + 4) (s.heap.objs.size + 2) (s.heap.objs.size + 3) s.heap.objs.size (s.heap.objs.size + 1) l1 l2 := ktu_apart _ _ _ hlt1 hlt2
  refine call_zip_2 hl1 hl2 fun h' hz hTI hTO hi1 hi2 hsz' hk => ?_
  unfold ZipP
  refine wpAny_pyIter_zip hz ?_
  have Wz := WalksT.zip2 (prog := prog) (w := w) hh _ _ _ _ _ _ _ D4 xs.toArray zs.toArray
  generalize hb0 : s.heap.objs.size = b0 at *
  have hst0 : IsZip h' (b0 + 4) (b0 + 2) (b0 + 3) .none ∧ IsPair h' (b0 + 2) (.ref b0) (.ref (b0 + 1)) ∧ (∃ a b, IsPair h' (b0 + 3) a b) ∧ h'.IsListIter b0 l1 0 ∧ h'.IsListIter (b0 + 1) l2 0 ∧ h'.IsList l1 xs.toArray ∧ h'.IsList l2 zs.toArray :=
    ⟨hz, hTI, ⟨_, _, hTO⟩, hi1, hi2, hl1.at fun o e => hk _ o e, hl2.at fun o e => hk _ o e⟩
  have hwr : ∀ b ∈ [b0 + 4, b0 + 3, b0, b0 + 1], b0 ≤ b ∧ b < b0 + 5 := fun b hb => by
    simp only [List.mem_cons, List.not_mem_nil, or_false] at hb
    rcases hb with rfl | rfl | rfl | rfl <;> constructor <;> lia
  have ha1 : @LT.lt Nat _ l1 b0 := hlt1
  have ha2 : @LT.lt Nat _ l2 b0 := hlt2
  have hfp : ∀ b ∈ [b0 + 4, b0 + 2, b0 + 3, b0, b0 + 1, l1, l2], b < b0 + 5 := fun b hb => by
    simp only [List.mem_cons, List.not_mem_nil, or_false] at hb
    rcases hb with rfl | rfl | rfl | rfl | rfl | rfl | rfl <;> lia
  generalize hn : min xs.toArray.size zs.toArray.size = n at Wz
  have hnn : n = min xs.length zs.length := by rw [← hn]; simp
  have hnsz : n ≤ sizeLine := by rw [hnn]; exact Nat.le_trans (Nat.min_le_left _ _) hsz
  refine wpAny_newObj_type (wpAny_newFunctionEnv hcell (by intro y hy; simp at hy) (fun h₁ hns₁ hsb₁ => ?_) hkind)
  dsimp only at hns₁ hsb₁ ⊢
  generalize hH2 : h'.push { cls := .type "list", dict := none, data := .seq ([] : List Value).toArray } = H2 at hns₁ hsb₁ ⊢
  have hC : H2.objs.size = b0 + 6 := by rw [← hH2, Heap.size_push, hsz']
  rw [hC] at hns₁ hsb₁ ⊢
  rw [hsz']
  have old : ∀ b o, h'.get? b = some o → h₁.get? b = some o := fun b o e => by
    have hlt := Heap.lt_size e
    rw [hsz'] at hlt
    exact hsb₁.extBut b o (Nat.ne_of_lt (Nat.lt_succ_of_lt hlt)) (Heap.get?_push_of_some _ (hH2 ▸ Heap.get?_push_of_some _ e))
  have hacc : h₁.get? (b0 + 5) = some (LCg.lst []) := hsb₁.extBut _ _ (neN (by lia)) (Heap.get?_push_of_some _ (hH2 ▸ hsz' ▸ Heap.get?_push_size _ rfl))
  have st₁ : s.heap.StaysIn h₁ := fun b o e => old b o (hk b o e)
  have hlow : ∀ b o, s.heap.get? b = some o → @LT.lt Nat _ b b0 := fun b o e => by rw [← hb0]; exact Heap.lt_size e
  have fr₀ : ∀ a, b0 ≤ a → h₀.get? a = none ∧ a ≠ L ∧ s.heap.get? a = none := fun a ha => by
    have e2 : s.heap.get? a = none := get_none (by rw [hb0]; exact ha)
    exact ⟨none_of_stays F.keep e2, ne_frame F e2, e2⟩
  have loop : ∀ s₃ : Shared, (∃ tk, s₃ = { s with heap := h₁, toks := tk }) →
      codeAny (model prog w) A (.compLoop (.ListComp elt [⟨.Tuple [.Name x px, .Name x₂ px₂] tk tp, iter, [], 0⟩] scope pos) 0 (.ref (b0 + 4)) (.ref (b0 + 5)) (compEnvC scope cl (b0 + 6) env))
        (compPost (model prog w) A E none Q (.ref (b0 + 5)) (b0 + 6)) s₃ := by
    rintro s₃ ⟨tk₀, rfl⟩
    refine LCp.codeAny_compLoop_pair
      (ZipI s b0 n (fun i h' => IsZip h' (b0 + 4) (b0 + 2) (b0 + 3) .none ∧ IsPair h' (b0 + 2) (.ref b0) (.ref (b0 + 1)) ∧ (∃ a b, IsPair h' (b0 + 3) a b) ∧ h'.IsListIter b0 l1 i ∧ h'.IsListIter (b0 + 1) l2 i ∧ h'.IsList l1 xs.toArray ∧ h'.IsList l2 zs.toArray) G) ?_ (n + 1)
      ⟨h₁, tk₀, 0, [], _, [], rfl, Nat.zero_le _, rfl, Wz.frame 0 _ _ hst0 (fun b _ o e => old b o e), st₁, hns₁, hacc, (fun p hp => absurd hp (by simp)), .nil⟩
    rintro k' s' ⟨h', tk, i, ys, m', rows, rfl, hi, rfl, hst', st', hn', hD', hrows, hR⟩
    by_cases hlt : i < n
    · refine Wz.item i _ _ _ hlt hst' fun T vals h₂ tk₂ hPv hT0 hT hMid hk₂ => ?_
      obtain ⟨u, v, hu, hv, rfl⟩ := hPv
      have hTw := Wz.apart i T h₂ hMid
      refine Wz.go _ _ _ i T _ _ _ hMid fun h₃ hst₃ hk₃ => ?_
      have ht : IsTup h₃ T #[u, v] := by
        obtain ⟨oT, hoT, hcT, nT, hdT⟩ := hT
        exact ⟨oT, hk₃ T oT hTw hoT, hcT, nT, hdT⟩
      refine assign_Tuple_tuple hh ht rfl rfl fun h₅ he5 => ?_
      have he' : ∀ b o, h₃.get? b = some o → h₅.get? b = some o := fun b o e => he5 b o (Nat.ne_of_lt (Heap.lt_size e)) e
      have up5 : ∀ b o, b ∉ [b0 + 4, b0 + 3, b0, b0 + 1] → h'.get? b = some o → h₅.get? b = some o := fun b o hb e => he' b o (hk₃ b o hb (hk₂ b o hb e))
      have hCw : b0 + 6 ∉ [b0 + 4, b0 + 3, b0, b0 + 1] := fun hb => by have := hwr _ hb; lia
      have hDw : b0 + 5 ∉ [b0 + 4, b0 + 3, b0, b0 + 1] := fun hb => by have := hwr _ hb; lia
      refine assignInOrder_cons (wpAny_assign_Name (wpAny_storeName_local (lookup_relabel_local hx) (hn'.at' fun o e => up5 _ o hCw e) (fun h₆ hn₆ hs₆ => ?_) (by simp [compEnvC, relabel, hkind])))
      refine assignInOrder_cons (wpAny_assign_Name (wpAny_storeName_local (lookup_relabel_local hx₂) hn₆ (fun h₇ hn₇ hs₇ => ?_) (by simp [compEnvC, relabel, hkind])))
      refine assignInOrder_nil ?_
      have up7 : ∀ b o, b ≠ b0 + 6 → h₅.get? b = some o → h₇.get? b = some o := fun b o hb e => hs₇.extBut b o hb (hs₆.extBut b o hb e)
      have st₇ : s.heap.StaysIn h₇ := fun b o e => by
        have hb := hlow b o e
        exact up7 b o (neN (by lia)) (up5 b o (fun hw => by have := hwr _ hw; lia) (st' b o e))
      have hst₇ := Wz.frame _ _ h₇ hst₃ fun b hb o e => up7 b o (fun q => by have z : @LT.lt Nat _ b (b0 + 5) := hfp b hb; have z2 : @Eq Nat b (b0 + 6) := q; lia) (he' b o e)
      obtain ⟨oC, heC, hoC⟩ := LCg.ns_obj hn₇
      have hD₇ : h₇.get? (b0 + 5) = some (LCg.lst ys) := up7 _ _ (neN (by lia)) (up5 _ _ hDw hD')
      have F₇ : Fr h₀ L h₇ m := F.keeps st₇
      have N₇ : News h₀ L h₇ ((b0 + 6, oC) :: news) := fun p hp => by
        rcases List.mem_cons.mp hp with rfl | hp
        · exact ⟨heC, (fr₀ _ (by lia)).2.1, (fr₀ _ (by lia)).1⟩
        · exact ⟨st₇ _ _ (N p hp).1, (N p hp).2⟩
      refine wpAny_mono (he i u v (b0 + 6) oC _ _ _ (by simpa using hu) (by simpa using hv) hoC (by simp [hxx]) (by simp) F₇ N₇) (fun y s₄ h₄ => ?_) fun _ _ e => e
      obtain ⟨⟨T', its, n', rfl, hT₃, hT₄, hG⟩, h₄, tk₄, rfl, hk₄⟩ := h₄
      have hyl : ys.length = i := by rw [hR.refs, List.length_map, hR.len]
      have hTD : T' ≠ b0 + 5 := ne_of_none_some hT₃ hD₇
      have hTC : T' ≠ b0 + 6 := ne_of_none_some hT₃ heC
      have hlive : ∀ b ∈ [b0 + 4, b0 + 3, b0, b0 + 1], ∃ o, h₇.get? b = some o := fun b hb => by
        obtain ⟨q1, q2, ⟨a, c, q3⟩, ⟨o4, q4, _⟩, ⟨o5, q5, _⟩, _⟩ := hst₇
        simp only [List.mem_cons, List.not_mem_nil, or_false] at hb
        rcases hb with rfl | rfl | rfl | rfl
        · exact ⟨_, q1⟩
        · exact ⟨_, q3⟩
        · exact ⟨_, q4⟩
        · exact ⟨_, q5⟩
      have hTw' : T' ∉ [b0 + 4, b0 + 3, b0, b0 + 1] := fun hb => by
        obtain ⟨o, e⟩ := hlive _ hb
        exact ne_of_none_some hT₃ e rfl
      have hTs : s.heap.get? T' = none := none_of_stays st₇ hT₃
      refine append_at (hsz := by show ys.toArray.size ≤ sizeLine; rw [List.size_toArray, hyl]; exact Nat.le_trans hi hnsz) (hk₄ _ _ hD₇) fun h₈ hs₈ hD₈ => ?_
      refine ⟨n + 1 - (i + 1), by lia, h₈, tk₄, i + 1, ys ++ [.ref T'], _, rows ++ [(T', W.listOf (List.toArray its) n')], rfl, hlt, rfl, Wz.frame _ _ _ hst₇ fun b hb o e => hs₈.extBut b o (fun q => Nat.lt_irrefl _ (Nat.lt_of_lt_of_eq (hfp b hb) q.symm)) (hk₄ b o e), ?_, (hn₇.keeps hk₄).sameBut hs₈ (Nat.ne_of_gt (Nat.lt_succ_self (b0 + 5))), hD₈.trans (congrArg some (LCg.lst_snoc ys _)), ?_, hR.snoc hG⟩
      · intro b o e
        have hb := hlow b o e
        exact hs₈.extBut b o (neN (by lia)) (hk₄ _ _ (st₇ b o e))
      · intro p hp
        rcases List.mem_append.mp hp with hp | hp
        · have z := hrows p hp
          exact ⟨hs₈.extBut _ _ z.2.1 (hk₄ _ _ (up7 _ _ z.2.2.1 (up5 _ _ z.2.2.2.1 z.1))), z.2⟩
        · rw [List.mem_singleton] at hp; subst hp
          exact ⟨hs₈.extBut _ _ hTD hT₄, hTD, hTC, hTw', hTs⟩
    · obtain rfl : i = n := Nat.le_antisymm hi (Nat.not_lt.mp hlt)
      refine Wz.done _ _ _ hst' fun h₂ tk₂ hk₂ => ?_
      have hCw : b0 + 6 ∉ [b0 + 4, b0 + 3, b0, b0 + 1] := fun hb => by have := hwr _ hb; lia
      have hDw : b0 + 5 ∉ [b0 + 4, b0 + 3, b0, b0 + 1] := fun hb => by have := hwr _ hb; lia
      refine ⟨m', hn'.at' fun o e => hk₂ _ o hCw e, fun h'' hs'' => ?_⟩
      have st'' : s.heap.StaysIn h'' := fun b o e => by
        have hb := hlow b o e
        exact hs''.extBut _ _ (neN (by lia)) (hk₂ _ _ (fun hw => by have := hwr _ hw; lia) (st' b o e))
      refine hQ (b0 + 5) h'' _ ys ys.length rows (F.keeps st'') (fun p hp => ?_) (hnn ▸ hR) (fun p hp q hq => ?_) (fun p hp => ?_)
      · rcases List.mem_cons.mp hp with rfl | hp
        · exact ⟨hs''.extBut _ _ (neN (by lia)) (hk₂ _ _ hDw hD'), (fr₀ _ (by lia)).2.1, (fr₀ _ (by lia)).1⟩
        · rcases List.mem_append.mp hp with hp | hp
          · exact ⟨st'' _ _ (N p hp).1, (N p hp).2⟩
          · have z := hrows p hp
            exact ⟨hs''.extBut _ _ z.2.2.1 (hk₂ _ _ z.2.2.2.1 z.1), ne_frame F z.2.2.2.2, none_of_stays F.keep z.2.2.2.2⟩
      · have z := (hrows p hp).2.2.2.2
        intro e
        rw [e, (N q hq).1] at z; cases z
      · rcases List.mem_append.mp hp with hp | hp
        · have y := hlow _ _ (N p hp).1
          exact neN (by lia)
        · exact (hrows p hp).2.1
  refine codeAny_compStart_list ?_ (Wz.self 0 _ _ _ (Wz.frame 0 _ _ hst0 fun b _ o e => old b o e) ?_)
  · exact loop _ ⟨_, rfl⟩
  · exact loop _ ⟨_, rfl⟩
end
section
noncomputable def numsW (w : List Int) : List Int := List.take 5 (List.map (fun k' => k'.fmod (10 ^ 6)) (List.take 5 w) ++ [4103, 19912, 10, 11519, 1582])
theorem numsW_len (w : List Int) : (numsW w).length = 5 := by
  unfold numsW
  simp only [List.length_take, List.length_append, List.length_map, List.length_cons, List.length_nil]
  lia
theorem numsW_ok (w : List Int) : ∀ x ∈ numsW w, 0 ≤ x ∧ x < 1000000 := fun x hx => by
  have h := List.mem_of_mem_take hx
  rcases List.mem_append.mp h with h | h
  · obtain ⟨y, _, rfl⟩ := List.mem_map.mp h
    exact ⟨Int.fmod_nonneg_of_pos y (by decide), Int.fmod_lt_of_pos y (by decide)⟩
  · simp only [List.mem_cons, List.not_mem_nil, or_false] at h
    rcases h with rfl | rfl | rfl | rfl | rfl <;> decide
theorem row_ints {vs : List Value} {ns : List Int} (h : IntsAre vs ns) : RowOf ns.length (fun i => ns.getD i 0) vs := by
  refine ⟨h.length, fun j hj => ?_⟩
  have hv : j < vs.length := by rw [h.length]; exact hj
  obtain ⟨n, t, e1, e2⟩ := h.at j _ (List.getElem?_eq_getElem hv)
  refine ⟨t, ?_⟩
  rw [List.getElem?_eq_getElem hv, e1]
  simp [List.getD, e2]
theorem row_nums {vs : List Value} {w : List Int} (h : IntsAre vs (numsW w)) : ∃ q : Nat → Int, RowOf 5 q vs ∧ ∀ i, i < 5 → 0 ≤ q i ∧ q i < 1000000 := by
  have hr := row_ints h
  rw [numsW_len] at hr
  refine ⟨_, hr, fun i hi => ?_⟩
  have hl : i < (numsW w).length := by rw [numsW_len]; exact hi
  rw [List.getD_eq_getElem?_getD, List.getElem?_eq_getElem hl]
  exact numsW_ok w _ (List.getElem_mem hl)
end
section
theorem strs_lay : ∀ xs : List Str, (∀ x ∈ xs, PyData.strOk x = true) → PyData.canLayAll0 (xs.map PyData.str) = true
  | [], _ => rfl
  | x :: r, h => by simp [PyData.canLayAll0, PyData.canLay0, h x List.mem_cons_self, strs_lay r fun y hy => h y (List.mem_cons_of_mem _ hy)]
theorem strs_depth : ∀ xs : List Str, PyData.depthAll (xs.map PyData.str) = 0
  | [] => rfl
  | _ :: r => by simp [PyData.depthAll, PyData.depth, strs_depth r]
theorem strs_shaped (xs : List Str) (h : ∀ x ∈ xs, PyData.strOk x = true) : SeqAt.shaped (.list (xs.map PyData.str)) = true := by
  simp [SeqAt.shaped, PyData.canLay0, PyData.depth, strs_lay xs h, strs_depth]
theorem strs_eqv : ∀ xs : List Str, PyData.eqvAll (xs.map PyData.str) (xs.map PyData.str) = true
  | [] => rfl
  | _ :: r => by simp [PyData.eqvAll, PyData.eqv, strs_eqv r]
theorem ints_eqv : ∀ xs : List Int, PyData.eqvAll (xs.map PyData.int) (xs.map PyData.int) = true
  | [] => rfl
  | _ :: r => by simp [PyData.eqvAll, PyData.eqv, ints_eqv r]
noncomputable abbrev rowsD (rs : List (List Int)) : List PyData := rs.map fun r => PyData.list (r.map PyData.int)
theorem rows_lay : ∀ rs : List (List Int), PyData.canLayAll0 (rowsD rs) = true
  | [] => rfl
  | r :: rs => by
    show PyData.canLayAll0 (PyData.list (r.map PyData.int) :: rowsD rs) = true
    simp only [PyData.canLayAll0, PyData.canLay0, ke_canLayAll0, rows_lay rs, Bool.and_self]
theorem rows_depth : ∀ rs : List (List Int), PyData.depthAll (rowsD rs) ≤ 1
  | [] => Nat.zero_le _
  | r :: rs => by
    show PyData.depthAll (PyData.list (r.map PyData.int) :: rowsD rs) ≤ 1
    have := rows_depth rs
    simp only [PyData.depthAll, PyData.depth, ke_depthAll]
    lia
theorem rows_shaped (rs : List (List Int)) : SeqAt.shaped (.list (rowsD rs)) = true := by
  have := rows_depth rs
  simp [SeqAt.shaped, PyData.canLay0, PyData.depth, rows_lay]
  lia
theorem rows_eqv : ∀ rs : List (List Int), PyData.eqvAll (rowsD rs) (rowsD rs) = true
  | [] => rfl
  | r :: rs => by
    show PyData.eqvAll (PyData.list (r.map PyData.int) :: rowsD rs) (PyData.list (r.map PyData.int) :: rowsD rs) = true
    simp only [PyData.eqvAll, PyData.eqv, ints_eqv, rows_eqv rs, Bool.and_self]
theorem txt_carried : ∀ {vs : List Value} {xs : List Str}, TxtOf vs xs → CarriedAll vs (xs.map PyData.str)
  | [], [], _ => .nil
  | [], _ :: _, h => absurd h.1 (by simp)
  | _ :: _, [], h => absurd h.1 (by simp)
  | v :: vs, x :: xs, h => by
    obtain ⟨t, ht⟩ := h.2 0 x rfl
    cases ht
    refine .cons (.str x t) (txt_carried ⟨by have := h.1; simpa using this, fun i y hy => ?_⟩)
    obtain ⟨t', ht'⟩ := h.2 (i + 1) y (by simpa using hy)
    exact ⟨t', by simpa using ht'⟩
variable {prog : Program} {w : World} {A : Around} {E : Value → Shared → Prop} {s : Shared} {h₀ : Heap} {L a b : Addr} {m : Str → Option Value} {news : List (Addr × Obj)} {vs ws : List Value} {ka kb : Nat} {Q : Value → Shared → Prop}
theorem ne_txts {xs : List Str} (N : News h₀ L s.heap news) (ha : (a, W.listOf vs.toArray ka) ∈ news) (hb : (b, W.listOf ws.toArray kb) ∈ news) (hv : TxtOf vs xs) (hw : TxtOf ws xs) (hok : ∀ x ∈ xs, PyData.strOk x = true) (hu : A.units + 64 < cLine) (h : Q (.bool false) s) :
    wpAny (model prog w) A (compareOp .NotEq (.ref a) (.ref b)) Q E s :=
  ne_dataH (reads_newData ⟨_, (N _ ha).1, rfl, ka, rfl⟩ (txt_carried hv)) (reads_newData ⟨_, (N _ hb).1, rfl, kb, rfl⟩ (txt_carried hw)) (strs_shaped _ hok) (strs_shaped _ hok) hu (by
    show Q (.bool (!PyData.eqvAll (xs.map PyData.str) (xs.map PyData.str))) s
    rw [strs_eqv]; exact h)
theorem reads_rows {h : Heap} : ∀ (rows : List (Addr × Obj)) (r : Nat → List Int), (∀ i p, rows[i]? = some p → h.get? p.1 = some p.2 ∧ ∃ zs k, p.2 = W.listOf (List.toArray zs) k ∧ IntsAre zs (r i)) →
    ∃ as, ReadsAll h (rows.map fun p => Value.ref p.1) (rowsD ((List.range rows.length).map r)) as
  | [], _, _ => ⟨_, .nil⟩
  | p :: rows, r, H => by
    obtain ⟨as, hs⟩ := reads_rows rows (fun i => r (i + 1)) fun i q hq => H (i + 1) q (by simpa using hq)
    obtain ⟨e, zs, k, e2, hI⟩ := H 0 p rfl
    rw [e2] at e
    have h1 : Reads h (.ref p.1) (.list ((r 0).map PyData.int)) [p.1] := reads_newData ⟨_, e, rfl, k, rfl⟩ (ke_carried hI)
    refine ⟨[p.1] ++ as, ?_⟩
    rw [List.length_cons, List.range_succ_eq_map]
    simp only [List.map_cons, List.map_map]
    refine .cons h1 ?_
    unfold rowsD at hs
    rw [List.map_map] at hs
    exact hs
theorem ne_rows {Ga Gb : Nat → List Value → Prop} {ra rb : List (Addr × Obj)} {n : Nat} {r : Nat → List Int} (N : News h₀ L s.heap news) (ha : (a, W.listOf vs.toArray ka) ∈ news) (hb : (b, W.listOf ws.toArray kb) ∈ news) (Ra : RowsAre Ga n vs ra) (Rb : RowsAre Gb n ws rb)
    (hra : ∀ p ∈ ra, p ∈ news) (hrb : ∀ p ∈ rb, p ∈ news) (hGa : ∀ i zs, i < n → Ga i zs → IntsAre zs (r i)) (hGb : ∀ i zs, i < n → Gb i zs → IntsAre zs (r i)) (hu : A.units + 64 < cLine) (h : Q (.bool false) s) :
    wpAny (model prog w) A (compareOp .NotEq (.ref a) (.ref b)) Q E s := by
  have hlt : ∀ {l : List (Addr × Obj)} {i : Nat} {p : Addr × Obj}, l[i]? = some p → i < l.length := fun e => (List.getElem?_eq_some_iff.mp e).1
  obtain ⟨as, hA⟩ := reads_rows (h := s.heap) ra r fun i p hp => by
    obtain ⟨zs, k, e, g⟩ := Ra.row i p hp
    exact ⟨(N p (hra p (List.mem_of_getElem? hp))).1, zs, k, e, hGa i zs (by rw [← Ra.len]; exact hlt hp) g⟩
  obtain ⟨bs, hB⟩ := reads_rows (h := s.heap) rb r fun i p hp => by
    obtain ⟨zs, k, e, g⟩ := Rb.row i p hp
    exact ⟨(N p (hrb p (List.mem_of_getElem? hp))).1, zs, k, e, hGb i zs (by rw [← Rb.len]; exact hlt hp) g⟩
  rw [← Ra.refs, Ra.len] at hA
  rw [← Rb.refs, Rb.len] at hB
  refine ne_dataH (reads_list_at (N _ ha).1 rfl rfl hA) (reads_list_at (N _ hb).1 rfl rfl hB) (rows_shaped _) (rows_shaped _) hu ?_
  show Q (.bool (!PyData.eqvAll _ _)) s
  rw [rows_eqv]; exact h
theorem eq_pairs {c d e f : Addr} {ns ms : List Int} {v1 v2 v3 v4 : List Value} {n1 n2 n3 n4 : Nat} {ta tb : Nat} (ha : s.heap.get? a = some ({ cls := .type "tuple", data := .seq [Value.ref c, Value.ref d].toArray ta } : Obj)) (hb : s.heap.get? b = some ({ cls := .type "tuple", data := .seq [Value.ref e, Value.ref f].toArray tb } : Obj))
    (hc : s.heap.get? c = some (W.listOf v1.toArray n1)) (hd : s.heap.get? d = some (W.listOf v2.toArray n2)) (he : s.heap.get? e = some (W.listOf v3.toArray n3)) (hf : s.heap.get? f = some (W.listOf v4.toArray n4))
    (i1 : IntsAre v1 ns) (i2 : IntsAre v2 ms) (i3 : IntsAre v3 ns) (i4 : IntsAre v4 ms) (hu : A.units + 64 < cLine) (h : Q (.bool true) s) :
    wpAny (model prog w) A (compareOp .Eq (.ref a) (.ref b)) Q E s := by
  have R1 : ReadsAll s.heap [Value.ref c, Value.ref d] (rowsD [ns, ms]) _ := .cons (reads_newData ⟨_, hc, rfl, n1, rfl⟩ (ke_carried i1)) (.cons (reads_newData ⟨_, hd, rfl, n2, rfl⟩ (ke_carried i2)) .nil)
  have R2 : ReadsAll s.heap [Value.ref e, Value.ref f] (rowsD [ns, ms]) _ := .cons (reads_newData ⟨_, he, rfl, n3, rfl⟩ (ke_carried i3)) (.cons (reads_newData ⟨_, hf, rfl, n4, rfl⟩ (ke_carried i4)) .nil)
  have sh : SeqAt.shaped (.tuple (rowsD [ns, ms])) = true := by
    have := rows_depth [ns, ms]
    simp only [SeqAt.shaped, PyData.canLay0, PyData.depth, rows_lay, Bool.true_and]
    exact decide_eq_true (by lia)
  refine eq_dataH (reads_tuple_at ha rfl rfl R1) (reads_tuple_at hb rfl rfl R2) sh sh hu ?_
  show Q (.bool (PyData.eqvAll _ _)) s
  rw [rows_eqv]; exact h
end
theorem kw_s_law_0 : True := by
  k_with_none
  (k_with "k_room" => (ktr_room))
  (k_with "con sub" => (first | exact List.forall_mem_nil _ | k_extra "sub" | (simp only [List.forall_mem_cons]; refine ⟨?_, ?_⟩ <;> first | exact List.forall_mem_nil _ | k_mem | k_extra "con sub") | k_sub))
  (k_with "con enter" => ((refine wpAny_call ?_; (refine' code_defG (by assumption) (by assumption) (by assumption) (by assumption) (by assumption) (by exact rfl) (by exact rfl) (by exact rfl) (by k_is) (by k_is) (by k_room) (by first | exact BindsTo.of_eq rfl | exact binds_K (by k_in) rfl (by k_is) rfl rfl rfl | fail "k_enter: no rule for these arguments") (by exact locs rfl) ?_ (by exact rfl) (by exact rfl) (by exact rfl) (by decide); k_whole))))
  (k_with "con start" => ((dsimp only [Con, fnSc]; intros; rename_i hret)))
  (k_with "LeaveK" => ((k_dflt (refine' leave_con (by with_reducible assumption) (by assumption) (by k_asm) (by k_asm) (by k_extra "con sub") ?_; k_whole); intro _; (try dsimp only))))
  (k_with "con enterC" => ((refine wpAny_call ?_; (refine' enter_cells (by assumption) (by assumption) (by assumption) (by assumption) (by assumption) (by exact rfl) (by exact rfl) (by exact rfl) (by k_is) (by k_is) (by k_room) (by exact BindsTo.of_eq rfl) (by exact rfl) (by decide +kernel) ?_ (by exact rfl) (by exact rfl) (by exact rfl); k_whole))))
  (k_with "con enterR" => ((refine wpAny_call ?_; (refine' enter_rest (by assumption) (by assumption) (by assumption) (by assumption) (by assumption) (by exact rfl) (by exact rfl) (by exact rfl) (by k_is) (by k_is) (by k_room) (by exact rfl) (by exact fun _ => locs rfl) ?_ (by exact rfl) (by exact rfl) (by exact rfl) (by decide); k_whole))))
  (k_with "callWith" => ((k_here; (with_reducible show wpAny _ _ (callWith _ (Value.builtin _) (_ :: _) (backTo _ (starEach (_ :: _) _)) []) _ _ _); (with_reducible refine' callWith_method1 ?_ (by k_dflt (exact rfl)) (by k_dflt (exact rfl))))))
  (k_with "mem at" => (with_reducible (first | exact List.mem_cons_self | exact List.Mem.head _ | (refine List.mem_cons_of_mem _ ?_; k_extra "mem at") | (refine List.mem_append_left _ ?_; k_extra "mem at") | (refine List.mem_append_right _ ?_; k_extra "mem at"))))
  (k_with "mem in" => (with_reducible (first | assumption | (refine List.mem_cons_of_mem _ ?_; k_extra "mem in") | (refine List.mem_append_right _ ?_; k_extra "mem in") | (refine List.mem_append_left _ ?_; k_extra "mem in"))))
  (k_with "sub" => (with_reducible (first | exact sub_nil | exact sub_refl | (refine sub_cons ?_ ?_; (focus k_extra "mem at"); k_extra "sub") | (refine subs_app ?_ ?_; (focus k_extra "sub"); k_extra "sub") | (intro _ _; k_extra "mem in"))))
  (k_with "call builtin:issubclass" => ((k_here; (with_reducible show wpAny _ _ (call (Value.builtin "issubclass") [Value.type "str", Value.ref _]) _ _ _); refine' isc_call (by k_asm) (by k_mem) ?_; k_whole)))
  (k_with "call ref" => ((k_here; (with_reducible show wpAny _ _ (call (Value.ref 94) [Value.str _ _]) _ _ _); k_dflt (refine' con_use c_fspath (by k_asm) (by k_asm) (by k_asm) (by k_asm) (by k_asm) (by k_extra "con sub") (by ktr_room) (by ktr_units) ?_; k_whole); intro _ _ _ _ _ _ hv9w9; subst hv9w9; (try dsimp only); (try k_fold))))
  (k_with "CompEnd" => ((refine compEnd_lt (by assumption) ?_; intro l9'w9; k_lt l9'w9; lcg_end)))
  (k_with "FinE" => (((unfold LCg.FinE); intro _ _ _ _ N'w9 _; (try dsimp only [List.nil_append, List.cons_append] at N'w9); (try dsimp only))))
  (k_with "FinA" => (((unfold LCg.FinA); intro _ _ _ _ N'w9 _; (try dsimp only [List.nil_append, List.cons_append] at N'w9); (try dsimp only))))
  (k_with "lcg_off" => (first | exact True.intro | (with_reducible assumption) | (refine And.intro (by first | exact off3_at _ _ (by assumption) (by k_mem) rfl | exact ⟨by k_ne, by k_ne, by k_ne⟩) ?_; lcg_off) | (refine And.intro (by k_ne) ?_; lcg_off)))
  (k_with "SeqSrc" => ((k_here; k_dflt ((refine SeqSrc.is (by rfl) (by k_asm) (by k_asm) (by k_mem) (by first | exact Or.inl rfl | exact Or.inr rfl) (by first | size_fits | exact Nat.le_of_ble_eq_true rfl) ?_); intro _; lcg_lit))))
  (k_with "CompRest" => ((with_unfolding_all first
  | (refine LCg.CompRest.succ ?_; intro _ _ _ _ _ _ _ _ _ _ hv'w9 _ _ _ _ _ ne'w9; (replace hv'w9 := Option.some.inj hv'w9; (first | subst hv'w9 | dsimp only at hv'w9; subst hv'w9)); (replace ne'w9 : NeP _ _ _ := ne'w9))
  | refine LCg.CompRest.zero ?_)))
  (k_with "and" => ((with_reducible first | exact And.left (by assumption) | exact And.left (And.right (by assumption)) | exact And.left (And.right (And.right (by assumption))) | exact And.left (And.right (And.right (And.right (by assumption)))) | exact And.left (And.right (And.right (And.right (And.right (by assumption))))) | exact And.left (And.right (And.right (And.right (And.right (And.right (by assumption)))))) | exact And.left (And.right (And.right (And.right (And.right (And.right (And.right (by assumption))))))) | exact And.left (And.right (And.right (And.right (And.right (And.right (And.right (And.right (by assumption)))))))) | exact And.left (And.right (And.right (And.right (And.right (And.right (And.right (And.right (And.right (by assumption))))))))) | exact And.left (And.right (And.right (And.right (And.right (And.right (And.right (And.right (And.right (And.right (by assumption)))))))))) | exact And.left (And.right (And.right (And.right (And.right (And.right (And.right (And.right (And.right (And.right (And.right (by assumption))))))))))) | exact And.left (And.right (And.right (And.right (And.right (And.right (And.right (And.right (And.right (And.right (And.right (And.right (by assumption)))))))))))) | exact And.left (And.right (And.right (And.right (And.right (And.right (And.right (And.right (And.right (And.right (And.right (And.right (And.right (by assumption))))))))))))) | exact And.left (And.right (And.right (And.right (And.right (And.right (And.right (And.right (And.right (And.right (And.right (And.right (And.right (And.right (by assumption)))))))))))))) | exact And.left (And.right (And.right (And.right (And.right (And.right (And.right (And.right (And.right (And.right (And.right (And.right (And.right (And.right (And.right (by assumption))))))))))))))) | exact And.left (And.right (And.right (And.right (And.right (And.right (And.right (And.right (And.right (And.right (And.right (And.right (And.right (And.right (And.right (And.right (by assumption)))))))))))))))) | exact And.right (by assumption) | exact And.right (And.right (by assumption)) | exact And.right (And.right (And.right (by assumption))) | exact And.right (And.right (And.right (And.right (by assumption)))) | exact And.right (And.right (And.right (And.right (And.right (by assumption))))) | exact And.right (And.right (And.right (And.right (And.right (And.right (by assumption)))))) | exact And.right (And.right (And.right (And.right (And.right (And.right (And.right (by assumption))))))) | exact And.right (And.right (And.right (And.right (And.right (And.right (And.right (And.right (by assumption)))))))) | exact And.right (And.right (And.right (And.right (And.right (And.right (And.right (And.right (And.right (by assumption))))))))) | exact And.right (And.right (And.right (And.right (And.right (And.right (And.right (And.right (And.right (And.right (by assumption)))))))))) | exact And.right (And.right (And.right (And.right (And.right (And.right (And.right (And.right (And.right (And.right (And.right (by assumption))))))))))))))
  (k_with "and3" => ((with_reducible first | exact And.left (And.left (by assumption)) | exact And.left (And.right (And.left (by assumption))) | exact And.right (And.right (And.left (by assumption))) | exact And.left (And.left (And.right (by assumption))) | exact And.left (And.right (And.left (And.right (by assumption)))) | exact And.right (And.right (And.left (And.right (by assumption)))) | exact And.left (And.left (And.right (And.right (by assumption)))) | exact And.left (And.right (And.left (And.right (And.right (by assumption))))) | exact And.right (And.right (And.left (And.right (And.right (by assumption))))) | exact And.left (And.left (And.right (And.right (And.right (by assumption))))) | exact And.left (And.right (And.left (And.right (And.right (And.right (by assumption)))))) | exact And.right (And.right (And.left (And.right (And.right (And.right (by assumption)))))) | exact And.left (And.left (And.right (And.right (And.right (And.right (by assumption)))))) | exact And.left (And.right (And.left (And.right (And.right (And.right (And.right (by assumption))))))) | exact And.right (And.right (And.left (And.right (And.right (And.right (And.right (by assumption))))))) | exact And.left (And.left (And.right (And.right (And.right (And.right (And.right (by assumption))))))) | exact And.left (And.right (And.left (And.right (And.right (And.right (And.right (And.right (by assumption)))))))) | exact And.right (And.right (And.left (And.right (And.right (And.right (And.right (And.right (by assumption)))))))) | exact And.left (And.left (And.right (And.right (And.right (And.right (And.right (And.right (by assumption)))))))) | exact And.left (And.right (And.left (And.right (And.right (And.right (And.right (And.right (And.right (by assumption))))))))) | exact And.right (And.right (And.left (And.right (And.right (And.right (And.right (And.right (And.right (by assumption))))))))) | exact And.left (And.left (And.right (And.right (And.right (And.right (And.right (And.right (And.right (by assumption))))))))) | exact And.left (And.right (And.left (And.right (And.right (And.right (And.right (And.right (And.right (And.right (by assumption)))))))))) | exact And.right (And.right (And.left (And.right (And.right (And.right (And.right (And.right (And.right (And.right (by assumption)))))))))) | exact And.left (And.left (And.right (And.right (And.right (And.right (And.right (And.right (And.right (And.right (by assumption)))))))))) | exact And.left (And.right (And.left (And.right (And.right (And.right (And.right (And.right (And.right (And.right (And.right (by assumption))))))))))) | exact And.right (And.right (And.left (And.right (And.right (And.right (And.right (And.right (And.right (And.right (And.right (by assumption))))))))))))))
  (k_with "k_ne" => (first | (with_reducible assumption) | (with_reducible exact Ne.symm (by assumption)) | (refine neN ?_; (try dsimp only); first | (with_reducible assumption) | (with_reducible exact Nat.ne_of_lt (by assumption)) | (with_reducible exact Nat.ne_of_gt (by assumption)) | (with_reducible exact Nat.ne_of_lt (by k_extra "and")) | (with_reducible exact Nat.ne_of_gt (by k_extra "and")) | assumption | exact Ne.symm (by assumption) | k_extra "ne off" | (with_reducible exact Ne.symm (by k_extra "and3")) | (with_reducible k_extra "and3") | (with_reducible exact Ne.symm (by k_extra "and")) | (with_reducible k_extra "and") | lia) | assumption | exact Ne.symm (by assumption)))
  (k_with "ne off" => (first | exact off1_at (by assumption) (by k_mem) | exact Ne.symm (off1_at (by assumption) (by k_mem)) | exact neP1 (by assumption) | exact neP2 (by assumption) | exact neP3 (by assumption) | exact Ne.symm (neP1 (by assumption)) | exact Ne.symm (neP2 (by assumption)) | exact Ne.symm (neP3 (by assumption)) | exact off3_at1 (by assumption) (by k_mem) | exact off3_at2 (by assumption) (by k_mem) | exact off3_at3 (by assumption) (by k_mem) | exact Ne.symm (off3_at1 (by assumption) (by k_mem)) | exact Ne.symm (off3_at2 (by assumption) (by k_mem)) | exact Ne.symm (off3_at3 (by assumption) (by k_mem))))
  (k_with "lcg_src" => (k_mem))
  (k_with "comp seq" => ((k_dflt (refine comp_seq (_F₀ := by k_asm) (by rfl) (by decide) (by rfl) (by decide) (by rfl) ?_))))
  (k_with "assign comp seq" => ((k_dflt (refine assign_comp_seq (_F₀ := by k_asm) (by rfl) (by with_unfolding_all rfl) (by rfl) (by decide) (by rfl) (by decide) (by rfl) (by rfl) (by rfl) ?_))))
  (k_with "no comp" => (repeat' ((fail_if_success (with_reducible show wpAny _ _ (exec (Stmt.Assign [Expr.Name _ _] (Expr.ListComp _ _ _ _) _) _) _ _ _)); (fail_if_success (with_reducible show wpAny _ _ (eval (Expr.ListComp _ _ _ _) _) _ _ _)); (first | (k_unfold; (try dsimp only)) | (k_end; wrow_close) | walk1 | (dsimp only; walk1) | (leave1; walk_say "STEP leave1"; try dsimp only) | fail "no step"))))
  (k_with "str len" => (first | assumption | lia | ((simp only [Str.length_append, PySem.ofString_length] at *); lia)))
  (k_with "call ref" => ((k_here; (with_reducible show wpAny _ _ (call (Value.ref 115) [Value.str _ _, Value.str _ _]) _ _ _); k_dflt (refine' con_use (c_join (by k_extra "str len") (by k_extra "str len")) (by k_asm) (by k_asm) (by k_asm) (by k_asm) (by k_asm) (by k_extra "con sub") (by ktr_room) (by ktr_units) ?_; k_whole); intro _ _ _ _ _ _ hv9w9; obtain ⟨t9, hv9w9⟩ := hv9w9; subst hv9w9; (try dsimp only); (try k_fold))))
  (k_with "call ref" => ((k_here; (with_reducible show wpAny _ _ (call (Value.ref 122) [Value.str _ _]) _ _ _); k_dflt (refine' con_use (c_basename (by k_extra "str len")) (by k_asm) (by k_asm) (by k_asm) (by k_asm) (by k_asm) (by k_extra "con sub") (by ktr_room) (by ktr_units) ?_; k_whole); intro _ _ _ _ _ _ hv9w9; obtain ⟨t9, hv9w9⟩ := hv9w9; subst hv9w9; (try dsimp only); (try k_fold))))
  (k_with "call ref" => ((k_here; (with_reducible show wpAny _ _ (call (Value.ref 129) [Value.str _ _]) _ _ _); k_dflt (refine' con_use (c_dirname (by k_extra "str len")) (by k_asm) (by k_asm) (by k_asm) (by k_asm) (by k_asm) (by k_extra "con sub") (by ktr_room) (by ktr_units) ?_; k_whole); intro _ _ _ _ _ _ hv9w9; obtain ⟨t9, hv9w9⟩ := hv9w9; subst hv9w9; (try dsimp only); (try k_fold))))
  (k_with "binaryOp Add str str" => ((k_here; (with_reducible show wpAny _ _ (binaryOp Operator.Add (Value.str (Txt.slice _ _ _) _) (Value.str (Str.mk _) _)) _ _ _); refine PyProof.Rows.add_str ?_ (name_fits _ _); intro _ _)))
  (k_with "no while" => (repeat' ((fail_if_success (with_reducible show wpAny _ _ (exec (Stmt.While _ _ _ _) _) _ _ _)); (first | (k_unfold; (try dsimp only)) | (k_end; wrow_close) | walk1 | (dsimp only; walk1) | (leave1; walk_say "STEP leave1"; try dsimp only) | fail "no step"))))
  (k_with "size small" => (first | size_fits | ((simp only [List.length_cons, List.length_nil, List.length_append, sizeLine_eq] at *); lia)))
  (k_with "binaryOp Add ref ref" => ((k_here; (with_reducible show wpAny _ _ (binaryOp _ (Value.ref _) (Value.ref _)) _ _ _); k_dflt (refine' add_lst (by k_asm) (by k_asm) (by k_mem) (by k_mem) ?_ (by k_extra "size small")); intro _ _ _ _ l1w9; (try k_lt l1w9); (try k_sweep))))
  (k_with "no for" => (repeat' ((fail_if_success (with_reducible show wpAny _ _ (exec (Stmt.For _ _ _ _ _) _) _ _ _)); (first | (k_unfold; (try dsimp only)) | (k_end; wrow_close) | walk1 | (dsimp only; walk1) | (leave1; walk_say "STEP leave1"; try dsimp only) | fail "no step"))))
  (k_with "comp seqX" => ((k_dflt (refine comp_seqX (_F₀ := by k_asm) (by rfl) (by decide) (by rfl) (by decide) (by rfl) ?_))))
  trivial
section
open PySem.StrLaws PySem.Builtin.Str
theorem comps_deep (q : Nat → Int) : ∀ k, ∀ cs ∈ comps q k, cs.length ≤ k
  | 0, cs, h => by rw [show comps q 0 = [[]] from rfl, List.mem_singleton] at h; subst h; exact Nat.le_refl 0
  | k + 1, cs, h => by
    rcases List.mem_append.mp h with h | h
    · exact Nat.le_trans (comps_deep q k cs h) (Nat.le_succ k)
    · rw [List.mem_singleton] at h; subst h
      obtain ⟨ds, hd⟩ := comps_at q k
      rw [hd]
      have := comps_deep q k ds (List.mem_of_getElem? hd)
      simp only [Option.getD_some, List.length_append, List.length_cons, List.length_nil]
      lia
theorem comps_short (q : Nat → Int) : ∀ k, ∀ cs ∈ comps q k, ∀ c ∈ cs, c.length ≤ 300
  | 0, cs, h, c, hc => by rw [show comps q 0 = [[]] from rfl, List.mem_singleton] at h; subst h; exact absurd hc (by simp)
  | k + 1, cs, h, c, hc => by
    rcases List.mem_append.mp h with h | h
    · exact comps_short q k cs h c hc
    · rw [List.mem_singleton] at h; subst h
      obtain ⟨ds, hd⟩ := comps_at q k
      rw [hd] at hc
      rcases List.mem_append.mp hc with hc | hc
      · exact comps_short q k ds (List.mem_of_getElem? hd) c hc
      · rw [List.mem_singleton.mp hc]; exact Nat.le_trans (nameS_len (q k) k) (by decide)
theorem txt_item {α : Type} {vs : List Value} {cs : List α} {f : α → Str} {i : Nat} {v : Value} (h : TxtOf vs (cs.map f)) (hv : vs[i]? = some v) : ∃ c t, cs[i]? = some c ∧ v = .str (f c) t := by
  have hl : i < cs.length := by
    have h1 := (List.getElem?_eq_some_iff.mp hv).1
    rw [h.1, List.length_map] at h1; exact h1
  obtain ⟨t, ht⟩ := h.2 i (f cs[i]) (by rw [List.getElem?_map, List.getElem?_eq_getElem hl]; rfl)
  rw [hv] at ht
  exact ⟨cs[i], t, List.getElem?_eq_getElem hl, Option.some.inj ht⟩
noncomputable def cmW (q : Nat → Int) (j : Nat) : List Str := ((comps q 5)[j]?).getD []
theorem cmW_at (q : Nat → Int) {j : Nat} (h : j < 6) : (comps q 5)[j]? = some (cmW q j) := by
  have hl : j < (comps q 5).length := by rw [comps_len]; exact h
  unfold cmW; rw [List.getElem?_eq_getElem hl]; rfl
theorem cmW_mem (q : Nat → Int) {j : Nat} (h : j < 6) : cmW q j ∈ comps q 5 := List.mem_of_getElem? (cmW_at q h)
theorem cm_ok (q : Nat → Int) {j : Nat} (h : j < 6) : (∀ c ∈ cmW q j, Nm c) ∧ (cmW q j).length ≤ 100 ∧ (pthR (cmW q j)).length ≤ 4000 ∧ ∀ c ∈ cmW q j, c.length ≤ 300 :=
  ⟨comps_nm q 5 _ (cmW_mem q h), Nat.le_trans (comps_deep q 5 _ (cmW_mem q h)) (by decide), Nat.le_trans (comps_pth_len q 5 _ (cmW_mem q h)) (by decide), comps_short q 5 _ (cmW_mem q h)⟩
theorem cm_ne (q : Nat → Int) {j : Nat} (h : j + 1 < 6) : cmW q (j + 1) ≠ [] := comps_ne q 5 (j + 1) (Nat.succ_pos j) _ (cmW_at q h)
theorem cm_lt (q : Nat → Int) {j : Nat} {cs : List Str} (h : (comps q 5)[j]? = some cs) : j < 6 := by
  have := (List.getElem?_eq_some_iff.mp h).1
  rw [comps_len] at this; exact this
theorem line_lt : ∀ (es ds : List Str) (i : Nat) (x y : Str), (lineFrom ds es)[i]? = some x → (lineFrom ds es)[i + 1]? = some y → x.length < y.length
  | [], ds, i, x, y, h, _ => by simp [lineFrom] at h
  | [e], ds, i, x, y, _, h => by simp [lineFrom] at h
  | e :: e' :: es, ds, 0, x, y, h1, h2 => by
    simp only [lineFrom, List.getElem?_cons_zero, List.getElem?_cons_succ, Option.some.injEq] at h1 h2
    subst h1 h2
    rw [pth_snoc e' (ds ++ [e]), Str.length_append, Str.length_append]
    have : (Str.ofString "/").length = 1 := rfl
    lia
  | e :: e' :: es, ds, i + 1, x, y, h1, h2 => line_lt (e' :: es) (ds ++ [e]) i x y (by simpa only [lineFrom, List.getElem?_cons_succ] using h1) (by simpa only [lineFrom, List.getElem?_cons_succ] using h2)
theorem line_adj (cs : List Str) : Adj (lineOf cs) := fun i h => by
  have h' : i < (lineOf cs).length := Nat.lt_of_succ_lt h
  have := line_lt cs [] i _ _ (List.getElem?_eq_getElem h') (List.getElem?_eq_getElem h)
  rw [beq_eq_false_iff_ne]
  intro e
  rw [e] at this
  exact Nat.lt_irrefl _ this
theorem pth_app_len (as : List Str) : ∀ bs, (pth as).length ≤ (pth (as ++ bs)).length := fun bs => by
  induction as with
  | nil => exact Nat.zero_le _
  | cons a r ih =>
    show (Str.ofString "/" ++ a ++ pth r).length ≤ (Str.ofString "/" ++ a ++ pth (r ++ bs)).length
    rw [Str.length_append, Str.length_append (Str.ofString "/" ++ a)]
    lia
theorem line_le : ∀ (es ds : List Str), ∀ x ∈ lineFrom ds es, x.length ≤ (pth (ds ++ es)).length
  | [], ds, x, h => by simp [lineFrom] at h
  | e :: es, ds, x, h => by
    rcases List.mem_cons.mp h with rfl | h
    · have := pth_app_len (ds ++ [e]) es
      simpa using this
    · have := line_le es (ds ++ [e]) x h
      simpa using this
theorem line_ok (q : Nat → Int) {j : Nat} (h : j < 6) : (lineOf (cmW q j)).length ≤ 100 ∧ ∀ x ∈ lineOf (cmW q j), x.length ≤ 4000 := by
  obtain ⟨_, a2, a3, _⟩ := cm_ok q h
  refine ⟨by rw [show (lineOf (cmW q j)).length = (cmW q j).length from lineFrom_length _ _]; exact a2, fun x hx => ?_⟩
  have h1 : x.length ≤ (pth (cmW q j)).length := by have := line_le (cmW q j) [] x hx; simpa using this
  unfold pthR at a3
  split at a3
  · next e => rw [e] at hx; exact absurd hx (by simp [lineOf, lineFrom])
  · exact Nat.le_trans h1 a3
noncomputable def shI (q : Nat → Int) (j : Nat) : List Int := (List.range (j + 1)).map fun t => signsI (cmW q j) (cmW q t)
noncomputable def sdI (q : Nat → Int) (j t : Nat) : List Int := [wtL (sld (lineOf (cmW q j)) (lineOf (cmW q t))).1, wtL (sld (lineOf (cmW q j)) (lineOf (cmW q t))).2]
noncomputable def apI (q : Nat → Int) (j : Nat) : List Int := (List.range (j + 1)).map fun t => wtL (sld (lineOf (cmW q j)) (lineOf (cmW q t))).1 + wtL (sld (lineOf (cmW q j)) (lineOf (cmW q t))).2
theorem shI_zero (q : Nat → Int) : shI q 0 = [0] := by
  have : cmW q 0 = [] := by
    unfold cmW
    rw [show (comps q 5)[0]? = some [] by rfl]; rfl
  show [signsI (cmW q 0) (cmW q 0)] = [0]
  rw [this]; rfl
theorem apI_zero (q : Nat → Int) : apI q 0 = [0] := by
  have : cmW q 0 = [] := by
    unfold cmW
    rw [show (comps q 5)[0]? = some [] by rfl]; rfl
  show [wtL (sld (lineOf (cmW q 0)) (lineOf (cmW q 0))).1 + wtL (sld (lineOf (cmW q 0)) (lineOf (cmW q 0))).2] = [0]
  rw [this, show lineOf [] = [] from rfl, sld_nil]; rfl
theorem cm_zero (q : Nat → Int) : cmW q 0 = [] := by
  unfold cmW
  rw [show (comps q 5)[0]? = some [] by rfl]; rfl
theorem pth_inj {A B : List Str} (hA : ∀ c ∈ A, Nm c) (hB : ∀ c ∈ B, Nm c) (nA : A ≠ []) (nB : B ≠ []) (h : pth A = pth B) : A = B := by
  have h1 := split_pth nA hA
  rw [h, split_pth nB hB] at h1
  exact (List.cons.inj h1).2.symm
theorem line_shape : ∀ (cs as : List Str) (c : Str) (x : Str), x ∈ lineFrom as (c :: cs) → ∃ u, (∀ e ∈ u, e ∈ cs) ∧ x = pth (as ++ c :: u)
  | [], as, c, x, h => by
    rw [show lineFrom as [c] = [pth (as ++ [c])] from rfl, List.mem_singleton] at h
    exact ⟨[], fun e he => absurd he (by simp), h⟩
  | d :: cs, as, c, x, h => by
    rcases List.mem_cons.mp h with rfl | h
    · exact ⟨[], fun e he => absurd he (by simp), rfl⟩
    · obtain ⟨u, hu, rfl⟩ := line_shape cs (as ++ [c]) d x h
      refine ⟨d :: u, fun e he => ?_, by simp⟩
      rcases List.mem_cons.mp he with rfl | he
      · exact List.mem_cons_self
      · exact List.mem_cons_of_mem _ (hu e he)
theorem sld_apart : ∀ (k : Nat) (xs ys : List Str), xs.length + ys.length ≤ k → (∀ x ∈ xs, ∀ y ∈ ys, x ≠ y) → sld xs ys = (xs, ys)
  | _, [], ys, _, _ => sld_nil ys
  | _, x :: xs, [], _, _ => sld_nil_right _
  | 0, x :: xs, y :: ys, h, _ => by simp at h
  | k + 1, x :: xs, y :: ys, h, hn => by
    simp only [List.length_cons] at h
    rw [sld_cons]
    split
    · rw [sld_apart k xs (y :: ys) (by simp only [List.length_cons]; lia) fun a ha b hb => hn a (List.mem_cons_of_mem _ ha) b hb]
    · split
      · rw [sld_apart k (x :: xs) ys (by simp only [List.length_cons]; lia) fun a ha b hb => hn a ha b (List.mem_cons_of_mem _ hb)]
      · next h1 h2 =>
        refine absurd (str_ext ?_) (hn x List.mem_cons_self y List.mem_cons_self)
        have a1 : ¬ x.cps.toList < y.cps.toList := fun q => h1 (decide_eq_true q)
        have a2 : ¬ y.cps.toList < x.cps.toList := fun q => h2 (decide_eq_true q)
        exact List.le_antisymm (List.not_lt.mp a2) (List.not_lt.mp a1)
theorem sld_skip (x : Str) (xs ys : List Str) : sld (x :: xs) (x :: ys) = sld xs ys := by
  have h : decide (x.cps.toList < x.cps.toList) = false := decide_eq_false (List.lt_irrefl _)
  conv => lhs; rw [sld_cons]
  rw [h]
  simp only [Bool.false_eq_true, if_false]
theorem sld_lines : ∀ (cs ds as : List Str), (∀ c ∈ cs, Nm c) → (∀ c ∈ ds, Nm c) → (∀ c ∈ as, Nm c) →
    sld (lineFrom as cs) (lineFrom as ds) = (lineFrom (as ++ comm cs ds) (cs.drop (comm cs ds).length), lineFrom (as ++ comm cs ds) (ds.drop (comm cs ds).length))
  | [], ds, as, _, _, _ => by
    rw [show comm [] ds = [] by cases ds <;> rfl]
    show sld [] (lineFrom as ds) = _
    rw [sld_nil]; simp [lineFrom]
  | c :: cs, [], as, _, _, _ => by
    show sld (lineFrom as (c :: cs)) [] = _
    rw [sld_nil_right, show comm (c :: cs) [] = [] from rfl]; simp [lineFrom]
  | c :: cs, d :: ds, as, hc, hd, ha => by
    by_cases e : c = d
    · subst e
      show sld (pth (as ++ [c]) :: lineFrom (as ++ [c]) cs) (pth (as ++ [c]) :: lineFrom (as ++ [c]) ds) = _
      rw [sld_skip, sld_lines cs ds (as ++ [c]) (fun x h => hc x (List.mem_cons_of_mem _ h)) (fun x h => hd x (List.mem_cons_of_mem _ h)) (fun x h => by
        rcases List.mem_append.mp h with h | h
        · exact ha x h
        · rw [List.mem_singleton.mp h]; exact hc c List.mem_cons_self)]
      rw [show comm (c :: cs) (c :: ds) = c :: comm cs ds by simp [comm]]
      simp
    · rw [show comm (c :: cs) (d :: ds) = [] by simp [comm, e]]
      rw [sld_apart _ _ _ (Nat.le_refl _)]
      · simp
      · intro x hx y hy hxy
        obtain ⟨u, hu, rfl⟩ := line_shape cs as c x hx
        obtain ⟨v, hv, rfl⟩ := line_shape ds as d y hy
        have := pth_inj (A := as ++ c :: u) (B := as ++ d :: v) (fun z hz => by
          rcases List.mem_append.mp hz with hz | hz
          · exact ha z hz
          · rcases List.mem_cons.mp hz with rfl | hz
            · exact hc _ List.mem_cons_self
            · exact hc z (List.mem_cons_of_mem _ (hu z hz))) (fun z hz => by
          rcases List.mem_append.mp hz with hz | hz
          · exact ha z hz
          · rcases List.mem_cons.mp hz with rfl | hz
            · exact hd _ List.mem_cons_self
            · exact hd z (List.mem_cons_of_mem _ (hv z hz))) (by simp) (by simp) hxy
        exact e (List.cons.inj (List.append_cancel_left this)).1
theorem wt_line : ∀ (cs as : List Str), (∀ c ∈ cs, Nm c) → wtL (lineFrom as cs) = ((pth cs).length : Int)
  | [], _, _ => rfl
  | c :: cs, as, h => by
    have h1 : baseS (pth (as ++ [c])) = c := by rw [← pthR_snoc_eq]; exact base_pth as (h c List.mem_cons_self)
    have h2 := wt_line cs (as ++ [c]) fun x hx => h x (List.mem_cons_of_mem _ hx)
    unfold wtL at h2 ⊢
    show (((baseS (pth (as ++ [c]))).length : Int) + 1) + (List.map _ (lineFrom (as ++ [c]) cs)).sum = ((Str.ofString "/" ++ c ++ pth cs).length : Int)
    rw [h1, h2, Str.length_append, Str.length_append]
    have : (Str.ofString "/").length = 1 := rfl
    lia
theorem pth_len_app (as : List Str) : ∀ bs, (pth (as ++ bs)).length = (pth as).length + (pth bs).length := fun bs => by
  induction as with
  | nil => show (pth bs).length = Str.empty.length + _; simp [Str.empty, Str.length]
  | cons a r ih => show (Str.ofString "/" ++ a ++ pth (r ++ bs)).length = (Str.ofString "/" ++ a ++ pth r).length + _; rw [Str.length_append, Str.length_append (Str.ofString "/" ++ a), ih]; lia
theorem wt_rest {cs ds : List Str} (hc : ∀ c ∈ cs, Nm c) (as : List Str) : wtL (lineFrom as (cs.drop (comm cs ds).length)) = ((pth cs).length : Int) - signsI cs ds := by
  rw [wt_line _ _ fun c h => hc c (List.mem_of_mem_drop h)]
  obtain ⟨r, hr⟩ := comm_pre cs ds
  have h1 : cs.drop (comm cs ds).length = r := by
    conv => lhs; rw [hr]
    rw [show (comm (comm cs ds ++ r) ds) = comm cs ds by rw [← hr]]
    exact List.drop_left
  have h2 : (pth cs).length = (pth (comm cs ds)).length + (pth r).length := by
    conv => lhs; rw [hr]
    exact pth_len_app _ _
  rw [h1]
  unfold signsI
  lia
theorem signs_swap (cs ds : List Str) : signsI cs ds = signsI ds cs := by unfold signsI; rw [comm_swap]
theorem wt_both {cs ds : List Str} (hc : ∀ c ∈ cs, Nm c) (hd : ∀ c ∈ ds, Nm c) : wtL (sld (lineOf cs) (lineOf ds)).1 = ((pth cs).length : Int) - signsI cs ds ∧ wtL (sld (lineOf cs) (lineOf ds)).2 = ((pth ds).length : Int) - signsI cs ds := by
  unfold lineOf
  rw [sld_lines cs ds [] hc hd (fun c h => absurd h (by simp))]
  refine ⟨wt_rest hc _, ?_⟩
  rw [signs_swap cs ds]
  have := wt_rest (cs := ds) (ds := cs) hd ([] ++ comm cs ds)
  rw [comm_swap ds cs] at this
  exact this
theorem rstrip_keep {A : List Nat} {c : Nat} (hc : c ≠ 47) : Txt.rstripChars ⟨(A ++ [c]).toArray⟩ (Str.ofString "/") = ⟨(A ++ [c]).toArray⟩ := by
  rw [sl_eq]
  have hgo : (⟨#[47]⟩ : Str).cps.contains = fun n => n == 47 := by funext n; simp [Array.contains]; try rfl
  have hl : (⟨(A ++ [c]).toArray⟩ : Str).length = A.length + 1 := by simp [Str.length]
  have hhi : stripHi (fun n => n == 47) true ⟨(A ++ [c]).toArray⟩ 0 = A.length + 1 := by
    simp only [stripHi, if_true, List.drop_zero, hl]
    simp [hc]
  unfold Txt.rstripChars Txt.stripBy
  rw [hgo]
  have hlo : stripLo (fun n => n == 47) false (⟨(A ++ [c]).toArray⟩ : Str) = 0 := rfl
  unfold PySem.stripSame PySem.stripped
  rw [hlo, hhi, hl]
  simp
theorem rstrip_len {cs : List Str} (hn : ∀ c ∈ cs, Nm c) : ((Txt.rstripChars (pthR cs) (Str.ofString "/")).length : Int) = ((pth cs).length : Int) := by
  by_cases h : cs = []
  · subst h
    rw [pthR_nil]
    show ((Txt.rstripChars (Str.ofString "/") (Str.ofString "/")).length : Int) = ((pth []).length : Int)
    decide +kernel
  · obtain ⟨A, z, e, hz⟩ := pth_last h hn
    have e2 : pth cs = ⟨(A ++ [z]).toArray⟩ := str_ext (by rw [e])
    rw [show pthR cs = pth cs from if_neg h, e2, rstrip_keep hz]
theorem sides_law (q : Nat → Int) {i t : Nat} (hj : i + 1 < 6) (ht : t < 6) : sdI q (i + 1) t = [((pthR (cmW q (i + 1))).length : Int) - signsI (cmW q (i + 1)) (cmW q t), ((Txt.rstripChars (pthR (cmW q t)) (Str.ofString "/")).length : Int) - signsI (cmW q (i + 1)) (cmW q t)] := by
  obtain ⟨a1, _, _, _⟩ := cm_ok q hj
  obtain ⟨b1, _, _, _⟩ := cm_ok q ht
  obtain ⟨e1, e2⟩ := wt_both a1 b1
  unfold sdI
  rw [e1, e2, rstrip_len b1, show pthR (cmW q (i + 1)) = pth (cmW q (i + 1)) from if_neg (cm_ne q hj)]
theorem signs_nil (cs : List Str) : signsI cs [] = 0 := by
  cases cs <;> rfl
theorem shI_cons (q : Nat → Int) (i : Nat) : shI q (i + 1) = 0 :: (List.range (i + 1)).map fun t => signsI (cmW q (i + 1)) (cmW q (t + 1)) := by
  unfold shI
  rw [List.range_succ_eq_map, List.map_cons, List.map_map, cm_zero, signs_nil]
  rfl
inductive LawJ (q : Nat → Int) (Nu : Addr) (fixed rowsL : List (Addr × Obj)) (i : Nat) (m : Str → Option Value) (nx : List (Addr × Obj)) : Prop
  | mk (Sh Ap : Addr) (shs aps : List Value) (kS kA : Nat) (rowsS rowsA : List (Addr × Obj)) (e : nx = (Sh, W.listOf (List.toArray shs) kS) :: (Ap, W.listOf (List.toArray aps) kA) :: (fixed ++ (rowsL ++ (rowsS ++ rowsA))))
    (RS : RowsAre (fun j zs => IntsAre zs (shI q j)) (i + 1) shs rowsS) (RA : RowsAre (fun j zs => IntsAre zs (apI q j)) (i + 1) aps rowsA) (mS : m (Str.ofString "shared") = some (.ref Sh)) (mA : m (Str.ofString "apart") = some (.ref Ap)) (mN : m (Str.ofString "numbers") = some (.ref Nu)) : LawJ q Nu fixed rowsL i m nx
variable {h₀ H h' : Heap} {L : Addr} {m : Str → Option Value} {s₁ : Shared}
theorem row_end {I C D a : Addr} {oI oC oD : Obj} {G : List Value → Prop} {all : List (Addr × Obj)} {zs : List Value} {k tk : Nat} (F : Fr h₀ L H m) (N : News h₀ L H ((I, oI) :: (C, oC) :: (D, oD) :: all)) (F' : Fr h₀ L h' m) (N' : News h₀ L h' ((I, oI) :: (C, oC) :: (D, oD) :: all))
    (hn : H.get? a = none) (he : h'.get? a = some (W.listOf (List.toArray zs) k)) (hG : G zs) : RowEnd h₀ L m s₁ I oI C oC D oD G all (.ref a) { s₁ with heap := h', toks := tk } := by
  have off : ∀ p ∈ (I, oI) :: (C, oC) :: (D, oD) :: all, p.1 ≠ a := fun p hp e => by
    rw [← e, (N p hp).1] at hn; cases hn
  refine ⟨h', tk, a, zs, k, rfl, rfl, hG, F', fun p hp => ?_, Ne.symm (off (I, oI) (by simp)), Ne.symm (off (C, oC) (by simp)), Ne.symm (off (D, oD) (by simp)), fun p hp => off p (by simp [hp])⟩
  rcases List.mem_cons.mp hp with rfl | hp
  · exact ⟨he, ne_frame F hn, none_of_stays F.keep hn⟩
  · exact N' p hp
set_option maxRecDepth 100000 in
theorem law_news {Dt Ap R1 Sh R0 Ln P3 Nu cP cL cA P : Addr} {oT oLn oP3 oNu oP oL oA oTab : Obj} {t0 t1 : Tok} {k0 k1 kA kS : Nat} {rowsL : List (Addr × Obj)}
    (N : News h₀ L H ((Dt, oT) :: (Ap, W.listOf [Value.ref R1].toArray kA) :: (R1, W.listOf [Value.int 0 t1].toArray k1) :: (Sh, W.listOf [Value.ref R0].toArray kS) :: (R0, W.listOf [Value.int 0 t0].toArray k0) :: (Ln, oLn) :: (P3, oP3) :: (Nu, oNu) :: (cP, oP) :: (cL, oL) :: (cA, oA) :: (P, oTab) :: rowsL)) :
    News h₀ L H ((cP, oP) :: (Sh, W.listOf [Value.ref R0].toArray kS) :: (Ap, W.listOf [Value.ref R1].toArray kA) :: ([(Ln, oLn), (P3, oP3), (Nu, oNu), (cL, oL), (cA, oA), (P, oTab)] ++ (rowsL ++ ([(R0, W.listOf [Value.int 0 t0].toArray k0)] ++ [(R1, W.listOf [Value.int 0 t1].toArray k1)])))) := news_sub N (by walk_at "sub")
theorem law_j0 {q : Nat → Int} {Ap R1 Sh R0 Nu : Addr} {t0 t1 : Tok} {k0 k1 kA kS : Nat} {fixed rowsL : List (Addr × Obj)} (h1 : m (Str.ofString "shared") = some (.ref Sh)) (h2 : m (Str.ofString "apart") = some (.ref Ap)) (h3 : m (Str.ofString "numbers") = some (.ref Nu)) :
    LawJ q Nu fixed rowsL 0 m ((Sh, W.listOf [Value.ref R0].toArray kS) :: (Ap, W.listOf [Value.ref R1].toArray kA) :: (fixed ++ (rowsL ++ ([(R0, W.listOf [Value.int 0 t0].toArray k0)] ++ [(R1, W.listOf [Value.int 0 t1].toArray k1)])))) := by
  have e1 : RowsAre (fun j zs => IntsAre zs (shI q j)) (0 + 1) ([] ++ [Value.ref R0]) ([] ++ [(R0, W.listOf [Value.int 0 t0].toArray k0)]) := RowsAre.nil.snoc (by show IntsAre _ (shI q 0); rw [shI_zero]; exact .cons _ _ .nil)
  have e2 : RowsAre (fun j zs => IntsAre zs (apI q j)) (0 + 1) ([] ++ [Value.ref R1]) ([] ++ [(R1, W.listOf [Value.int 0 t1].toArray k1)]) := RowsAre.nil.snoc (by show IntsAre _ (apI q 0); rw [apI_zero]; exact .cons _ _ .nil)
  exact ⟨Sh, Ap, _, _, _, _, _, _, rfl, e1, e2, h1, h2, h3⟩
set_option maxRecDepth 100000 in
theorem law_n2 {Sh2 W1 R1 Di Dq Z0 cP It Sh Ap Ln P3 Nu cL cA P : Addr} {oS oW oR oDi oDq oZ oc oI oSh oAp oLn oP3 oNu oL oA oTab : Obj} {rows : List (Addr × Obj)}
    (N : News h₀ L H ((Sh2, oS) :: (W1, oW) :: (R1, oR) :: (Di, oDi) :: (Dq, oDq) :: (Z0, oZ) :: (cP, oc) :: (It, oI) :: (Sh, oSh) :: (Ap, oAp) :: (Ln, oLn) :: (P3, oP3) :: (Nu, oNu) :: (cL, oL) :: (cA, oA) :: (P, oTab) :: rows)) :
    News h₀ L H ((Sh2, oS) :: (R1, oR) :: (cP, oc) :: (It, oI) :: (Ap, oAp) :: (Ln, oLn) :: (P3, oP3) :: (Nu, oNu) :: (cL, oL) :: (cA, oA) :: (P, oTab) :: rows) := news_sub N (by walk_at "sub")
set_option maxRecDepth 100000 in
theorem law_step {q : Nat → Int} {i tk : Nat} {Ap2 W2 Di Sd Sh2 R1 cP It Ap Sh Ln P3 Nu cL cA P : Addr} {oW oSd oc oI oSh oAp oAp' oLn oP3 oNu oL oA oTab : Obj} {shs aps isx rv : List Value} {kA2 kDi kS2 kR : Nat} {z : Option Value} {rowsL rowsS rowsA rowsD : List (Addr × Obj)} {Qr : Value → Shared → Prop}
    (F : Fr h₀ L H m) (N : News h₀ L H ((Ap2, W.listOf (List.toArray (aps ++ [Value.ref Di])) kA2) :: (W2, oW) :: (Di, W.listOf (List.toArray isx) kDi) :: (Sd, oSd) :: (Sh2, W.listOf (List.toArray (shs ++ [Value.ref R1])) kS2) :: (R1, W.listOf (List.toArray rv) kR) :: (cP, oc) :: (It, oI) :: (Ap, oAp) :: (Ln, oLn) :: (P3, oP3) :: (Nu, oNu) :: (cL, oL) :: (cA, oA) :: (P, oTab) :: (rowsL ++ (rowsS ++ rowsA) ++ rowsD)))
    (RS : RowsAre (fun j zs => IntsAre zs (shI q j)) (i + 1) shs rowsS) (RA : RowsAre (fun j zs => IntsAre zs (apI q j)) (i + 1) aps rowsA) (hrv : IntsAre rv (shI q (i + 1))) (hisx : IntsAre isx (apI q (i + 1)))
    (m1 : m (Str.ofString "shared") = some (.ref Sh2)) (m2 : m (Str.ofString "apart") = some (.ref Ap2)) (m3 : m (Str.ofString "numbers") = some (.ref Nu)) (hz : oc.data = .cell z)
    (off0 : ∀ p ∈ (Sh, oSh) :: (Ap, oAp') :: ([(Ln, oLn), (P3, oP3), (Nu, oNu), (cL, oL), (cA, oA), (P, oTab)] ++ (rowsL ++ (rowsS ++ rowsA))), p.1 ≠ cP ∧ p.1 ≠ It)
    (o1 : R1 ≠ cP ∧ R1 ≠ It) (o2 : Sh2 ≠ cP ∧ Sh2 ≠ It) (o3 : Di ≠ cP ∧ Di ≠ It) (o4 : Ap2 ≠ cP ∧ Ap2 ≠ It) :
    CellStep h₀ L cP It oI (fun m nx => LawJ q Nu [(Ln, oLn), (P3, oP3), (Nu, oNu), (cL, oL), (cA, oA), (P, oTab)] rowsL (i + 1) m nx) s₁ Qr .next { s₁ with heap := H, toks := tk } := by
  refine ⟨H, tk, m, (Sh2, W.listOf (List.toArray (shs ++ [Value.ref R1])) kS2) :: (Ap2, W.listOf (List.toArray (aps ++ [Value.ref Di])) kA2) :: ([(Ln, oLn), (P3, oP3), (Nu, oNu), (cL, oL), (cA, oA), (P, oTab)] ++ (rowsL ++ ((rowsS ++ [(R1, W.listOf (List.toArray rv) kR)]) ++ (rowsA ++ [(Di, W.listOf (List.toArray isx) kDi)])))), oc, rfl, F, news_sub N (by walk_at "sub"), ⟨z, hz⟩, fun p hp => ?_, ⟨Sh2, Ap2, _, _, _, _, _, _, rfl, RS.snoc hrv, RA.snoc hisx, m1, m2, m3⟩⟩
  · rcases List.mem_cons.mp hp with rfl | hp
    · exact o2
    rcases List.mem_cons.mp hp with rfl | hp
    · exact o4
    rcases List.mem_append.mp hp with hp | hp
    · exact off0 p (List.mem_cons_of_mem _ (List.mem_cons_of_mem _ (List.mem_append_left _ hp)))
    rcases List.mem_append.mp hp with hp | hp
    · exact off0 p (List.mem_cons_of_mem _ (List.mem_cons_of_mem _ (List.mem_append_right _ (List.mem_append_left _ hp))))
    rcases List.mem_append.mp hp with hp | hp
    · rcases List.mem_append.mp hp with hp | hp
      · exact off0 p (List.mem_cons_of_mem _ (List.mem_cons_of_mem _ (List.mem_append_right _ (List.mem_append_right _ (List.mem_append_left _ hp)))))
      · rw [List.mem_singleton.mp hp]; exact o1
    · rcases List.mem_append.mp hp with hp | hp
      · exact off0 p (List.mem_cons_of_mem _ (List.mem_cons_of_mem _ (List.mem_append_right _ (List.mem_append_right _ (List.mem_append_right _ hp)))))
      · rw [List.mem_singleton.mp hp]; exact o3
end
section
theorem pick_mid (vs : List Value) (j : Nat) (z : Int) (hz : z = (j : Int)) : (slicePick vs.toArray (some 1) (some z) none).toList = (vs.take j).drop 1 := by
  subst hz
  have e : sliceBounds (some 1) (some (j : Int)) none vs.toArray.size = (((min 1 vs.toArray.size : Nat) : Int), ((min j vs.toArray.size : Nat) : Int), 1) := by
    simp only [sliceBounds, Option.getD_none, show (1 : Int) > 0 by decide, if_true, if_neg (show ¬ ((j : Int) < 0) by lia), if_neg (show ¬ ((1 : Int) < 0) by lia)]
    congr 1
    · lia
    · congr 1
      lia
  rw [kmk_pick_nat _ e]
  show (vs.drop (min 1 vs.toArray.size)).take (min j vs.toArray.size - min 1 vs.toArray.size) = _
  rw [List.size_toArray]
  cases vs with
  | nil => simp
  | cons v r =>
    have h1 : min 1 (v :: r).length = 1 := Nat.min_eq_left (by simp)
    rw [h1, List.drop_take]
    show r.take (min j (r.length + 1) - 1) = r.take (j - 1)
    by_cases h : j ≤ r.length + 1
    · rw [Nat.min_eq_left h]
    · rw [Nat.min_eq_right (by lia), List.take_of_length_le (by lia), List.take_of_length_le (by lia)]
theorem pick_to (vs : List Value) (j : Nat) (z : Int) (hz : z = (j : Int)) : (slicePick vs.toArray none (some z) none).toList = vs.take j := by
  subst hz
  have e : sliceBounds none (some (j : Int)) none vs.toArray.size = (((0 : Nat) : Int), ((min j vs.toArray.size : Nat) : Int), 1) := by
    simp only [sliceBounds, Option.getD_none, show (1 : Int) > 0 by decide, if_true, if_neg (show ¬ ((j : Int) < 0) by lia)]
    congr 1
    congr 1
    lia
  rw [kmk_pick_nat _ e]
  show (vs.drop 0).take (min j vs.toArray.size - 0) = _
  rw [List.drop_zero, Nat.sub_zero, List.size_toArray, kmk_take_min]
theorem new_keep {M : Model} {A : Around} {E : Value → Shared → Prop} {s : Shared} {h₀ : Heap} {L : Addr} {m : Str → Option Value} {news : List (Addr × Obj)} {vs : List Value} {Q : Value → Shared → Prop} (F : Fr h₀ L s.heap m) (N : News h₀ L s.heap news) (hz : vs.length ≤ sizeLine)
    (h : ∀ D h', Fr h₀ L h' m → News h₀ L h' ((D, W.listOf (List.toArray vs) 0) :: news) → s.heap.StaysIn h' → s.heap.get? D = none → h'.get? D = some (W.listOf (List.toArray vs) 0) → Q (.ref D) { s with heap := h' }) : wpAny M A (newList vs) Q E s := by
  refine wpAny_newList (h _ _ (F.push _) (News.push F N _ rfl) (fun b o e => Heap.get?_push_of_some _ e) (Heap.get?_none_of_le (Nat.le_refl _)) (Heap.get?_push_size _ rfl)) hz
theorem news_dup {h₀ h : Heap} {L : Addr} {news : List (Addr × Obj)} {p : Addr × Obj} (N : News h₀ L h news) (hp : p ∈ news) : News h₀ L h (p :: news) := fun q hq => by
  rcases List.mem_cons.mp hq with rfl | hq
  · exact N _ hp
  · exact N q hq
end
theorem kw_c_dueN_0 : True := by
  k_with_none
  (k_with "k_room" => (ktr_room))
  (k_with "con sub" => (first | exact List.forall_mem_nil _ | k_extra "sub" | (simp only [List.forall_mem_cons]; refine ⟨?_, ?_⟩ <;> first | exact List.forall_mem_nil _ | k_mem | k_extra "con sub") | k_sub))
  (k_with "con enter" => ((refine wpAny_call ?_; (refine' code_defG (by assumption) (by assumption) (by assumption) (by assumption) (by assumption) (by exact rfl) (by exact rfl) (by exact rfl) (by k_is) (by k_is) (by k_room) (by first | exact BindsTo.of_eq rfl | exact binds_K (by k_in) rfl (by k_is) rfl rfl rfl | fail "k_enter: no rule for these arguments") (by exact locs rfl) ?_ (by exact rfl) (by exact rfl) (by exact rfl) (by decide); k_whole))))
  (k_with "con start" => ((dsimp only [Con, fnSc]; intros; rename_i hret)))
  (k_with "LeaveK" => ((k_dflt (refine' leave_con (by with_reducible assumption) (by assumption) (by k_asm) (by k_asm) (by k_extra "con sub") ?_; k_whole); intro _; (try dsimp only))))
  (k_with "con enterC" => ((refine wpAny_call ?_; (refine' enter_cells (by assumption) (by assumption) (by assumption) (by assumption) (by assumption) (by exact rfl) (by exact rfl) (by exact rfl) (by k_is) (by k_is) (by k_room) (by exact BindsTo.of_eq rfl) (by exact rfl) (by decide +kernel) ?_ (by exact rfl) (by exact rfl) (by exact rfl); k_whole))))
  (k_with "con enterR" => ((refine wpAny_call ?_; (refine' enter_rest (by assumption) (by assumption) (by assumption) (by assumption) (by assumption) (by exact rfl) (by exact rfl) (by exact rfl) (by k_is) (by k_is) (by k_room) (by exact rfl) (by exact fun _ => locs rfl) ?_ (by exact rfl) (by exact rfl) (by exact rfl) (by decide); k_whole))))
  (k_with "callWith" => ((k_here; (with_reducible show wpAny _ _ (callWith _ (Value.builtin _) (_ :: _) (backTo _ (starEach (_ :: _) _)) []) _ _ _); (with_reducible refine' callWith_method1 ?_ (by k_dflt (exact rfl)) (by k_dflt (exact rfl))))))
  (k_with "mem at" => (with_reducible (first | exact List.mem_cons_self | exact List.Mem.head _ | (refine List.mem_cons_of_mem _ ?_; k_extra "mem at") | (refine List.mem_append_left _ ?_; k_extra "mem at") | (refine List.mem_append_right _ ?_; k_extra "mem at"))))
  (k_with "mem in" => (with_reducible (first | assumption | (refine List.mem_cons_of_mem _ ?_; k_extra "mem in") | (refine List.mem_append_right _ ?_; k_extra "mem in") | (refine List.mem_append_left _ ?_; k_extra "mem in"))))
  (k_with "sub" => (with_reducible (first | exact sub_nil | exact sub_refl | (refine sub_cons ?_ ?_; (focus k_extra "mem at"); k_extra "sub") | (refine subs_app ?_ ?_; (focus k_extra "sub"); k_extra "sub") | (intro _ _; k_extra "mem in"))))
  (k_with "int small" => (first | lia | ((simp (config := { decide := true }) only [] at *); lia) | (simp; lia)))
  (k_with "binaryOp Mult int int" => ((k_here; (with_reducible show wpAny _ _ (binaryOp Operator.Mult (Value.int _ _) (Value.int _ _)) _ _ _); refine' PyProof.Rows.mul_int ?_ (by first | exact IntMulOk.of_left (bits64 (by k_extra "int small") (by k_extra "int small")) | exact IntMulOk.of_right (bits64 (by k_extra "int small") (by k_extra "int small"))))))
  (k_with "no while" => (repeat' ((fail_if_success (with_reducible show wpAny _ _ (exec (Stmt.While _ _ _ _) _) _ _ _)); (first | (k_unfold; (try dsimp only)) | (k_end; wrow_close) | (walk1 <;> (try dsimp only)) | (dsimp only; walk1) | (leave1; walk_say "STEP leave1"; try dsimp only) | fail "no step"))))
  (k_with "size small" => (first | size_fits | ((simp only [List.length_cons, List.length_nil, List.length_append, sizeLine_eq] at *); lia)))
  (k_with "binaryOp Add ref ref" => ((k_here; (with_reducible show wpAny _ _ (binaryOp _ (Value.ref _) (Value.ref _)) _ _ _); k_dflt (refine' add_lst (by k_asm) (by k_asm) (by k_mem) (by k_mem) ?_ (by k_extra "size small")); intro _ _ _ _ l1w9; (try k_lt l1w9); (try k_sweep))))
  (k_with "subscriptTail" => ((k_here; (with_reducible show wpAny _ _ (subscriptTail _ _ (Value.ref _) (Value.int _ _)) _ _ _); k_dflt (refine' item_lit (by k_asm) (by k_mem) (by exact rfl) (by decide) (by decide) ?_ (by with_unfolding_all rfl); k_whole))))
  (k_with "subscriptTail Name BinOp ref int" => (walk_at "subscriptTail"))
  (k_with "subscriptTail Name Name ref int" => (walk_at "subscriptTail"))
  (k_with "subscriptTail Name Constant ref int" => (walk_at "subscriptTail"))
  (k_with "CompEnd" => ((refine compEnd_lt (by assumption) ?_; intro l9'w9; k_lt l9'w9; lcg_end)))
  (k_with "FinE" => (((unfold LCg.FinE); intro _ _ _ _ N'w9 _; (try dsimp only [List.nil_append, List.cons_append] at N'w9); (try dsimp only))))
  (k_with "FinA" => (((unfold LCg.FinA); intro _ _ _ _ N'w9 _; (try dsimp only [List.nil_append, List.cons_append] at N'w9); (try dsimp only))))
  (k_with "lcg_off" => (first | exact True.intro | (with_reducible assumption) | (refine And.intro (by first | exact off3_at _ _ (by assumption) (by k_mem) rfl | exact ⟨by k_ne, by k_ne, by k_ne⟩) ?_; lcg_off) | (refine And.intro (by k_ne) ?_; lcg_off)))
  (k_with "SeqSrc" => ((k_here; k_dflt ((refine SeqSrc.is (by rfl) (by k_asm) (by k_asm) (by k_mem) (by first | exact Or.inl rfl | exact Or.inr rfl) (by first | size_fits | exact Nat.le_of_ble_eq_true rfl) ?_); intro _; lcg_lit))))
  (k_with "CompRest" => ((with_unfolding_all first
  | (refine LCg.CompRest.succ ?_; intro _ _ _ _ _ _ _ _ _ _ hv'w9 _ _ _ _ _ ne'w9; (replace hv'w9 := Option.some.inj hv'w9; (first | subst hv'w9 | dsimp only at hv'w9; subst hv'w9)); (replace ne'w9 : NeP _ _ _ := ne'w9))
  | refine LCg.CompRest.zero ?_)))
  (k_with "and" => ((with_reducible first | exact And.left (by assumption) | exact And.left (And.right (by assumption)) | exact And.left (And.right (And.right (by assumption))) | exact And.left (And.right (And.right (And.right (by assumption)))) | exact And.left (And.right (And.right (And.right (And.right (by assumption))))) | exact And.left (And.right (And.right (And.right (And.right (And.right (by assumption)))))) | exact And.left (And.right (And.right (And.right (And.right (And.right (And.right (by assumption))))))) | exact And.left (And.right (And.right (And.right (And.right (And.right (And.right (And.right (by assumption)))))))) | exact And.left (And.right (And.right (And.right (And.right (And.right (And.right (And.right (And.right (by assumption))))))))) | exact And.left (And.right (And.right (And.right (And.right (And.right (And.right (And.right (And.right (And.right (by assumption)))))))))) | exact And.left (And.right (And.right (And.right (And.right (And.right (And.right (And.right (And.right (And.right (And.right (by assumption))))))))))) | exact And.left (And.right (And.right (And.right (And.right (And.right (And.right (And.right (And.right (And.right (And.right (And.right (by assumption)))))))))))) | exact And.left (And.right (And.right (And.right (And.right (And.right (And.right (And.right (And.right (And.right (And.right (And.right (And.right (by assumption))))))))))))) | exact And.left (And.right (And.right (And.right (And.right (And.right (And.right (And.right (And.right (And.right (And.right (And.right (And.right (And.right (by assumption)))))))))))))) | exact And.left (And.right (And.right (And.right (And.right (And.right (And.right (And.right (And.right (And.right (And.right (And.right (And.right (And.right (And.right (by assumption))))))))))))))) | exact And.left (And.right (And.right (And.right (And.right (And.right (And.right (And.right (And.right (And.right (And.right (And.right (And.right (And.right (And.right (And.right (by assumption)))))))))))))))) | exact And.right (by assumption) | exact And.right (And.right (by assumption)) | exact And.right (And.right (And.right (by assumption))) | exact And.right (And.right (And.right (And.right (by assumption)))) | exact And.right (And.right (And.right (And.right (And.right (by assumption))))) | exact And.right (And.right (And.right (And.right (And.right (And.right (by assumption)))))) | exact And.right (And.right (And.right (And.right (And.right (And.right (And.right (by assumption))))))) | exact And.right (And.right (And.right (And.right (And.right (And.right (And.right (And.right (by assumption)))))))) | exact And.right (And.right (And.right (And.right (And.right (And.right (And.right (And.right (And.right (by assumption))))))))) | exact And.right (And.right (And.right (And.right (And.right (And.right (And.right (And.right (And.right (And.right (by assumption)))))))))) | exact And.right (And.right (And.right (And.right (And.right (And.right (And.right (And.right (And.right (And.right (And.right (by assumption))))))))))))))
  (k_with "and3" => ((with_reducible first | exact And.left (And.left (by assumption)) | exact And.left (And.right (And.left (by assumption))) | exact And.right (And.right (And.left (by assumption))) | exact And.left (And.left (And.right (by assumption))) | exact And.left (And.right (And.left (And.right (by assumption)))) | exact And.right (And.right (And.left (And.right (by assumption)))) | exact And.left (And.left (And.right (And.right (by assumption)))) | exact And.left (And.right (And.left (And.right (And.right (by assumption))))) | exact And.right (And.right (And.left (And.right (And.right (by assumption))))) | exact And.left (And.left (And.right (And.right (And.right (by assumption))))) | exact And.left (And.right (And.left (And.right (And.right (And.right (by assumption)))))) | exact And.right (And.right (And.left (And.right (And.right (And.right (by assumption)))))) | exact And.left (And.left (And.right (And.right (And.right (And.right (by assumption)))))) | exact And.left (And.right (And.left (And.right (And.right (And.right (And.right (by assumption))))))) | exact And.right (And.right (And.left (And.right (And.right (And.right (And.right (by assumption))))))) | exact And.left (And.left (And.right (And.right (And.right (And.right (And.right (by assumption))))))) | exact And.left (And.right (And.left (And.right (And.right (And.right (And.right (And.right (by assumption)))))))) | exact And.right (And.right (And.left (And.right (And.right (And.right (And.right (And.right (by assumption)))))))) | exact And.left (And.left (And.right (And.right (And.right (And.right (And.right (And.right (by assumption)))))))) | exact And.left (And.right (And.left (And.right (And.right (And.right (And.right (And.right (And.right (by assumption))))))))) | exact And.right (And.right (And.left (And.right (And.right (And.right (And.right (And.right (And.right (by assumption))))))))) | exact And.left (And.left (And.right (And.right (And.right (And.right (And.right (And.right (And.right (by assumption))))))))) | exact And.left (And.right (And.left (And.right (And.right (And.right (And.right (And.right (And.right (And.right (by assumption)))))))))) | exact And.right (And.right (And.left (And.right (And.right (And.right (And.right (And.right (And.right (And.right (by assumption)))))))))) | exact And.left (And.left (And.right (And.right (And.right (And.right (And.right (And.right (And.right (And.right (by assumption)))))))))) | exact And.left (And.right (And.left (And.right (And.right (And.right (And.right (And.right (And.right (And.right (And.right (by assumption))))))))))) | exact And.right (And.right (And.left (And.right (And.right (And.right (And.right (And.right (And.right (And.right (And.right (by assumption))))))))))))))
  (k_with "k_ne" => (first | (with_reducible assumption) | (with_reducible exact Ne.symm (by assumption)) | (refine neN ?_; (try dsimp only); first | (with_reducible assumption) | (with_reducible exact Nat.ne_of_lt (by assumption)) | (with_reducible exact Nat.ne_of_gt (by assumption)) | (with_reducible exact Nat.ne_of_lt (by k_extra "and")) | (with_reducible exact Nat.ne_of_gt (by k_extra "and")) | assumption | exact Ne.symm (by assumption) | k_extra "ne off" | (with_reducible exact Ne.symm (by k_extra "and3")) | (with_reducible k_extra "and3") | (with_reducible exact Ne.symm (by k_extra "and")) | (with_reducible k_extra "and") | lia) | assumption | exact Ne.symm (by assumption)))
  (k_with "ne off" => (first | exact off1_at (by assumption) (by k_mem) | exact Ne.symm (off1_at (by assumption) (by k_mem)) | exact neP1 (by assumption) | exact neP2 (by assumption) | exact neP3 (by assumption) | exact Ne.symm (neP1 (by assumption)) | exact Ne.symm (neP2 (by assumption)) | exact Ne.symm (neP3 (by assumption)) | exact off3_at1 (by assumption) (by k_mem) | exact off3_at2 (by assumption) (by k_mem) | exact off3_at3 (by assumption) (by k_mem) | exact Ne.symm (off3_at1 (by assumption) (by k_mem)) | exact Ne.symm (off3_at2 (by assumption) (by k_mem)) | exact Ne.symm (off3_at3 (by assumption) (by k_mem))))
  (k_with "lcg_src" => (k_mem))
  (k_with "comp seq" => ((k_dflt (refine comp_seq (_F₀ := by k_asm) (by rfl) (by decide) (by rfl) (by decide) (by rfl) ?_))))
  (k_with "assign comp seq" => ((k_dflt (refine assign_comp_seq (_F₀ := by k_asm) (by rfl) (by with_unfolding_all rfl) (by rfl) (by decide) (by rfl) (by decide) (by rfl) (by rfl) (by rfl) ?_))))
  (k_with "no comp" => (repeat' ((fail_if_success (with_reducible show wpAny _ _ (exec (Stmt.Assign [Expr.Name _ _] (Expr.ListComp _ _ _ _) _) _) _ _ _)); (fail_if_success (with_reducible show wpAny _ _ (eval (Expr.ListComp _ _ _ _) _) _ _ _)); (first | (k_unfold; (try dsimp only)) | (k_end; wrow_close) | (walk1 <;> (try dsimp only)) | (dsimp only; walk1) | (leave1; walk_say "STEP leave1"; try dsimp only) | fail "no step"))))
  trivial
--DSL
section
variable {w : World} {loose : List Str} {mean : ExcName → Option Value} {mg mb : Str → Option Value}
noncomputable def dPr (w : Nat → Int) : Nat → Int
  | 0 => 1
  | k + 1 => dPr w k * w k
noncomputable def dSu (w : Nat → Int) : Nat → Int
  | 0 => 0
  | k + 1 => dSu w k + w k
noncomputable def dFa (w : Nat → Int) (k : Nat) : Int := -(Int.fdiv ((-2) ^ (k + 1)) 2) * dSu w (k + 1) * dPr w (k + 1)
theorem row_item {prog : Program} {A : Around} {E : Value → Shared → Prop} {s : Shared} {h₀ : Heap} {L : Addr} {news : List (Addr × Obj)} {value slice : PySem.Expr} {a : Addr} {n i kk : Nat} {j : Int} {M : Nat → Int} {vs : List Value} {u : Tok} {Q : Value → Shared → Prop}
    (N : News h₀ L s.heap news) (ha : (a, W.listOf vs.toArray kk) ∈ news) (hM : RowOf n M vs) (hi : i < n) (hz : n ≤ 100) (hj : j = (i : Int)) (h : ∀ t, Q (.int (M i) t) s)
    (hs : subscripted slice false (.ref a) (.int j u) = operate [.ref a, .int j u] (getItem (.ref a) (.int j u))) :
    wpAny (model prog w) A (subscriptTail value slice (.ref a) (.int j u)) Q E s := by
  subst hj; exact cell_get N ha hM hi hz h hs
theorem kw_c_dueN_1 : True := by
  (k_with "call builtin:list.append" => ((k_here; (with_reducible show wpAny _ _ (call (Value.builtin _) [Value.ref _, _]) _ _ _); k_dflt (refine' app_any (by k_asm) (by k_asm) (by k_updF) (by assumption) ?_); intro _ _ _ N'w9; (try dsimp only at N'w9); (try k_sweep))))
  (k_with "no iter" => (repeat' ((fail_if_success (with_reducible show wpAny _ _ (pyIter (Value.ref _)) (fun it s₂ => LoopAtV _ _ _ _ _ _ _ _ _ it s₂) _ _)); (first | (k_unfold; (try dsimp only)) | (k_end; wrow_close) | (walk1 <;> (try dsimp only)) | (dsimp only; walk1) | (leave1; walk_say "STEP leave1"; try dsimp only) | fail "no step"))))
  (k_with "ends" => (repeat' ((fail_if_success (with_reducible show InvPostN _ _ _ _ _ _ _ _ _)); (first | (k_unfold; (try dsimp only)) | (k_end; wrow_close) | (walk1 <;> (try dsimp only)) | (dsimp only; walk1) | (leave1; walk_say "STEP leave1"; try dsimp only) | fail "no step"))))
  (k_with "subscriptTail" => ((k_here; (with_reducible show wpAny _ _ (subscriptTail _ _ (Value.ref _) (Value.int _ _)) _ _ _); k_dflt (refine' row_item (by k_asm) (by k_mem) (by assumption) (by assumption) (by decide) (by lia) ?_ (by with_unfolding_all rfl); intro _))))
  (k_with "subscriptTail Name BinOp ref int" => (walk_at "subscriptTail"))
  (k_with "subscriptTail Name Constant ref int" => (walk_at "subscriptTail"))
  (k_with "k_all" => (first | assumption | exact List.forall_mem_nil _ | (refine List.forall_mem_cons.mpr ⟨?_, ?_⟩; k_ne; k_all)))
  trivial
inductive DueI (w : Nat → Int) (l Nr Fa : Addr) (oL : Obj) (k : Nat) (m : Str → Option Value) (nx : List (Addr × Obj)) : Prop
  | mk (vn vf : List Value) (kn kf : Nat) (tp ts : Tok) (hnx : nx = [(Nr, W.listOf (List.toArray vn) kn), (Fa, W.listOf (List.toArray vf) kf), (l, oL)]) (hn : IntsAre vn ((List.range k).map fun i => dPr w (i + 1))) (hf : IntsAre vf (w 0 :: (List.range k).map (dFa w)))
    (m1 : m (Str.ofString "product") = some (.int (dPr w k) tp)) (m2 : m (Str.ofString "total") = some (.int (dSu w k) ts)) (m3 : m (Str.ofString "near") = some (.ref Nr)) (m4 : m (Str.ofString "far") = some (.ref Fa)) (m5 : m (Str.ofString "weights") = some (.ref l)) : DueI w l Nr Fa oL k m nx
inductive DueS (g : Heap) (L : Addr) (h : Heap) (wf : Nat → Int) (l : Addr) (oL : Obj) : Prop
  | mk (Nr Fa : Addr) (kn kf : Nat) (t0 tp ts : Tok) (m0 : Str → Option Value) (F : Fr g L h m0) (N : News g L h [(Nr, W.listOf (List.toArray []) kn), (Fa, W.listOf [Value.int (wf 0) t0].toArray kf), (l, oL)]) (m1 : m0 (Str.ofString "product") = some (.int 1 tp)) (m2 : m0 (Str.ofString "total") = some (.int 0 ts)) (m3 : m0 (Str.ofString "near") = some (.ref Nr)) (m4 : m0 (Str.ofString "far") = some (.ref Fa)) (m5 : m0 (Str.ofString "weights") = some (.ref l)) (a1 : @LT.lt Nat _ l Nr) (a2 : @LT.lt Nat _ Nr Fa) (a3 : @LT.lt Nat _ l Fa) : DueS g L h wf l oL
theorem all6 {P : Str × Value → Prop} {a b c d e f : Str × Value} (h1 : P a) (h2 : P b) (h3 : P c) (h4 : P d) (h5 : P e) (h6 : P f) : ∀ p ∈ [a, b, c, d, e, f], P p := fun p hp => by
  simp only [List.mem_cons, List.not_mem_nil, or_false] at hp
  rcases hp with rfl | rfl | rfl | rfl | rfl | rfl <;> assumption
theorem dPr_bd {w : Nat → Int} (hw : ∀ k, 2 ≤ w k ∧ w k ≤ 6) : ∀ k, k < 6 → 0 ≤ dPr w k ∧ dPr w k ≤ 6 ^ k
  | 0, _ => by simp [dPr]
  | k + 1, h => by
    have ⟨a, b⟩ := dPr_bd hw k (by lia)
    have ⟨c, d⟩ := hw k
    unfold dPr
    rw [Int.pow_succ]
    exact ⟨Int.mul_nonneg a (by lia), Int.mul_le_mul b d (by lia) (Int.pow_nonneg (by decide))⟩
theorem dSu_bd {w : Nat → Int} (hw : ∀ k, 2 ≤ w k ∧ w k ≤ 6) : ∀ k, 0 ≤ dSu w k ∧ dSu w k ≤ 6 * k
  | 0 => by simp [dSu]
  | k + 1 => by
    have ⟨a, b⟩ := dSu_bd hw k
    have ⟨c, d⟩ := hw k
    unfold dSu
    lia
theorem pw_bd : ∀ k : Nat, k < 5 → -16 ≤ -(Int.fdiv ((-2) ^ (1 + (k : Int)).toNat) 2) ∧ -(Int.fdiv ((-2) ^ (1 + (k : Int)).toNat) 2) ≤ 16 := by decide
theorem mul_bd {x y a b : Int} (h1 : -a ≤ x) (h2 : x ≤ a) (h3 : 0 ≤ y) (h4 : y ≤ b) (ha : 0 ≤ a) : -(a * b) ≤ x * y ∧ x * y ≤ a * b := by
  have e1 := Int.mul_le_mul_of_nonneg_right h2 h3
  have e2 := Int.mul_le_mul_of_nonneg_right h1 h3
  have e3 := Int.mul_le_mul_of_nonneg_left h4 ha
  rw [Int.neg_mul] at e2
  lia
theorem dFa_at (w : Nat → Int) (k : Nat) : -(Int.fdiv ((-2) ^ (1 + (k : Int)).toNat) 2) * (dSu w k + w k) * (dPr w k * w k) = dFa w k := by
  rw [show (1 + (k : Int)).toNat = k + 1 by lia]; rfl
theorem map_snoc {f : Nat → Int} {vs : List Value} {k : Nat} {t : Tok} {x : Int} (h : IntsAre vs ((List.range k).map f)) (e : x = f k) : IntsAre (vs ++ [.int x t]) ((List.range (k + 1)).map f) := by
  rw [List.range_succ, List.map_append]
  subst e
  exact IntsAre.append h (.cons _ _ .nil)
theorem map_snoc' {a : Int} {f : Nat → Int} {vs : List Value} {k : Nat} {t : Tok} {x : Int} (h : IntsAre vs (a :: (List.range k).map f)) (e : x = f k) : IntsAre (vs ++ [.int x t]) (a :: (List.range (k + 1)).map f) := by
  rw [List.range_succ, List.map_append]
  subst e
  exact IntsAre.append h (.cons _ _ .nil)
theorem dueN_eq (w : Nat → Int) : (List.range 5).map (fun i => dPr w (i + 1)) = dueNear (w 0) (w 1) (w 2) (w 3) (w 4) := by
  simp [dueNear, dPr, List.range_succ]
theorem dueF_eq (w : Nat → Int) : w 0 :: (List.range 5).map (dFa w) = dueFar (w 0) (w 1) (w 2) (w 3) (w 4) := by
  simp [dueFar, dFa, dPr, dSu, List.range_succ]
set_option maxRecDepth 100000 in
set_option maxHeartbeats 8000000 in
theorem c_dueN {l : Addr} {n : Nat} {wf : Nat → Int} {vs : List Value} (hv : RowOf 5 wf vs) (hw : ∀ k, 2 ≤ wf k ∧ wf k ≤ 6) : Con w loose mean mg mb 2 245 [(l, W.listOf vs.toArray n)] [.ref l] (DueP (wf 0) (wf 1) (wf 2) (wf 3) (wf 4)) := by
  dsimp only [Con, fnSc]
  intro dp un gd cn ns ig ic mr a ccd cl outer A₀ base h₀ L m s Q E B0 F0 X0 N0 T0 hd0 hu0 hret
  walk_at "con enter"
  intro g L' hh1 FG F1 N1 B1 X1 T1 kG; (try dsimp only); (try k_lift B1); (try k_fold)
  have i0 : 0 < 5 := by decide
  walk_at "no iter"
  clear i0
  rename IsRange _ _ _ _ _ _ _ _ => HR
  rename Fr g _ _ _ => F2
  rename News g _ _ _ => N2
  obtain ⟨Nr, Fa, kn, kf, t0, tp, ts, m0, F3, N3, m1, m2, m3, m4, m5, a1, a2, a3⟩ : DueS g L' _ wf l (W.listOf vs.toArray n) :=
    ⟨_, _, _, _, _, _, _, _, F2, news_sub N2 (sub_cons (by k_mem) (sub_cons (by k_mem) (sub_cons (by k_mem) sub_nil))), rfl, rfl, rfl, rfl, rfl, by walk_at "and", by walk_at "and", by walk_at "and"⟩
  clear F2 N2
  refine range_inv (n := 5) (DueI wf l Nr Fa (W.listOf vs.toArray n)) rfl HR (range_small _ _ 5 (by decide) (by decide) (by decide)) (range_size _ _ 5 (by decide)) F3 N3 ?_ ?_ ?_
  · exact ⟨[], _, kn, kf, tp, ts, rfl, .nil, .cons _ _ .nil, m1, m2, m3, m4, m5⟩
  · rintro k t m₁ nx h tk own hk hadr hown ⟨vn, vf, kn1, kf1, tp1, ts1, rfl, hn, hf, q1, q2, q3, q4, q5⟩ F4 N4
    replace F4 := frL [(Str.ofString "count", .int (1 + (k : Int)) t), (Str.ofString "product", .int (dPr wf k) tp1), (Str.ofString "total", .int (dSu wf k) ts1), (Str.ofString "near", .ref Nr), (Str.ofString "far", .ref Fa), (Str.ofString "weights", .ref l)] F4 (all6 rfl q1 q2 q3 q4 q5)
    dsimp only [chainL] at F4
    dsimp only [List.cons_append, List.nil_append] at N4
    have o1 : ∀ p ∈ own, p.1 ≠ Nr := fun p hp => hown p hp _ (by simp)
    have o2 : ∀ p ∈ own, p.1 ≠ Fa := fun p hp => hown p hp _ (by simp)
    have hvn : vn.length ≤ 1000 := by rw [hn.length, List.length_map, List.length_range]; lia
    have hvf : vf.length ≤ 1000 := by rw [hf.length, List.length_cons, List.length_map, List.length_range]; lia
    obtain ⟨b1, b2⟩ := dPr_bd hw k (by lia)
    obtain ⟨b3, b4⟩ := dSu_bd hw k
    have b5 : (6 : Int) ^ k ≤ 6 ^ 5 := by
      have := Nat.pow_le_pow_right (show 0 < 6 by decide) (show k ≤ 5 by lia)
      exact_mod_cast this
    replace b2 : dPr wf k ≤ 7776 := Int.le_trans b2 b5
    clear b5
    obtain ⟨b6, b7⟩ := pw_bd k hk
    obtain ⟨b8, b9⟩ := hw k
    obtain ⟨c1, c2⟩ := mul_bd b6 b7 (show 0 ≤ dSu wf k + wf k by lia) (show dSu wf k + wf k ≤ 36 by lia) (by decide)
    dsimp only
    walk_at "ends"
    show InvEndN _ _ _ _ _ _ _
    rename Fr g _ _ _ => F8
    rename News g _ _ _ => N8
    obtain ⟨ta, tb, ka, kb, N9⟩ : ∃ ta tb ka kb, News g _ _ ((Nr, W.listOf (List.toArray (vn ++ [Value.int (dPr wf k * wf k) ta])) ka) :: (Fa, W.listOf (List.toArray (vf ++ [Value.int (-(Int.fdiv ((-2) ^ (1 + (k : Int)).toNat) 2) * (dSu wf k + wf k) * (dPr wf k * wf k)) tb])) kb) :: (l, W.listOf vs.toArray n) :: own) := ⟨_, _, _, _, N8⟩
    refine InvEndN.intro F8 N9 (nx := [(Nr, W.listOf (List.toArray (vn ++ [Value.int (dPr wf k * wf k) ta])) ka), (Fa, W.listOf (List.toArray (vf ++ [Value.int (-(Int.fdiv ((-2) ^ (1 + (k : Int)).toNat) 2) * (dSu wf k + wf k) * (dPr wf k * wf k)) tb])) kb), (l, W.listOf vs.toArray n)]) ⟨_, _, _, _, _, _, rfl, map_snoc hn rfl, map_snoc' hf (dFa_at wf k), rfl, rfl, rfl, rfl, rfl⟩ rfl ?_ ?_
    · exact sub_cons (by k_mem) (sub_cons (by k_mem) (sub_cons (by k_mem) sub_nil))
    · exact fun p hp => List.mem_cons_of_mem _ (List.mem_cons_of_mem _ (List.mem_cons_of_mem _ hp))
  · rintro m₁ nx h tk ⟨vn, vf, kn1, kf1, tp1, ts1, rfl, hn, hf, q1, q2, q3, q4, q5⟩ F4 N4
    replace F4 := frL [(Str.ofString "near", .ref Nr), (Str.ofString "far", .ref Fa)] F4 (all2 q3 q4)
    dsimp only [chainL] at F4
    (try dsimp only)
    (repeat' (first | (k_unfold; (try dsimp only)) | (k_end; wrow_close) | (walk1 <;> (try dsimp only)) | (dsimp only; walk1) | (leave1; walk_say "STEP leave1"; try dsimp only) | fail "no step"))
    rename News g _ _ _ => N9
    have kN : Nr ∉ [l] := by rw [List.mem_singleton]; exact Nat.ne_of_gt a1
    have kF : Fa ∉ [l] := by rw [List.mem_singleton]; exact Nat.ne_of_gt a3
    refine hret _ _ _ (by assumption) ⟨_, _, _, _, _, vn, vf, rfl, news_at N9 (by k_mem), news_at N9 (by k_mem), news_at N9 (by k_mem), fresh_of kG N9 (by k_mem) ?_, fresh_of kG N9 (by k_mem) kN, fresh_of kG N9 (by k_mem) kF, ints_cast hn (dueN_eq wf), ints_cast hf (dueF_eq wf)⟩
    rw [List.map_cons, List.map_nil, List.mem_singleton]; k_ne
end
section
theorem news_more {h₀ H h' : Heap} {L : Addr} {m : Str → Option Value} {news : List (Addr × Obj)} {l : List (Addr × Obj)} (F : Fr h₀ L H m) (N : News h₀ L h' news) (hl : ∀ p ∈ l, h'.get? p.1 = some p.2 ∧ H.get? p.1 = none) : News h₀ L h' (l ++ news) := fun p hp => by
  rcases List.mem_append.mp hp with hp | hp
  · exact ⟨(hl p hp).1, ne_frame F (hl p hp).2, none_of_stays F.keep (hl p hp).2⟩
  · exact N p hp
noncomputable def nearM (q : Nat → Int) (i j : Nat) : Int := ((shI q (i + 1)).drop 1).getD j 0
noncomputable def farM (q : Nat → Int) (i j : Nat) : Int := (apI q i).getD j 0
noncomputable def exch : Nat → Nat
  | 0 => 1
  | 1 => 0
  | n + 2 => n + 2
noncomputable def wtI (q : Nat → Int) (k : Nat) : Int := Int.fmod (Int.fdiv (q k) 256) 5 + 2
theorem wtI_ok (q : Nat → Int) (k : Nat) : 2 ≤ wtI q k ∧ wtI q k ≤ 6 := by
  unfold wtI
  have := Int.fmod_nonneg_of_pos (Int.fdiv (q k) 256) (show (0 : Int) < 5 by decide)
  have := Int.fmod_lt_of_pos (Int.fdiv (q k) 256) (show (0 : Int) < 5 by decide)
  lia
theorem near_row {q : Nat → Int} {i : Nat} {zs : List Value} (h : IntsAre zs ((shI q (i + 1)).drop 1)) : RowOf (i + 1) (nearM q i) zs := by
  have := row_ints h
  rwa [show ((shI q (i + 1)).drop 1).length = i + 1 by unfold shI; simp] at this
theorem far_row {q : Nat → Int} {i : Nat} {zs : List Value} (h : IntsAre zs (apI q i)) : RowOf (i + 1) (farM q i) zs := by
  have := row_ints h
  rwa [show (apI q i).length = i + 1 by unfold apI; simp] at this
theorem tri_rows {G : Nat → List Value → Prop} {M : Nat → Nat → Int} {n : Nat} {ys : List Value} {rows : List (Addr × Obj)} (R : RowsAre G n ys rows) (h : ∀ i zs, G i zs → RowOf (i + 1) (M i) zs) : TriN (rows.map (·.1)) M rows := fun i hi => by
  rw [List.length_map, R.len] at hi
  obtain ⟨a, zs, k, h1, h2, h3⟩ := R.at hi
  exact ⟨a, zs, k, by rw [List.getElem?_map, h1]; rfl, List.mem_of_getElem? h1, h _ _ h3⟩
theorem refs_map {n : Nat} {G : Nat → List Value → Prop} {ys : List Value} {rows : List (Addr × Obj)} (R : RowsAre G n ys rows) : ys = (rows.map (·.1)).map Value.ref := by rw [R.refs, List.map_map]; rfl
theorem map_refs (rows : List (Addr × Obj)) : (rows.map fun p => Value.ref p.1) = (rows.map (·.1)).map Value.ref := by rw [List.map_map]; rfl
theorem mat_exch {n : Nat} {a0 a1 : Addr} {o0 o1 : Obj} {as : List Addr} {rl : List (Addr × Obj)} {M : Nat → Nat → Int} (h : MatL n (a0 :: a1 :: as) M ((a0, o0) :: (a1, o1) :: rl)) : MatL n (a1 :: a0 :: as) (fun i => M (exch i)) ((a1, o1) :: (a0, o0) :: rl) := by
  refine ⟨?_, fun i hi => ?_⟩
  · have := h.adr
    simp only [List.map_cons, List.cons.injEq, true_and] at this ⊢
    exact this
  · match i, hi with
    | 0, _ => exact h.row 1 (by simp)
    | 1, _ => exact h.row 0 (by simp)
    | i + 2, hi => exact h.row (i + 2) hi
theorem len6 {α : Type} {l : List α} (h : l.length = 6) : ∃ a b c d e f, l = [a, b, c, d, e, f] := by
  obtain ⟨a, l, rfl⟩ := List.exists_cons_of_length_eq_add_one h
  obtain ⟨b, l, rfl⟩ := List.exists_cons_of_length_eq_add_one (Nat.succ.inj h)
  obtain ⟨c, l, rfl⟩ := List.exists_cons_of_length_eq_add_one (Nat.succ.inj (Nat.succ.inj h))
  obtain ⟨d, l, rfl⟩ := List.exists_cons_of_length_eq_add_one (Nat.succ.inj (Nat.succ.inj (Nat.succ.inj h)))
  obtain ⟨e, l, rfl⟩ := List.exists_cons_of_length_eq_add_one (Nat.succ.inj (Nat.succ.inj (Nat.succ.inj (Nat.succ.inj h))))
  obtain ⟨f, l, rfl⟩ := List.exists_cons_of_length_eq_add_one (Nat.succ.inj (Nat.succ.inj (Nat.succ.inj (Nat.succ.inj (Nat.succ.inj h)))))
  obtain rfl := List.eq_nil_of_length_eq_zero (Nat.succ.inj (Nat.succ.inj (Nat.succ.inj (Nat.succ.inj (Nat.succ.inj (Nat.succ.inj h))))))
  exact ⟨a, b, c, d, e, f, rfl⟩
theorem row_map {f : Nat → Int} {n : Nat} {vs : List Value} (h : IntsAre vs ((List.range n).map f)) : RowOf n f vs := by
  have := row_ints h
  rw [List.length_map, List.length_range] at this
  exact this.congr fun j hj => by simp [List.getD, hj]
end
section
noncomputable def tls (f : Nat → Int) : Nat → Int
  | 0 => 0
  | n + 1 => f (4 - n) + tls f n
theorem tls_step (f : Nat → Int) {k : Nat} (h : k < 5) : tls f (5 - k) = f k + tls f (5 - (k + 1)) := by
  obtain ⟨n, hn⟩ : ∃ n, 5 - k = n + 1 := ⟨4 - k, by lia⟩
  rw [hn, show 5 - (k + 1) = n by lia]
  show f (4 - n) + tls f n = _
  rw [show 4 - n = k by lia]
theorem tls_bound {f : Nat → Int} {B : Int} (hf : ∀ v, v < 5 → 0 ≤ f v ∧ f v ≤ B) : ∀ n, n ≤ 5 → 0 ≤ tls f n ∧ tls f n ≤ n * B
  | 0, _ => ⟨Int.le_refl 0, by simp [tls]⟩
  | n + 1, h => by
    have h1 := hf (4 - n) (by lia)
    have h2 := tls_bound hf n (by lia)
    show 0 ≤ f (4 - n) + tls f n ∧ f (4 - n) + tls f n ≤ _
    have e : ((n + 1 : Nat) : Int) * B = n * B + B := by rw [Int.natCast_add, Int.add_mul]; simp
    rw [e]
    lia
theorem tls_zero {f : Nat → Int} : ∀ {n}, n ≤ 5 → (∀ v, 5 - n ≤ v → v < 5 → f v = 0) → tls f n = 0
  | 0, _, _ => rfl
  | n + 1, h, hf => by
    show f (4 - n) + tls f n = 0
    rw [hf (4 - n) (by lia) (by lia), tls_zero (n := n) (by lia) fun v h1 h2 => hf v (by lia) h2]
    rfl
theorem tls_congr {f g : Nat → Int} : ∀ {n}, n ≤ 5 → (∀ v, v < 5 → f v = g v) → tls f n = tls g n
  | 0, _, _ => rfl
  | n + 1, h, hf => by
    show f (4 - n) + tls f n = g (4 - n) + tls g n
    rw [hf (4 - n) (by lia), tls_congr (n := n) (by lia) hf]
variable (w : Nat → Int) (e : Nat → Nat → Int)
noncomputable def prW : Nat → Int
  | 0 => 1
  | k + 1 => prW k * w k
noncomputable def smW : Nat → Int
  | 0 => 0
  | k + 1 => smW k + w k
noncomputable def cmS (k I J : Nat) : Int := tls (fun v => w v * (e v I * e v J)) (5 - k)
noncomputable def xsS (k I : Nat) : Int := tls (fun v => w v * e v I) (5 - k)
theorem cm_step {k I J : Nat} (h : k < 5) : cmS w e k I J = w k * (e k I * e k J) + cmS w e (k + 1) I J := tls_step _ h
theorem xs_step {k I : Nat} (h : k < 5) : xsS w e k I = w k * e k I + xsS w e (k + 1) I := tls_step _ h
structure TreeE : Prop where
  wt : ∀ v, v < 5 → 2 ≤ w v ∧ w v ≤ 6
  bit : ∀ v I, e v I = 0 ∨ e v I = 1
  own : ∀ v, v < 5 → e v (v + 1) = 1
  up : ∀ v I, I ≤ v → e v I = 0
variable {w e}
theorem cm_diag (h : TreeE w e) {k J : Nat} (hk : k < 5) : cmS w e k (k + 1) J = w k * e k J := by
  rw [cm_step w e hk, h.own k hk]
  have : cmS w e (k + 1) (k + 1) J = 0 := tls_zero (by lia) fun v h1 h2 => by
    rw [h.up v (k + 1) (by lia)]; simp
  rw [this]; simp
theorem cm_diag2 (h : TreeE w e) {k I : Nat} (hk : k < 5) : cmS w e k I (k + 1) = w k * e k I := by
  rw [cm_step w e hk, h.own k hk]
  have : cmS w e (k + 1) I (k + 1) = 0 := tls_zero (by lia) fun v h1 h2 => by
    rw [h.up v (k + 1) (by lia)]; simp
  rw [this]; simp
theorem xs_diag (h : TreeE w e) {k : Nat} (hk : k < 5) : xsS w e k (k + 1) = w k := by
  rw [xs_step w e hk, h.own k hk]
  have : xsS w e (k + 1) (k + 1) = 0 := tls_zero (by lia) fun v h1 h2 => by
    rw [h.up v (k + 1) (by lia)]; simp
  rw [this]; simp
theorem pr_pos (h : TreeE w e) : ∀ k, k ≤ 5 → 1 ≤ prW w k ∧ prW w k ≤ 6 ^ k
  | 0, _ => ⟨Int.le_refl 1, Int.le_refl 1⟩
  | k + 1, hk => by
    have h1 := pr_pos h k (by lia)
    have h2 := h.wt k (by lia)
    show 1 ≤ prW w k * w k ∧ prW w k * w k ≤ 6 ^ (k + 1)
    constructor
    · have := Int.mul_le_mul h1.1 (show (1 : Int) ≤ w k by lia) (by decide) (by lia)
      lia
    · rw [Int.pow_succ]
      exact Int.mul_le_mul h1.2 h2.2 (by lia) (by lia)
theorem sm_pos (h : TreeE w e) : ∀ k, k ≤ 5 → 0 ≤ smW w k ∧ smW w k ≤ 6 * k ∧ (1 ≤ k → 1 ≤ smW w k)
  | 0, _ => ⟨Int.le_refl 0, Int.le_refl 0, fun h => absurd h (by decide)⟩
  | k + 1, hk => by
    have h1 := sm_pos h k (by lia)
    have h2 := h.wt k (by lia)
    show 0 ≤ smW w k + w k ∧ smW w k + w k ≤ 6 * ((k + 1 : Nat) : Int) ∧ (1 ≤ k + 1 → 1 ≤ smW w k + w k)
    refine ⟨by lia, by lia, fun _ => by lia⟩
theorem cm_bound (h : TreeE w e) (k I J : Nat) : 0 ≤ cmS w e k I J ∧ cmS w e k I J ≤ 30 := by
  have := tls_bound (f := fun v => w v * (e v I * e v J)) (B := 6) (fun v hv => by
    have h2 := h.wt v hv
    rcases h.bit v I with a | a <;> rcases h.bit v J with b | b <;> rw [a, b] <;> simp <;> lia) (5 - k) (by lia)
  unfold cmS
  lia
theorem xs_bound (h : TreeE w e) (k I : Nat) : 0 ≤ xsS w e k I ∧ xsS w e k I ≤ 30 := by
  have := tls_bound (f := fun v => w v * e v I) (B := 6) (fun v hv => by
    have h2 := h.wt v hv
    rcases h.bit v I with a | a <;> rw [a] <;> simp <;> lia) (5 - k) (by lia)
  unfold xsS
  lia
noncomputable def nearT (w : Nat → Int) (e : Nat → Nat → Int) (k i j : Nat) : Int := prW w k * cmS w e k (i + 1) (j + 1)
theorem nearT_diag (h : TreeE w e) {k : Nat} (hk : k < 5) : nearT w e k k k = prW w (k + 1) := by
  unfold nearT
  rw [cm_diag h hk, h.own k hk]
  show _ = prW w k * w k
  rw [Int.mul_one]
theorem near_mn (h : TreeE w e) {k : Nat} (hk : k < 5) : mnT (nearT w e) k = prW w k := by
  cases k with
  | zero => rfl
  | succ k => exact nearT_diag h (by lia)
theorem near_step (h : TreeE w e) {k i j : Nat} (hk : k < i) (hj : k < j) (hi5 : i < 5) : nearT w e (k + 1) i j = Int.fdiv (nearT w e k i j * nearT w e k k k - nearT w e k i k * nearT w e k k j) (mnT (nearT w e) k) := by
  have hk5 : k < 5 := by lia
  have hp := pr_pos h k (by lia)
  rw [near_mn h hk5]
  have key : nearT w e k i j * nearT w e k k k - nearT w e k i k * nearT w e k k j = prW w k * nearT w e (k + 1) i j := by
    unfold nearT
    rw [cm_diag h hk5, cm_diag h hk5, cm_diag2 h hk5, cm_step w e hk5 (I := i + 1), h.own k hk5]
    show _ = prW w k * (prW w k * w k * cmS w e (k + 1) (i + 1) (j + 1))
    grind
  rw [key, Int.mul_fdiv_cancel_left _ (by lia)]
theorem near_bound (h : TreeE w e) {k : Nat} (hk : k < 5) (i j : Nat) : -(2 ^ 29) ≤ nearT w e k i j ∧ nearT w e k i j ≤ 2 ^ 29 := by
  have hp := pr_pos h k (by lia)
  have hc := cm_bound h k (i + 1) (j + 1)
  have h6 : (6 : Int) ^ k ≤ 1296 := by
    have : k = 0 ∨ k = 1 ∨ k = 2 ∨ k = 3 ∨ k = 4 := by lia
    rcases this with rfl | rfl | rfl | rfl | rfl <;> decide
  unfold nearT
  have h1 := Int.mul_nonneg (show 0 ≤ prW w k by lia) hc.1
  have h2 := Int.mul_le_mul (show prW w k ≤ 1296 by lia) hc.2 hc.1 (by decide)
  lia
noncomputable def dsS (w : Nat → Int) (e : Nat → Nat → Int) (I J : Nat) : Int := xsS w e 0 I + xsS w e 0 J - 2 * cmS w e 0 I J
noncomputable def sgS : Nat → Int
  | 0 => 1
  | k + 1 => -2 * sgS k
noncomputable def farT0 (w : Nat → Int) (e : Nat → Nat → Int) : Nat → Nat → Int
  | 0, j => dsS w e 1 j
  | 1, j => dsS w e 0 j
  | i + 2, j => dsS w e (i + 2) j
noncomputable def farT (w : Nat → Int) (e : Nat → Nat → Int) : Nat → Nat → Nat → Int
  | 0, i, j => farT0 w e i j
  | 1, i, j => farT0 w e i j * farT0 w e 0 0 - farT0 w e i 0 * farT0 w e 0 j
  | k + 2, i, j => sgS (k + 1) * prW w (k + 1) * (smW w (k + 1) * cmS w e (k + 1) i j + xsS w e (k + 1) i * xsS w e (k + 1) j)
theorem xs_root (h : TreeE w e) (k : Nat) : xsS w e k 0 = 0 := tls_zero (by lia) fun v _ _ => by rw [h.up v 0 (by lia)]; simp
theorem cm_root (h : TreeE w e) (k J : Nat) : cmS w e k 0 J = 0 := tls_zero (by lia) fun v _ _ => by rw [h.up v 0 (by lia)]; simp
theorem cm_root2 (h : TreeE w e) (k J : Nat) : cmS w e k J 0 = 0 := tls_zero (by lia) fun v _ _ => by rw [h.up v 0 (by lia)]; simp
theorem far_00 (h : TreeE w e) : farT0 w e 0 0 = w 0 := by
  show xsS w e 0 1 + xsS w e 0 0 - 2 * cmS w e 0 1 0 = w 0
  rw [xs_root h, cm_root2 h, xs_diag h (by decide)]; lia
theorem far_0j (h : TreeE w e) (j : Nat) : farT0 w e 0 j = w 0 + xsS w e 0 j - 2 * (w 0 * e 0 j) := by
  show xsS w e 0 1 + xsS w e 0 j - 2 * cmS w e 0 1 j = _
  rw [xs_diag h (by decide), cm_diag h (by decide)]
theorem far_1j (h : TreeE w e) (j : Nat) : farT0 w e 1 j = xsS w e 0 j := by
  show xsS w e 0 0 + xsS w e 0 j - 2 * cmS w e 0 0 j = _
  rw [xs_root h, cm_root h]; lia
theorem far_i0 (h : TreeE w e) (i : Nat) : farT0 w e (i + 2) 0 = xsS w e 0 (i + 2) := by
  show xsS w e 0 (i + 2) + xsS w e 0 0 - 2 * cmS w e 0 (i + 2) 0 = _
  rw [xs_root h, cm_root2 h]; lia
theorem far_11 (h : TreeE w e) : farT w e 1 1 1 = w 0 * w 0 := by
  show farT0 w e 1 1 * farT0 w e 0 0 - farT0 w e 1 0 * farT0 w e 0 1 = _
  rw [far_1j h, far_1j h, far_00 h, xs_root h, xs_diag h (by decide)]; simp
theorem far_kk (h : TreeE w e) {k : Nat} (hk : k + 1 < 5) : farT w e (k + 2) (k + 2) (k + 2) = sgS (k + 1) * prW w (k + 2) * smW w (k + 2) := by
  show sgS (k + 1) * prW w (k + 1) * (smW w (k + 1) * cmS w e (k + 1) (k + 1 + 1) (k + 1 + 1) + xsS w e (k + 1) (k + 1 + 1) * xsS w e (k + 1) (k + 1 + 1)) = sgS (k + 1) * (prW w (k + 1) * w (k + 1)) * (smW w (k + 1) + w (k + 1))
  rw [cm_diag h hk, xs_diag h hk, h.own (k + 1) hk]
  grind
theorem far_step0 (i j : Nat) : farT w e 1 i j = Int.fdiv (farT w e 0 i j * farT w e 0 0 0 - farT w e 0 i 0 * farT w e 0 0 j) (mnT (farT w e) 0) := by
  show _ = Int.fdiv _ 1
  rw [Int.fdiv_one]; rfl
theorem far_step1 (h : TreeE w e) {i j : Nat} (hi : 1 < i) (hj : 1 < j) : farT w e 2 i j = Int.fdiv (farT w e 1 i j * farT w e 1 1 1 - farT w e 1 i 1 * farT w e 1 1 j) (mnT (farT w e) 1) := by
  obtain ⟨i, rfl⟩ : ∃ i', i = i' + 2 := ⟨i - 2, by lia⟩
  have h0 := h.wt 0 (by decide)
  have hmn : mnT (farT w e) 1 = w 0 := far_00 h
  rw [hmn]
  have key : farT w e 1 (i + 2) j * farT w e 1 1 1 - farT w e 1 (i + 2) 1 * farT w e 1 1 j = w 0 * farT w e 2 (i + 2) j := by
    rw [far_11 h]
    show (farT0 w e (i + 2) j * farT0 w e 0 0 - farT0 w e (i + 2) 0 * farT0 w e 0 j) * (w 0 * w 0) - (farT0 w e (i + 2) 1 * farT0 w e 0 0 - farT0 w e (i + 2) 0 * farT0 w e 0 1) * (farT0 w e 1 j * farT0 w e 0 0 - farT0 w e 1 0 * farT0 w e 0 j) =
      w 0 * (sgS 1 * prW w 1 * (smW w 1 * cmS w e 1 (i + 2) j + xsS w e 1 (i + 2) * xsS w e 1 j))
    have e1 : farT0 w e (i + 2) j = xsS w e 0 (i + 2) + xsS w e 0 j - 2 * cmS w e 0 (i + 2) j := rfl
    have e2 : farT0 w e (i + 2) 1 = xsS w e 0 (i + 2) + xsS w e 0 1 - 2 * cmS w e 0 (i + 2) 1 := rfl
    rw [e1, e2, far_00 h, far_i0 h, far_0j h, far_0j h, far_1j h, far_1j h, xs_root h, cm_diag2 h (show 0 < 5 by decide), xs_diag h (show 0 < 5 by decide), h.own 0 (by decide)]
    rw [cm_step w e (show 0 < 5 by decide) (I := i + 2) (J := j), xs_step w e (show 0 < 5 by decide) (I := i + 2), xs_step w e (show 0 < 5 by decide) (I := j)]
    have s1 : sgS 1 = -2 := rfl
    have p1 : prW w 1 = w 0 := by show (1 : Int) * w 0 = w 0; simp
    have m1 : smW w 1 = w 0 := by show (0 : Int) + w 0 = w 0; simp
    rw [s1, p1, m1]
    generalize xsS w e (0 + 1) (i + 2) = a
    generalize xsS w e (0 + 1) j = b
    generalize cmS w e (0 + 1) (i + 2) j = c
    grind
  rw [key, Int.mul_fdiv_cancel_left _ (by lia)]
theorem sg_ne : ∀ k, sgS k ≠ 0
  | 0 => by decide
  | k + 1 => by
    have := sg_ne k
    show -2 * sgS k ≠ 0
    lia
theorem sg_sq (k : Nat) : sgS (k + 1) * sgS (k + 1) = sgS k * sgS (k + 2) := by
  show (-2 * sgS k) * (-2 * sgS k) = sgS k * (-2 * (-2 * sgS k))
  grind
theorem far_mn (h : TreeE w e) {k : Nat} (hk : k + 1 < 5) : mnT (farT w e) (k + 2) = sgS k * prW w (k + 1) * smW w (k + 1) := by
  cases k with
  | zero =>
    show farT w e 1 1 1 = 1 * (1 * w 0) * (0 + w 0)
    rw [far_11 h]; simp
  | succ k => exact far_kk h (by lia)
theorem far_step (h : TreeE w e) {k i j : Nat} (hk : k + 2 < i) (hj : k + 2 < j) (hi : i < 6) : farT w e (k + 3) i j = Int.fdiv (farT w e (k + 2) i j * farT w e (k + 2) (k + 2) (k + 2) - farT w e (k + 2) i (k + 2) * farT w e (k + 2) (k + 2) j) (mnT (farT w e) (k + 2)) := by
  have hk5 : k + 1 < 5 := by lia
  have hp := pr_pos h (k + 1) (by lia)
  have hs := (sm_pos h (k + 1) (by lia)).2.2 (by lia)
  rw [far_mn h hk5]
  have key : farT w e (k + 2) i j * farT w e (k + 2) (k + 2) (k + 2) - farT w e (k + 2) i (k + 2) * farT w e (k + 2) (k + 2) j = (sgS k * prW w (k + 1) * smW w (k + 1)) * farT w e (k + 3) i j := by
    rw [far_kk h hk5]
    show (sgS (k + 1) * prW w (k + 1) * (smW w (k + 1) * cmS w e (k + 1) i j + xsS w e (k + 1) i * xsS w e (k + 1) j)) * (sgS (k + 1) * (prW w (k + 1) * w (k + 1)) * (smW w (k + 1) + w (k + 1))) -
      (sgS (k + 1) * prW w (k + 1) * (smW w (k + 1) * cmS w e (k + 1) i (k + 1 + 1) + xsS w e (k + 1) i * xsS w e (k + 1) (k + 1 + 1))) * (sgS (k + 1) * prW w (k + 1) * (smW w (k + 1) * cmS w e (k + 1) (k + 1 + 1) j + xsS w e (k + 1) (k + 1 + 1) * xsS w e (k + 1) j)) =
      (sgS k * prW w (k + 1) * smW w (k + 1)) * (sgS (k + 2) * (prW w (k + 1) * w (k + 1)) * ((smW w (k + 1) + w (k + 1)) * cmS w e (k + 1 + 1) i j + xsS w e (k + 1 + 1) i * xsS w e (k + 1 + 1) j))
    rw [cm_diag h hk5, cm_diag2 h hk5, xs_diag h hk5, cm_step w e hk5 (I := i) (J := j), xs_step w e hk5 (I := i), xs_step w e hk5 (I := j)]
    have hq := sg_sq k
    generalize sgS (k + 1) = s1 at hq ⊢
    generalize sgS (k + 2) = s2 at hq ⊢
    generalize sgS k = s0 at hq ⊢
    generalize prW w (k + 1) = P
    generalize smW w (k + 1) = W
    generalize w (k + 1) = v
    generalize e (k + 1) i = ei
    generalize e (k + 1) j = ej
    generalize cmS w e (k + 1 + 1) i j = c
    generalize xsS w e (k + 1 + 1) i = a
    generalize xsS w e (k + 1 + 1) j = b
    grind
  rw [key, Int.mul_fdiv_cancel_left _ (Int.mul_ne_zero (Int.mul_ne_zero (sg_ne k) (by lia)) (by lia))]
theorem ds_bound (h : TreeE w e) (I J : Nat) : -60 ≤ dsS w e I J ∧ dsS w e I J ≤ 60 := by
  have h1 := xs_bound h 0 I
  have h2 := xs_bound h 0 J
  have h3 := cm_bound h 0 I J
  unfold dsS
  lia
theorem far0_bound (h : TreeE w e) : ∀ i j, -60 ≤ farT0 w e i j ∧ farT0 w e i j ≤ 60
  | 0, j => ds_bound h 1 j
  | 1, j => ds_bound h 0 j
  | i + 2, j => ds_bound h (i + 2) j
theorem mul60 {a b : Int} (ha : -60 ≤ a ∧ a ≤ 60) (hb : -60 ≤ b ∧ b ≤ 60) : -10800 ≤ a * b ∧ a * b ≤ 10800 := by
  have h1 : 0 ≤ (a + 60) * (b + 60) := Int.mul_nonneg (by lia) (by lia)
  have h2 : (a + 60) * (b + 60) ≤ 120 * 120 := Int.mul_le_mul (by lia) (by lia) (by lia) (by decide)
  have h3 : (a + 60) * (b + 60) = a * b + 60 * a + 60 * b + 3600 := by grind
  have h4 : 0 ≤ (60 - a) * (b + 60) := Int.mul_nonneg (by lia) (by lia)
  have h5 : (60 - a) * (b + 60) = 60 * b + 3600 - a * b - 60 * a := by grind
  lia
theorem far_bound (h : TreeE w e) {k : Nat} (hk : k < 6) (i j : Nat) : -(2 ^ 29) ≤ farT w e k i j ∧ farT w e k i j ≤ 2 ^ 29 := by
  match k, hk with
  | 0, _ =>
    have := far0_bound h i j
    show -(2 ^ 29) ≤ farT0 w e i j ∧ farT0 w e i j ≤ 2 ^ 29
    lia
  | 1, _ =>
    have h1 := mul60 (far0_bound h i j) (far0_bound h 0 0)
    have h2 := mul60 (far0_bound h i 0) (far0_bound h 0 j)
    show -(2 ^ 29) ≤ farT0 w e i j * farT0 w e 0 0 - farT0 w e i 0 * farT0 w e 0 j ∧ farT0 w e i j * farT0 w e 0 0 - farT0 w e i 0 * farT0 w e 0 j ≤ 2 ^ 29
    lia
  | K + 2, hk =>
    have hp := pr_pos h (K + 1) (by lia)
    have hs := sm_pos h (K + 1) (by lia)
    have hc := cm_bound h (K + 1) i j
    have hx := xs_bound h (K + 1) i
    have hy := xs_bound h (K + 1) j
    have h6 : (6 : Int) ^ (K + 1) ≤ 1296 := by
      have : K = 0 ∨ K = 1 ∨ K = 2 ∨ K = 3 := by lia
      rcases this with rfl | rfl | rfl | rfl <;> decide
    have a1 := Int.mul_nonneg hs.1 hc.1
    have a2 := Int.mul_le_mul (show smW w (K + 1) ≤ 30 by lia) hc.2 hc.1 (by decide)
    have b1 := Int.mul_nonneg hx.1 hy.1
    have b2 := Int.mul_le_mul hx.2 hy.2 hy.1 (by decide)
    have c1 := Int.mul_nonneg (show 0 ≤ prW w (K + 1) by lia) (show 0 ≤ smW w (K + 1) * cmS w e (K + 1) i j + xsS w e (K + 1) i * xsS w e (K + 1) j by lia)
    have c2 := Int.mul_le_mul (show prW w (K + 1) ≤ 1296 by lia) (show smW w (K + 1) * cmS w e (K + 1) i j + xsS w e (K + 1) i * xsS w e (K + 1) j ≤ 1800 by lia) (by lia) (by decide)
    show -(2 ^ 29) ≤ sgS (K + 1) * prW w (K + 1) * (smW w (K + 1) * cmS w e (K + 1) i j + xsS w e (K + 1) i * xsS w e (K + 1) j) ∧ sgS (K + 1) * prW w (K + 1) * (smW w (K + 1) * cmS w e (K + 1) i j + xsS w e (K + 1) i * xsS w e (K + 1) j) ≤ 2 ^ 29
    rw [Int.mul_assoc]
    generalize prW w (K + 1) * (smW w (K + 1) * cmS w e (K + 1) i j + xsS w e (K + 1) i * xsS w e (K + 1) j) = B at c1 c2 ⊢
    have : K = 0 ∨ K = 1 ∨ K = 2 ∨ K = 3 := by lia
    rcases this with rfl | rfl | rfl | rfl
    · show -(2 ^ 29) ≤ -2 * B ∧ -2 * B ≤ 2 ^ 29
      lia
    · show -(2 ^ 29) ≤ 4 * B ∧ 4 * B ≤ 2 ^ 29
      lia
    · show -(2 ^ 29) ≤ -8 * B ∧ -8 * B ≤ 2 ^ 29
      lia
    · show -(2 ^ 29) ≤ 16 * B ∧ 16 * B ≤ 2 ^ 29
      lia
theorem far_nz (h : TreeE w e) {k : Nat} (hk : k < 6) : mnT (farT w e) k ≠ 0 := by
  have h0 := h.wt 0 (by decide)
  match k, hk with
  | 0, _ =>
    show (1 : Int) ≠ 0
    decide
  | 1, _ =>
    show farT0 w e 0 0 ≠ 0
    rw [far_00 h]; lia
  | K + 2, hk =>
    rw [far_mn h (by lia)]
    have hp := pr_pos h (K + 1) (by lia)
    have hs := (sm_pos h (K + 1) (by lia)).2.2 (by lia)
    exact Int.mul_ne_zero (Int.mul_ne_zero (sg_ne K) (by lia)) (by lia)
theorem far_all (h : TreeE w e) {k i j : Nat} (hk : k < i) (hj : k < j) (hi : i < 6) : farT w e (k + 1) i j = Int.fdiv (farT w e k i j * farT w e k k k - farT w e k i k * farT w e k k j) (mnT (farT w e) k) := by
  match k with
  | 0 => exact far_step0 i j
  | 1 => exact far_step1 h hk hj
  | k + 2 => exact far_step h hk hj hi
theorem near_due (h : TreeE w e) : (List.range 5).map (fun k => nearT w e k k k) = [w 0, w 0 * w 1, w 0 * w 1 * w 2, w 0 * w 1 * w 2 * w 3, w 0 * w 1 * w 2 * w 3 * w 4] := by
  show [nearT w e 0 0 0, nearT w e 1 1 1, nearT w e 2 2 2, nearT w e 3 3 3, nearT w e 4 4 4] = _
  rw [nearT_diag h (by decide), nearT_diag h (by decide), nearT_diag h (by decide), nearT_diag h (by decide), nearT_diag h (by decide)]
  simp only [prW, Int.one_mul]
theorem far_due (h : TreeE w e) : (List.range 6).map (fun k => farT w e k k k) = [w 0, w 0 * w 0, -2 * (w 0 + w 1) * (w 0 * w 1), 4 * (w 0 + w 1 + w 2) * (w 0 * w 1 * w 2), -8 * (w 0 + w 1 + w 2 + w 3) * (w 0 * w 1 * w 2 * w 3), 16 * (w 0 + w 1 + w 2 + w 3 + w 4) * (w 0 * w 1 * w 2 * w 3 * w 4)] := by
  show [farT w e 0 0 0, farT w e 1 1 1, farT w e 2 2 2, farT w e 3 3 3, farT w e 4 4 4, farT w e 5 5 5] = _
  rw [far_11 h, far_kk h (k := 0) (by decide), far_kk h (k := 1) (by decide), far_kk h (k := 2) (by decide), far_kk h (k := 3) (by decide), show farT w e 0 0 0 = w 0 from far_00 h]
  simp only [prW, smW, sgS, Int.one_mul, Int.zero_add]
  congr 1
  congr 1
  congr 1
  · grind
  congr 1
  · grind
  congr 1
  · grind
  congr 1
  grind
end
section
variable {q : Nat → Int}
theorem comps_stable {i k n : Nat} (hi : i < k + 1) (hn : k ≤ n) : (comps q n)[i]? = (comps q k)[i]? := by
  induction n with
  | zero => rw [show k = 0 by lia]
  | succ n ih =>
    by_cases h : k = n + 1
    · rw [h]
    · rw [comps_pre q n i (by lia)]; exact ih (by lia)
theorem cm_rec {k : Nat} (hk : k < 5) : cmW q (k + 1) = cmW q (parW q k) ++ [nmW q k] := by
  have hp := parW_lt q k
  have h1 : (comps q 5)[k + 1]? = (comps q (k + 1))[k + 1]? := comps_stable (by lia) (by lia)
  have h2 : (comps q (k + 1))[k + 1]? = some (((comps q k)[parW q k]?).getD [] ++ [nmW q k]) := by
    show (comps q k ++ [_])[k + 1]? = _
    rw [List.getElem?_append_right (by rw [comps_len]; lia), comps_len, Nat.sub_self]; rfl
  have h3 : (comps q 5)[parW q k]? = (comps q k)[parW q k]? := comps_stable (by lia) (by lia)
  unfold cmW
  rw [h1, h2, h3]; rfl
theorem cm_names : ∀ (I : Nat), I ≤ 5 → ∀ c ∈ cmW q I, ∃ u, u < I ∧ c = nmW q u
  | 0, _, c, hc => by rw [cm_zero] at hc; exact absurd hc (by simp)
  | k + 1, hk, c, hc => by
    rw [cm_rec (by lia)] at hc
    have hp := parW_lt q k
    rcases List.mem_append.mp hc with hc | hc
    · obtain ⟨u, hu, e⟩ := cm_names (parW q k) (by lia) c hc
      exact ⟨u, by lia, e⟩
    · exact ⟨k, by lia, List.mem_singleton.mp hc⟩
termination_by I => I
theorem nm_out {v I : Nat} (hv : v < 5) (h : I ≤ v) : nmW q v ∉ cmW q I := fun hm => by
  obtain ⟨u, hu, e⟩ := cm_names I (by lia) _ hm
  have := nmW_inj (q := q) hv (show u < 5 by lia) e
  lia
theorem cm_nodup : ∀ (I : Nat), I ≤ 5 → (cmW q I).Nodup
  | 0, _ => by rw [cm_zero]; exact List.nodup_nil
  | k + 1, hk => by
    have hp := parW_lt q k
    rw [cm_rec (by lia)]
    refine List.nodup_append.mpr ⟨cm_nodup (parW q k) (by lia), by simp, fun a ha b hb => ?_⟩
    rw [List.mem_singleton] at hb; subst hb
    rintro rfl
    exact nm_out (by lia) (by lia) ha
termination_by I => I
theorem cm_prefix {v : Nat} (hv : v < 5) : ∀ (I : Nat), I ≤ 5 → nmW q v ∈ cmW q I → ∃ r, cmW q I = cmW q (v + 1) ++ r
  | 0, _, h => by rw [cm_zero] at h; exact absurd h (by simp)
  | k + 1, hk, h => by
    have hp := parW_lt q k
    rw [cm_rec (by lia)] at h
    rcases List.mem_append.mp h with h | h
    · obtain ⟨r, hr⟩ := cm_prefix hv (parW q k) (by lia) h
      exact ⟨r ++ [nmW q k], by rw [cm_rec (by lia), hr, List.append_assoc]⟩
    · have := nmW_inj (q := q) hv (show k < 5 by lia) (List.mem_singleton.mp h)
      subst this
      exact ⟨[], (List.append_nil _).symm⟩
termination_by I => I
theorem comm_app : ∀ (P r s : List Str), ∃ t, comm (P ++ r) (P ++ s) = P ++ t
  | [], r, s => ⟨comm r s, rfl⟩
  | p :: P, r, s => by
    obtain ⟨t, ht⟩ := comm_app P r s
    refine ⟨t, ?_⟩
    show comm (p :: (P ++ r)) (p :: (P ++ s)) = p :: (P ++ t)
    rw [← ht]; simp [comm]
theorem comm_mem {v I J : Nat} (hv : v < 5) (hI : I ≤ 5) (hJ : J ≤ 5) : nmW q v ∈ comm (cmW q I) (cmW q J) ↔ nmW q v ∈ cmW q I ∧ nmW q v ∈ cmW q J := by
  constructor
  · intro h
    obtain ⟨r, hr⟩ := comm_pre (cmW q I) (cmW q J)
    obtain ⟨s, hs⟩ := comm_pre (cmW q J) (cmW q I)
    rw [comm_swap (cmW q J)] at hs
    exact ⟨by rw [hr]; exact List.mem_append_left _ h, by rw [hs]; exact List.mem_append_left _ h⟩
  · rintro ⟨h1, h2⟩
    obtain ⟨r, hr⟩ := cm_prefix hv I hI h1
    obtain ⟨s, hs⟩ := cm_prefix hv J hJ h2
    obtain ⟨t, ht⟩ := comm_app (cmW q (v + 1)) r s
    rw [hr, hs, ht]
    refine List.mem_append_left _ ?_
    rw [cm_rec hv]
    simp
theorem tls_add {f g : Nat → Int} : ∀ n, tls (fun v => f v + g v) n = tls f n + tls g n
  | 0 => rfl
  | n + 1 => by
    show (f (4 - n) + g (4 - n)) + tls _ n = (f (4 - n) + tls f n) + (g (4 - n) + tls g n)
    rw [tls_add n]; lia
theorem tls_single {u : Nat} (hu : u < 5) (a : Int) : tls (fun v => if v = u then a else 0) 5 = a := by
  have : u = 0 ∨ u = 1 ∨ u = 2 ∨ u = 3 ∨ u = 4 := by lia
  rcases this with rfl | rfl | rfl | rfl | rfl <;> simp [tls]
theorem wt_name (q : Nat → Int) (u : Nat) : wtI q u = (((nmW q u).length : Nat) : Int) + 1 := by
  unfold wtI
  rw [headN_cast, nmW_len]
  lia
noncomputable def inW (L : List Str) (q : Nat → Int) (v : Nat) : Int := if nmW q v ∈ L then 1 else 0
theorem len_sum : ∀ (L : List Str), (∀ c ∈ L, ∃ u, u < 5 ∧ c = nmW q u) → L.Nodup → ((pth L).length : Int) = tls (fun v => wtI q v * inW L q v) 5
  | [], _, _ => by
    rw [tls_zero (Nat.le_refl 5) fun v _ _ => by simp [inW]]; rfl
  | c :: r, h, hn => by
    obtain ⟨u, hu, rfl⟩ := h c List.mem_cons_self
    obtain ⟨n1, n2⟩ := List.nodup_cons.mp hn
    have ih := len_sum r (fun c hc => h c (List.mem_cons_of_mem _ hc)) n2
    have e : ((pth (nmW q u :: r)).length : Int) = ((pth r).length : Int) + wtI q u := by
      rw [wt_name]
      show ((Str.ofString "/" ++ nmW q u ++ pth r).length : Int) = _
      rw [Str.length_append, Str.length_append]
      have : (Str.ofString "/").length = 1 := rfl
      lia
    rw [e, ih, ← tls_single hu (wtI q u), ← tls_add]
    refine tls_congr (Nat.le_refl 5) fun v hv => ?_
    by_cases hvu : v = u
    · subst hvu
      simp [inW, n1]
    · have hne : nmW q v ≠ nmW q u := fun h => hvu (nmW_inj hv hu h)
      simp [inW, hvu, hne]
noncomputable def eW (q : Nat → Int) (v I : Nat) : Int := if v < 5 ∧ I ≤ 5 then inW (cmW q I) q v else 0
theorem eW_of {v I : Nat} (hv : v < 5) (hI : I ≤ 5) : eW q v I = inW (cmW q I) q v := if_pos ⟨hv, hI⟩
theorem tree_e (q : Nat → Int) : TreeE (wtI q) (eW q) where
  wt := fun v _ => wtI_ok q v
  bit := fun v I => by
    unfold eW inW
    split
    · split <;> simp
    · simp
  own := fun v hv => by
    unfold eW inW
    rw [if_pos (by lia), if_pos (by rw [cm_rec hv]; simp)]
  up := fun v I h => by
    unfold eW inW
    split
    · next h2 => rw [if_neg (nm_out h2.1 h)]
    · rfl
theorem len_xs {I : Nat} (hI : I ≤ 5) : ((pth (cmW q I)).length : Int) = xsS (wtI q) (eW q) 0 I := by
  rw [len_sum _ (fun c hc => by obtain ⟨u, hu, e⟩ := cm_names I hI c hc; exact ⟨u, by lia, e⟩) (cm_nodup I hI)]
  refine tls_congr (Nat.le_refl 5) fun v hv => ?_
  unfold eW
  rw [if_pos ⟨hv, hI⟩]
theorem signs_cm {I J : Nat} (hI : I ≤ 5) (hJ : J ≤ 5) : signsI (cmW q I) (cmW q J) = cmS (wtI q) (eW q) 0 I J := by
  unfold signsI
  obtain ⟨r, hr⟩ := comm_pre (cmW q I) (cmW q J)
  have hsub : ∀ c ∈ comm (cmW q I) (cmW q J), c ∈ cmW q I := fun c hc => by rw [hr]; exact List.mem_append_left _ hc
  have hnd : (comm (cmW q I) (cmW q J)).Nodup := by
    have := cm_nodup (q := q) I hI
    rw [hr] at this
    exact (List.nodup_append.mp this).1
  rw [len_sum _ (fun c hc => by obtain ⟨u, hu, e⟩ := cm_names I hI c (hsub c hc); exact ⟨u, by lia, e⟩) hnd]
  refine tls_congr (Nat.le_refl 5) fun v hv => ?_
  show _ = wtI q v * (eW q v I * eW q v J)
  rw [eW_of hv hI, eW_of hv hJ]
  unfold inW
  have hm := comm_mem (q := q) hv hI hJ
  by_cases h1 : nmW q v ∈ cmW q I <;> by_cases h2 : nmW q v ∈ cmW q J <;> simp [hm, h1, h2]
theorem cm_sym {w : Nat → Int} {e : Nat → Nat → Int} (k I J : Nat) : cmS w e k I J = cmS w e k J I := tls_congr (by lia) fun v _ => by rw [Int.mul_comm (e v I)]
theorem ds_sym {w : Nat → Int} {e : Nat → Nat → Int} (I J : Nat) : dsS w e I J = dsS w e J I := by unfold dsS; rw [cm_sym]; lia
theorem near_at {i j : Nat} (hi : i < 5) (hj : j ≤ i) : nearM q i j = cmS (wtI q) (eW q) 0 (i + 1) (j + 1) := by
  unfold nearM shI
  rw [List.getD_eq_getElem?_getD, List.getElem?_drop, List.getElem?_map, List.getElem?_range (by lia), Nat.add_comm 1 j]
  exact signs_cm (by lia) (by lia)
theorem far_at {i j : Nat} (hi : i < 6) (hj : j ≤ i) : farM q i j = dsS (wtI q) (eW q) i j := by
  unfold farM apI
  rw [List.getD_eq_getElem?_getD, List.getElem?_map, List.getElem?_range (by lia)]
  obtain ⟨a1, _, _, _⟩ := cm_ok q hi
  obtain ⟨b1, _, _, _⟩ := cm_ok q (show j < 6 by lia)
  obtain ⟨e1, e2⟩ := wt_both a1 b1
  show wtL _ + wtL _ = _
  rw [e1, e2, signs_cm (by lia) (by lia), len_xs (by lia), len_xs (by lia)]
  unfold dsS
  lia
theorem near_sq {i j : Nat} (hi : i < 5) (hj : j < 5) : sqM (nearM q) i j = cmS (wtI q) (eW q) 0 (i + 1) (j + 1) := by
  unfold sqM
  by_cases h : j ≤ i
  · rw [Nat.max_eq_left h, Nat.min_eq_right h, near_at hi h]
  · rw [Nat.max_eq_right (by lia), Nat.min_eq_left (by lia), near_at hj (by lia), cm_sym]
theorem far_sq {i j : Nat} (hi : i < 6) (hj : j < 6) : sqM (farM q) i j = dsS (wtI q) (eW q) i j := by
  unfold sqM
  by_cases h : j ≤ i
  · rw [Nat.max_eq_left h, Nat.min_eq_right h, far_at hi h]
  · rw [Nat.max_eq_right (by lia), Nat.min_eq_left (by lia), far_at hj (by lia), ds_sym]
theorem near_law (q : Nat → Int) : ∃ T : Nat → Nat → Nat → Int, (∀ i j, i < 5 → j < 5 → T 0 i j = sqM (nearM q) i j) ∧ (∀ k i j, k < i → k < j → i < 5 → j < 5 → T (k + 1) i j = Int.fdiv (T k i j * T k k k - T k i k * T k k j) (mnT T k)) ∧ (∀ k, k < 5 → mnT T k ≠ 0) ∧ (∀ k i j, k < 5 → i < 5 → j < 5 → -(2 ^ 29) ≤ T k i j ∧ T k i j ≤ 2 ^ 29) ∧
    (List.range 5).map (fun k => T k k k) = dueNear (wtI q 0) (wtI q 1) (wtI q 2) (wtI q 3) (wtI q 4) := by
  have h := tree_e q
  refine ⟨nearT (wtI q) (eW q), fun i j hi hj => ?_, fun k i j h1 h2 h3 _ => near_step h h1 h2 h3, fun k hk => ?_, fun k i j hk _ _ => near_bound h hk i j, near_due h⟩
  · rw [near_sq hi hj]
    show 1 * cmS (wtI q) (eW q) 0 (i + 1) (j + 1) = _
    rw [Int.one_mul]
  · rw [near_mn h hk]
    have := pr_pos h k (by lia)
    lia
theorem far_law (q : Nat → Int) : ∃ T : Nat → Nat → Nat → Int, (∀ i j, i < 6 → j < 6 → T 0 i j = sqM (farM q) (exch i) j) ∧ (∀ k i j, k < i → k < j → i < 6 → j < 6 → T (k + 1) i j = Int.fdiv (T k i j * T k k k - T k i k * T k k j) (mnT T k)) ∧ (∀ k, k < 6 → mnT T k ≠ 0) ∧ (∀ k i j, k < 6 → i < 6 → j < 6 → -(2 ^ 29) ≤ T k i j ∧ T k i j ≤ 2 ^ 29) ∧
    (List.range 6).map (fun k => T k k k) = dueFar (wtI q 0) (wtI q 1) (wtI q 2) (wtI q 3) (wtI q 4) := by
  have h := tree_e q
  refine ⟨farT (wtI q) (eW q), fun i j hi hj => ?_, fun k i j h1 h2 h3 _ => far_all h h1 h2 h3, fun k hk => far_nz h hk, fun k i j hk _ _ => far_bound h hk i j, far_due h⟩
  match i, hi with
  | 0, _ => exact (far_sq (i := 1) (by decide) hj).symm
  | 1, _ => exact (far_sq (i := 0) (by decide) hj).symm
  | i + 2, hi => exact (far_sq (i := i + 2) hi hj).symm
end
theorem kw_c_law_0 : True := by
  k_with_none
  (k_with "k_room" => (ktr_room))
  (k_with "con sub" => (first | exact List.forall_mem_nil _ | k_extra "sub" | (simp only [List.forall_mem_cons]; refine ⟨?_, ?_⟩ <;> first | exact List.forall_mem_nil _ | k_mem | k_extra "con sub") | k_sub))
  (k_with "con enter" => ((refine wpAny_call ?_; (refine' code_defG (by assumption) (by assumption) (by assumption) (by assumption) (by assumption) (by exact rfl) (by exact rfl) (by exact rfl) (by k_is) (by k_is) (by k_room) (by first | exact BindsTo.of_eq rfl | exact binds_K (by k_in) rfl (by k_is) rfl rfl rfl | fail "k_enter: no rule for these arguments") (by exact locs rfl) ?_ (by exact rfl) (by exact rfl) (by exact rfl) (by decide); k_whole))))
  (k_with "con start" => ((dsimp only [Con, fnSc]; intros; rename_i hret)))
  (k_with "LeaveK" => ((k_dflt (refine' leave_con (by with_reducible assumption) (by assumption) (by k_asm) (by k_asm) (by k_extra "con sub") ?_; k_whole); intro _; (try dsimp only))))
  (k_with "con enterC" => ((refine wpAny_call ?_; (refine' enter_cells (by assumption) (by assumption) (by assumption) (by assumption) (by assumption) (by exact rfl) (by exact rfl) (by exact rfl) (by k_is) (by k_is) (by k_room) (by exact BindsTo.of_eq rfl) (by exact rfl) (by decide +kernel) ?_ (by exact rfl) (by exact rfl) (by exact rfl); k_whole))))
  (k_with "con enterR" => ((refine wpAny_call ?_; (refine' enter_rest (by assumption) (by assumption) (by assumption) (by assumption) (by assumption) (by exact rfl) (by exact rfl) (by exact rfl) (by k_is) (by k_is) (by k_room) (by exact rfl) (by exact fun _ => locs rfl) ?_ (by exact rfl) (by exact rfl) (by exact rfl) (by decide); k_whole))))
  (k_with "callWith" => ((k_here; (with_reducible show wpAny _ _ (callWith _ (Value.builtin _) (_ :: _) (backTo _ (starEach (_ :: _) _)) []) _ _ _); (with_reducible refine' callWith_method1 ?_ (by k_dflt (exact rfl)) (by k_dflt (exact rfl))))))
  (k_with "mem at" => (with_reducible (first | exact List.mem_cons_self | exact List.Mem.head _ | (refine List.mem_cons_of_mem _ ?_; k_extra "mem at") | (refine List.mem_append_left _ ?_; k_extra "mem at") | (refine List.mem_append_right _ ?_; k_extra "mem at"))))
  (k_with "mem in" => (with_reducible (first | assumption | (refine List.mem_cons_of_mem _ ?_; k_extra "mem in") | (refine List.mem_append_right _ ?_; k_extra "mem in") | (refine List.mem_append_left _ ?_; k_extra "mem in"))))
  (k_with "sub" => (with_reducible (first | exact sub_nil | exact sub_refl | (refine sub_cons ?_ ?_; (focus k_extra "mem at"); k_extra "sub") | (refine subs_app ?_ ?_; (focus k_extra "sub"); k_extra "sub") | (intro _ _; k_extra "mem in"))))
  (k_with "call builtin:issubclass" => ((k_here; (with_reducible show wpAny _ _ (call (Value.builtin "issubclass") [Value.type "str", Value.ref _]) _ _ _); refine' isc_call (by k_asm) (by k_mem) ?_; k_whole)))
  (k_with "call ref" => ((k_here; (with_reducible show wpAny _ _ (call (Value.ref 94) [Value.str _ _]) _ _ _); k_dflt (refine' con_use c_fspath (by k_asm) (by k_asm) (by k_asm) (by k_asm) (by k_asm) (by k_extra "con sub") (by ktr_room) (by ktr_units) ?_; k_whole); intro _ _ _ _ _ _ hv9w9; subst hv9w9; (try dsimp only); (try k_fold))))
  (k_with "CompEnd" => ((refine compEnd_lt (by assumption) ?_; intro l9'w9; k_lt l9'w9; lcg_end)))
  (k_with "FinE" => (((unfold LCg.FinE); intro _ _ _ _ N'w9 _; (try dsimp only [List.nil_append, List.cons_append] at N'w9); (try dsimp only))))
  (k_with "FinA" => (((unfold LCg.FinA); intro _ _ _ _ N'w9 _; (try dsimp only [List.nil_append, List.cons_append] at N'w9); (try dsimp only))))
  (k_with "lcg_off" => (first | exact True.intro | (with_reducible assumption) | (refine And.intro (by first | exact off3_at _ _ (by assumption) (by k_mem) rfl | exact ⟨by k_ne, by k_ne, by k_ne⟩) ?_; lcg_off) | (refine And.intro (by k_ne) ?_; lcg_off)))
  (k_with "SeqSrc" => ((k_here; k_dflt ((refine SeqSrc.is (by rfl) (by k_asm) (by k_asm) (by k_mem) (by first | exact Or.inl rfl | exact Or.inr rfl) (by first | size_fits | exact Nat.le_of_ble_eq_true rfl) ?_); intro _; lcg_lit))))
  (k_with "CompRest" => ((with_unfolding_all first
  | (refine LCg.CompRest.succ ?_; intro _ _ _ _ _ _ _ _ _ _ hv'w9 _ _ _ _ _ ne'w9; (replace hv'w9 := Option.some.inj hv'w9; (first | subst hv'w9 | dsimp only at hv'w9; subst hv'w9)); (replace ne'w9 : NeP _ _ _ := ne'w9))
  | refine LCg.CompRest.zero ?_)))
  (k_with "and" => ((with_reducible first | exact And.left (by assumption) | exact And.left (And.right (by assumption)) | exact And.left (And.right (And.right (by assumption))) | exact And.left (And.right (And.right (And.right (by assumption)))) | exact And.left (And.right (And.right (And.right (And.right (by assumption))))) | exact And.left (And.right (And.right (And.right (And.right (And.right (by assumption)))))) | exact And.left (And.right (And.right (And.right (And.right (And.right (And.right (by assumption))))))) | exact And.left (And.right (And.right (And.right (And.right (And.right (And.right (And.right (by assumption)))))))) | exact And.left (And.right (And.right (And.right (And.right (And.right (And.right (And.right (And.right (by assumption))))))))) | exact And.left (And.right (And.right (And.right (And.right (And.right (And.right (And.right (And.right (And.right (by assumption)))))))))) | exact And.left (And.right (And.right (And.right (And.right (And.right (And.right (And.right (And.right (And.right (And.right (by assumption))))))))))) | exact And.left (And.right (And.right (And.right (And.right (And.right (And.right (And.right (And.right (And.right (And.right (And.right (by assumption)))))))))))) | exact And.left (And.right (And.right (And.right (And.right (And.right (And.right (And.right (And.right (And.right (And.right (And.right (And.right (by assumption))))))))))))) | exact And.left (And.right (And.right (And.right (And.right (And.right (And.right (And.right (And.right (And.right (And.right (And.right (And.right (And.right (by assumption)))))))))))))) | exact And.left (And.right (And.right (And.right (And.right (And.right (And.right (And.right (And.right (And.right (And.right (And.right (And.right (And.right (And.right (by assumption))))))))))))))) | exact And.left (And.right (And.right (And.right (And.right (And.right (And.right (And.right (And.right (And.right (And.right (And.right (And.right (And.right (And.right (And.right (by assumption)))))))))))))))) | exact And.right (by assumption) | exact And.right (And.right (by assumption)) | exact And.right (And.right (And.right (by assumption))) | exact And.right (And.right (And.right (And.right (by assumption)))) | exact And.right (And.right (And.right (And.right (And.right (by assumption))))) | exact And.right (And.right (And.right (And.right (And.right (And.right (by assumption)))))) | exact And.right (And.right (And.right (And.right (And.right (And.right (And.right (by assumption))))))) | exact And.right (And.right (And.right (And.right (And.right (And.right (And.right (And.right (by assumption)))))))) | exact And.right (And.right (And.right (And.right (And.right (And.right (And.right (And.right (And.right (by assumption))))))))) | exact And.right (And.right (And.right (And.right (And.right (And.right (And.right (And.right (And.right (And.right (by assumption)))))))))) | exact And.right (And.right (And.right (And.right (And.right (And.right (And.right (And.right (And.right (And.right (And.right (by assumption))))))))))))))
  (k_with "and3" => ((with_reducible first | exact And.left (And.left (by assumption)) | exact And.left (And.right (And.left (by assumption))) | exact And.right (And.right (And.left (by assumption))) | exact And.left (And.left (And.right (by assumption))) | exact And.left (And.right (And.left (And.right (by assumption)))) | exact And.right (And.right (And.left (And.right (by assumption)))) | exact And.left (And.left (And.right (And.right (by assumption)))) | exact And.left (And.right (And.left (And.right (And.right (by assumption))))) | exact And.right (And.right (And.left (And.right (And.right (by assumption))))) | exact And.left (And.left (And.right (And.right (And.right (by assumption))))) | exact And.left (And.right (And.left (And.right (And.right (And.right (by assumption)))))) | exact And.right (And.right (And.left (And.right (And.right (And.right (by assumption)))))) | exact And.left (And.left (And.right (And.right (And.right (And.right (by assumption)))))) | exact And.left (And.right (And.left (And.right (And.right (And.right (And.right (by assumption))))))) | exact And.right (And.right (And.left (And.right (And.right (And.right (And.right (by assumption))))))) | exact And.left (And.left (And.right (And.right (And.right (And.right (And.right (by assumption))))))) | exact And.left (And.right (And.left (And.right (And.right (And.right (And.right (And.right (by assumption)))))))) | exact And.right (And.right (And.left (And.right (And.right (And.right (And.right (And.right (by assumption)))))))) | exact And.left (And.left (And.right (And.right (And.right (And.right (And.right (And.right (by assumption)))))))) | exact And.left (And.right (And.left (And.right (And.right (And.right (And.right (And.right (And.right (by assumption))))))))) | exact And.right (And.right (And.left (And.right (And.right (And.right (And.right (And.right (And.right (by assumption))))))))) | exact And.left (And.left (And.right (And.right (And.right (And.right (And.right (And.right (And.right (by assumption))))))))) | exact And.left (And.right (And.left (And.right (And.right (And.right (And.right (And.right (And.right (And.right (by assumption)))))))))) | exact And.right (And.right (And.left (And.right (And.right (And.right (And.right (And.right (And.right (And.right (by assumption)))))))))) | exact And.left (And.left (And.right (And.right (And.right (And.right (And.right (And.right (And.right (And.right (by assumption)))))))))) | exact And.left (And.right (And.left (And.right (And.right (And.right (And.right (And.right (And.right (And.right (And.right (by assumption))))))))))) | exact And.right (And.right (And.left (And.right (And.right (And.right (And.right (And.right (And.right (And.right (And.right (by assumption))))))))))))))
  (k_with "k_ne" => (first | (with_reducible assumption) | (with_reducible exact Ne.symm (by assumption)) | (refine neN ?_; (try dsimp only); first | (with_reducible assumption) | (with_reducible exact Nat.ne_of_lt (by assumption)) | (with_reducible exact Nat.ne_of_gt (by assumption)) | (with_reducible exact Nat.ne_of_lt (by k_extra "and")) | (with_reducible exact Nat.ne_of_gt (by k_extra "and")) | assumption | exact Ne.symm (by assumption) | k_extra "ne off" | (with_reducible exact Ne.symm (by k_extra "and3")) | (with_reducible k_extra "and3") | (with_reducible exact Ne.symm (by k_extra "and")) | (with_reducible k_extra "and") | lia) | assumption | exact Ne.symm (by assumption)))
  (k_with "ne off" => (first | exact off1_at (by assumption) (by k_mem) | exact Ne.symm (off1_at (by assumption) (by k_mem)) | exact neP1 (by assumption) | exact neP2 (by assumption) | exact neP3 (by assumption) | exact Ne.symm (neP1 (by assumption)) | exact Ne.symm (neP2 (by assumption)) | exact Ne.symm (neP3 (by assumption)) | exact off3_at1 (by assumption) (by k_mem) | exact off3_at2 (by assumption) (by k_mem) | exact off3_at3 (by assumption) (by k_mem) | exact Ne.symm (off3_at1 (by assumption) (by k_mem)) | exact Ne.symm (off3_at2 (by assumption) (by k_mem)) | exact Ne.symm (off3_at3 (by assumption) (by k_mem))))
  (k_with "lcg_src" => (k_mem))
  (k_with "comp seq" => ((k_dflt (refine comp_seq (_F₀ := by k_asm) (by rfl) (by decide) (by rfl) (by decide) (by rfl) ?_))))
  (k_with "assign comp seq" => ((k_dflt (refine assign_comp_seq (_F₀ := by k_asm) (by rfl) (by with_unfolding_all rfl) (by rfl) (by decide) (by rfl) (by decide) (by rfl) (by rfl) (by rfl) ?_))))
  (k_with "no comp" => (repeat' ((fail_if_success (with_reducible show wpAny _ _ (exec (Stmt.Assign [Expr.Name _ _] (Expr.ListComp _ _ _ _) _) _) _ _ _)); (fail_if_success (with_reducible show wpAny _ _ (eval (Expr.ListComp _ _ _ _) _) _ _ _)); (first | (k_unfold; (try dsimp only)) | (k_end; wrow_close) | walk1 | (dsimp only; walk1) | (leave1; walk_say "STEP leave1"; try dsimp only) | fail "no step"))))
  (k_with "str len" => (first | assumption | lia | ((simp only [Str.length_append, PySem.ofString_length] at *); lia)))
  (k_with "call ref" => ((k_here; (with_reducible show wpAny _ _ (call (Value.ref 115) [Value.str _ _, Value.str _ _]) _ _ _); k_dflt (refine' con_use (c_join (by k_extra "str len") (by k_extra "str len")) (by k_asm) (by k_asm) (by k_asm) (by k_asm) (by k_asm) (by k_extra "con sub") (by ktr_room) (by ktr_units) ?_; k_whole); intro _ _ _ _ _ _ hv9w9; obtain ⟨t9, hv9w9⟩ := hv9w9; subst hv9w9; (try dsimp only); (try k_fold))))
  (k_with "call ref" => ((k_here; (with_reducible show wpAny _ _ (call (Value.ref 122) [Value.str _ _]) _ _ _); k_dflt (refine' con_use (c_basename (by k_extra "str len")) (by k_asm) (by k_asm) (by k_asm) (by k_asm) (by k_asm) (by k_extra "con sub") (by ktr_room) (by ktr_units) ?_; k_whole); intro _ _ _ _ _ _ hv9w9; obtain ⟨t9, hv9w9⟩ := hv9w9; subst hv9w9; (try dsimp only); (try k_fold))))
  (k_with "call ref" => ((k_here; (with_reducible show wpAny _ _ (call (Value.ref 129) [Value.str _ _]) _ _ _); k_dflt (refine' con_use (c_dirname (by k_extra "str len")) (by k_asm) (by k_asm) (by k_asm) (by k_asm) (by k_asm) (by k_extra "con sub") (by ktr_room) (by ktr_units) ?_; k_whole); intro _ _ _ _ _ _ hv9w9; obtain ⟨t9, hv9w9⟩ := hv9w9; subst hv9w9; (try dsimp only); (try k_fold))))
  (k_with "binaryOp Add str str" => ((k_here; (with_reducible show wpAny _ _ (binaryOp Operator.Add (Value.str (Txt.slice _ _ _) _) (Value.str (Str.mk _) _)) _ _ _); refine PyProof.Rows.add_str ?_ (name_fits _ _); intro _ _)))
  (k_with "int small" => (first | lia | ((simp (config := { decide := true }) only [] at *); lia) | (simp; lia)))
  (k_with "binaryOp Mult int int" => ((k_here; (with_reducible show wpAny _ _ (binaryOp Operator.Mult (Value.int _ _) (Value.int _ _)) _ _ _); refine' PyProof.Rows.mul_int ?_ (by first | exact IntMulOk.of_left (bits64 (by k_extra "int small") (by k_extra "int small")) | exact IntMulOk.of_right (bits64 (by k_extra "int small") (by k_extra "int small"))))))
  (k_with "no while" => (repeat' ((fail_if_success (with_reducible show wpAny _ _ (exec (Stmt.While _ _ _ _) _) _ _ _)); (first | (k_unfold; (try dsimp only)) | (k_end; wrow_close) | walk1 | (dsimp only; walk1) | (leave1; walk_say "STEP leave1"; try dsimp only) | fail "no step"))))
  (k_with "size small" => (first | size_fits | ((simp only [List.length_cons, List.length_nil, List.length_append, sizeLine_eq] at *); lia)))
  (k_with "binaryOp Add ref ref" => ((k_here; (with_reducible show wpAny _ _ (binaryOp _ (Value.ref _) (Value.ref _)) _ _ _); k_dflt (refine' add_lst (by k_asm) (by k_asm) (by k_mem) (by k_mem) ?_ (by k_extra "size small")); intro _ _ _ _ l1w9; (try k_lt l1w9); (try k_sweep))))
  (k_with "no for" => (repeat' ((fail_if_success (with_reducible show wpAny _ _ (exec (Stmt.For _ _ _ _ _) _) _ _ _)); (first | (k_unfold; (try dsimp only)) | (k_end; wrow_close) | walk1 | (dsimp only; walk1) | (leave1; walk_say "STEP leave1"; try dsimp only) | fail "no step"))))
  (k_with "comp seqX" => ((k_dflt (refine comp_seqX (_F₀ := by k_asm) (by rfl) (by decide) (by rfl) (by decide) (by rfl) ?_))))
  (k_with "subscriptTail" => ((k_here; (with_reducible show wpAny _ _ (subscriptTail _ _ (Value.ref _) (Value.int _ _)) _ _ _); k_dflt (refine' item_lit (by k_asm) (by k_mem) (by exact rfl) (by decide) (by decide) ?_ (by with_unfolding_all rfl); k_whole))))
  (k_with "subscriptTail Name BinOp ref int" => (walk_at "subscriptTail"))
  (k_with "subscriptTail Name Name ref int" => (walk_at "subscriptTail"))
  (k_with "subscriptTail Name Constant ref int" => (walk_at "subscriptTail"))
  (k_with "inplaceOp Add ref ref" => ((k_here; (with_reducible show wpAny _ _ (inplaceOp Operator.Add (Value.ref _) (Value.ref _)) _ _ _); k_dflt (refine' iadd_any (by k_asm) (by k_asm) (by k_mem) (by k_updF) (by k_extra "size small") (by simp) ?_); intro _ _ _ N'w9; (try dsimp only at N'w9); (try k_sweep))))
  (k_with "call builtin:len" => ((k_here; (with_reducible show wpAny _ _ (call (Value.builtin "len") [Value.ref _]) _ _ _); k_dflt (refine' len_vals (by k_asm) (by k_mem) (by with_reducible assumption) (by lia) ?_))))
  (k_with "compareOp Eq int int" => ((k_here; with_reducible refine eq_self ?_)))
  (k_with "compareOp GtE int int" => ((k_here; (with_reducible refine' ge_true (by lia) ?_))))
  (k_with "compareOp Lt int int" => ((k_here; first | ((with_reducible refine' lt_true (by lia) ?_)) | ((with_reducible refine' lt_false (by lia) ?_)))))
  (k_with "subscriptTail" => ((k_here; (with_reducible show wpAny _ _ (subscriptTail _ (PySem.Expr.Slice none (some _) none _) (Value.bytes (byteArr (_ ++ _)) _) (Value.ref _)) _ _ _); k_dflt (refine' byt_to (s := ⟨_, _, _, _, _⟩) (by k_asm) (by k_asm) (by with_reducible assumption) (by first | with_reducible assumption | rfl) (by with_reducible assumption) ?_ (by exact sub_to) (by exact let_attr)); intro _ _ _ _ _; (try dsimp only))))
  (k_with "subscriptTail" => ((k_here; (with_reducible show wpAny _ _ (subscriptTail _ (PySem.Expr.Slice (some _) none none _) (Value.bytes (byteArr (_ ++ _)) _) (Value.ref _)) _ _ _); k_dflt (refine' byt_from (s := ⟨_, _, _, _, _⟩) (by k_asm) (by k_asm) (by with_reducible assumption) (by first | with_reducible assumption | rfl) (by with_reducible assumption) ?_ (by exact sub_from) (by exact let_attr)); intro _ _ _ _ _; (try dsimp only))))
  (k_with "subscriptTail" => ((k_here; (with_reducible show wpAny _ _ (subscriptTail _ _ (Value.bytes (byteArr (_ :: _)) _) (Value.int 0 _)) _ _ _); k_dflt (refine' byt_first (by with_reducible assumption) (by exact Nat.le_of_ble_eq_true rfl) ?_ (by with_unfolding_all rfl) (by (intro _; with_unfolding_all rfl))); intro _ _; (try dsimp only))))
  (k_with "call builtin:len" => ((k_here; (with_reducible show wpAny _ _ (call (Value.builtin "len") [Value.bytes (byteArr _) _]) _ _ _); k_dflt (refine' byt_len (by with_reducible assumption) (by with_reducible assumption) (by with_reducible assumption) ?_); intro _ _; (try dsimp only))))
  (k_with "truthy bytes" => ((k_here; (with_reducible show wpAny _ _ (truthy (Value.bytes (byteArr _) _)) _ _ _); k_dflt (refine' byt_true (by with_reducible assumption) (by exact Nat.le_of_ble_eq_true rfl) (by exact List.cons_ne_nil _ _) ?_); intro _; (try dsimp only))))
  (k_with "call builtin:bytes.decode" => ((k_here; (with_reducible show wpAny _ _ (call (Value.builtin "bytes.decode") [Value.bytes (byteArr (List.map _ _)) _, Value.str _ _]) _ _ _); k_dflt (refine' dec_name (by with_reducible assumption) ?_); intro _ _; (try dsimp only))))
  trivial
section
theorem kw_c_law_1 : True := by
  (k_with "no grown" => (repeat' ((fail_if_success (with_reducible show wpAny _ _ (call (Value.ref 202) _) _ _ _)); (first | (k_unfold; (try dsimp only)) | (k_end; wrow_close) | walk1 | (dsimp only; walk1) | (leave1; walk_say "STEP leave1"; try dsimp only) | fail "no step"))))
  (k_with "k_all" => (assumption))
  (k_with "no for" => (repeat' ((fail_if_success (with_reducible show wpAny _ _ (exec (Stmt.For _ _ _ _ _) _) _ _ _)); (first | (k_unfold; (try dsimp only)) | (k_end; wrow_close) | walk1 | (dsimp only; walk1) | (leave1; walk_say "STEP leave1"; try dsimp only) | fail "no step"))))
  (k_with "no it" => (repeat' ((fail_if_success (with_reducible show wpAny _ _ (pyIter _) _ _ _)); (first | (k_unfold; (try dsimp only)) | (k_end; wrow_close) | walk1 | (dsimp only; walk1) | (leave1; walk_say "STEP leave1"; try dsimp only) | fail "no step"))))
  (k_with "no slice" => (repeat' ((fail_if_success (with_reducible show wpAny _ _ (subscriptTail _ (PySem.Expr.Slice _ _ _ _) (Value.ref _) (Value.ref _)) _ _ _)); (first | (k_unfold; (try dsimp only)) | (k_end; wrow_close) | walk1 | (dsimp only; walk1) | (leave1; walk_say "STEP leave1"; try dsimp only) | fail "no step"))))
  (k_with "no lc" => (repeat' ((fail_if_success (with_reducible show wpAny _ _ (eval (PySem.Expr.ListComp _ _ _ _) _) _ _ _)); (fail_if_success (with_reducible show wpAny _ _ (exec (Stmt.Assign [PySem.Expr.Name _ _] (PySem.Expr.ListComp _ _ _ _) _) _) _ _ _)); (first | (k_unfold; (try dsimp only)) | (k_end; wrow_close) | walk1 | (dsimp only; walk1) | (leave1; walk_say "STEP leave1"; try dsimp only) | fail "no step"))))
  (k_with "subscriptTail Name Name ref int" => ((k_here; (with_reducible show wpAny _ _ (subscriptTail _ _ (Value.ref _) (Value.int _ _)) _ _ _); k_dflt (refine' item_lit (by k_asm) (by k_mem) (by with_reducible assumption) (by lia) (by lia) ?_ (by with_unfolding_all rfl)))))
  (k_with "size small" => (((simp only [List.length_cons, List.length_nil, List.length_append, List.length_drop, sizeLine_eq]); lia)))
  (k_with "no zip" => (repeat' ((fail_if_success (with_reducible show wpAny _ _ (call (Value.type "zip") _) _ _ _)); (first | (k_unfold; (try dsimp only)) | (k_end; wrow_close) | walk1 | (dsimp only; walk1) | (leave1; walk_say "STEP leave1"; try dsimp only) | fail "no step"))))
  (k_with "no nl" => (repeat' ((fail_if_success (with_reducible show wpAny _ _ (newList _) _ _ _)); (first | (k_unfold; (try dsimp only)) | (k_end; wrow_close) | walk1 | (dsimp only; walk1) | (leave1; walk_say "STEP leave1"; try dsimp only) | fail "no step"))))
  (k_with "no cmp" => (repeat' ((fail_if_success (with_reducible show wpAny _ _ (compareOp _ (Value.ref _) (Value.ref _)) _ _ _)); (first | (k_unfold; (try dsimp only)) | (k_end; wrow_close) | walk1 | (dsimp only; walk1) | (leave1; walk_say "STEP leave1"; try dsimp only) | fail "no step"))))
  (k_with "no ref" => (repeat' ((fail_if_success (with_reducible show wpAny _ _ (call (Value.ref _) _) _ _ _)); (first | (k_unfold; (try dsimp only)) | (k_end; wrow_close) | walk1 | (dsimp only; walk1) | (leave1; walk_say "STEP leave1"; try dsimp only) | fail "no step"))))
  (k_with "subscriptTail" => ((k_here; (with_reducible show wpAny _ _ (subscriptTail (PySem.Expr.BinOp _ _ _ _) _ _ _) _ _ _); k_dflt (refine kba_turn (value' := PySem.Expr.Name (PySem.Str.ofString "_") ⟨0, 0, 0, 0⟩) (fun _ => rfl) ?_))))
  (k_with "sub far" => ((first | exact sub_nil | (refine sub_cons (by k_mem) ?_; k_extra "sub far"))))
  trivial
inductive LawS (g : Heap) (L : Addr) (h : Heap) (q : Nat → Int) (i : Nat) (shs : List Value) (Ap Nu cP It : Addr) (rest : List (Addr × Obj)) : Prop
  | mk (Sh2 R1 : Addr) (rv : List Value) (kS2 kR : Nat) (mG : Str → Option Value) (F : Fr g L h mG) (N : News g L h ((Sh2, W.listOf (List.toArray (shs ++ [Value.ref R1])) kS2) :: (R1, W.listOf (List.toArray rv) kR) :: rest)) (hrv : IntsAre rv (shI q (i + 1)))
    (mS : mG (Str.ofString "shared") = some (.ref Sh2)) (mA : mG (Str.ofString "apart") = some (.ref Ap)) (mN : mG (Str.ofString "numbers") = some (.ref Nu)) (o1 : @LT.lt Nat _ cP R1) (o2 : @LT.lt Nat _ It R1) (o3 : @LT.lt Nat _ cP Sh2) (o4 : @LT.lt Nat _ It Sh2) : LawS g L h q i shs Ap Nu cP It rest
theorem gen_q {α : Type} {prog : Program} {w : World} {A : Around} {t : Sem α} {Q : α → Shared → Prop} {E : Value → Shared → Prop} {s : Shared} (h : ∀ Qf : α → Shared → Prop, (∀ f s', Q f s' → Qf f s') → wpAny (model prog w) A t Qf (fun _ _ => False) s) : wpAny (model prog w) A t Q E s := wpAny_mono (h Q fun _ _ x => x) (fun _ _ x => x) fun _ _ x => x.elim
set_option maxRecDepth 100000 in
set_option maxHeartbeats 8000000 in
theorem c_law : PySem.Challenge.rw_ik0186_01.Holds := by
  w_on
  refine holds_law hd.said fun said => ?_
  refine PySem.W.holds_open (q := hd.view_39) (loose := []) (Xt := hd.xt) (XP := XL hd.view_39 []) (Yf := Hook.obs hd.hook) (Ya := Hook.val hd.hook) (YP := Hook.says hd.hook) (N := 3268) hd.left (Hook.of hd.hook) (Hook.keeps hd.hook) (fun s e => xl_of s (Bool.and_eq_true_iff.mp e).1) XL.keeps (by rfl) (by rfl) (by rfl) (fun s e => recFacts_of (Bool.and_eq_true_iff.mp e).2) (by rfl) (by first | assumption | decide +kernel) (by decide +kernel) ⟨rfl, rfl, rfl, rfl, rfl, hd.whole⟩ ?hw ?hc
  case hw => w_witness2
  clear said
  (have hkf : PySem.Challenge.rw_ik0186_01 = PySem.Challenge.rw_ik0186_01 ∧ Mine.hd.heap_39 = Mine.hd.heap_39 := by k_fill; exact ⟨rfl, rfl⟩)
  clear hkf
  k_go0
  all_goals try k_fold
  dsimp only
  refine gen_q ?_
  intro Qf hQf
  rename Fr _ _ _ _ => F0
  rename News _ _ _ _ => N0
  rename CellsAre _ _ _ => Y0
  clear Y0
  obtain ⟨m0, F1, hm⟩ : ∃ m0, Fr _ _ _ m0 ∧ m0 (Str.ofString "script") = some (.ref _) := ⟨_, F0, rfl⟩
  clear F0
  replace F1 := frL [(Str.ofString "script", .ref _)] F1 (fun p hp => by rw [List.mem_singleton] at hp; subst hp; exact hm)
  dsimp only [chainL] at F1
  walk_at "no grown"
  rename_i Nu wsn _ _ _ _ _ _ _ _
  rename Shared => s1
  rename IntsAre _ (List.take 5 (_ ++ _)) => hIn
  obtain ⟨q, hR, hq⟩ := row_nums hIn
  clear hIn
  rename Below _ _ _ _ => B1
  rename CodeHd _ _ _ => C1
  rename Frag.In _ _ => X1
  rename Top _ _ _ _ _ _ => T1
  rename Fr _ _ _ _ => F2
  rename News _ _ _ _ => N2
  generalize hLc : s1.heap.objs.size = Lc at *
  k_dflt (refine' grow_use (c_grown hR hq) C1 B1 F2 X1 N2 T1 ?gU ?gs ?gd ?gu ?_)
  case gU => k_updF
  case gs => intro p hp; rw [List.mem_singleton] at hp; subst hp; k_mem
  case gd => ktr_room
  case gu => ktr_units
  rintro v3 h3 tk3 ps3 F3 N3 ⟨P3, k3, ys3, rfl, hP3, hg3, hT3⟩
  have o3 := off_none N2 hP3
  have N4 := news_new F2 N3 hP3 hg3
  clear N3 N2 F2 hg3 hP3
  obtain ⟨oPl, oLi, oPa, N5, hPl, hLi, hPa⟩ : ∃ oPl oLi oPa, News _ _ _ [(P3, W.listOf (List.toArray ys3) k3), (Nu, W.listOf (List.toArray wsn) 0), (Lc + 1 + 1 + 1, oPl), (Lc + 1 + 1, oLi), (Lc + 1, oPa), (185, tabObj ps3)] ∧ oPl.data = .cell none ∧ oLi.data = .cell none ∧ oPa.data = .cell none :=
    ⟨_, _, _, news_sub N4 (List.forall_mem_cons.mpr ⟨by k_mem, List.forall_mem_cons.mpr ⟨by k_mem, List.forall_mem_cons.mpr ⟨by k_mem, List.forall_mem_cons.mpr ⟨by k_mem, List.forall_mem_cons.mpr ⟨by k_mem, List.forall_mem_cons.mpr ⟨by k_mem, fun p hp => absurd hp (by simp)⟩⟩⟩⟩⟩⟩), by assumption, by assumption, by assumption⟩
  obtain ⟨oa, ob, oc, od, oe, of, og, oh, oi, -⟩ : _ := by simpa only [List.forall_mem_cons] using o3
  clear N4 o3
  walk_at "no ref"
  rename Fr _ _ _ _ => F6
  rename News _ _ _ _ => N6
  rename Obj.data _ = Data.cell (some (Value.ref P3)) => hPa'
  rename Obj => oA2
  k_dflt (refine' con_use (c_spelled hR hq) B1 F6 X1 N6 T1 ?hs ?hd ?hu ?_)
  case hs => intro p hp; rw [List.mem_singleton] at hp; subst hp; k_mem
  case hd => ktr_room
  case hu => ktr_units
  rintro v7 h7 tk7 F7 N7 st7 ⟨P7, k7, ys7, rfl, hP7, hg7, hT7⟩
  have N8 := news_new F6 N7 hP7 hg7
  rw [← map_pthR] at hT7
  clear N7 hP7 hg7 F6 N6
  walk_at "no cmp"
  k_dflt (refine ne_txts N8 (by k_mem) (by k_mem) hT3 hT7 (paths_ok q) (by ke_room) ?_)
  replace N8 := news_sub N8 (fun p hp => List.mem_cons_of_mem _ hp)
  walk_at "no comp"
  rename Fr _ _ _ _ => F9
  rename News _ _ _ _ => N9
  walk1
  k_dflt (refine comp_rows (fun i zs => ∀ cs, (comps q 5)[i]? = some cs → TxtOf zs (lineOf cs)) (by k_asm) (by rfl) (by decide) (by rfl) (by decide) (by rfl) ?_)
  walk1
  (try dsimp only)
  k_dflt (refine' RowSrc.is (by rfl) ?rF ?rN ?rm (Or.inl rfl) ?rz ?_ ?_)
  case rF => k_asm
  case rN => k_asm
  case rm => k_mem
  case rz => rw [hT3.1, List.length_map, comps_len, sizeLine_eq]; decide
  · intro i v I oI C oC D oD m₂ hE tkE E' rows hv hC hx FE NE offE neE
    obtain ⟨cs, tp, hcs, rfl⟩ := txt_item hT3 hv
    dsimp only [List.cons_append, List.nil_append] at NE
    have hcm := List.mem_of_getElem? hcs
    walk_at "no ref"
    k_dflt (refine' con_use (c_line (comps_nm q 5 cs hcm) (Nat.le_trans (comps_deep q 5 cs hcm) (by decide)) (Nat.le_trans (comps_pth_len q 5 cs hcm) (by decide))) B1 FE X1 NE T1 ?hs1 ?hd1 ?hu1 ?_)
    case hs1 => intro p hp; exact absurd hp (by simp)
    case hd1 => ktr_room
    case hu1 => ktr_units
    rintro v8 h8 tk8 F8 N8 st8 ⟨l8, vs8, n8, rfl, hf8, hg8, ht8⟩
    refine row_end FE NE F8 N8 hf8 hg8 fun cs' h' => ?_
    rw [hcs] at h'; cases h'; exact ht8
  · intro Ln h10 tk10 lns kL rowsL F10 N10 RL _ aL oL
    dsimp only [List.cons_append, List.nil_append] at N10
    (try dsimp only)
    have rL1 : ∀ p ∈ rowsL, p.1 ≠ Lc + 1 + 1 + 1 := apart_ne aL (by dsimp only [List.map]; walk_at "mem at")
    have rL2 : ∀ p ∈ rowsL, p.1 ≠ Lc + 1 + 1 := apart_ne aL (by dsimp only [List.map]; walk_at "mem at")
    have rL3 : ∀ p ∈ rowsL, p.1 ≠ Lc + 1 := apart_ne aL (by dsimp only [List.map]; walk_at "mem at")
    have rL4 : ∀ p ∈ rowsL, p.1 ≠ 185 := apart_ne aL (by dsimp only [List.map]; walk_at "mem at")
    have pL : ∀ q ∈ [(P3, W.listOf (List.toArray ys3) k3), (Nu, W.listOf (List.toArray wsn) 0), (Lc + 1 + 1 + 1, oPl), (Lc + 1 + 1, oLi)], q.1 ≠ Ln := fun q hq => off1_mem oL q ((show ∀ q ∈ _, q ∈ _ by (try dsimp only [List.cons_append]); walk_at "sub") q hq)
    simp only [List.forall_mem_cons] at pL
    obtain ⟨pL1, pL2, pL3, pL4, -⟩ := pL
    walk_at "no for"
    k_dflt (refine For_C ?_)
    walk_at "no it"
    rename IsRange _ _ _ _ _ _ _ _ => HR
    rename Fr _ _ _ _ => F12
    rename News _ _ _ _ => N12
    rename Obj.data _ = Data.cell (some (Value.ref Ln)) => hLi'
    rename Obj => oL2
    k_dflt (refine cell_inv (c := Lc + 1 + 1 + 1) (n := 5) (fun i m nx => LawJ q Nu _ rowsL i m nx) rfl rfl rfl rfl HR (range_small _ _ 5 rfl (by decide) (by decide)) (range_size _ _ 5 rfl) F12 (law_news N12) hPl ?_ (law_j0 rfl rfl rfl) ?_ ?_)
    · intro p hp
      simp only [List.mem_cons, List.mem_append, List.not_mem_nil, or_false] at hp
      rcases hp with rfl | rfl | (rfl | rfl | rfl | rfl | rfl | rfl) | h | rfl | rfl
      all_goals first | exact rL1 p h | k_ne
    · rintro i tP m₁ nx hT tkT It oI oc hi hJ FT NT hcP hoffT hcI
      obtain ⟨Sh, Ap, shs, aps, kS, kA, rowsS, rowsA, rfl, RS, RA, hmS, hmA, hmN⟩ := hJ
      replace FT := frL [(Str.ofString "shared", .ref Sh), (Str.ofString "apart", .ref Ap), (Str.ofString "numbers", .ref Nu)] FT (all3 hmS hmA hmN)
      dsimp only [chainL] at FT
      dsimp only [List.cons_append, List.nil_append] at NT
      replace FT : Fr _ Lc _ _ := FT
      replace NT : News _ Lc _ _ := NT
      have hy6 : ys3.length = 6 := by rw [hT3.1, List.length_map, comps_len]
      have hl6 : lns.length = 6 := by rw [RL.refs, List.length_map, RL.len, hy6]
      have hj6 : i + 1 < 6 := by lia
      have hs6 : shs.length = i + 1 := by rw [RS.refs, List.length_map, RS.len]
      have ha6 : aps.length = i + 1 := by rw [RA.refs, List.length_map, RA.len]
      obtain ⟨aL, zL, kkL, hrL, hLx, hGL⟩ := RL.at (i := i + 1) (by lia)
      replace hGL := hGL _ (cmW_at q (show i + 1 < 6 by lia))
      have hmL := List.mem_of_getElem? hrL
      replace hLx : lns[(1 + (i : Int)).toNat]? = some (.ref aL) := by rw [show (1 + (i : Int)).toNat = i + 1 by lia]; exact hLx
      clear F12 N12 hmS hmA hmN hrL
      walk_at "no lc"
      k_dflt (refine comp_ints (fun t => signsI (cmW q (i + 1)) (cmW q (t + 1))) (by k_asm) (by rfl) (by decide) (by rfl) (by decide) (by rfl) ?_)
      walk_at "no slice"
      k_dflt (refine' kmk_slice_lit (s := ⟨_, _, _, _, _⟩) ?saF ?saN ?sal ?sap ?saq (pick_mid ys3 (i + 2) _ ?saw) ?_ ?sas ?sat ?saz)
      case saF => k_asm
      case saN => k_asm
      case sal => kmk_list
      case sap => kmk_part
      case saq => kmk_part
      case saw => lia
      case sas => with_unfolding_all rfl
      case sat => kmk_pure
      case saz => rw [List.size_toArray, hy6, sizeLine_eq]; decide
      intro Dq hq1 Fq Nq lq
      (try dsimp only)
      k_dflt (refine' IntSrc.is (by rfl) ?iaF ?iaN ?iam (Or.inl rfl) ?iaz ?_ ?_)
      case iaF => k_asm
      case iaN => k_asm
      case iam => k_mem
      case iaz => rw [List.length_drop, List.length_take, hy6, sizeLine_eq]; lia
      · intro t v I oI2 C oC D oD m₂ hE tkE E' hv hC hx FE NE offE neE
        obtain ⟨cs, tp, hcs, rfl⟩ : ∃ cs tp, (comps q 5)[t + 1]? = some cs ∧ v = .str (pthR cs) tp := by
          rw [List.getElem?_drop, Nat.add_comm 1 t, List.getElem?_take] at hv
          split at hv
          · exact txt_item hT3 hv
          · cases hv
        have ht6 : t + 1 < 6 := cm_lt q hcs
        have ecs : cs = cmW q (t + 1) := Option.some.inj (hcs.symm.trans (cmW_at q ht6))
        subst ecs
        walk_at "no ref"
        obtain ⟨a1, a2, a3, a4⟩ := cm_ok q hj6
        obtain ⟨b1, b2, b3, b4⟩ := cm_ok q ht6
        k_dflt (refine' con_use (c_signs (l := aL) (n := kkL) (cm_ne q hj6) (cm_ne q ht6) a1 b1 a2 b2 a3 b3 a4 b4 hGL) B1 FE X1 NE T1 ?ihs ?ihd ?ihu ?_)
        case ihs => exact sub_cons (by (try dsimp only [List.cons_append]); walk_at "mem in") sub_nil
        case ihd => ktr_room
        case ihu => ktr_units
        rintro v8 h8 tk8 F8 N8 st8 ⟨t8, rfl⟩
        exact ⟨_, _, _, rfl, rfl, F8, N8⟩
      · intro Di hDi tkDi isx kDi FI NI II oI1
        rw [show (List.drop 1 (List.take (i + 2) ys3)).length = i + 1 by rw [List.length_drop, List.length_take, hy6]; lia] at II
        have hil : isx.length = i + 1 := by rw [II.length, List.length_map, List.length_range]
        clear Fq Nq lq
        walk_at "no lc"
        rename Fr _ _ _ _ => FG
        rename News _ _ _ _ => NG
        obtain ⟨Sh2, R1, rv, kS2, kR, mG, F2, N2, hrv, mS, mA, mN, oo1, oo2, oo3, oo4⟩ : LawS _ _ _ q i shs Ap Nu (Lc + 1 + 1 + 1) It ((Lc + 1 + 1 + 1, oc) :: (It, oI) :: (Ap, W.listOf (List.toArray aps) kA) :: (Ln, W.listOf (List.toArray lns) kL) :: (P3, W.listOf (List.toArray ys3) k3) :: (Nu, W.listOf (List.toArray wsn) 0) :: (Lc + 1 + 1, oL2) :: (Lc + 1, oA2) :: (185, tabObj ps3) :: (rowsL ++ (rowsS ++ rowsA))) :=
          ⟨_, _, _, _, _, _, FG, law_n2 NG, by rw [shI_cons]; exact IntsAre.append (.cons _ _ .nil) II, rfl, rfl, rfl, by first | walk_at "and" | lia, by first | walk_at "and" | lia, by first | walk_at "and" | lia, by first | walk_at "and" | lia⟩
        clear FG NG
        replace F2 := frL [(Str.ofString "shared", .ref Sh2), (Str.ofString "apart", .ref Ap), (Str.ofString "numbers", .ref Nu)] F2 (all3 mS mA mN)
        dsimp only [chainL] at F2
        k_dflt (refine assign_rows (fun t zs => IntsAre zs (sdI q (i + 1) t)) (by k_asm) (by rfl) (by with_unfolding_all rfl) (by rfl) (by decide) (by rfl) (by decide) (by rfl) (by rfl) (by rfl) ?_)
        walk_at "no slice"
        k_dflt (refine' kmk_slice_lit (s := ⟨_, _, _, _, _⟩) ?sbF ?sbN ?sbl ?sbp ?sbq (pick_to lns (i + 2) _ ?sbw) ?_ ?sbs ?sbt ?sbz)
        case sbF => k_asm
        case sbN => k_asm
        case sbl => kmk_list
        case sbp => kmk_part
        case sbq => kmk_part
        case sbw => lia
        case sbs => with_unfolding_all rfl
        case sbt => kmk_pure
        case sbz => rw [List.size_toArray, hl6, sizeLine_eq]; decide
        intro Dq2 hq2 Fq2 Nq2 lq2
        (try dsimp only)
        k_dflt (refine' RowSrcA.is (by rfl) ?ibF ?ibN ?ibm (Or.inl rfl) ?ibz ?_ ?_)
        case ibF => k_asm
        case ibN => k_asm
        case ibm => k_mem
        case ibz => rw [List.length_take, hl6, sizeLine_eq]; lia
        · intro t v I oI2 C oC D oD m₂ hE tkE E' rows hv hC hx FE NE offE neE
          dsimp only [List.cons_append, List.nil_append] at NE
          have ht : t < i + 2 := by
            have := (List.getElem?_eq_some_iff.mp hv).1
            rw [List.length_take] at this; lia
          rw [List.getElem?_take_of_lt ht] at hv
          obtain ⟨aT, zT, kT, hrT, hTx, hGT⟩ := RL.at (i := t) (by lia)
          rw [hTx] at hv; cases hv
          replace hGT := hGT _ (cmW_at q (show t < 6 by lia))
          have hmT := List.mem_of_getElem? hrT
          walk_at "no ref"
          obtain ⟨a2, a3⟩ := line_ok q hj6
          obtain ⟨b2, b3⟩ := line_ok q (show t < 6 by lia)
          k_dflt (refine' con_use0 (c_sides (l := aL) (n := kkL) (l2 := aT) (n2 := kT) hGL hGT (line_adj _) (line_adj _) a2 b2 a3 b3) B1 FE X1 NE T1 ?ibs ?ibd ?ibu ?_)
          case ibs => exact sub_cons (by (try dsimp only [List.cons_append]); walk_at "mem in") (sub_cons (by (try dsimp only [List.cons_append]); walk_at "mem in") sub_nil)
          case ibd => ktr_room
          case ibu => ktr_units
          rintro v9 h9 tk9 new F9' N9' ne9 ⟨D9, t91, t92, k9, rfl, rfl⟩
          refine row_end2 (by exact F9') (by exact N9') (fun p hp => ne9 p hp _ List.mem_cons_self) ?_
          exact .cons _ _ (.cons _ _ .nil)
        · intro Sd hSd tkSd sds kSd rowsD FS NS RD aD oD1
          dsimp only [List.cons_append, List.nil_append] at NS
          rw [show (List.take (i + 2) lns).length = i + 2 by rw [List.length_take, hl6]; lia] at RD
          have hs7 : (shs ++ [Value.ref R1]).length = i + 2 := by rw [List.length_append, hs6]; rfl
          have hSx : (shs ++ [Value.ref R1])[(1 + (i : Int)).toNat]? = some (.ref R1) := by
            rw [show (1 + (i : Int)).toNat = i + 1 by lia, List.getElem?_append_right (by lia), hs6, Nat.sub_self]; rfl
          obtain ⟨tpx, hPx⟩ := hT3.2 (i + 1) (pthR (cmW q (i + 1))) (by rw [List.getElem?_map, cmW_at q hj6]; rfl)
          replace hPx : ys3[(1 + (i : Int)).toNat]? = some (.str (pthR (cmW q (i + 1))) tpx) := by rw [show (1 + (i : Int)).toNat = i + 1 by lia]; exact hPx
          have hrl : rv.length = i + 2 := by rw [hrv.length]; unfold shI; rw [List.length_map, List.length_range]
          clear Fq2 Nq2 lq2
          dsimp only
          walk_at "no lc"
          k_dflt (refine comp_zip (by rfl) (by rfl) (by decide) ?_)
          walk_at "no zip"
          k_dflt (refine' zip_rows (fun t zs => IntsAre zs [((pthR (cmW q (i + 1))).length : Int) - signsI (cmW q (i + 1)) (cmW q t), ((Txt.rstripChars (pthR (cmW q t)) (Str.ofString "/")).length : Int) - signsI (cmW q (i + 1)) (cmW q t)]) (by rfl) (by decide) (by rfl) (by rfl) (by rfl) (by decide) ?icF ?icN ?icm ?icn ?icz ?_ ?_)
          case icF => k_asm
          case icN => k_asm
          case icm => k_mem
          case icn => k_mem
          case icz => rw [hy6, sizeLine_eq]; decide
          · intro t u v C oC m₂ s₃ E' hu hv hC hx1 hx2 FE NE
            obtain ⟨cs, tp, hcs, rfl⟩ := txt_item hT3 hu
            have ht6 : t < 6 := cm_lt q hcs
            have ecs : cs = cmW q t := Option.some.inj (hcs.symm.trans (cmW_at q ht6))
            subst ecs
            obtain ⟨n, t9, rfl, hn⟩ := hrv.at t v hv
            have en : n = signsI (cmW q (i + 1)) (cmW q t) := by
              unfold shI at hn
              rw [List.getElem?_map] at hn
              have hlt := (List.getElem?_eq_some_iff.mp hv).1
              rw [List.getElem?_range (by lia)] at hn
              exact (Option.some.inj hn).symm
            subst en
            obtain ⟨-, -, e1, -⟩ := cm_ok q hj6
            obtain ⟨-, -, e2, -⟩ := cm_ok q ht6
            walk_at "no nl"
            k_dflt (refine' new_keep (s := ⟨_, _, _, _, _⟩) ?idF ?idN ?idz ?_)
            case idF => k_asm
            case idN => k_asm
            case idz => exact Nat.le_of_ble_eq_true rfl
            intro Dn hn' Fn Nn stn frn gn
            exact ⟨⟨Dn, _, _, rfl, frn, gn, .cons _ _ (.cons _ _ .nil)⟩, ⟨_, _, rfl, stn⟩⟩
          · intro Dz hDz tkDz dzs kDz rowsZ FZ NZ RZ aZ oZ1
            rw [hy6, hrl, show min 6 (i + 2) = i + 2 by lia] at RZ
            dsimp only [List.cons_append, List.nil_append] at NZ
            (try dsimp only)
            k_dflt (refine ne_rows (r := fun t => sdI q (i + 1) t) NZ (by k_mem) (by k_mem) RD RZ ?_ ?_ (fun t zs _ h => h) (fun t zs ht h => ?_) (by ke_room) ?_)
            · intro p hp; (try dsimp only [List.cons_append]); walk_at "mem in"
            · intro p hp; (try dsimp only [List.cons_append]); walk_at "mem in"
            · rw [sides_law q hj6 (by lia)]; exact h
            · have NS2 : News _ Lc _ ((Sd, W.listOf (List.toArray sds) kSd) :: (Sh2, W.listOf (List.toArray (shs ++ [Value.ref R1])) kS2) :: (R1, W.listOf (List.toArray rv) kR) :: (Lc + 1 + 1 + 1, oc) :: (It, oI) :: (Ap, W.listOf (List.toArray aps) kA) :: (Ln, W.listOf (List.toArray lns) kL) :: (P3, W.listOf (List.toArray ys3) k3) :: (Nu, W.listOf (List.toArray wsn) 0) :: (Lc + 1 + 1, oL2) :: (Lc + 1, oA2) :: (185, tabObj ps3) :: (rowsL ++ (rowsS ++ rowsA) ++ rowsD)) := news_sub NZ (by (try dsimp only [List.cons_append]); walk_at "sub")
              clear NZ NS
              walk_at "no lc"
              k_dflt (refine comp_ints (fun t => wtL (sld (lineOf (cmW q (i + 1))) (lineOf (cmW q t))).1 + wtL (sld (lineOf (cmW q (i + 1))) (lineOf (cmW q t))).2) (by k_asm) (by rfl) (by decide) (by rfl) (by decide) (by rfl) ?_)
              walk1
              (try dsimp only)
              k_dflt (refine' IntSrc.is (by rfl) ?ieF ?ieN ?iem (Or.inl rfl) ?iez ?_ ?_)
              case ieF => k_asm
              case ieN => k_asm
              case iem => k_mem
              case iez => rw [RD.refs, List.length_map, RD.len, sizeLine_eq]; lia
              · intro t v I oI2 C oC D oD m₂ hE tkE E' hv hC hx FE NE offE neE
                have ht : t < i + 2 := by
                  have := (List.getElem?_eq_some_iff.mp hv).1
                  rw [RD.refs, List.length_map, RD.len] at this; exact this
                obtain ⟨dT, zT, kT, hrT, hTx, hGT⟩ := RD.at ht
                rw [hTx] at hv; cases hv
                have hmT := List.mem_of_getElem? hrT
                have NE2 := news_dup NE (p := (dT, W.listOf (List.toArray zT) kT)) (by (try dsimp only [List.cons_append]); walk_at "mem in")
                clear NE
                have hzl : zT.length = 2 := hGT.length
                replace hGT : IntsAre zT [wtL (sld (lineOf (cmW q (i + 1))) (lineOf (cmW q t))).1, wtL (sld (lineOf (cmW q (i + 1))) (lineOf (cmW q t))).2] := hGT
                k_steps
                rename Fr _ _ _ _ => FE3
                rename News _ _ _ _ => NE3
                refine ⟨_, _, _, rfl, congrArg (fun z => Value.int z _) (by first | rfl | lia), FE3, fun p hp => NE3 p (List.mem_cons_of_mem _ hp)⟩
              · intro Di hDi tkDi isx2 kDi FI NI II oI1
                rw [show sds.length = i + 2 by rw [RD.refs, List.length_map, RD.len]] at II
                have hil2 : isx2.length = i + 2 := by rw [II.length, List.length_map, List.length_range]
                have d1 := off1_mem oI1 (Lc + 1 + 1 + 1, oc) (by (try dsimp only [List.cons_append]); walk_at "mem at")
                have d2 := off1_mem oI1 (It, oI) (by (try dsimp only [List.cons_append]); walk_at "mem at")
                k_steps
                rename Fr _ _ _ _ => FZ2
                rename News _ _ _ _ => NZ2
                refine law_step (L := Lc) FZ2 NZ2 RS RA hrv II rfl rfl rfl hcP hoffT ⟨Nat.ne_of_gt oo1, Nat.ne_of_gt oo2⟩ ⟨Nat.ne_of_gt oo3, Nat.ne_of_gt oo4⟩ ⟨Ne.symm d1, Ne.symm d2⟩ ?_
                refine ⟨neN ?_, neN ?_⟩ <;> lia
    · rintro m₁ nx hF tkF ocF hJ FF NF
      obtain ⟨Sh, Ap, shs, aps, kS, kA, rowsS, rowsA, rfl, RS, RA, hmS, hmA, hmN⟩ := hJ
      replace FF := frL [(Str.ofString "shared", .ref Sh), (Str.ofString "apart", .ref Ap), (Str.ofString "numbers", .ref Nu)] FF (all3 hmS hmA hmN)
      dsimp only [chainL] at FF
      dsimp only [List.cons_append, List.nil_append] at NF
      replace FF : Fr _ Lc _ _ := FF
      replace NF : News _ Lc _ ((Sh, W.listOf (List.toArray shs) kS) :: (Ap, W.listOf (List.toArray aps) kA) :: (Nu, W.listOf (List.toArray wsn) 0) :: (185, tabObj ps3) :: (rowsS ++ rowsA)) := news_sub NF (by (try dsimp only [List.cons_append]); walk_at "sub")
      have hs6 : shs.length = 6 := by rw [RS.refs, List.length_map, RS.len]
      clear F12 N12 hmS hmA hmN
      walk_at "no lc"
      k_dflt (refine comp_rows (fun t zs => IntsAre zs ((shI q (t + 1)).drop 1)) (by k_asm) (by rfl) (by decide) (by rfl) (by decide) (by rfl) ?_)
      walk_at "no slice"
      k_dflt (refine' kmk_slice_lit (s := ⟨_, _, _, _, _⟩) ?eaF ?eaN ?eal ?eap ?eaq (pick_from shs 1) ?_ ?eas ?eat ?eaz)
      case eaF => k_asm
      case eaN => k_asm
      case eal => kmk_list
      case eap => kmk_part
      case eaq => kmk_part
      case eas => with_unfolding_all rfl
      case eat => kmk_pure
      case eaz => rw [List.size_toArray, hs6, sizeLine_eq]; decide
      intro Dq hq1 Fq Nq lq
      (try dsimp only)
      k_dflt (refine' RowSrc.is (by rfl) ?ebF ?ebN ?ebm (Or.inl rfl) ?ebz ?_ ?_)
      case ebF => k_asm
      case ebN => k_asm
      case ebm => k_mem
      case ebz => rw [List.length_drop, hs6, sizeLine_eq]; decide
      · intro t v I oI C oC D oD m₂ hE tkE E' rows hv hC hx FE NE offE neE
        (try dsimp only [List.cons_append, List.nil_append] at NE)
        rw [List.getElem?_drop] at hv
        have ht : 1 + t < 6 := by have := (List.getElem?_eq_some_iff.mp hv).1; lia
        obtain ⟨aT, zT, kT, hrT, hTx, hGT⟩ := RS.at ht
        rw [hTx] at hv; cases hv
        have hmT := List.mem_of_getElem? hrT
        have NE2 := news_dup NE (p := (aT, W.listOf (List.toArray zT) kT)) (by (try dsimp only [List.cons_append]); walk_at "mem in")
        have hzl : zT.length = t + 2 := by rw [hGT.length]; unfold shI; simp; lia
        walk_at "no slice"
        k_dflt (refine' kmk_slice_lit (s := ⟨_, _, _, _, _⟩) ?ecF ?ecN ?ecl ?ecp ?ecq (pick_from zT 1) ?_ ?ecs ?ect ?ecz)
        case ecF => k_asm
        case ecN => exact NE2
        case ecl => exact News.isList NE2 List.mem_cons_self
        case ecp => kmk_part
        case ecq => kmk_part
        case ecs => with_unfolding_all rfl
        case ect => kmk_pure
        case ecz => rw [List.size_toArray, hzl, sizeLine_eq]; lia
        intro D9 h9 F9' N9' l9'
        refine row_end2 F9' (news_sub N9' (fun p hp => by
          rcases List.mem_cons.mp hp with h | h
          · exact List.mem_cons.mpr (Or.inl h)
          · exact List.mem_cons_of_mem _ (List.mem_cons_of_mem _ h))) (fun p hp => Nat.ne_of_lt (l9' p (List.mem_cons_of_mem _ hp))) ?_
        rw [show t + 1 = 1 + t from Nat.add_comm t 1]
        exact IntsAre.drop hGT 1
      · intro Dr hDr tkDr rws kDr rowsR FR NR RR _ aR oR1
        rw [show (List.drop 1 shs).length = 5 by rw [List.length_drop, hs6]] at RR
        obtain rfl := refs_map RR
        obtain rfl := refs_map RA
        dsimp only [List.cons_append] at NR
        replace NR : News _ Lc _ (((Dr, W.listOf ((rowsR.map (·.1)).map Value.ref).toArray kDr) :: rowsR) ++ ((Ap, W.listOf ((rowsA.map (·.1)).map Value.ref).toArray kA) :: (Nu, W.listOf (List.toArray wsn) 0) :: (185, tabObj ps3) :: rowsA)) := news_sub NR (by (try dsimp only [List.cons_append]); walk_at "sub")
        clear Fq Nq lq
        walk_at "no ref"
        k_dflt (refine' con_use (c_square (tri_rows (M := nearM q) RR fun _ _ => near_row) (by rw [List.length_map, RR.len]) (by decide) (by decide)) B1 FR X1 NR T1 ?eds ?edd ?edu ?_)
        case eds => exact fun p hp => List.mem_append_left _ hp
        case edd => ktr_room
        case edu => ktr_units
        rintro v1 hh1 tkk1 FA NA stA ⟨Ds, ks, rl, rfl, hDs, hgs, hrl, hmat, hall, -⟩
        rw [map_refs] at hgs
        have NA2 := news_new FR (news_more FR NA (fun p hp => ⟨(hall p hp).1, (hall p hp).2.1⟩)) hDs hgs
        replace NA2 : News _ Lc _ (((Ds, W.listOf ((rl.map (·.1)).map Value.ref).toArray ks) :: rl) ++ ((Ap, W.listOf ((rowsA.map (·.1)).map Value.ref).toArray kA) :: (Nu, W.listOf (List.toArray wsn) 0) :: (185, tabObj ps3) :: rowsA)) := news_sub NA2 (by (try dsimp only [List.cons_append]); walk_at "sub")
        clear NA NR FR
        obtain ⟨T, e0, e1, e2, e3, eT⟩ := near_law q
        (try dsimp only)
        walk_at "no ref"
        k_dflt (refine' con_use (c_minors hmat (by rw [List.length_map, hrl]) (by decide) (by decide) T e0 e1 e2 e3) B1 FA X1 NA2 T1 ?ees ?eed ?eeu ?_)
        case ees => exact fun p hp => List.mem_append_left _ hp
        case eed => ktr_room
        case eeu => ktr_units
        rintro v2 hh2 tkk2 FB NB stB ⟨Dm, vsm, km, rfl, hgm, hDm, hIm⟩
        rw [eT] at hIm
        have NB2 := news_new FA (news_sub NB (fun p hp => List.mem_append_right _ hp)) hDm hgm
        clear NB NA2 FA
        (try dsimp only)
        walk_at "no ref"
        rename Fr _ _ _ _ => FC
        rename News _ _ _ _ => NC
        replace NC : News _ Lc _ (((Ap, W.listOf ((rowsA.map (·.1)).map Value.ref).toArray kA) :: rowsA) ++ [(Dm, W.listOf (List.toArray vsm) km), (Nu, W.listOf (List.toArray wsn) 0), (185, tabObj ps3)]) := news_sub NC (by (try dsimp only [List.cons_append]); walk_at "sub")
        k_dflt (refine' con_use (c_square (tri_rows (M := farM q) RA fun _ _ => far_row) (by rw [List.length_map, RA.len]) (by decide) (by decide)) B1 FC X1 NC T1 ?efs ?efd ?efu ?_)
        case efs => exact fun p hp => List.mem_append_left _ hp
        case efd => ktr_room
        case efu => ktr_units
        rintro v3 hh3 tkk3 FD ND stD ⟨Dw, kw, rl, rfl, hDw, hgw, hrl, hmat, hall, -⟩
        obtain ⟨⟨a0, j0⟩, ⟨a1, j1⟩, ⟨a2, j2⟩, ⟨a3, j3⟩, ⟨a4, j4⟩, ⟨a5, j5⟩, rfl⟩ := len6 hrl
        have ND2 := news_new FC (news_more FC ND (fun p hp => ⟨(hall p hp).1, (hall p hp).2.1⟩)) hDw hgw
        dsimp only [List.map] at ND2
        dsimp only [List.map] at hmat
        replace ND2 : News _ Lc _ ((Dw, W.listOf [Value.ref a0, Value.ref a1, Value.ref a2, Value.ref a3, Value.ref a4, Value.ref a5].toArray kw) :: (a0, j0) :: (a1, j1) :: (a2, j2) :: (a3, j3) :: (a4, j4) :: (a5, j5) :: [(Dm, W.listOf (List.toArray vsm) km), (Nu, W.listOf (List.toArray wsn) 0), (185, tabObj ps3)]) := news_sub ND2 (by (try dsimp only [List.cons_append]); walk_at "sub")
        clear ND NC FC
        (try dsimp only)
        walk_at "no ref"
        rename Fr _ _ _ _ => FE
        rename News _ _ _ _ => NE
        (try dsimp only [List.cons_append, List.nil_append] at NE)
        obtain ⟨T2, e02, e12, e22, e32, eT2⟩ := far_law q
        k_dflt (refine' con_use (c_minors (mat_exch hmat) rfl (by decide) (by decide) T2 e02 e12 e22 e32) B1 FE X1 NE T1 ?egs ?egd ?egu ?_)
        case egs => walk_at "sub far"
        case egd => ktr_room
        case egu => ktr_units
        rintro v4 hh4 tkk4 FG NG stG ⟨Df, vsf, kf, rfl, hgf, hDf, hIf⟩
        rw [eT2] at hIf
        have NG2 := news_new FE NG hDf hgf
        replace NG2 : News _ Lc _ [(Df, W.listOf (List.toArray vsf) kf), (Dm, W.listOf (List.toArray vsm) km), (Nu, W.listOf (List.toArray wsn) 0), (185, tabObj ps3)] := news_sub NG2 (by (try dsimp only [List.cons_append]); walk_at "sub")
        clear NG NE FE
        (try dsimp only)
        walk_at "no lc"
        k_dflt (refine comp_ints (fun t => wtI q t) (by k_asm) (by rfl) (by decide) (by rfl) (by decide) (by rfl) ?_)
        walk1
        (try dsimp only)
        have hw5 : wsn.length = 5 := hR.1
        k_dflt (refine' IntSrc.is (by rfl) ?ehF ?ehN ?ehm (Or.inl rfl) ?ehz ?_ ?_)
        case ehF => k_asm
        case ehN => k_asm
        case ehm => k_mem
        case ehz => rw [hw5, sizeLine_eq]; decide
        · intro t v I oI2 C oC D oD m₂ hE tkE E' hv hC hx FE NE offE neE
          have ht : t < 5 := by have := (List.getElem?_eq_some_iff.mp hv).1; lia
          obtain ⟨tq, hq2⟩ := hR.2 t ht
          rw [hq2] at hv; cases hv
          k_steps
          exact ⟨_, _, _, rfl, rfl, FE, NE⟩
        · intro Di hDi tkDi isx kDi FI NI II oI1
          rw [hw5] at II
          walk_at "no ref"
          k_dflt (refine' con_use (c_dueN (row_map II) (wtI_ok q)) B1 FI X1 NI T1 ?eis ?eid ?eiu ?_)
          case eis => exact List.forall_mem_cons.mpr ⟨by k_mem, fun p hp => absurd hp (by simp)⟩
          case eid => ktr_room
          case eiu => ktr_units
          rintro v5 hh5 tkk5 FJ NJ stJ ⟨Dd, nn, ff, kn, kff, vn, vf, rfl, hgD, hgn, hgf2, hD0, hn0, hf0, In, If⟩
          (try dsimp only)
          walk_at "no cmp"
          k_dflt (refine eq_pairs (NJ _ (List.mem_cons_of_mem _ List.mem_cons_self)).1 hgD (NJ (Dm, W.listOf (List.toArray vsm) km) (by k_mem)).1 (NJ (Df, W.listOf (List.toArray vsf) kf) (by k_mem)).1 hgn hgf2 hIm hIf In If (by ke_room) ?_)
          k_steps
          refine hQf _ _ ?_
          k_steps
end
end Mine
set_option maxRecDepth 100000 in
set_option maxHeartbeats 8000000 in
theorem PySem.Challenge.cw_ik0186_01_holds : PySem.Challenge.rw_ik0186_01.Holds :=
  Mine.c_law
