import PyProof.Rows.All
import Wide.All
import OpenK.AllK
import KE.KRevSl
import Wide.FinOn
import Lean
import PySem.Challenge.RW_us0016_01
open PySem PySem.W PyProof.Rows
set_option Elab.async false
set_option maxRecDepth 100000
namespace Mine
/-- the program's text -/
noncomputable abbrev pw1 : Program := PySem.Challenge.pw_us0016_01
noncomputable def fdP (i : Nat) : Arguments := match pw1.main.body[i]? with | some (.FunctionDef _ a _ _ _ _ _ _ _ _) => a | _ => ⟨[], [], none, [], [], none, []⟩
noncomputable def fdB (i : Nat) : List Stmt := match pw1.main.body[i]? with | some (.FunctionDef _ _ b _ _ _ _ _ _ _) => b | _ => []
noncomputable def fdS (i : Nat) : Scope := match pw1.main.body[i]? with | some (.FunctionDef _ _ _ _ _ _ s _ _ _) => s | _ => default
noncomputable abbrev vs (x : String) (t : Nat) : Value := .str (Str.ofString x) t
noncomputable abbrev de (P : Params) (k : String) (t : Nat) (v : Value) : DictEntry := { hash := PyData.keyHash P (Str.ofString k), key := vs k t, val := v }
noncomputable abbrev dO (n : Nat) (es : Array DictEntry) : Obj := ⟨.type "dict", none, .dict es n, #[]⟩
noncomputable abbrev fO (i : Nat) (n : String) (dV kV pm cd : Value) : Obj := ⟨.type "function", none, .func (fnOf (Str.ofString n) (Str.ofString n) (fdP i) (fdB i) (fdS i) dV kV .none pm none cd .none), #[]⟩
noncomputable abbrev o3 (P : Params) : Obj := dO 79 #[de P "__name__" 165 (vs "law_us0016_01" 493), de P "__doc__" 166 .none, de P "__package__" 167 .none, de P "__loader__" 168 (.builtin "__main__.__loader__#opaque"), de P "__spec__" 169 .none, de P "__annotations__" 170 (.ref 6), de P "__builtins__" 171 (.ref 4), de P "__file__" 173 (vs "/claim/cut.py" 172), de P "__cached__" 174 .none, de P "ELLIPSIS_MARKER" 190 (vs "..." 189), de P "_ellipsis_match" 202 (.ref 21), de P "insort_right" 217 (.ref 30), de P "bisect_right" 231 (.ref 39), de P "bisect_left" 245 (.ref 48), de P "_iter_escaped_chars" 257 (.ref 55), de P "_strip_quoted_realnames" 269 (.ref 62), de P "_check_parenthesis" 279 (.ref 69), de P "ENDMARKER" 283 (.int 0 282), de P "LPAR" 285 (.int 7 284), de P "RPAR" 287 (.int 8 286), de P "LSQB" 289 (.int 9 288), de P "RSQB" 291 (.int 10 290), de P "COLON" 293 (.int 11 292), de P "COMMA" 295 (.int 12 294), de P "SEMI" 297 (.int 13 296), de P "PLUS" 299 (.int 14 298), de P "MINUS" 301 (.int 15 300), de P "STAR" 303 (.int 16 302), de P "SLASH" 305 (.int 17 304), de P "VBAR" 307 (.int 18 306), de P "AMPER" 309 (.int 19 308), de P "LESS" 311 (.int 20 310), de P "GREATER" 313 (.int 21 312), de P "EQUAL" 315 (.int 22 314), de P "DOT" 317 (.int 23 316), de P "PERCENT" 319 (.int 24 318), de P "LBRACE" 321 (.int 25 320), de P "RBRACE" 323 (.int 26 322), de P "EQEQUAL" 325 (.int 27 324), de P "NOTEQUAL" 327 (.int 28 326), de P "LESSEQUAL" 329 (.int 29 328), de P "GREATEREQUAL" 331 (.int 30 330), de P "TILDE" 333 (.int 31 332), de P "CIRCUMFLEX" 335 (.int 32 334), de P "LEFTSHIFT" 337 (.int 33 336), de P "RIGHTSHIFT" 339 (.int 34 338), de P "DOUBLESTAR" 341 (.int 35 340), de P "PLUSEQUAL" 343 (.int 36 342), de P "MINEQUAL" 345 (.int 37 344), de P "STAREQUAL" 347 (.int 38 346), de P "SLASHEQUAL" 349 (.int 39 348), de P "PERCENTEQUAL" 351 (.int 40 350), de P "AMPEREQUAL" 353 (.int 41 352), de P "VBAREQUAL" 355 (.int 42 354), de P "CIRCUMFLEXEQUAL" 357 (.int 43 356), de P "LEFTSHIFTEQUAL" 359 (.int 44 358), de P "RIGHTSHIFTEQUAL" 361 (.int 45 360), de P "DOUBLESTAREQUAL" 363 (.int 46 362), de P "DOUBLESLASH" 365 (.int 47 364), de P "DOUBLESLASHEQUAL" 367 (.int 48 366), de P "AT" 369 (.int 49 368), de P "ATEQUAL" 371 (.int 50 370), de P "RARROW" 373 (.int 51 372), de P "ELLIPSIS" 375 (.int 52 374), de P "COLONEQUAL" 377 (.int 53 376), de P "EXCLAMATION" 379 (.int 54 378), de P "NT_OFFSET" 381 (.int 256 380), de P "EXACT_TOKEN_TYPES" 478 (.ref 70), de P "ISNONTERMINAL" 485 (.ref 79), de P "ISEOF" 492 (.ref 86), de P "_law_tree" 506 (.ref 93), de P "_law_dressed" 514 (.ref 100), de P "_law_symbols" 528 (.ref 107), de P "_law_read" 541 (.ref 114), de P "_law_changed" 549 (.ref 121), de P "_law_class" 571 (.ref 128), de P "_law_mixed" 577 (.ref 133), de P "_law_words" 583 (.ref 138), de P "law" 589 (.ref 143)]
noncomputable abbrev o20 (P : Params) : Obj := ⟨(.type "code"), none, .fields #[(vs "_ellipsis_match" 191), (vs "_ellipsis_match" 192), (vs "/claim/cut.py" 193), (.int 3 0), (.int 2 0), (.int 0 0), (.int 0 0), (.int 3 0), (.ref 15), (.bool true), (.int 181 0), (.ref 16), .none, (.ref 17), (.ref 18), (.ref 19), (.int 200 0), (.int 3 0), (vs "/claim/cut.py" 201)], #[]⟩
noncomputable abbrev o21 (P : Params) : Obj := fO 2 "_ellipsis_match" .none .none (vs "cpy313.doctest" 187) (.ref 20)
noncomputable abbrev o22 (P : Params) : Obj := ⟨(.type "tuple"), none, .seq #[(.int 0 205), .none], #[]⟩
noncomputable abbrev o23 (P : Params) : Obj := dO 1 #[de P "key" 206 .none]
noncomputable abbrev o29 (P : Params) : Obj := ⟨(.type "code"), none, .fields #[(vs "insort_right" 207), (vs "insort_right" 208), (vs "/claim/cut.py" 209), (.int 32 0), (.int 4 0), (.int 0 0), (.int 1 0), (.int 3 0), (.ref 24), (.bool true), (.int 181 0), (.ref 25), .none, (.ref 26), (.ref 27), (.ref 28), (.int 215 0), (.int 32 0), (vs "/claim/cut.py" 216)], #[]⟩
noncomputable abbrev o30 (P : Params) : Obj := fO 4 "insort_right" (.ref 22) (.ref 23) (vs "cpy313.bisect" 203) (.ref 29)
noncomputable abbrev o31 (P : Params) : Obj := ⟨(.type "tuple"), none, .seq #[(.int 0 218), .none], #[]⟩
noncomputable abbrev o32 (P : Params) : Obj := dO 1 #[de P "key" 219 .none]
noncomputable abbrev o38 (P : Params) : Obj := ⟨(.type "code"), none, .fields #[(vs "bisect_right" 220), (vs "bisect_right" 221), (vs "/claim/cut.py" 222), (.int 38 0), (.int 4 0), (.int 0 0), (.int 1 0), (.int 3 0), (.ref 33), (.bool true), (.int 181 0), (.ref 34), .none, (.ref 35), (.ref 36), (.ref 37), (.int 229 0), (.int 38 0), (vs "/claim/cut.py" 230)], #[]⟩
noncomputable abbrev o39 (P : Params) : Obj := fO 5 "bisect_right" (.ref 31) (.ref 32) (vs "cpy313.bisect" 203) (.ref 38)
noncomputable abbrev o40 (P : Params) : Obj := ⟨(.type "tuple"), none, .seq #[(.int 0 232), .none], #[]⟩
noncomputable abbrev o41 (P : Params) : Obj := dO 1 #[de P "key" 233 .none]
noncomputable abbrev o47 (P : Params) : Obj := ⟨(.type "code"), none, .fields #[(vs "bisect_left" 234), (vs "bisect_left" 235), (vs "/claim/cut.py" 236), (.int 58 0), (.int 4 0), (.int 0 0), (.int 1 0), (.int 3 0), (.ref 42), (.bool true), (.int 181 0), (.ref 43), .none, (.ref 44), (.ref 45), (.ref 46), (.int 243 0), (.int 58 0), (vs "/claim/cut.py" 244)], #[]⟩
noncomputable abbrev o48 (P : Params) : Obj := fO 6 "bisect_left" (.ref 40) (.ref 41) (vs "cpy313.bisect" 203) (.ref 47)
noncomputable abbrev o54 (P : Params) : Obj := ⟨(.type "code"), none, .fields #[(vs "_iter_escaped_chars" 248), (vs "_iter_escaped_chars" 249), (vs "/claim/cut.py" 250), (.int 79 0), (.int 1 0), (.int 0 0), (.int 0 0), (.int 35 0), (.ref 49), (.bool true), (.int 181 0), (.ref 50), .none, (.ref 51), (.ref 52), (.ref 53), (.int 255 0), (.int 79 0), (vs "/claim/cut.py" 256)], #[]⟩
noncomputable abbrev o55 (P : Params) : Obj := fO 8 "_iter_escaped_chars" .none .none (vs "cpy313.email.utils" 246) (.ref 54)
noncomputable abbrev o61 (P : Params) : Obj := ⟨(.type "code"), none, .fields #[(vs "_strip_quoted_realnames" 258), (vs "_strip_quoted_realnames" 259), (vs "/claim/cut.py" 260), (.int 92 0), (.int 1 0), (.int 0 0), (.int 0 0), (.int 3 0), (.ref 56), (.bool true), (.int 181 0), (.ref 57), .none, (.ref 58), (.ref 59), (.ref 60), (.int 267 0), (.int 92 0), (vs "/claim/cut.py" 268)], #[]⟩
noncomputable abbrev o62 (P : Params) : Obj := fO 9 "_strip_quoted_realnames" .none .none (vs "cpy313.email.utils" 246) (.ref 61)
noncomputable abbrev o68 (P : Params) : Obj := ⟨(.type "code"), none, .fields #[(vs "_check_parenthesis" 270), (vs "_check_parenthesis" 271), (vs "/claim/cut.py" 272), (.int 110 0), (.int 1 0), (.int 0 0), (.int 0 0), (.int 3 0), (.ref 63), (.bool true), (.int 181 0), (.ref 64), .none, (.ref 65), (.ref 66), (.ref 67), (.int 277 0), (.int 110 0), (vs "/claim/cut.py" 278)], #[]⟩
noncomputable abbrev o69 (P : Params) : Obj := fO 10 "_check_parenthesis" .none .none (vs "cpy313.email.utils" 246) (.ref 68)
noncomputable abbrev o70 (P : Params) : Obj := dO 48 #[de P "!" 382 (.int 54 378), de P "!=" 384 (.int 28 326), de P "%" 386 (.int 24 318), de P "%=" 388 (.int 40 350), de P "&" 390 (.int 19 308), de P "&=" 392 (.int 41 352), de P "(" 394 (.int 7 284), de P ")" 396 (.int 8 286), de P "*" 398 (.int 16 302), de P "**" 400 (.int 35 340), de P "**=" 402 (.int 46 362), de P "*=" 404 (.int 38 346), de P "+" 406 (.int 14 298), de P "+=" 408 (.int 36 342), de P "," 410 (.int 12 294), de P "-" 412 (.int 15 300), de P "-=" 414 (.int 37 344), de P "->" 416 (.int 51 372), de P "." 418 (.int 23 316), de P "..." 420 (.int 52 374), de P "/" 422 (.int 17 304), de P "//" 424 (.int 47 364), de P "//=" 426 (.int 48 366), de P "/=" 428 (.int 39 348), de P ":" 430 (.int 11 292), de P ":=" 432 (.int 53 376), de P ";" 434 (.int 13 296), de P "<" 436 (.int 20 310), de P "<<" 438 (.int 33 336), de P "<<=" 440 (.int 44 358), de P "<=" 442 (.int 29 328), de P "=" 444 (.int 22 314), de P "==" 446 (.int 27 324), de P ">" 448 (.int 21 312), de P ">=" 450 (.int 30 330), de P ">>" 451 (.int 34 338), de P ">>=" 452 (.int 45 360), de P "@" 453 (.int 49 368), de P "@=" 454 (.int 50 370), de P "[" 455 (.int 9 288), de P "]" 456 (.int 10 290), de P "^" 457 (.int 32 334), de P "^=" 458 (.int 43 356), de P "{" 459 (.int 25 320), de P "|" 460 (.int 18 306), de P "|=" 461 (.int 42 354), de P "}" 462 (.int 26 322), de P "~" 463 (.int 31 332)]
noncomputable abbrev o78 (P : Params) : Obj := ⟨(.type "code"), none, .fields #[(vs "ISNONTERMINAL" 479), (vs "ISNONTERMINAL" 480), (vs "/claim/cut.py" 481), (.int 173 0), (.int 1 0), (.int 0 0), (.int 0 0), (.int 3 0), (.ref 73), (.bool true), (.int 181 0), (.ref 74), .none, (.ref 75), (.ref 76), (.ref 77), (.int 483 0), (.int 173 0), (vs "/claim/cut.py" 484)], #[]⟩
noncomputable abbrev o79 (P : Params) : Obj := fO 63 "ISNONTERMINAL" .none .none (vs "cpy313.token" 280) (.ref 78)
noncomputable abbrev o85 (P : Params) : Obj := ⟨(.type "code"), none, .fields #[(vs "ISEOF" 486), (vs "ISEOF" 487), (vs "/claim/cut.py" 488), (.int 175 0), (.int 1 0), (.int 0 0), (.int 0 0), (.int 3 0), (.ref 80), (.bool true), (.int 181 0), (.ref 81), .none, (.ref 82), (.ref 83), (.ref 84), (.int 490 0), (.int 175 0), (vs "/claim/cut.py" 491)], #[]⟩
noncomputable abbrev o86 (P : Params) : Obj := fO 64 "ISEOF" .none .none (vs "cpy313.token" 280) (.ref 85)
noncomputable abbrev o92 (P : Params) : Obj := ⟨(.type "code"), none, .fields #[(vs "_law_tree" 495), (vs "_law_tree" 496), (vs "/claim/cut.py" 497), (.int 178 0), (.int 1 0), (.int 0 0), (.int 0 0), (.int 3 0), (.ref 87), (.bool true), (.int 181 0), (.ref 88), .none, (.ref 89), (.ref 90), (.ref 91), (.int 504 0), (.int 178 0), (vs "/claim/cut.py" 505)], #[]⟩
noncomputable abbrev o93 (P : Params) : Obj := fO 66 "_law_tree" .none .none (vs "law_us0016_01" 493) (.ref 92)
noncomputable abbrev o99 (P : Params) : Obj := ⟨(.type "code"), none, .fields #[(vs "_law_dressed" 507), (vs "_law_dressed" 508), (vs "/claim/cut.py" 509), (.int 187 0), (.int 2 0), (.int 0 0), (.int 0 0), (.int 3 0), (.ref 94), (.bool true), (.int 181 0), (.ref 95), .none, (.ref 96), (.ref 97), (.ref 98), (.int 512 0), (.int 187 0), (vs "/claim/cut.py" 513)], #[]⟩
noncomputable abbrev o100 (P : Params) : Obj := fO 67 "_law_dressed" .none .none (vs "law_us0016_01" 493) (.ref 99)
noncomputable abbrev o106 (P : Params) : Obj := ⟨(.type "code"), none, .fields #[(vs "_law_symbols" 515), (vs "_law_symbols" 516), (vs "/claim/cut.py" 517), (.int 190 0), (.int 3 0), (.int 0 0), (.int 0 0), (.int 3 0), (.ref 101), (.bool true), (.int 181 0), (.ref 102), .none, (.ref 103), (.ref 104), (.ref 105), (.int 526 0), (.int 190 0), (vs "/claim/cut.py" 527)], #[]⟩
noncomputable abbrev o107 (P : Params) : Obj := fO 68 "_law_symbols" .none .none (vs "law_us0016_01" 493) (.ref 106)
noncomputable abbrev o113 (P : Params) : Obj := ⟨(.type "code"), none, .fields #[(vs "_law_read" 529), (vs "_law_read" 530), (vs "/claim/cut.py" 531), (.int 201 0), (.int 2 0), (.int 0 0), (.int 0 0), (.int 3 0), (.ref 108), (.bool true), (.int 181 0), (.ref 109), .none, (.ref 110), (.ref 111), (.ref 112), (.int 539 0), (.int 201 0), (vs "/claim/cut.py" 540)], #[]⟩
noncomputable abbrev o114 (P : Params) : Obj := fO 69 "_law_read" .none .none (vs "law_us0016_01" 493) (.ref 113)
noncomputable abbrev o120 (P : Params) : Obj := ⟨(.type "code"), none, .fields #[(vs "_law_changed" 542), (vs "_law_changed" 543), (vs "/claim/cut.py" 544), (.int 212 0), (.int 2 0), (.int 0 0), (.int 0 0), (.int 3 0), (.ref 115), (.bool true), (.int 181 0), (.ref 116), .none, (.ref 117), (.ref 118), (.ref 119), (.int 547 0), (.int 212 0), (vs "/claim/cut.py" 548)], #[]⟩
noncomputable abbrev o121 (P : Params) : Obj := fO 70 "_law_changed" .none .none (vs "law_us0016_01" 493) (.ref 120)
noncomputable abbrev o127 (P : Params) : Obj := ⟨(.type "code"), none, .fields #[(vs "_law_class" 550), (vs "_law_class" 551), (vs "/claim/cut.py" 552), (.int 214 0), (.int 2 0), (.int 0 0), (.int 0 0), (.int 3 0), (.ref 122), (.bool true), (.int 181 0), (.ref 123), .none, (.ref 124), (.ref 125), (.ref 126), (.int 569 0), (.int 214 0), (vs "/claim/cut.py" 570)], #[]⟩
noncomputable abbrev o128 (P : Params) : Obj := fO 71 "_law_class" .none .none (vs "law_us0016_01" 493) (.ref 127)
noncomputable abbrev o132 (P : Params) : Obj := ⟨(.type "code"), none, .fields #[(vs "_law_mixed" 572), (vs "_law_mixed" 573), (vs "/claim/cut.py" 574), (.int 243 0), (.int 2 0), (.int 0 0), (.int 0 0), (.int 3 0), (.ref 129), (.bool true), (.int 181 0), (.ref 130), .none, .none, .none, (.ref 131), (.int 575 0), (.int 243 0), (vs "/claim/cut.py" 576)], #[]⟩
noncomputable abbrev o133 (P : Params) : Obj := fO 72 "_law_mixed" .none .none (vs "law_us0016_01" 493) (.ref 132)
noncomputable abbrev o137 (P : Params) : Obj := ⟨(.type "code"), none, .fields #[(vs "_law_words" 578), (vs "_law_words" 579), (vs "/claim/cut.py" 580), (.int 248 0), (.int 2 0), (.int 0 0), (.int 0 0), (.int 3 0), (.ref 134), (.bool true), (.int 181 0), (.ref 135), .none, .none, .none, (.ref 136), (.int 581 0), (.int 248 0), (vs "/claim/cut.py" 582)], #[]⟩
noncomputable abbrev o138 (P : Params) : Obj := fO 73 "_law_words" .none .none (vs "law_us0016_01" 493) (.ref 137)
noncomputable abbrev o142 (P : Params) : Obj := ⟨(.type "code"), none, .fields #[(vs "law" 584), (vs "law" 585), (vs "/claim/cut.py" 586), (.int 256 0), (.int 1 0), (.int 0 0), (.int 0 0), (.int 3 0), (.ref 139), (.bool true), (.int 181 0), (.ref 140), .none, .none, .none, (.ref 141), (.int 587 0), (.int 256 0), (vs "/claim/cut.py" 588)], #[]⟩
noncomputable abbrev o143 (P : Params) : Obj := fO 74 "law" .none .none (vs "law_us0016_01" 493) (.ref 142)
noncomputable abbrev KK (P : Params) : Frag := [(3, o3 P), (20, o20 P), (21, o21 P), (22, o22 P), (23, o23 P), (29, o29 P), (30, o30 P), (31, o31 P), (32, o32 P), (38, o38 P), (39, o39 P), (40, o40 P), (41, o41 P), (47, o47 P), (48, o48 P), (54, o54 P), (55, o55 P), (61, o61 P), (62, o62 P), (68, o68 P), (69, o69 P), (70, o70 P), (78, o78 P), (79, o79 P), (85, o85 P), (86, o86 P), (92, o92 P), (93, o93 P), (99, o99 P), (100, o100 P), (106, o106 P), (107, o107 P), (113, o113 P), (114, o114 P), (120, o120 P), (121, o121 P), (127, o127 P), (128, o128 P), (132, o132 P), (133, o133 P), (137, o137 P), (138, o138 P), (142, o142 P), (143, o143 P)]
noncomputable def KKa : List Addr := [3, 20, 21, 22, 23, 29, 30, 31, 32, 38, 39, 40, 41, 47, 48, 54, 55, 61, 62, 68, 69, 70, 78, 79, 85, 86, 92, 93, 99, 100, 106, 107, 113, 114, 120, 121, 127, 128, 132, 133, 137, 138, 142, 143]
end Mine
namespace Mine
theorem KKe (P : Params) : KKa = (KK P).map (·.1) := rfl
/-- the hook: the objects of K stand in the heap after the top -/
noncomputable abbrev HH : Hook := kHook KK KKa KKe
/-- the view: law alone -/
noncomputable def vw : Program := { pw1 with main := { pw1.main with body := [74].filterMap fun i => pw1.main.body[i]? } }
noncomputable abbrev loose1 : List Str := [Str.ofString "ELLIPSIS_MARKER", Str.ofString "_ellipsis_match", Str.ofString "insort_right", Str.ofString "bisect_right", Str.ofString "bisect_left", Str.ofString "_iter_escaped_chars", Str.ofString "_strip_quoted_realnames", Str.ofString "_check_parenthesis", Str.ofString "ENDMARKER", Str.ofString "LPAR", Str.ofString "RPAR", Str.ofString "LSQB", Str.ofString "RSQB", Str.ofString "COLON", Str.ofString "COMMA", Str.ofString "SEMI", Str.ofString "PLUS", Str.ofString "MINUS", Str.ofString "STAR", Str.ofString "SLASH", Str.ofString "VBAR", Str.ofString "AMPER", Str.ofString "LESS", Str.ofString "GREATER", Str.ofString "EQUAL", Str.ofString "DOT", Str.ofString "PERCENT", Str.ofString "LBRACE", Str.ofString "RBRACE", Str.ofString "EQEQUAL", Str.ofString "NOTEQUAL", Str.ofString "LESSEQUAL", Str.ofString "GREATEREQUAL", Str.ofString "TILDE", Str.ofString "CIRCUMFLEX", Str.ofString "LEFTSHIFT", Str.ofString "RIGHTSHIFT", Str.ofString "DOUBLESTAR", Str.ofString "PLUSEQUAL", Str.ofString "MINEQUAL", Str.ofString "STAREQUAL", Str.ofString "SLASHEQUAL", Str.ofString "PERCENTEQUAL", Str.ofString "AMPEREQUAL", Str.ofString "VBAREQUAL", Str.ofString "CIRCUMFLEXEQUAL", Str.ofString "LEFTSHIFTEQUAL", Str.ofString "RIGHTSHIFTEQUAL", Str.ofString "DOUBLESTAREQUAL", Str.ofString "DOUBLESLASH", Str.ofString "DOUBLESLASHEQUAL", Str.ofString "AT", Str.ofString "ATEQUAL", Str.ofString "RARROW", Str.ofString "ELLIPSIS", Str.ofString "COLONEQUAL", Str.ofString "EXCLAMATION", Str.ofString "NT_OFFSET", Str.ofString "EXACT_TOKEN_TYPES", Str.ofString "ISNONTERMINAL", Str.ofString "ISEOF", Str.ofString "_law_tree", Str.ofString "_law_dressed", Str.ofString "_law_symbols", Str.ofString "_law_read", Str.ofString "_law_changed", Str.ofString "_law_class", Str.ofString "_law_mixed", Str.ofString "_law_words"]
noncomputable abbrev row1 : RowW := PySem.Challenge.rw_us0016_01.row.toRowW
noncomputable abbrev Xt1 : Shared → Bool := fun s => xlAt vw [] s && recOk (RowW.records row1) s
/-- what the top leaves, seen in the world w -/
noncomputable abbrev LeftAt (w : World) : Prop := (openEnds treeTable PySem.Challenge.rw_us0016_01.row.prog w 4288).map (fun s => (openSeen vw loose1 (importedModules PySem.Challenge.rw_us0016_01.row.prog.main.body) Xt1 true s, Hook.obs HH s)) = some (openGood vw loose1, Hook.val HH w)

theorem left0 : ∀ w : World, LeftAt (w.withFollow "special-get-raises" false) := by
  intro w
  kernel_rfl
theorem left1 : ∀ w : World, LeftAt (w.withFollow "special-get-raises" true) := by
  intro w
  kernel_rfl
theorem left : LeftO PySem.Challenge.rw_us0016_01.row.prog vw loose1 Xt1 (Hook.obs HH) (Hook.val HH) 4288 := fun w =>
  byRow2 "special-get-raises" (P := LeftAt) left0 left1 w
theorem said : PySem.Challenge.rw_us0016_01.wellSaid = true := by decide +kernel
end Mine
namespace Mine
open Sem (wp)

/-! generator function bodies: the rules of Seg that the library lacks -/
section
variable {M : Model} {A : Around} {R : GenEnd} {Y : Protocol} {n : Nat} {s₀ : Shared} {c : Code} {fs : List Frame} {s : Shared} {env : Env}
  {K : Flow → Sem Fin} {H : Value → Sem Fin} {gd : Bool → Bool} {lv : List Value → List Value}

/-- no error post -/
noncomputable abbrev noE : Value → Shared → Prop := fun _ _ => False

theorem fromNoE {α : Type} {t : Sem α} {Q : α → Shared → Prop} {E : Value → Shared → Prop} (h : wpAny M A t Q noE s) : wpAny M A t Q E s :=
  wpAny_mono h (fun _ _ x => x) (fun _ _ x => x.elim)

theorem seg_wrapN {α : Type} {m : Sem α} {K : α → Sem Fin} {H : Value → Sem Fin} {gd lv}
    (h : wpAny M (A.over c fs) m (fun a s' => Seg M A R Y n s₀ c (K a) fs s') noE s) : Seg M A R Y n s₀ c (m.wrap K H gd lv) fs s :=
  seg_wrap (fromNoE h)

theorem seg_bind_wrapN {α β : Type} {m : Sem α} {K : α → Sem β} {K' : β → Sem Fin} {H' : Value → Sem Fin} {gd lv}
    (h : wpAny M (A.over c fs) m (fun a s' => Seg M A R Y n s₀ c ((K a).wrap K' H' gd lv) fs s') noE s) : Seg M A R Y n s₀ c ((m >>= K).wrap K' H' gd lv) fs s :=
  seg_bind_wrap (fromNoE h)

theorem seg_K_congr {m : Sem Flow} {K K' : Flow → Sem Fin} (hK : ∀ f, K f = K' f) (h : Seg M A R Y n s₀ c (m.wrap K' H gd lv) fs s) : Seg M A R Y n s₀ c (m.wrap K H gd lv) fs s := by
  rw [Sem.wrap_congr m gd lv hK (fun _ => rfl)]; exact h

/-- a statement that does not yield -/
theorem seg_plain {st : Stmt} {rest : List Stmt}
    (h : wpAny M (A.over c fs) (exec st env) (fun f s' => f = .next ∧ Seg M A R Y n s₀ c ((execs rest env).wrap K H gd lv) fs s') noE s) :
    Seg M A R Y n s₀ c ((execs (st :: rest) env).wrap K H gd lv) fs s := by
  refine seg_execs_cons (seg_wrapN (wpAny_mono h (fun f s' h' => ?_) fun _ _ x => x))
  obtain ⟨rfl, h'⟩ := h'
  exact h'

theorem seg_If {test : Expr} {body orelse : List Stmt} {pos : Pos}
    (h : wpAny M (A.over c fs) (isTrue test env (eval test env)) (fun b s' => if b = true then Seg M A R Y n s₀ c ((execs body env).wrap K H gd lv) fs s'
      else Seg M A R Y n s₀ c ((execs orelse env).wrap K H gd lv) fs s') noE s) :
    Seg M A R Y n s₀ c ((exec (.If test body orelse pos) env).wrap K H gd lv) fs s := by
  show Seg M A R Y n s₀ c ((standAt pos >>= fun _ => (isTrue test env (eval test env) >>= fun b => if b = true then execs body env else execs orelse env)).wrap K H gd lv) fs s
  refine seg_bind_wrapN (wpAny_standAt (seg_bind_wrapN (wpAny_mono h (fun b s' h' => ?_) fun _ _ x => x)))
  cases b <;> exact h'

theorem seg_For {target iter : Expr} {body orelse : List Stmt} {pos : Pos}
    (h : wpAny M (A.over c fs) (eval iter env) (fun x s₁ => wpAny M (A.over c fs) (pyIter x) (fun it s₂ =>
      ∀ p, Seg M A R Y n s₀ (.forLoop target it body orelse env) (M.den (.forLoop target it body orelse env))
      (.ret (fun r => ((match r with | .ok f => (.pure f : Sem Flow) | .error e => .raise e).onRaise fun (x : Value) => do
        if (← field x 1) == Value.none then unsupported "frame.own-activation:exception-without-traceback"
        setFlight x env.frame).wrap K H gd lv) none (gd false) (lv []) c p [] :: fs) s₂) noE s₁) noE s)
    (hs : ∀ x, foldedSetIterable iter env x = pure x := by intro _; rfl) :
    Seg M A R Y n s₀ c ((exec (.For target iter body orelse pos) env).wrap K H gd lv) fs s := by
  rw [exec_For]
  refine seg_bind_wrapN (wpAny_standAt (seg_bind_wrapN (wpAny_mono h (fun x s₁ h₁ => ?_) fun _ _ x => x)))
  refine seg_bind_wrapN (wpAny_of_eq (hs x) (seg_bind_wrapN (wpAny_standAt (seg_bind_wrapN (wpAny_holding (wpAny_mono h₁ (fun it s₂ h₂ => ?_) fun _ _ x => x))))))
  exact seg_call h₂
end

section
variable {prog : Program} {w : World} {A : Around} {R : GenEnd} {Y : Protocol} {n : Nat} {s₀ : Shared} {fs : List Frame} {s : Shared} {env : Env}

theorem seg_forLoop {target : Expr} {it : Value} {body : List Stmt}
    (h : wpAny (model prog w) (A.over (.forLoop target it body [] env) fs) (pyNext it) (fun r s₁ => match r with
      | none => Seg (model prog w) A R Y n s₀ (.block [] env) (leafOf (.ok .next)) fs s₁
      | some v => wpAny (model prog w) (A.over (.forLoop target it body [] env) fs) (letOwnedTupleGo target it v) (fun _ s₂ =>
          wpAny (model prog w) (A.over (.forLoop target it body [] env) fs) (assign target env v) (fun _ s₃ =>
            ∀ (H' : Value → Sem Fin), Seg (model prog w) A R Y n s₀ (.forLoop target it body [] env) ((execs body env).wrap (fun f => match f with
            | .next | .cont => .pure (.again (.forLoop target it body [] env))
            | .brk => .pure (.done .next)
            | .ret v => .pure (.done (.ret v))) H' id id) fs s₃) noE s₂) noE s₁) noE s) :
    Seg (model prog w) A R Y n s₀ (.forLoop target it body [] env) ((model prog w).den (.forLoop target it body [] env)) fs s := by
  show Seg _ A R Y n s₀ _ ((forTurn target it body [] env).onRaise (fun x => do noteFrame x env; theTreesLotGoes x)) fs s
  unfold forTurn
  rw [Sem.onRaise_eq_wrap]
  refine seg_bind_wrapN (wpAny_standAt (seg_bind_wrapN (wpAny_onRaise (wpAny_mono h (fun r s₁ h₁ => ?_) fun _ _ x => x.elim))))
  cases r with
  | none =>
    show Seg _ A R Y n s₀ _ (.pure (.again (.block [] env))) fs s₁
    exact seg_again rfl h₁
  | some v =>
    refine seg_bind_wrapN (wpAny_mono h₁ (fun _ s₂ h₂ => ?_) fun _ _ x => x)
    refine seg_bind_wrapN (wpAny_mono h₂ (fun _ s₃ h₃ => ?_) fun _ _ x => x)
    rw [Sem.bind_eq_wrap', Sem.wrap_wrap]
    exact seg_K_congr (fun f => by cases f <;> rfl) (h₃ _)
end
end Mine
namespace Mine
open Sem (wp)

/-! the generator _iter_escaped_chars -/
noncomputable def escItems : Nat → Bool → List Nat → List (Int × List Nat)
  | i, true, [] => [((i : Int) - 1, [92])]
  | _, false, [] => []
  | i, true, c :: cs => ((i : Int), [92, c]) :: escItems (i + 1) false cs
  | i, false, c :: cs => if c = 92 then escItems (i + 1) true cs else ((i : Int), [c]) :: escItems (i + 1) false cs

noncomputable def Lo (C : Nat) (h h' : Heap) : Prop := ∀ (b : Nat) (o : Obj), (b < C ∨ b = C + 1) → h.get? b = some o → h'.get? b = some o
noncomputable def Hi (C : Nat) (h h' : Heap) : Prop := ∀ (b : Nat) (o : Obj), C ≤ b → h.get? b = some o → h'.get? b = some o
theorem Lo.trans {C : Addr} {h h' h'' : Heap} (x : Lo C h h') (y : Lo C h' h'') : Lo C h h'' := fun b o hb e => y b o hb (x b o hb e)
noncomputable def Since (C : Addr) (s₀ s : Shared) : Prop := ∃ h' tk, s = { s₀ with heap := h', toks := tk } ∧ Lo C s₀.heap h'
theorem Since.refl (C : Addr) (s : Shared) : Since C s s := ⟨s.heap, s.toks, rfl, fun _ _ _ e => e⟩
theorem Since.step {C : Addr} {s₀ s : Shared} (x : Since C s₀ s) {h' : Heap} {tk : Nat} (hk : Lo C s.heap h') : Since C s₀ { s with heap := h', toks := tk } := by
  obtain ⟨h₁, tk₁, rfl, hk₁⟩ := x
  exact ⟨h', tk, rfl, hk₁.trans hk⟩

/-- the value is a pair of an int and a text -/
noncomputable def ItemAt (h : Heap) (v : Value) (it : Int × List Nat) : Prop := ∃ T t u, v = .ref T ∧ h.get? T = some { cls := .type "tuple", data := .seq #[.int it.1 t, .str ⟨it.2.toArray⟩ u] }

noncomputable def escY (C : Addr) (all : List (Int × List Nat)) : Protocol := fun m s₀ v s kap =>
  (∃ it, all[all.length - 1 - m]? = some it ∧ ItemAt s.heap v it) ∧ Since C s₀ s ∧ ∀ s'', Hi C s.heap s''.heap → kap (.send .none) s''
noncomputable def escR (C : Addr) : GenEnd := fun n s₀ r s => r = .ok (.ret .none) ∧ n = 0 ∧ Since C s₀ s

section
variable {prog : Program} {w : World} {A : Around} {s : Shared} {env : Env}

/-- a test that is a name bound to a bool -/
theorem isTrue_nameB {M : Model} {x : Str} {p : Pos} {m : Str → Option Value} {b : Bool} {Q : Bool → Shared → Prop} {E : Value → Shared → Prop} (hk : env.scope.kind = .function) (hl : env.kindOf x = some .local)
    (hn : s.heap.Ns env.locals m) (hv : m x = some (.bool b)) (h : Q b s) (hd : (x == ("__debug__" : Str)) = false := by decide) : wpAny M A (isTrue (.Name x p) env (eval (.Name x p) env)) Q E s :=
  wpAny_isTrue_value (wpAny_Name (wpAny_loadName_local hk hl hn hv (wpAny_truthy_bool h)) hd)

theorem name_ns {M : Model} {x : Str} {p : Pos} {m : Str → Option Value} {v : Value} {Q : Value → Shared → Prop} {E : Value → Shared → Prop} (hk : env.scope.kind = .function) (hl : env.kindOf x = some .local)
    (hn : s.heap.Ns env.locals m) (hv : m x = some v) (h : Q v s) (hd : (x == ("__debug__" : Str)) = false := by decide) : wpAny M A (eval (.Name x p) env) Q E s :=
  wpAny_Name (wpAny_loadName_local hk hl hn hv h) hd

theorem set_ns {M : Model} {x : Str} {p pos : Pos} {value : Expr} {m : Str → Option Value} {Q : Flow → Shared → Prop} {E : Value → Shared → Prop} {v : Value} {s' : Shared} (hk : env.scope.kind = .function) (hl : env.kindOf x = some .local)
    (he : ∀ Q' : Value → Shared → Prop, Q' v s' → wpAny M A (eval value env) Q' E s) (hn : s'.heap.Ns env.locals m)
    (h : ∀ h', h'.Ns env.locals (fun y => if y = x then some v else m y) → Heap.SameBut env.locals s'.heap h' → Q .next { s' with heap := h', toks := s'.toks + 1 })
    (hs : swapsWith value (some (.Name x p)) pos.line env = pure false := by rfl) : wpAny M A (exec (.Assign [.Name x p] value pos) env) Q E s :=
  wpAny_Assign_Name (he _ (wpAny_storeName_local hl hn h (by rw [hk]; rfl))) hs

theorem push_lo {C : Addr} (h : Heap) (o : Obj) : Lo C h (h.push o) := fun _ _ _ e => Heap.get?_push_of_some _ e
theorem notIn2 {b e it : Nat} (h1 : b ≠ e) (h2 : b ≠ it) : b ∉ ([e, it] : List Addr) := by
  intro hb
  rcases List.mem_cons.mp hb with q | q
  · exact h1 q
  · exact h2 (List.mem_singleton.mp q)
theorem sameBut_lo {C : Nat} {h h' : Heap} (x : Heap.SameBut C h h') : Lo C h h' := fun b o hb e => x.extBut b o (neN (by omega)) e

theorem seg_escLoop {fs : List Frame} {kk : Result → Sem PySem.Fin} {l : List Value} {c0 : Code} {p0 : Pos}
    {tp tq tt : Pos} {tk₀ : Nat} {i1 i2 y1 y2 t1 n1 b1 k1 n2 a1 a2 f1 i3 c1 n3 k2 a3 a4 f2 y3 y4 t2 n4 n5 : Pos} {x1 x2 x3 x4 x5 x6 : Nat}
    {x : Str} {e it : Addr} {St : Nat → Heap → Prop} {Mid : Nat → Addr → Heap → Prop} {all : List (Int × List Nat)}
    (hh : A.handled = none) (hfs : fs = [.ret kk none false l c0 p0 []])
    (W : ∀ A' : Around, A'.handled = none → WalksT prog w A' e [e, it] [e, it] x.cps.size (fun i vals => ∃ t v, SignAt x i v ∧ vals = #[.int i t, v]) St Mid)
    (hCe : @LT.lt Nat _ (env.locals + 1) e) (hCi : @LT.lt Nat _ (env.locals + 1) it)
    (hk : env.scope.kind = .function) (kp : env.kindOf "pos" = some .local) (kc : env.kindOf "ch" = some .local) (ke : env.kindOf "escape" = some .local)
    (hco : env.scope.isCoroutine = false)
    (hfin : ∀ (esc : Bool) (n : Nat) (p : Int) (tp : Tok) (m : Str → Option Value) (s₀ s : Shared), s.heap.Ns env.locals m → m "escape" = some (.bool esc) → m "pos" = some (.int p tp) → (esc = true → p = (x.cps.size : Int) - 1) →
      Since env.locals s₀ s → (∃ pre, all = pre ++ escItems x.cps.size esc []) → n = (escItems x.cps.size esc []).length → Seg (model prog w) A (escR env.locals) (escY env.locals all) n s₀ c0 (kk (.ok .next)) [] s) :
    ∀ (k i : Nat) (esc : Bool) (n : Nat) (p : Int) (tp' : Tok) (m : Str → Option Value) (s₀ s : Shared), x.cps.size - i = k → i ≤ x.cps.size → St i s.heap → s.heap.Ns env.locals m → m "escape" = some (.bool esc) → m "pos" = some (.int p tp') → (esc = true → p = (i : Int) - 1) →
      Since env.locals s₀ s → (∃ pre, all = pre ++ escItems i esc (x.cps.toList.drop i)) → n = (escItems i esc (x.cps.toList.drop i)).length →
      Seg (model prog w) A (escR env.locals) (escY env.locals all) n s₀
        (.forLoop (.Tuple [.Name "pos" tp, .Name "ch" tq] tk₀ tt) (.ref e) [.If (.Name "escape" i2) [.Expr (.Yield (some (.Tuple [.Name "pos" n1, .BinOp (.Constant (.str "\\") x1 k1) .Add (.Name "ch" n2) b1] x2 t1)) y2) y1, .Assign [.Name "escape" a2] (.Constant (.bool false) x3 f1) a1]
          [.If (.Compare (.Name "ch" n3) [.Eq] [.Constant (.str "\\") x4 k2] c1) [.Assign [.Name "escape" a4] (.Constant (.bool true) x5 f2) a3] [.Expr (.Yield (some (.Tuple [.Name "pos" n4, .Name "ch" n5] x6 t2)) y4) y3] i3] i1] [] env)
        ((model prog w).den (.forLoop (.Tuple [.Name "pos" tp, .Name "ch" tq] tk₀ tt) (.ref e) [.If (.Name "escape" i2) [.Expr (.Yield (some (.Tuple [.Name "pos" n1, .BinOp (.Constant (.str "\\") x1 k1) .Add (.Name "ch" n2) b1] x2 t1)) y2) y1, .Assign [.Name "escape" a2] (.Constant (.bool false) x3 f1) a1]
          [.If (.Compare (.Name "ch" n3) [.Eq] [.Constant (.str "\\") x4 k2] c1) [.Assign [.Name "escape" a4] (.Constant (.bool true) x5 f2) a3] [.Expr (.Yield (some (.Tuple [.Name "pos" n4, .Name "ch" n5] x6 t2)) y4) y3] i3] i1] [] env)) fs s := by
  subst hfs
  have hp : (env.scope.kind == .class || (env.scope.kind == .module && env.locals != env.globals)) = false := by rw [hk]; rfl
  have hov : ∀ c, (A.over c [.ret kk none false l c0 p0 []]).handled = none := fun c => hh
  intro k
  induction k with
  | zero =>
    intro i esc n p tp' m s₀ s hki hi hst hn me mp hpe hsince hpre hlen
    have hin : i = x.cps.size := by omega
    subst hin
    have hd : x.cps.toList.drop x.cps.size = [] := List.drop_of_length_le (by simp)
    rw [hd] at hpre hlen
    refine seg_forLoop ((W _ (hov _)).done s _ _ hst fun h' tk hk' => ?_)
    have hlo : Lo env.locals s.heap h' := fun b o hb y => hk' b o (notIn2 (by omega) (by omega)) y
    refine seg_leaf (.ok .next) (hfin esc n p tp' m s₀ _ (hn.at' fun o y => hk' _ o (notIn2 (by omega) (by omega)) y) me mp hpe (hsince.step hlo) hpre hlen)
  | succ k ih =>
    intro i esc n p tp' m s₀ s hki hi hst hn me mp hpe hsince hpre hlen
    have hlt : i < x.cps.size := by omega
    have hdrop : x.cps.toList.drop i = x.cps[i] :: x.cps.toList.drop (i + 1) := by
      rw [List.drop_eq_getElem_cons (by simpa using hlt)]; simp
    refine seg_forLoop ((W _ (hov _)).item i s _ _ hlt hst fun T vals h₁ tk₁ hPt hTsz hT hMid hk₁ => ?_)
    obtain ⟨t, v, ⟨c, u, hc, rfl⟩, rfl⟩ := hPt
    have hcc : c = x.cps[i] := by rw [Array.getElem?_eq_getElem hlt] at hc; exact (Option.some.inj hc).symm
    subst hcc
    refine (W _ (hov _)).go _ tk₀ tt i T _ _ _ hMid fun h₂ hst₂ hk₂ => ?_
    have ht₂ : h₂.IsTuple T #[.int i t, .str ⟨#[x.cps[i]]⟩ u] := hT.at fun o y => hk₂ T o ((W _ (hov (.block [] env))).apart i T h₁ hMid) y
    refine wpAny_assign_Tuple (hov _) ht₂ rfl rfl fun h₃ hx₃ => ?_
    replace hx₃ : Heap.ExtBut h₂.objs.size h₂ h₃ := hx₃
    have up₃ : ∀ b o, h₂.get? b = some o → h₃.get? b = some o := fun b o y => hx₃ b o (Nat.ne_of_lt (Heap.lt_size y)) y
    have hCw : env.locals ∉ [e, it] := notIn2 (by omega) (by omega)
    have low₃ : Lo env.locals s.heap h₃ := fun b o hb y => up₃ b o (hk₂ b o (notIn2 (by omega) (by omega)) (hk₁ b o (notIn2 (by omega) (by omega)) y))
    have hn₃ : h₃.Ns env.locals m := hn.at' fun o y => up₃ _ o (hk₂ _ o hCw (hk₁ _ o hCw y))
    show wpAny _ _ (do holding [.str ⟨#[x.cps[i]]⟩ u] (assign (.Name "pos" tp) env (.int i t)); do holding [] (assign (.Name "ch" tq) env (.str ⟨#[x.cps[i]]⟩ u)); pure ()) _ _ _
    refine wpAny_bind (wpAny_holding (wpAny_assign_Name (wpAny_storeName_local kp hn₃ (fun h₄ hn₄ hs₄ => ?_) hp)))
    replace hs₄ : Heap.SameBut env.locals h₃ h₄ := hs₄
    refine wpAny_bind (wpAny_holding (wpAny_assign_Name (wpAny_storeName_local kc hn₄ (fun h₅ hn₅ hs₅ => wpAny_pure ?_) hp)))
    replace hs₅ : Heap.SameBut env.locals h₄ h₅ := hs₅
    intro H'
    have hst₅ : St (i + 1) h₅ := (W _ hh).frame _ _ _ hst₂ fun b hb o y => by
      have hbC : b ≠ env.locals := fun q => hCw (q ▸ hb)
      exact hs₅.extBut b o hbC (hs₄.extBut b o hbC (up₃ b o y))
    have low₅ : Lo env.locals s.heap h₅ := low₃.trans ((sameBut_lo hs₄).trans (sameBut_lo hs₅))
    refine seg_execs_cons (seg_If (isTrue_nameB hk ke hn₅ (b := esc) ((if_neg (by decide)).trans ((if_neg (by decide)).trans me)) ?_))
    have mp₅ : (fun y : Str => if y = ("ch" : Str) then some (Value.str ⟨#[x.cps[i]]⟩ u) else if y = ("pos" : Str) then some (Value.int i t) else m y) "pos" = some (.int i t) := (if_neg (by decide)).trans (if_pos rfl)
    have mc₅ : (fun y : Str => if y = ("ch" : Str) then some (Value.str ⟨#[x.cps[i]]⟩ u) else if y = ("pos" : Str) then some (Value.int i t) else m y) "ch" = some (.str ⟨#[x.cps[i]]⟩ u) := if_pos rfl
    have me₅ : (fun y : Str => if y = ("ch" : Str) then some (Value.str ⟨#[x.cps[i]]⟩ u) else if y = ("pos" : Str) then some (Value.int i t) else m y) "escape" = some (.bool esc) := (if_neg (by decide)).trans ((if_neg (by decide)).trans me)
    generalize (fun y : Str => if y = ("ch" : Str) then some (Value.str ⟨#[x.cps[i]]⟩ u) else if y = ("pos" : Str) then some (Value.int i t) else m y) = m₅ at mp₅ mc₅ me₅ hn₅
    rw [hdrop] at hpre hlen
    have since₅ : Since env.locals s₀ { s with heap := h₅, toks := tk₁ + 1 + 1 } := hsince.step low₅
    -- an item that is yielded here
    have item : ∀ (txt : List Nat) (rest : List (Int × List Nat)), (∃ pre, all = pre ++ ((i : Int), txt) :: rest) → all[all.length - 1 - rest.length]? = some ((i : Int), txt) := by
      rintro txt rest ⟨pre, rfl⟩
      have : (pre ++ ((i : Int), txt) :: rest).length - 1 - rest.length = pre.length := by simp only [List.length_append, List.length_cons]; omega
      rw [this]; simp
    cases esc with
    | true =>
      rw [if_pos rfl]
      have hpe' := hpe rfl
      simp only [escItems] at hpre hlen
      subst hlen
      rw [List.length_cons]
      refine seg_execs_cons (seg_Expr_Yield rfl rfl rfl ?_ hco (by unfold interactive; rw [hk]; rfl))
      refine fromNoE (wpAny_Tuple (wpAny_items_cons (name_ns hk kp hn₅ mp₅ (wpAny_items_cons (wpAny_BinOp (wpAny_Constant_str (name_ns hk kc hn₅ mc₅ (PyProof.Rows.add_str (fun t' tk => ?_)
        (by show 1 + 1 ≤ sizeLine; decide)))))))))
      refine wpAny_items_nil ⟨by show 2 ≤ sizeLine; decide, fun kap hkap => ?_⟩
      refine ⟨⟨_, item _ _ hpre, _, _, _, rfl, Heap.get?_push_size _ rfl⟩, ?_, fun s'' hal => hkap .none s'' ?_⟩
      · exact since₅.step (push_lo _ _)
      · have hn₆ : s''.heap.Ns env.locals m₅ := (hn₅.push _).at' fun o y => hal _ o (Nat.le_refl _) y
        have hst₆ : St (i + 1) s''.heap := (W _ hh).frame _ _ _ hst₅ fun b hb o y => hal b o (by
          have : b = e ∨ b = it := by simpa using hb
          rcases this with rfl | rfl <;> omega) (Heap.get?_push_of_some _ y)
        refine seg_plain (set_ns hk ke (fun Q' q => wpAny_Constant_bool q) hn₆ fun h₇ hn₇ hs₇ => ⟨rfl, seg_execs_nil ?_⟩)
        replace hs₇ : Heap.SameBut env.locals s''.heap h₇ := hs₇
        refine seg_execs_nil (seg_again rfl (ih (i + 1) false _ i t _ s'' _ (by omega) hlt ?_ hn₇ (if_pos rfl) ((if_neg (by decide)).trans mp₅) (fun q => nomatch q) ((Since.refl _ _).step (sameBut_lo hs₇)) ?_ rfl))
        · exact (W _ hh).frame _ _ _ hst₆ fun b hb o y => hs₇.extBut b o (fun q => hCw (q ▸ hb)) y
        · obtain ⟨pre, e'⟩ := hpre; exact ⟨pre ++ [((i : Int), [92, x.cps[i]])], by rw [e']; simp⟩
    | false =>
      rw [if_neg Bool.false_ne_true]
      simp only [escItems] at hpre hlen
      refine seg_execs_cons (seg_If (wpAny_isTrue_Compare1 (name_ns hk kc hn₅ mc₅ (wpAny_Constant_str (PyProof.Rows.eq_str (wpAny_truthy_bool ?_))))))
      by_cases h92 : x.cps[i] = 92
      · rw [if_pos h92] at hpre hlen
        rw [if_pos (by rw [h92]; decide)]
        refine seg_plain (set_ns hk ke (fun Q' q => wpAny_Constant_bool q) hn₅ fun h₇ hn₇ hs₇ => ⟨rfl, seg_execs_nil ?_⟩)
        replace hs₇ : Heap.SameBut env.locals h₅ h₇ := hs₇
        refine seg_execs_nil (seg_execs_nil (seg_again rfl (ih (i + 1) true _ i t _ s₀ _ (by omega) hlt ?_ hn₇ (if_pos rfl) ((if_neg (by decide)).trans mp₅) (fun _ => by omega) (since₅.step (sameBut_lo hs₇)) hpre hlen)))
        exact (W _ hh).frame _ _ _ hst₅ fun b hb o y => hs₇.extBut b o (fun q => hCw (q ▸ hb)) y
      · rw [if_neg h92] at hpre hlen
        have hne : (({ cps := #[x.cps[i]] } : Str) == ("\\" : Str)) = false := by
          rw [beq_eq_false_iff_ne]
          intro q
          have : (#[x.cps[i]] : Array Nat) = #[92] := by rw [show ("\\" : Str) = ⟨#[92]⟩ from by decide] at q; exact congrArg Str.cps q
          exact h92 (by simpa using this)
        rw [if_neg (by rw [hne]; exact Bool.false_ne_true)]
        subst hlen
        rw [List.length_cons]
        refine seg_execs_cons (seg_Expr_Yield rfl rfl rfl ?_ hco (by unfold interactive; rw [hk]; rfl))
        refine fromNoE (wpAny_Tuple (wpAny_items_cons (name_ns hk kp hn₅ mp₅ (wpAny_items_cons (name_ns hk kc hn₅ mc₅ ?_)))))
        refine wpAny_items_nil ⟨by show 2 ≤ sizeLine; decide, fun kap hkap => ?_⟩
        refine ⟨⟨_, item _ _ hpre, _, _, _, rfl, Heap.get?_push_size _ rfl⟩, ?_, fun s'' hal => hkap .none s'' ?_⟩
        · exact since₅.step (push_lo _ _)
        · have hn₆ : s''.heap.Ns env.locals m₅ := (hn₅.push _).at' fun o y => hal _ o (Nat.le_refl _) y
          have hst₆ : St (i + 1) s''.heap := (W _ hh).frame _ _ _ hst₅ fun b hb o y => hal b o (by
            have : b = e ∨ b = it := by simpa using hb
            rcases this with rfl | rfl <;> omega) (Heap.get?_push_of_some _ y)
          refine seg_execs_nil (seg_execs_nil (seg_execs_nil (seg_again rfl (ih (i + 1) false _ i t _ s'' _ (by omega) hlt hst₆ hn₆ me₅ mp₅ (fun q => nomatch q) (Since.refl _ _) ?_ rfl))))
          obtain ⟨pre, e'⟩ := hpre; exact ⟨pre ++ [((i : Int), [x.cps[i]])], by rw [e']; simp⟩
end
end Mine
namespace Mine
open Sem (wp)

noncomputable def Keep (h h' : Heap) : Prop := ∀ (b : Nat) (o : Obj), h.get? b = some o → h'.get? b = some o
theorem Keep.trans {h h' h'' : Heap} (x : Keep h h') (y : Keep h' h'') : Keep h h'' := fun b o e => y b o (x b o e)
theorem Keep.refl (h : Heap) : Keep h h := fun _ _ e => e

section
variable {prog : Program} {w : World} {A : Around} {s : Shared} {env : Env}

theorem escW {x : Str} {tx : Tok} {e it : Nat} (hne : e ≠ it) : ∀ A' : Around, A'.handled = none →
    WalksT prog w A' e [e, it] [e, it] x.cps.size (fun i vals => ∃ t v, SignAt x i v ∧ vals = #[Value.int i t, v])
      (fun i h => (∃ old, IsEnum h e it i old) ∧ h.IsStrIter it (strIterType x) x tx i)
      (fun i T h => (∃ y, IsEnumOut h e it ((i : Int) + 1) y T) ∧ h.IsStrIter it (strIterType x) x tx (i + 1) ∧ T ≠ e ∧ T ≠ it) := by
  intro A' hA
  have hei : e ∉ ([it] : List Addr) := fun hb => hne (List.mem_singleton.mp hb)
  unfold strIterType
  cases ha : x.cps.all (· < 128)
  · exact WalksT.enumerateD (Draws.strWide (A := A'.in1) hA it x tx) e hne hei (List.mem_singleton.mpr rfl)
  · exact WalksT.enumerateD (Draws.strAscii (A := A'.in1) hA it x tx) e hne hei (List.mem_singleton.mpr rfl)

/-- the body of the generator from its first wake-up on -/
theorem seg_escBody {h₀ : Heap} {x : Str} {tx : Tok}
    {p1 p2 p3 q1 q2 q3 c1 c2 c3 c4 tp tq tt : Pos} {k1 k2 : Nat}
    {tk₀ : Nat} {i1 i2 y1 y2 t1 n1 b1 k1' n2 a1 a2 f1 i3 cmp n3 k2' a3 a4 f2 y3 y4 t2 n4 n5 i4 n6 y5 y6 t3 n7 k3 : Pos} {x1 x2 x3 x4 x5 x6 x9 x10 : Nat}
    (hh : A.handled = none)
    (hk : env.scope.kind = .function) (kp : env.kindOf "pos" = some .local) (kc : env.kindOf "ch" = some .local) (ke : env.kindOf "escape" = some .local) (ka : env.kindOf "addr" = some .local)
    (hco : env.scope.isCoroutine = false)
    (hen : ∀ (A' : Around) (s' : Shared) (Q : Value → Shared → Prop), Keep h₀ s'.heap → s'.heap.Ns env.locals (fun y => if y = "escape" then some (.bool false) else if y = "pos" then some (.int 0 s.toks) else if y = "addr" then some (.str x tx) else none) → Q (.type "enumerate") s' → wpAny (model prog w) A' (eval (.Name "enumerate" c2) env) Q noE s')
    (hC : h₀.get? env.locals = none) (hC1 : @LT.lt Nat _ (env.locals + 1) s.heap.objs.size)
    (hkeep : Keep h₀ s.heap) (hn : s.heap.Ns env.locals (fun y => if y = "addr" then some (.str x tx) else none)) :
    Seg (model prog w) A (escR env.locals) (escY env.locals (escItems 0 false x.cps.toList)) (escItems 0 false x.cps.toList).length s
      (.func [.Assign [.Name "pos" p1] (.Constant (.int 0) k1 p2) p3, .Assign [.Name "escape" q1] (.Constant (.bool false) k2 q2) q3,
        .For (.Tuple [.Name "pos" tp, .Name "ch" tq] tk₀ tt) (.Call (.Name "enumerate" c2) [.Name "addr" c3] [] c1)
        [.If (.Name "escape" i2) [.Expr (.Yield (some (.Tuple [.Name "pos" n1, .BinOp (.Constant (.str "\\") x1 k1') .Add (.Name "ch" n2) b1] x2 t1)) y2) y1, .Assign [.Name "escape" a2] (.Constant (.bool false) x3 f1) a1]
          [.If (.Compare (.Name "ch" n3) [.Eq] [.Constant (.str "\\") x4 k2'] cmp) [.Assign [.Name "escape" a4] (.Constant (.bool true) x5 f2) a3] [.Expr (.Yield (some (.Tuple [.Name "pos" n4, .Name "ch" n5] x6 t2)) y4) y3] i3] i1] [] c4,
        .If (.Name "escape" n6) [.Expr (.Yield (some (.Tuple [.Name "pos" n7, .Constant (.str "\\") x9 k3] x10 t3)) y6) y5] [] i4] env)
      ((model prog w).den (.func [.Assign [.Name "pos" p1] (.Constant (.int 0) k1 p2) p3, .Assign [.Name "escape" q1] (.Constant (.bool false) k2 q2) q3,
        .For (.Tuple [.Name "pos" tp, .Name "ch" tq] tk₀ tt) (.Call (.Name "enumerate" c2) [.Name "addr" c3] [] c1)
        [.If (.Name "escape" i2) [.Expr (.Yield (some (.Tuple [.Name "pos" n1, .BinOp (.Constant (.str "\\") x1 k1') .Add (.Name "ch" n2) b1] x2 t1)) y2) y1, .Assign [.Name "escape" a2] (.Constant (.bool false) x3 f1) a1]
          [.If (.Compare (.Name "ch" n3) [.Eq] [.Constant (.str "\\") x4 k2'] cmp) [.Assign [.Name "escape" a4] (.Constant (.bool true) x5 f2) a3] [.Expr (.Yield (some (.Tuple [.Name "pos" n4, .Name "ch" n5] x6 t2)) y4) y3] i3] i1] [] c4,
        .If (.Name "escape" n6) [.Expr (.Yield (some (.Tuple [.Name "pos" n7, .Constant (.str "\\") x9 k3] x10 t3)) y6) y5] [] i4] env)) [] s := by
  refine seg_func ?_
  refine seg_plain (set_ns hk kp (fun Q' q => wpAny_Constant_int q) (show ({ s with toks := s.toks + 1 } : Shared).heap.Ns _ _ from hn) fun h₁ hn₁ hs₁ => ⟨rfl, ?_⟩)
  replace hs₁ : Heap.SameBut env.locals s.heap h₁ := hs₁
  refine seg_plain (set_ns hk ke (fun Q' q => wpAny_Constant_bool q) hn₁ fun h₂ hn₂ hs₂ => ⟨rfl, ?_⟩)
  replace hs₂ : Heap.SameBut env.locals h₁ h₂ := hs₂
  have kp₂ : Keep h₀ h₂ := fun b o e => by
    have hb : b ≠ env.locals := fun q => by rw [q, hC] at e; cases e
    exact hs₂.extBut b o hb (hs₁.extBut b o hb (hkeep b o e))
  have lo₂ : Lo env.locals s.heap h₂ := (sameBut_lo hs₁).trans (sameBut_lo hs₂)
  refine seg_execs_cons (seg_For (wpAny_Call_ofName (hen _ _ _ kp₂ hn₂ ?_)))
  refine Pv.callWith_type1 (wpAny_items_cons (name_ns hk ka hn₂ (v := .str x tx) ((if_neg (by decide)).trans ((if_neg (by decide)).trans (if_pos rfl))) (wpAny_items_nil ?_)))
  refine call_enumerate_str fun h₃ he hit hsz hk₃ => ?_
  replace he : IsEnum h₃ (h₂.objs.size + 1) h₂.objs.size 0 .none := he
  replace hit : h₃.IsStrIter h₂.objs.size (strIterType x) x tx 0 := hit
  replace hk₃ : ∀ b o, h₂.get? b = some o → h₃.get? b = some o := hk₃
  have hLlt : @LT.lt Nat _ (env.locals + 1) h₂.objs.size := by rw [hs₂.1, hs₁.1]; exact hC1
  refine wpAny_pyIter_enum he fun p => ?_
  refine seg_escLoop (A := A) hh rfl (escW (e := h₂.objs.size + 1) (it := h₂.objs.size) (Nat.succ_ne_self _)) (Nat.lt_succ_of_lt hLlt) hLlt hk kp kc ke hco ?_ x.cps.size 0 false _ 0 _ _ s _
    (Nat.sub_zero _) (Nat.zero_le _) ⟨⟨_, he⟩, hit⟩ (hn₂.keeps hk₃) (if_pos rfl) ((if_neg (by decide)).trans (if_pos rfl)) (fun q => nomatch q) ((Since.refl _ _).step (lo₂.trans fun b o _ e => hk₃ b o e)) ⟨[], rfl⟩ rfl
  intro esc n p tp' m s₀ s' hn' me mp hpe hsince hpre hlen
  refine seg_execs_cons (seg_If (isTrue_nameB hk ke hn' me ?_))
  cases esc with
  | true =>
    rw [if_pos rfl]
    obtain rfl := hpe rfl
    subst hlen
    refine seg_execs_cons (seg_Expr_Yield rfl rfl rfl ?_ hco (by unfold interactive; rw [hk]; rfl))
    refine fromNoE (wpAny_Tuple (wpAny_items_cons (name_ns hk kp hn' mp (wpAny_items_cons (wpAny_Constant_str ?_)))))
    refine wpAny_items_nil ⟨by show 2 ≤ sizeLine; decide, fun kap hkap => ?_⟩
    refine ⟨⟨((x.cps.size : Int) - 1, [92]), ?_, _, _, _, rfl, Heap.get?_push_size _ rfl⟩, ?_, fun s'' hal => hkap .none s'' ?_⟩
    · obtain ⟨pre, e'⟩ := hpre
      have e2 : escItems 0 false x.cps.toList = pre ++ [((x.cps.size : Int) - 1, [92])] := e'
      rw [e2]
      have : (pre ++ [((x.cps.size : Int) - 1, [92])]).length - 1 - ([] : List (Int × List Nat)).length = pre.length := by simp
      rw [this]; simp
    · exact hsince.step (push_lo _ _)
    · exact seg_execs_nil (seg_execs_nil (seg_end (.ok (.ret .none)) ⟨rfl, rfl, Since.refl _ _⟩))
  | false =>
    rw [if_neg Bool.false_ne_true]
    subst hlen
    exact seg_execs_nil (seg_execs_nil (seg_end (.ok (.ret .none)) ⟨rfl, rfl, hsince⟩))

/-- the generator object `a` (state number g) at its j-th item -/
noncomputable def EscAt (prog : Program) (w : World) (A : Around) (a g : Nat) (C : Nat) (h₀ : Heap) (all : List (Int × List Nat)) (j : Nat) (s : Shared) : Prop :=
  s.heap.IsGen a g ∧ a = C + 1 ∧ ∃ gs, s.gens[g]? = some gs ∧ ∀ s'' : Shared, Hi C s.heap s''.heap → Keep h₀ s''.heap →
    gs.Goes (model prog w) A.in1 (escR C) (escY C all) (all.length - j) (.send .none) s''

theorem EscAt.lt {a g C : Nat} {h₀ : Heap} {all : List (Int × List Nat)} {j : Nat} {s : Shared} (x : EscAt prog w A a g C h₀ all j s) : g < s.gens.size :=
  let ⟨_, _, _, hgs, _⟩ := x; (Array.getElem?_eq_some_iff.mp hgs).1
theorem EscAt.to {a g C : Nat} {h₀ : Heap} {all : List (Int × List Nat)} {j : Nat} {s s' : Shared} (x : EscAt prog w A a g C h₀ all j s) (hi : Hi C s.heap s'.heap) (hg : s'.gens[g]? = s.gens[g]?) : EscAt prog w A a g C h₀ all j s' :=
  let ⟨⟨o, nm, qn, ho, r⟩, hlt, gs, hgs, hgo⟩ := x
  ⟨⟨o, nm, qn, hi a o (by omega) ho, r⟩, hlt, gs, by rw [hg]; exact hgs, fun s'' h2 k => hgo s'' (fun b o hb e => h2 b o hb (hi b o hb e)) k⟩

/-- a generator is asked for its next item -/
theorem next_gen {E : Value → Shared → Prop} {a C : Addr} {g n : Nat} {gs : GenState} {all : List (Int × List Nat)} {Q : Option Value → Shared → Prop} (hh : A.handled = none) (hl : s.heap.NoLimit) (hr : A.depth < recursionLimit)
    (hg : s.heap.IsGen a g) (at' : s.gens[g]? = some gs) (go : gs.Goes (model prog w) A.in1 (escR C) (escY C all) n (.send .none) (s.setGen g .running))
    (more : ∀ v s₁ x, x.bare = true → escY C all (n - 1) (s.setGen g .running) v s₁ (fun r z => match n with | 0 => False | m + 1 => x.Goes (model prog w) A.in1 (escR C) (escY C all) m r z) → Q (some v) (s₁.setGen g x))
    (stop : n = 0 → ∀ s₁ h', Since C (s.setGen g .running) s₁ → Keep s₁.heap h' → Q none { s₁.setGen g .finished with heap := h' }) : wpAny (model prog w) A (pyNext (.ref a)) Q E s := by
  unfold pyNext
  refine wpAny_bind (wpAny_attempt (wpAny_callSpecial?_slot (name := "__next__") hg.typeIs slot_gen_next (wpAny_call_entry slot_gen_next hg.typeIs entry_gen_next ?_ (args_gen_next _))))
  have st : gs.status = .fresh ∨ gs.status = .suspended := by
    cases gs with
    | fresh _ => exact .inl rfl
    | suspended _ _ _ _ _ _ => exact .inr rfl
    | running => exact go.elim
    | finished => exact go.elim
  wp_walk using wpAny_genNumber hg, wpAny_genState at'
  generalize gs.status = q at st ⊢
  rcases st with rfl | rfl
  all_goals
    refine wpAny_bind (wpAny_roomToWake hl hr ?_)
    refine wpAny_resumeQ (k := _) (l := []) at' go (fun r z y => ?_) fun v z x b y => wpAny_pure ⟨v, rfl, wpAny_pure (more v z x b y)⟩
    obtain ⟨rfl, n0, si⟩ := y
    wp_walk
    unfold raiseNew
    refine wpAny_bind (wpAny_handled ?_)
    rw [show A.in1.handled = none from hh]
    wp_walk
    exact wpAny_of_eq isSubtype_stop (wpAny_pure (stop n0 z _ si fun c o e => Heap.get?_push_of_some _ (Heap.get?_push_of_some _ e)))
end
end Mine
namespace Mine
open Sem (wp)

/-- what a call leaves of the rest of the state -/
structure Rest (s s' : Shared) : Prop where
  os : s'.os = s.os
  bare : AllBare s.gens → AllBare s'.gens
  gens : ∀ i, i < s.gens.size → s'.gens[i]? = s.gens[i]?
  size : s.gens.size ≤ s'.gens.size
/-- .. but the generator g -/
structure RestG (g : Nat) (s s' : Shared) : Prop where
  os : s'.os = s.os
  bare : AllBare s.gens → AllBare s'.gens
  gens : ∀ i, i ≠ g → i < s.gens.size → s'.gens[i]? = s.gens[i]?
  size : s.gens.size ≤ s'.gens.size
theorem Rest.refl (s : Shared) : Rest s s := ⟨rfl, id, fun _ _ => rfl, Nat.le_refl _⟩
theorem Rest.trans {s s' s'' : Shared} (x : Rest s s') (y : Rest s' s'') : Rest s s'' :=
  ⟨y.os.trans x.os, fun h => y.bare (x.bare h), fun i hi => (y.gens i (Nat.lt_of_lt_of_le hi x.size)).trans (x.gens i hi), Nat.le_trans x.size y.size⟩
theorem Rest.transG {g : Nat} {s s' s'' : Shared} (x : Rest s s') (y : RestG g s' s'') (hg : s.gens.size ≤ g) : Rest s s'' :=
  ⟨y.os.trans x.os, fun h => y.bare (x.bare h), fun i hi => (y.gens i (by omega) (Nat.lt_of_lt_of_le hi x.size)).trans (x.gens i hi), Nat.le_trans x.size y.size⟩
theorem rht {s : Shared} {h : Heap} {t : Nat} : Rest s { s with heap := h, toks := t } := ⟨rfl, id, fun _ _ => rfl, Nat.le_refl _⟩
theorem Rest.ht {s s' : Shared} (x : Rest s s') {h : Heap} {t : Nat} : Rest s { s' with heap := h, toks := t } := x.trans rht
theorem Rest.of_ht {s : Shared} {h : Heap} {t : Nat} : Rest s { s with heap := h, toks := t } := rht

theorem bare_set {gens : Array GenState} {g : Nat} {x : GenState} (h : AllBare gens) (hx : x.bare = true) : AllBare (gens.setIfInBounds g x) := by
  intro y hy
  obtain ⟨i, hi, rfl⟩ := Array.mem_iff_getElem.mp hy
  rw [Array.getElem_setIfInBounds (by simpa using hi)]
  split
  · exact hx
  · exact h _ (Array.getElem_mem _)

section
variable {prog : Program} {w : World} {A : Around} {s : Shared} {env : Env}

theorem setGen_get {s : Shared} {g : Nat} {gs x : GenState} (h : s.gens[g]? = some gs) : (s.setGen g x).gens[g]? = some x := by
  have hlt : g < s.gens.size := (Array.getElem?_eq_some_iff.mp h).1
  simp [Shared.setGen, hlt]

theorem esc_item {a g C j : Nat} {h₀ : Heap} {all : List (Int × List Nat)} {Q : Option Value → Shared → Prop} {E : Value → Shared → Prop} {it : Int × List Nat} (hh : A.handled = none) (hl : s.heap.NoLimit) (hroom : A.depth < recursionLimit)
    (hx : EscAt prog w A a g C h₀ all j s) (hk : Keep h₀ s.heap) (hj : all[j]? = some it)
    (h : ∀ v s', ItemAt s'.heap v it → EscAt prog w A a g C h₀ all (j + 1) s' → Lo C s.heap s'.heap → RestG g s s' → Q (some v) s') :
    wpAny (model prog w) A (pyNext (.ref a)) Q E s := by
  have hjl : j < all.length := (List.getElem?_eq_some_iff.mp hj).1
  obtain ⟨hg, hlt, gs, hgs, hgo⟩ := hx
  obtain ⟨m, hm⟩ : ∃ m, all.length - j = m + 1 := ⟨all.length - j - 1, by omega⟩
  have hgo' := hgo (s.setGen g .running) (fun _ _ _ e => e) hk
  rw [hm] at hgo'
  refine next_gen hh hl hroom hg hgs hgo' (fun v s₁ gs' hb hv => ?_) (fun q => absurd q (Nat.succ_ne_zero m))
  obtain ⟨⟨it', hit', hat⟩, ⟨h₁, tk₁, rfl, hlo⟩, hkap⟩ := hv
  have hidx : all.length - 1 - (m + 1 - 1) = j := by omega
  rw [hidx, hj] at hit'
  obtain rfl := Option.some.inj hit'
  refine h v _ hat ⟨?_, hlt, gs', setGen_get (gs := .running) (setGen_get hgs), fun s'' hal _ => ?_⟩ hlo ⟨rfl, fun hbb => bare_set (bare_set hbb rfl) hb, fun i hi _ => by simp [Shared.setGen, Ne.symm hi], by simp [Shared.setGen]⟩
  · obtain ⟨o, nm, qn, ho, r⟩ := hg
    exact ⟨o, nm, qn, hlo a o (.inr hlt) ho, r⟩
  · have e : all.length - (j + 1) = m := by omega
    rw [e]
    exact hkap s'' hal

theorem esc_done {a g C : Nat} {h₀ : Heap} {all : List (Int × List Nat)} {Q : Option Value → Shared → Prop} {E : Value → Shared → Prop} (hh : A.handled = none) (hl : s.heap.NoLimit) (hroom : A.depth < recursionLimit)
    (hx : EscAt prog w A a g C h₀ all all.length s) (hk : Keep h₀ s.heap) (h : ∀ s', Lo C s.heap s'.heap → RestG g s s' → Q none s') :
    wpAny (model prog w) A (pyNext (.ref a)) Q E s := by
  obtain ⟨hg, hlt, gs, hgs, hgo⟩ := hx
  have hgo' := hgo (s.setGen g .running) (fun _ _ _ e => e) hk
  rw [Nat.sub_self] at hgo'
  refine next_gen hh hl hroom hg hgs hgo' (fun v s₁ gs' hb hv => ?_) (fun _ s₁ h' hp hk' => ?_)
  · obtain ⟨_, _, hkap⟩ := hv
    exact False.elim (hkap s₁ fun _ _ _ e => e)
  · obtain ⟨h₁, tk₁, rfl, hlo⟩ := hp
    exact h _ (fun b o hb e => hk' b o (hlo b o hb e)) ⟨rfl, fun hbb => bare_set (bare_set hbb rfl) rfl, fun i hi _ => by simp [Shared.setGen, Ne.symm hi], by simp [Shared.setGen]⟩

/-- for xi, xc in the generator: body. J: what the frame's owner keeps; its own store below the generator's -/
theorem for_esc {R : Result → Shared → Prop} {xi xc : Str} {pk pv pt : Pos} {x1 : Nat} {body : List Stmt} {a g C : Nat} {h₀ : Heap} {all : List (Int × List Nat)} {m : Str → Option Value}
    (hh : A.handled = none) (hroom : A.depth < recursionLimit) (hk : env.scope.kind = .function) (hxi : env.kindOf xi = some .local) (hxc : env.kindOf xc = some .local) (hLC : @LT.lt Nat _ env.locals C)
    (J : Nat → (Str → Option Value) → Shared → Prop)
    (hJn : ∀ j m s, J j m s → s.heap.Ns env.locals m) (hJk : ∀ j m s, J j m s → Keep h₀ s.heap ∧ s.heap.NoLimit)
    (hJm : ∀ j m s s', J j m s → Lo C s.heap s'.heap → RestG g s s' → J j m s')
    (step : ∀ j it m s₁ s₂ t u, all[j]? = some it → J j m s₁ → s₂.heap.Ns env.locals (fun y => if y = xc then some (.str ⟨it.2.toArray⟩ u) else if y = xi then some (.int it.1 t) else m y) →
      (∀ b o, b ≠ env.locals → s₁.heap.get? b = some o → s₂.heap.get? b = some o) → Rest s₁ s₂ →
      wpAny (model prog w) A (execs body env) (fun f s₃ => match f with
        | .next | .cont => Hi C s₂.heap s₃.heap ∧ Rest s₂ s₃ ∧ ∃ m', J (j + 1) m' s₃
        | .brk => R (.ok .next) s₃
        | .ret v => R (.ok (.ret v)) s₃) noE s₂)
    (fin : ∀ m s', J all.length m s' → R (.ok .next) s')
    (hx : EscAt prog w A a g C h₀ all 0 s) (hJ : J 0 m s) :
    codeAny (model prog w) A (.forLoop (.Tuple [.Name xi pk, .Name xc pv] x1 pt) (.ref a) body [] env) R s := by
  have hp : (env.scope.kind == .class || (env.scope.kind == .module && env.locals != env.globals)) = false := by rw [hk]; rfl
  refine codeAny_forLoop_any (fun k s' => ∃ j m, k = all.length - j ∧ j ≤ all.length ∧ EscAt prog w A a g C h₀ all j s' ∧ J j m s') ?_ all.length ⟨0, m, rfl, Nat.zero_le _, hx, hJ⟩
  rintro k s' ⟨j, m', rfl, hj, hx', hJ'⟩
  obtain ⟨hke, hlim⟩ := hJk _ _ _ hJ'
  rcases Nat.lt_or_ge j all.length with hlt | hge
  · have hit : all[j]? = some all[j] := List.getElem?_eq_getElem hlt
    refine esc_item hh hlim hroom hx' hke hit fun v s₁ hat hx₁ hlo hr₁ => ?_
    have hJ₁ := hJm _ _ _ _ hJ' hlo hr₁
    obtain ⟨T, t, u, rfl, hT⟩ := hat
    have hgo : ∀ (Q' : Unit → Shared → Prop) (E' : Value → Shared → Prop), Q' () s₁ → wpAny (model prog w) A (letOwnedTupleGo (.Tuple [.Name xi pk, .Name xc pv] x1 pt) (.ref a) (.ref T)) Q' E' s₁ := by
      intro Q' E' hq
      obtain ⟨o, nm, qn, ho, hc, hd, _⟩ := hx₁.1
      show wpAny (model prog w) A (load a >>= _) Q' E' s₁
      refine wpAny_bind (wpAny_load ho ?_)
      rw [hc, hd]
      exact wpAny_pure hq
    refine hgo _ _ ?_
    refine wpAny_assign_Tuple (items := #[.int all[j].1 t, .str ⟨all[j].2.toArray⟩ u]) hh ⟨_, hT, rfl, _, rfl⟩ rfl rfl fun h₃ hx₃ => ?_
    replace hx₃ : Heap.ExtBut s₁.heap.objs.size s₁.heap h₃ := hx₃
    have up₃ : Keep s₁.heap h₃ := fun b o y => hx₃ b o (Nat.ne_of_lt (Heap.lt_size y)) y
    have hn₃ : h₃.Ns env.locals m' := (hJn _ _ _ hJ₁).keeps up₃
    show wpAny _ A (do holding [.str ⟨all[j].2.toArray⟩ u] (assign (.Name xi pk) env (.int all[j].1 t)); do holding [] (assign (.Name xc pv) env (.str ⟨all[j].2.toArray⟩ u)); pure ()) _ _ _
    refine wpAny_bind (wpAny_holding (wpAny_assign_Name (wpAny_storeName_local hxi hn₃ (fun h₄ hn₄ hs₄ => ?_) hp)))
    replace hs₄ : Heap.SameBut env.locals h₃ h₄ := hs₄
    refine wpAny_bind (wpAny_holding (wpAny_assign_Name (wpAny_storeName_local hxc hn₄ (fun h₅ hn₅ hs₅ => wpAny_pure ?_) hp)))
    replace hs₅ : Heap.SameBut env.locals h₄ h₅ := hs₅
    have up₅ : ∀ b o, b ≠ env.locals → s₁.heap.get? b = some o → h₅.get? b = some o := fun b o hb y => hs₅.extBut b o hb (hs₄.extBut b o hb (up₃ b o y))
    refine fromNoE (wpAny_mono (step j all[j] m' s₁ _ t u hit hJ₁ hn₅ up₅ Rest.of_ht) (fun f s₃ h₃' => ?_) fun _ _ x => x)
    have goes : ∀ s₃ : Shared, (Hi C h₅ s₃.heap ∧ Rest { s₁ with heap := h₅, toks := s₁.toks + 1 + 1 } s₃ ∧ ∃ m', J (j + 1) m' s₃) → ∃ k', k' < all.length - j ∧ ∃ j' m, k' = all.length - j' ∧ j' ≤ all.length ∧ EscAt prog w A a g C h₀ all j' s₃ ∧ J j' m s₃ := fun s₃ ⟨hhi, hg, m₂, hJ₂⟩ =>
      ⟨all.length - (j + 1), by omega, j + 1, m₂, rfl, hlt, hx₁.to (fun b o hb y => hhi b o hb (up₅ b o (neN (by omega)) y)) (hg.gens g hx₁.lt), hJ₂⟩
    cases f with
    | next => exact goes s₃ h₃'
    | cont => exact goes s₃ h₃'
    | brk => exact h₃'
    | ret v => exact h₃'
  · obtain rfl : j = all.length := Nat.le_antisymm hj hge
    exact esc_done hh hlim hroom hx' hke fun s₁ hlo hr => wpAny_execs_nil (fin m' s₁ (hJm _ _ _ _ hJ' hlo hr))
end
end Mine
namespace Mine
open PySem.Builtin PySem.Builtin.Str

noncomputable abbrev st (x : List Nat) : Str := ⟨x.toArray⟩
theorem st_len (x : List Nat) : (st x).length = x.length := by simp [Str.length]
theorem st_inj {x y : List Nat} (h : st x = st y) : x = y := by
  have := congrArg (fun s : Str => s.cps.toList) h
  simpa using this
theorem st_append (x y : List Nat) : st x ++ st y = st (x ++ y) := Str.ext' (by rw [Str.cps_append]; simp)
theorem st_of (s : Str) : st s.cps.toList = s := Str.ext' (by simp)

section
variable {α : Type} [DecidableEq α]

/-- the places where y is found, from the left, none over another, at most limit -/
noncomputable def occG (y : List α) (limit : Nat) : Nat → Nat → Nat → List α → List Nat
  | n, free, i, [] => if n < limit ∧ free ≤ i ∧ ([] : List α).take y.length = y then [i] else []
  | n, free, i, c :: r => if n < limit ∧ free ≤ i ∧ (c :: r).take y.length = y then i :: occG y limit (n + 1) (i + y.length) (i + 1) r else occG y limit n free (i + 1) r

noncomputable def partsG (x : List α) (w : Nat) : Nat → List Nat → List (List α)
  | a, [] => [x.drop a]
  | a, c :: r => (x.drop a).take (c - a) :: partsG x w (c + w) r

noncomputable def splitG (x y : List α) (limit : Nat) : List (List α) := partsG x y.length 0 (occG y limit 0 0 0 x)

noncomputable def joinG (sep : List α) : List (List α) → List α
  | [] => []
  | [p] => p
  | p :: q :: r => p ++ sep ++ joinG sep (q :: r)

noncomputable def sliceG (x : List α) (a b : Nat) : List α := (x.drop a).take (b - a)
end

theorem take_eq_iff {x y : List Nat} {i : Nat} (hi : i ≤ x.length) : (i + (st y).length ≤ x.length ∧ subAt (st x) (st y) i = true) ↔ (x.drop i).take y.length = y := by
  rw [StrLaws.subAt_eq, st_len]
  simp only [beq_iff_eq]
  constructor
  · rintro ⟨_, h⟩
    simpa using h
  · intro h
    refine ⟨?_, by simpa using h⟩
    have := congrArg List.length h
    simp only [List.length_take, List.length_drop] at this
    omega

theorem occ_from (x y : List Nat) (limit : Nat) : ∀ (k i : Nat) (F : Array Nat) (free : Nat), k = x.length - i → i ≤ x.length →
    (forIn (List.range' i (x.length + 1 - i)) (F, free) (StrLaws.occBody (st x) (st y) x.length limit)).run.fst.toList = F.toList ++ occG y limit F.size free i (x.drop i) := by
  intro k
  induction k with
  | zero =>
    intro i F free hk hi
    have hin : i = x.length := by omega
    subst hin
    have e : x.length + 1 - x.length = 1 := by omega
    have hd : x.drop x.length = [] := List.drop_of_length_le (Nat.le_refl _)
    rw [e, hd, occG]
    have hc := take_eq_iff (x := x) (y := y) (i := x.length) (Nat.le_refl _)
    rw [hd] at hc
    by_cases h : F.size < limit ∧ free ≤ x.length ∧ ([] : List Nat).take y.length = y
    · rw [if_pos h]
      have h2 := hc.mpr h.2.2
      simp only [List.range'_one, List.forIn_cons, List.forIn_nil, StrLaws.occBody]
      rw [if_pos ⟨⟨⟨h.1, h.2.1⟩, h2.1⟩, h2.2⟩]
      simp
    · rw [if_neg h]
      simp only [List.range'_one, List.forIn_cons, List.forIn_nil, StrLaws.occBody]
      rw [if_neg (fun q => h ⟨q.1.1.1, q.1.1.2, hc.mp ⟨q.1.2, q.2⟩⟩)]
      simp
  | succ k ih =>
    intro i F free hk hi
    have hlt : i < x.length := by omega
    have e : x.length + 1 - i = (x.length + 1 - (i + 1)) + 1 := by omega
    have hd : x.drop i = x[i] :: x.drop (i + 1) := List.drop_eq_getElem_cons hlt
    have hc := take_eq_iff (x := x) (y := y) (i := i) hi
    rw [e, List.range'_succ, hd, occG]
    rw [hd] at hc
    by_cases h : F.size < limit ∧ free ≤ i ∧ (x[i] :: x.drop (i + 1)).take y.length = y
    · rw [if_pos h]
      have h2 := hc.mpr h.2.2
      rw [List.forIn_cons]
      simp only [StrLaws.occBody]
      rw [if_pos ⟨⟨⟨h.1, h.2.1⟩, h2.1⟩, h2.2⟩]
      have := ih (i + 1) (F.push i) (i + (st y).length) (by omega) hlt
      simp only [Array.size_push, Array.toList_push, st_len] at this
      simpa [StrLaws.occBody, st_len] using this
    · rw [if_neg h]
      rw [List.forIn_cons]
      simp only [StrLaws.occBody]
      rw [if_neg (fun q => h ⟨q.1.1.1, q.1.1.2, hc.mp ⟨q.1.2, q.2⟩⟩)]
      have := ih (i + 1) F free (by omega) hlt
      simpa [StrLaws.occBody] using this

theorem occ_G (x y : List Nat) (limit : Nat) : occurrences (st x) (st y) 0 x.length limit = occG y limit 0 0 0 x := by
  rw [StrLaws.occ_eq]
  have := occ_from x y limit x.length 0 #[] 0 (Nat.sub_zero _).symm (Nat.zero_le _)
  simpa using this

theorem strSub_st (x : List Nat) (i j : Nat) : strSub (st x) i j = st ((x.drop i).take (j - i)) := by
  rw [← st_of (strSub (st x) i j), StrLaws.strSub_toList]

theorem parts_G (x : List Nat) (w : Nat) : ∀ (cuts : List Nat) (a : Nat), StrLaws.partsFrom (st x) w a cuts = (partsG x w a cuts).map st
  | [], a => by
    rw [StrLaws.partsFrom, partsG, strSub_st, st_len, List.take_of_length_le (by simp)]
    rfl
  | c :: r, a => by rw [StrLaws.partsFrom, partsG, parts_G x w r, strSub_st]; rfl

/-- signs below 256 -/
noncomputable def Low (x : List Nat) : Prop := ∀ c ∈ x, c < 256
theorem kind_low {x : List Nat} (h : Low x) : Builtin.Str.strKind (st x) = 1 := by
  unfold Builtin.Str.strKind
  rw [if_pos]
  rw [Array.all_eq_true']
  intro c hc
  simpa using h c (by simpa using hc)
theorem kind_pos (x : Str) : 1 ≤ Builtin.Str.strKind x := by unfold Builtin.Str.strKind; split <;> (try split) <;> omega

theorem occ_short {x y : List Nat} (limit : Nat) (h : x.length < y.length) : ∀ (r : List Nat) (n free i : Nat), r.length ≤ x.length → occG y limit n free i r = []
  | [], n, free, i, hr => by
    rw [occG, if_neg]
    intro q
    have := congrArg List.length q.2.2
    simp at this
    omega
  | c :: r, n, free, i, hr => by
    rw [occG, if_neg, occ_short limit h r]
    · simp only [List.length_cons] at hr; omega
    · intro q
      have := congrArg List.length q.2.2
      simp only [List.length_take] at this
      omega

theorem splitMax_G {x y : List Nat} (hy : Low y) (k : Nat) (limit : Nat) (hl : Txt.splitMax (st x) (st y) k = (if (decide ((st x).length < (st y).length) || decide (Builtin.Str.strKind (st x) < Builtin.Str.strKind (st y))) = true then [st x] else
  if (occurrences (st x) (st y) 0 (st x).length limit).isEmpty = true then [st x] else partsBetween (st x) (occurrences (st x) (st y) 0 (st x).length limit) (st y).length)) : Txt.splitMax (st x) (st y) k = (splitG x y limit).map st := by
  rw [hl]
  have hk : ¬ Builtin.Str.strKind (st x) < Builtin.Str.strKind (st y) := by rw [kind_low hy]; have := kind_pos (st x); omega
  rw [st_len, st_len, occ_G, StrLaws.partsBetween_eq, parts_G]
  unfold splitG
  by_cases h1 : x.length < y.length
  · rw [if_pos (by simp [h1]), occ_short limit h1 x _ _ _ (Nat.le_refl _)]
    rfl
  · rw [if_neg (by simp [h1, hk])]
    by_cases h2 : (occG y limit 0 0 0 x).isEmpty = true
    · rw [if_pos h2, List.isEmpty_iff.mp h2]; rfl
    · rw [if_neg h2]

theorem split_G {x y : List Nat} (hy : Low y) : Txt.split (st x) (st y) = (splitG x y (x.length + 1)).map st := by
  have hk : ¬ Builtin.Str.strKind (st x) < Builtin.Str.strKind (st y) := by rw [kind_low hy]; have := kind_pos (st x); omega
  unfold Txt.split
  rw [st_len, st_len, occ_G, StrLaws.partsBetween_eq, parts_G]
  unfold splitG
  by_cases h1 : x.length < y.length
  · rw [if_pos (by simp [h1]), occ_short _ h1 x _ _ _ (Nat.le_refl _)]
    rfl
  · rw [if_neg (by simp [h1, hk])]
    by_cases h2 : (occG y (x.length + 1) 0 0 0 x).isEmpty = true
    · rw [if_pos h2, List.isEmpty_iff.mp h2]; rfl
    · rw [if_neg h2]

theorem split1_G {x y : List Nat} (hy : Low y) : Txt.splitMax (st x) (st y) 1 = (splitG x y 1).map st := splitMax_G hy 1 1 rfl

theorem join_G (sep : List Nat) : ∀ ps : List (List Nat), Txt.join (st sep) (ps.map st) = st (joinG sep ps) := by
  intro ps
  unfold Txt.join
  rw [StrLaws.glued_eq_join]
  induction ps with
  | nil => rfl
  | cons p r ih =>
    cases r with
    | nil => rfl
    | cons q r' =>
      show st p ++ st sep ++ Str.join (st sep) ((q :: r').map st) = _
      rw [ih, joinG, st_append, st_append]

theorem replace_G {x y z : List Nat} (hy : y ≠ []) : Txt.replace (st x) (st y) (st z) = st (joinG z (splitG x y (x.length + 1))) := by
  unfold Txt.replace
  rw [st_len, st_len, st_len, occ_G]
  have hy' : (y.length == 0) = false := by
    cases y with
    | nil => exact absurd rfl hy
    | cons c r => rfl
  rw [hy', Bool.false_and, Bool.or_false]
  unfold splitG
  by_cases h2 : (occG y (x.length + 1) 0 0 0 x).isEmpty = true
  · rw [if_pos h2, List.isEmpty_iff.mp h2]; rfl
  · rw [if_neg h2, StrLaws.partsBetween_eq, parts_G]
    exact join_G z _

theorem slice_idx (a b len : Nat) : strSliceIndices (some (a : Int)) (some (b : Int)) 1 len = strSliceIndices (some ((min a len : Nat) : Int)) (some ((min b len : Nat) : Int)) 1 len := by
  have h1 : ¬ ((a : Int) < 0) := by omega
  have h2 : ¬ ((b : Int) < 0) := by omega
  have h3 : ¬ (((min a len : Nat) : Int) < 0) := by omega
  have h4 : ¬ (((min b len : Nat) : Int) < 0) := by omega
  simp only [strSliceIndices, h1, h2, h3, h4, if_false, show ((1 : Int) > 0) = True from by simp, if_true]
  congr 1 <;> omega

theorem slice_list_G {α : Type} (x : List α) (a b : Nat) : (x.drop (min a x.length)).take (min b x.length - min a x.length) = (x.drop a).take (b - a) := by
  rcases Nat.le_total a x.length with ha | ha
  · rw [Nat.min_eq_left ha]
    rcases Nat.le_total b x.length with hb | hb
    · rw [Nat.min_eq_left hb]
    · rw [Nat.min_eq_right hb, List.take_of_length_le (by simp), List.take_of_length_le (by simp; omega)]
  · rw [Nat.min_eq_right ha, List.drop_of_length_le (Nat.le_refl _), List.drop_of_length_le ha]
    simp

theorem idx_back {a b len : Nat} (h : ¬ a ≤ b) (hb : b ≤ len) (ha : a ≤ len) : strSliceIndices (some (a : Int)) (some (b : Int)) 1 len = [] := by
  have lt : (b : Int) < a := by omega
  have la : (a : Int) ≤ len := by omega
  have lb : (b : Int) ≤ len := by omega
  simp [strSliceIndices, sliceRange, Int.min_eq_left la, Int.min_eq_left lb, Int.not_lt.mpr (Int.natCast_nonneg _), Int.not_lt.mpr (Int.le_of_lt lt), Int.max_eq_right]

theorem slice_G (x : List Nat) (a b : Nat) : (strSliceIndices (some (a : Int)) (some (b : Int)) 1 x.length).filterMap ((st x).cps[·]?) = sliceG x a b := by
  rw [slice_idx]
  unfold sliceG
  rw [← slice_list_G]
  have ha : min a x.length ≤ x.length := Nat.min_le_right _ _
  have hb : min b x.length ≤ x.length := Nat.min_le_right _ _
  by_cases h : min a x.length ≤ min b x.length
  · have := StrLaws.sliced_plain (st x) h (by rw [st_len]; exact hb)
    rw [st_len] at this
    rw [this]
  · rw [idx_back h hb ha]
    have : min b x.length - min a x.length = 0 := by omega
    rw [this]; rfl
end Mine
namespace Mine
section
variable {α : Type} [DecidableEq α]
noncomputable def escG (bs : α) : Nat → Bool → List α → List (Int × List α)
  | i, true, [] => [((i : Int) - 1, [bs])]
  | _, false, [] => []
  | i, true, c :: cs => ((i : Int), [bs, c]) :: escG bs (i + 1) false cs
  | i, false, c :: cs => if c = bs then escG bs (i + 1) true cs else ((i : Int), [c]) :: escG bs (i + 1) false cs

/-- start, the open place, what is kept -/
noncomputable def stripStepG (x : List α) (q : α) (a : Int × Option Int × List (List α)) (it : Int × List α) : Int × Option Int × List (List α) :=
  if it.2 = [q] then (match a.2.1 with
    | none => (a.1, some it.1, a.2.2)
    | some o => (it.1 + 1, none, if a.1 = o then a.2.2 else a.2.2 ++ [sliceG x a.1.toNat o.toNat])) else a
noncomputable def stripEndG (x : List α) (a : Int × Option Int × List (List α)) : List α := joinG [] (if a.1 < x.length then a.2.2 ++ [sliceG x a.1.toNat x.length] else a.2.2)
noncomputable def stripG (x : List α) (bs q : α) : List α := if q ∈ x then stripEndG x ((escG bs 0 false x).foldl (stripStepG x q) (0, none, [])) else x
noncomputable def opensG (lp rp : α) : Int → List (Int × List α) → Bool
  | o, [] => o == 0
  | o, it :: r => if it.2 = [lp] then opensG lp rp (o + 1) r else if it.2 = [rp] then (if o - 1 < 0 then false else opensG lp rp (o - 1) r) else opensG lp rp o r
noncomputable def checkG (x : List α) (bs q lp rp : α) : Bool := opensG lp rp 0 (escG bs 0 false (stripG x bs q))

theorem esc_pos (bs : α) : ∀ (l : List α) (i : Nat) (e : Bool), (e = true → 1 ≤ i) → ∀ it ∈ escG bs i e l, 0 ≤ it.1
  | [], i, true, h, it, hm => by
    simp only [escG, List.mem_singleton] at hm
    subst hm
    have := h rfl
    show 0 ≤ (i : Int) - 1
    omega
  | [], i, false, h, it, hm => by simp [escG] at hm
  | c :: cs, i, true, h, it, hm => by
    simp only [escG, List.mem_cons] at hm
    rcases hm with rfl | hm
    · show 0 ≤ (i : Int); omega
    · exact esc_pos bs cs (i + 1) false (fun q => nomatch q) it hm
  | c :: cs, i, false, h, it, hm => by
    simp only [escG] at hm
    split at hm
    · exact esc_pos bs cs (i + 1) true (fun _ => by omega) it hm
    · rcases List.mem_cons.mp hm with rfl | hm
      · show 0 ≤ (i : Int); omega
      · exact esc_pos bs cs (i + 1) false (fun q => nomatch q) it hm
theorem esc_len (bs : α) : ∀ (l : List α) (i : Nat) (e : Bool), (escG bs i e l).length ≤ l.length + (if e then 1 else 0)
  | [], i, true => by simp [escG]
  | [], i, false => by simp [escG]
  | c :: cs, i, true => by have := esc_len bs cs (i + 1) false; simp [escG] at this ⊢; omega
  | c :: cs, i, false => by
    have h1 := esc_len bs cs (i + 1) false
    have h2 := esc_len bs cs (i + 1) true
    simp only [escG]
    split <;> simp at h1 h2 ⊢ <;> omega

/-- what holds of the state of the strip -/
structure StripOk (x : List α) (j : Nat) (a : Int × Option Int × List (List α)) : Prop where
  start : 0 ≤ a.1
  opn : ∀ o, a.2.1 = some o → 0 ≤ o
  few : a.2.2.length ≤ j
  short : ∀ y ∈ a.2.2, y.length ≤ x.length
theorem StripOk.init (x : List α) : StripOk x 0 (0, none, []) := ⟨Int.le_refl _, fun _ e => by simp at e, Nat.le_refl _, fun _ h => by simp at h⟩
theorem sliceG_len (x : List α) (a b : Nat) : (sliceG x a b).length ≤ x.length := by unfold sliceG; simp; omega
theorem StripOk.step {x : List α} {q : α} {j : Nat} {a : Int × Option Int × List (List α)} (h : StripOk x j a) (it : Int × List α) (hi : 0 ≤ it.1) : StripOk x (j + 1) (stripStepG x q a it) := by
  obtain ⟨s, o, r⟩ := a
  unfold stripStepG
  split
  · cases o with
    | none => exact ⟨h.start, fun o e => by cases e; exact hi, Nat.le_succ_of_le h.few, h.short⟩
    | some o =>
      refine ⟨by show 0 ≤ it.1 + 1; omega, fun _ e => by simp at e, ?_, ?_⟩
      · show (if s = o then r else r ++ [sliceG x s.toNat o.toNat]).length ≤ j + 1
        have := h.few
        simp only at this
        split <;> simp <;> omega
      · intro y hy
        have hy' : y ∈ (if s = o then r else r ++ [sliceG x s.toNat o.toNat]) := hy
        split at hy'
        · exact h.short y hy'
        · rcases List.mem_append.mp hy' with hy' | hy'
          · exact h.short y hy'
          · rw [List.mem_singleton.mp hy']; exact sliceG_len _ _ _
  · exact ⟨h.start, h.opn, Nat.le_succ_of_le h.few, h.short⟩
end
end Mine
namespace Mine
section
variable {α : Type} [DecidableEq α]
noncomputable def replG (y z x : List α) : List α := joinG z (splitG x y (x.length + 1))

theorem parts_one (x : List α) (c : α) (limit : Nat) : ∀ (r : List α) (n free i a : Nat) (pre : List α), x = pre ++ r → pre.length = i → a ≤ i → free ≤ i → r.length < limit - n →
    ∃ p q, partsG x 1 a (occG [c] limit n free i r) = p :: q ∧ ∀ z : List α, joinG z (p :: q) = (pre.drop a) ++ r.flatMap (fun b => if b = c then z else [b])
  | [], n, free, i, a, pre, hx, hi, ha, hf, hl => by
    rw [occG, if_neg (by simp), partsG]
    refine ⟨_, _, rfl, fun z => ?_⟩
    rw [hx]
    simp [joinG]
  | b :: r, n, free, i, a, pre, hx, hi, ha, hf, hl => by
    have hx' : x = (pre ++ [b]) ++ r := by rw [hx]; simp
    have hlen : (pre ++ [b]).length = i + 1 := by simp [hi]
    have hl' : r.length < limit - n - 1 := by simp only [List.length_cons] at hl; omega
    rw [occG]
    by_cases hb : b = c
    · subst hb
      rw [if_pos ⟨by omega, hf, by simp⟩, partsG]
      obtain ⟨p, q, e, h⟩ := parts_one x b limit r (n + 1) (i + 1) (i + 1) (i + 1) (pre ++ [b]) hx' hlen (Nat.le_refl _) (Nat.le_refl _) (by omega)
      refine ⟨_, _, rfl, fun z => ?_⟩
      have e' : partsG x 1 (i + 1) (occG [b] limit (n + 1) (i + [b].length) (i + 1) r) = p :: q := e
      rw [e', joinG, h z]
      have h1 : (x.drop a).take (i - a) = pre.drop a := by
        rw [hx, List.drop_append_of_le_length (by omega), List.take_append_of_le_length (by simp; omega), List.take_of_length_le (by simp; omega)]
      have h2 : (pre ++ [b]).drop (i + 1) = [] := List.drop_of_length_le (by omega)
      rw [h1, h2]
      simp
    · rw [if_neg (by simp [hb])]
      obtain ⟨p, q, e, h⟩ := parts_one x c limit r n free (i + 1) a (pre ++ [b]) hx' hlen (by omega) (by omega) (by omega)
      refine ⟨p, q, e, fun z => ?_⟩
      rw [h z, List.drop_append_of_le_length (by omega)]
      simp [hb]

/-- a replacement of one sign -/
theorem repl_one (c : α) (z x : List α) : replG [c] z x = x.flatMap (fun b => if b = c then z else [b]) := by
  unfold replG splitG
  obtain ⟨p, q, e, h⟩ := parts_one x c (x.length + 1) x 0 0 0 0 [] rfl rfl (Nat.le_refl _) (Nat.le_refl _) (by omega)
  have e' : partsG x [c].length 0 (occG [c] (x.length + 1) 0 0 0 x) = p :: q := e
  rw [e', h z]
  simp
theorem repl_one_len (c : α) (z x : List α) (k : Nat) (hz : z.length ≤ k) (hk : 1 ≤ k) : (replG [c] z x).length ≤ k * x.length := by
  rw [repl_one]
  induction x with
  | nil => simp
  | cons b r ih =>
    rw [List.flatMap_cons, List.length_append, List.length_cons, Nat.mul_succ]
    have : (if b = c then z else [b]).length ≤ k := by
      split
      · exact hz
      · exact hk
    omega

/-- a text with its kinds dressed -/
noncomputable def dressG (bs q lp rp : α) (k0 k1 k2 k3 : α) (x : List α) : List α := replG [k3] [q, lp, q] (replG [k2] [bs, bs] (replG [k1] [bs, rp] (replG [k0] [bs, lp] x)))
end
end Mine
namespace Mine
open Sem (wp)

noncomputable abbrev prg : Program := PySem.Challenge.rw_us0016_01.row.prog
/-- the written part -/
noncomputable abbrev KF (w : World) : Frag := KK w.params

structure TopOk (w : World) (h : Heap) : Prop where
  kin : (KF w).In h
  top : ∃ p loose mean mg mb, Top p loose mean mg mb h
theorem TopOk.keeps {w : World} {h h' : Heap} (T : TopOk w h) (k : Keep h h') : TopOk w h' :=
  ⟨T.kin.keeps k, let ⟨p, l, me, mg, mb, t⟩ := T.top; ⟨p, l, me, mg, mb, t.keeps k⟩⟩
theorem TopOk.nolimit {w : World} {h : Heap} (T : TopOk w h) : h.NoLimit := let ⟨_, _, _, _, _, t⟩ := T.top; (topRead_of t).nolimit

section
variable {w : World} {A : Around} {s : Shared} {env : Env} {M : Model}

theorem name_global {x : Str} {pos : Pos} {v : Value} {Q : Value → Shared → Prop} {E : Value → Shared → Prop} (T : TopOk w s.heap) (hk : env.scope.kind = .function) (hx : env.kindOf x = some .globalImplicit) (hg : env.globals = mainGlobals)
    (e : nsIn (KF w) mainGlobals x = some (some v)) (h : Q v s) (hd : (x == ("__debug__" : Str)) = false := by decide) : wpAny M A (eval (.Name x pos) env) Q E s := by
  obtain ⟨X, p, l, me, mg, mb, t⟩ := T
  have t' := topRead_of t
  exact Calls.Name_function_global hk hx (Calls.loadGlobal_global (by rw [hg]; exact t'.g) (mg_of X t'.g e) h) hd

theorem name_builtin {x : Str} {pos : Pos} {v : Value} {Q : Value → Shared → Prop} {E : Value → Shared → Prop} (T : TopOk w s.heap) (hk : env.scope.kind = .function) (hx : env.kindOf x = some .globalImplicit) (hg : env.globals = mainGlobals) (hb : env.builtins = builtinsNs)
    (e : nsIn (KF w) mainGlobals x = some none) (hv : bootBuiltins x = some v) (hn : x ≠ "__name__") (h : Q v s) (hd : (x == ("__debug__" : Str)) = false := by decide) : wpAny M A (eval (.Name x pos) env) Q E s := by
  obtain ⟨X, p, l, me, mg, mb, t⟩ := T
  have t' := topRead_of t
  exact Calls.Name_function_global hk hx (Calls.loadGlobal_builtin (by rw [hg]; exact t'.g) (mg_none_of X t'.g e) (by rw [hb]; exact t'.b) ((t'.builtins x hn).trans hv) h) hd
end

section
variable {w : World} {A : Around} {s : Shared}

/-- a call of a def of the written part; it raises nothing -/
theorem enter {R : Result → Shared → Prop} {f : Addr} {name qual : Str} {params : Arguments} {body : List Stmt} {scope : Scope} {dV kV doc pm cdv ct oc : Value} {an od : Option Addr} {osl : Array (Option Value)} {args : Args} {binds : List (Str × Value)}
    (T : TopOk w s.heap) (ho : (KF w).lookup f = some ⟨oc, od, .func (fnOf name qual params body scope dV kV doc pm an cdv ct), osl⟩) (hcd : codeIn (KF w) cdv qual = true) (hroom : A.depth < recursionLimit)
    (hbind : BindsTo s (fnOf name qual params body scope dV kV doc pm an cdv ct) args binds) (hloc : ∀ y ∈ binds, scope.names.lookup y.1 = some .local)
    (h : ∀ h₁, Fr s.heap s.heap.objs.size h₁ (fun y => binds.reverse.lookup y) →
      wpAny (model prg w) (A.deeper (envOf qual scope s.heap.objs.size f cdv)) (execs body (envOf qual scope s.heap.objs.size f cdv))
        (fun fl s' => R (.ok (.ret (match fl with | .ret v => v | _ => .none))) s') noE { s with heap := h₁, toks := s.toks + binds.length })
    (hcell : ∀ x ∈ scope.names, x.2 ≠ .cell) (hco : scope.isCoroutine = false) (hgen : scope.isGenerator = false) (hk : scope.kind = .function) :
    codeAny (model prg w) A (.call (.ref f) args) R s := by
  refine codeAny_call_def (fd := fnOf name qual params body scope dV kV doc pm an cdv ct) hroom (T.kin _ _ ho) rfl T.nolimit (codeRec_of T.kin hcd) rfl hbind hcell hloc (fun h₁ hn hk₁ => ?_) hco hgen hk
  exact fromNoE (h h₁ ⟨hn, hk₁, Nat.le_refl _⟩)

/-- the call that makes the generator -/
theorem call_gen {h₀ : Heap} {x : Str} {tx : Tok} {Q : Value → Shared → Prop} {E : Value → Shared → Prop} (hh : A.handled = none) (T : TopOk w s.heap) (T₀ : TopOk w h₀) (hk₀ : Keep h₀ s.heap) (hroom : A.depth + 10 < recursionLimit)
    (h : ∀ a g C s', EscAt prg w A a g C h₀ (escItems 0 false x.cps.toList) 0 s' → C = s.heap.objs.size → g = s.gens.size → Keep s.heap s'.heap → Rest s s' → Q (.ref a) s') :
    wpAny (model prg w) A (call (.ref 55) [.str x tx]) Q E s := by
  refine wpAny_call ?_
  have gsz : s.heap.get? s.heap.objs.size = none := by
    cases hq : s.heap.get? s.heap.objs.size with
    | none => rfl
    | some o => exact absurd (Heap.lt_size hq) (Nat.lt_irrefl _)
  refine codeAny_call_generator (by omega) (T.kin 55 _ rfl) rfl rfl rfl rfl (codeRec_of T.kin (by kernel_rfl)) ?_
  refine BindsTo.of_eq (binds := [("addr", .str x tx)]) rfl _ _ _ _ ?_
  refine wpAny_newFunctionEnv (by decide) (locs rfl) (fun h₁ hn₁ hs₁ => ?_) rfl
  replace hs₁ : Heap.SameBut s.heap.objs.size (s.heap.push { cls := .type "frame", data := .dict #[] }) h₁ := hs₁
  have k₁ : Keep s.heap h₁ := fun b o e => hs₁.extBut b o (Nat.ne_of_lt (Heap.lt_size e)) (Heap.get?_push_of_some _ e)
  have hz : h₁.objs.size = s.heap.objs.size + 1 := by rw [hs₁.1, Heap.size_push]
  refine ⟨T.nolimit.keeps k₁, ?_⟩
  refine h _ s.gens.size s.heap.objs.size _ ⟨⟨_, _, _, Heap.get?_push_size _ rfl, rfl, rfl, rfl⟩, hz, _, Array.getElem?_push_size .., fun s'' hal hk => ⟨rfl, ?_⟩⟩ rfl rfl (fun b o e => Heap.get?_push_of_some _ (k₁ b o e)) ⟨rfl, fun hb => hb.push rfl, fun i hi => by show (s.gens.push _)[i]? = _; rw [Array.getElem?_push_lt hi, Array.getElem?_eq_getElem hi], by show s.gens.size ≤ (s.gens.push _).size; simp⟩
  have hn₂ : s''.heap.Ns s.heap.objs.size (fun y => if y = "addr" then some (.str x tx) else none) := by
    have e : (fun y : Str => ([((("addr" : Str)), Value.str x tx)] : List (Str × Value)).reverse.lookup y) = fun y : Str => if y = ("addr" : Str) then some (Value.str x tx) else none := by
      funext y
      by_cases hy : y = "addr"
      · subst hy; simp
      · have : (y == ("addr" : Str)) = false := by simpa using hy
        simp [List.lookup, this, hy]
    rw [e] at hn₁
    exact (hn₁.push _).at' fun o e => hal _ o (Nat.le_refl _) e
  have hlt : @LT.lt Nat _ (s.heap.objs.size + 1) s''.heap.objs.size := by
    have := Heap.lt_size (hal h₁.objs.size _ (by omega) (Heap.get?_push_size _ rfl))
    rw [hz] at this
    exact this
  refine seg_escBody (A := A.in1) (h₀ := h₀) (s := s'') (env := newEnv _ s.heap.objs.size _ _ _ _ _ none _) hh rfl rfl rfl rfl rfl rfl (fun A' s' Q' hk' hn' hq => ?_) ?_ (by exact hlt) hk (by exact hn₂)
  · exact name_builtin (T₀.keeps hk') rfl rfl rfl rfl (by kernel_rfl) boot_enumerate (by decide) hq
  · cases hq : h₀.get? s.heap.objs.size with
    | none => exact hq
    | some o => exact absurd (Heap.lt_size (hk₀ _ _ hq)) (Nat.lt_irrefl _)
end
end Mine
namespace Mine
open Sem (wp)

/-! a small logic: expressions that only add to the heap, statements that turn the frame's own -/

/-- all but the addresses Z stands -/
noncomputable def Xt (Z : List Addr) (h h' : Heap) : Prop := ∀ b o, b ∉ Z → h.get? b = some o → h'.get? b = some o
theorem Xt.refl (Z : List Addr) (h : Heap) : Xt Z h h := fun _ _ _ e => e
theorem Xt.trans {Z : List Addr} {h h' h'' : Heap} (x : Xt Z h h') (y : Xt Z h' h'') : Xt Z h h'' := fun b o hb e => y b o hb (x b o hb e)
theorem Xt.of_keep {Z : List Addr} {h h' : Heap} (x : Keep h h') : Xt Z h h' := fun b o _ e => x b o e
theorem Xt.mono {Z Z' : List Addr} {h h' : Heap} (x : Xt Z h h') (hz : ∀ b ∈ Z, b ∈ Z') : Xt Z' h h' := fun b o hb e => x b o (fun q => hb (hz b q)) e
theorem Xt.of_same {Z : List Addr} {L : Addr} {h h' : Heap} (x : Heap.SameBut L h h') (hz : L ∈ Z) : Xt Z h h' := fun b o hb e => x.extBut b o (fun q => hb (q ▸ hz)) e
theorem Xt.keep {Z : List Addr} {h₀ h h' : Heap} (x : Xt Z h h') (k : Keep h₀ h) (hz : ∀ b ∈ Z, h₀.get? b = none) : Keep h₀ h' := fun b o e => x b o (fun q => by rw [hz b q] at e; cases e) (k b o e)
theorem Xt.ns {Z : List Addr} {h h' : Heap} {a : Addr} {m : Str → Option Value} (x : Xt Z h h') (n : h.Ns a m) (hz : a ∉ Z) : h'.Ns a m := n.at' fun o e => x a o hz e
theorem Xt.list {Z : List Addr} {h h' : Heap} {a : Addr} {vs : Array Value} (x : Xt Z h h') (n : h.IsList a vs) (hz : a ∉ Z) : h'.IsList a vs := n.at fun o e => x a o hz e

section
variable {w : World} {A : Around} {env : Env} {α β : Type}

/-- t, run in any heap that holds H, adds to the heap and hands back a value as V tells (the heap ahead, the value, the heap behind) -/
noncomputable def Tm (w : World) (A : Around) (H : Heap) (t : Sem α) (V : Heap → α → Heap → Prop) : Prop :=
  ∀ s : Shared, Keep H s.heap → wpAny (model prg w) A t (fun v s' => Keep s.heap s'.heap ∧ Rest s s' ∧ V s.heap v s'.heap) noE s
noncomputable abbrev Ev (w : World) (A : Around) (env : Env) (H : Heap) (e : Expr) (V : Heap → Value → Heap → Prop) : Prop := Tm w A H (eval e env) V

noncomputable def IsS (x : Str) : Heap → Value → Heap → Prop := fun _ v _ => ∃ t, v = .str x t
noncomputable def IsI (i : Int) : Heap → Value → Heap → Prop := fun _ v _ => ∃ t, v = .int i t
noncomputable def IsB (b : Bool) : Heap → Value → Heap → Prop := fun _ v _ => v = .bool b
noncomputable def IsV (u : Value) : Heap → Value → Heap → Prop := fun _ v _ => v = u

theorem Tm.mono {H H' : Heap} {t : Sem α} {V V' : Heap → α → Heap → Prop} (h : Tm w A H t V) (hk : Keep H H') (hV : ∀ h₁ v h₂, Keep H' h₁ → Keep h₁ h₂ → V h₁ v h₂ → V' h₁ v h₂) : Tm w A H' t V' :=
  fun s k => wpAny_mono (h s (hk.trans k)) (fun v s' x => ⟨x.1, x.2.1, hV _ _ _ k x.1 x.2.2⟩) fun _ _ x => x
theorem Tm.more {H H' : Heap} {t : Sem α} {V : Heap → α → Heap → Prop} (h : Tm w A H t V) (hk : Keep H H') : Tm w A H' t V := h.mono hk fun _ _ _ _ _ x => x

theorem Tm.pure {H : Heap} {a : α} {V : Heap → α → Heap → Prop} (h : ∀ h', Keep H h' → V h' a h') : Tm w A H (pure a : Sem α) V := fun s k => wpAny_pure ⟨Keep.refl _, Rest.refl _, h _ k⟩

/-- two steps; the second stands in the heap behind the first -/
theorem Tm.use {s : Shared} {H : Heap} {t : Sem α} {V : Heap → α → Heap → Prop} {Q : α → Shared → Prop} (h : Tm w A H t V) (k : Keep H s.heap) (hq : ∀ v s', Keep s.heap s'.heap → Rest s s' → V s.heap v s'.heap → Q v s') : wpAny (model prg w) A t Q noE s :=
  wpAny_mono (h s k) (fun v s' x => hq v s' x.1 x.2.1 x.2.2) fun _ _ x => x

theorem Tm.bind {H : Heap} {t : Sem α} {f : α → Sem β} {V : Heap → α → Heap → Prop} {V' : Heap → β → Heap → Prop} (h : Tm w A H t V)
    (hf : ∀ h₀ v h₁, Keep H h₀ → Keep h₀ h₁ → V h₀ v h₁ → Tm w A h₁ (f v) (fun _ u h₂ => V' h₀ u h₂)) : Tm w A H (t >>= f) V' := fun s k =>
  wpAny_bind (h.use k fun v s' k' r hv => (hf _ v _ k k' hv).use (Keep.refl _) fun u s'' k'' r' hu => ⟨k'.trans k'', r.trans r', hu⟩)

theorem Ev.name {H : Heap} {x : Str} {p : Pos} {m : Str → Option Value} {v : Value} (hn : H.Ns env.locals m) (hv : m x = some v) (hk : env.scope.kind = .function) (hl : env.kindOf x = some .local)
    (hd : (x == ("__debug__" : Str)) = false := by decide) : Ev w A env H (.Name x p) (IsV v) :=
  fun s k => name_ns hk hl (hn.keeps k) hv ⟨Keep.refl _, Rest.refl _, rfl⟩ hd
theorem Ev.cstr {H : Heap} {x : Str} {k : Nat} {p : Pos} : Ev w A env H (.Constant (.str x) k p) (IsS x) := fun s _ => wpAny_Constant_str ⟨Keep.refl _, rht, _, rfl⟩
theorem Ev.cint {H : Heap} {i : Int} {k : Nat} {p : Pos} : Ev w A env H (.Constant (.int i) k p) (IsI i) := fun s _ => wpAny_Constant_int ⟨Keep.refl _, rht, _, rfl⟩
theorem Ev.cbool {H : Heap} {b : Bool} {k : Nat} {p : Pos} : Ev w A env H (.Constant (.bool b) k p) (IsB b) := fun s _ => wpAny_Constant_bool ⟨Keep.refl _, rht, rfl⟩
theorem Ev.cnone {H : Heap} {k : Nat} {p : Pos} : Ev w A env H (.Constant .none k p) (IsV .none) := fun s _ => wpAny_Constant_none ⟨Keep.refl _, rht, rfl⟩
theorem Ev.global {H : Heap} {x : Str} {p : Pos} {v : Value} (T : TopOk w H) (hk : env.scope.kind = .function) (hx : env.kindOf x = some .globalImplicit) (hg : env.globals = mainGlobals)
    (e : nsIn (KF w) mainGlobals x = some (some v)) (hd : (x == ("__debug__" : Str)) = false := by decide) : Ev w A env H (.Name x p) (IsV v) :=
  fun s k => name_global (T.keeps k) hk hx hg e ⟨Keep.refl _, rht, rfl⟩ hd
theorem Ev.builtin {H : Heap} {x : Str} {p : Pos} {v : Value} (T : TopOk w H) (hk : env.scope.kind = .function) (hx : env.kindOf x = some .globalImplicit) (hg : env.globals = mainGlobals) (hb : env.builtins = builtinsNs)
    (e : nsIn (KF w) mainGlobals x = some none) (hv : bootBuiltins x = some v) (hn : x ≠ "__name__") (hd : (x == ("__debug__" : Str)) = false := by decide) : Ev w A env H (.Name x p) (IsV v) :=
  fun s k => name_builtin (T.keeps k) hk hx hg hb e hv hn ⟨Keep.refl _, rht, rfl⟩ hd

/-- a binary operator by its rule on values -/
theorem Ev.bin {H : Heap} {l r : Expr} {op : Operator} {p : Pos} {V₁ V₂ V : Heap → Value → Heap → Prop} (hl : Ev w A env H l V₁) (hr : Ev w A env H r V₂)
    (hop : ∀ h₀ a h₁ b h₂ (s : Shared), V₁ h₀ a h₁ → V₂ h₁ b h₂ → Keep h₂ s.heap → wpAny (model prg w) A (binaryOp op a b) (fun v s' => Keep s.heap s'.heap ∧ Rest s s' ∧ ∀ h, V h v s'.heap) noE s) : Ev w A env H (.BinOp l op r p) V := fun s k =>
  wpAny_BinOp (hl.use k fun a s₁ k₁ r₁ h₁ => hr.use (k.trans k₁) fun b s₂ k₂ r₂ h₂ => wpAny_mono (hop _ _ _ _ _ s₂ h₁ h₂ (Keep.refl _)) (fun v s' x => ⟨(k₁.trans k₂).trans x.1, (r₁.trans r₂).trans x.2.1, x.2.2 _⟩) fun _ _ x => x)

theorem Ev.addS {H : Heap} {l r : Expr} {p : Pos} {x y : Str} (hl : Ev w A env H l (IsS x)) (hr : Ev w A env H r (IsS y)) (hz : x.length + y.length ≤ sizeLine) : Ev w A env H (.BinOp l .Add r p) (IsS (x ++ y)) :=
  hl.bin hr fun _ _ _ _ _ s ⟨t, ha⟩ ⟨u, hb⟩ _ => by subst ha hb; exact PyProof.Rows.add_str (fun t' tk => ⟨Keep.refl _, rht, fun _ => ⟨t', rfl⟩⟩) hz
theorem Ev.addI {H : Heap} {l r : Expr} {p : Pos} {x y : Int} (hl : Ev w A env H l (IsI x)) (hr : Ev w A env H r (IsI y)) : Ev w A env H (.BinOp l .Add r p) (IsI (x + y)) :=
  hl.bin hr fun _ _ _ _ _ s ⟨t, ha⟩ ⟨u, hb⟩ _ => by subst ha hb; exact wpAny_add_int ⟨Keep.refl _, rht, fun _ => ⟨_, rfl⟩⟩

/-- a comparison as a value -/
theorem Ev.cmp {H : Heap} {l r : Expr} {op : CmpOp} {p : Pos} {V₁ V₂ V : Heap → Value → Heap → Prop} (hl : Ev w A env H l V₁) (hr : Ev w A env H r V₂)
    (hop : ∀ h₀ a h₁ b h₂ (s : Shared), V₁ h₀ a h₁ → V₂ h₁ b h₂ → Keep h₂ s.heap → wpAny (model prg w) A (compareOp op a b) (fun v s' => Keep s.heap s'.heap ∧ Rest s s' ∧ ∀ h, V h v s'.heap) noE s)
    (hm : behindInMarks op r = false := by with_unfolding_all rfl) : Ev w A env H (.Compare l [op] [r] p) V := fun s k =>
  wpAny_Compare1 (hl.use k fun a s₁ k₁ r₁ h₁ => hr.use (k.trans k₁) fun b s₂ k₂ r₂ h₂ => wpAny_mono (hop _ _ _ _ _ s₂ h₁ h₂ (Keep.refl _)) (fun v s' x => ⟨(k₁.trans k₂).trans x.1, (r₁.trans r₂).trans x.2.1, x.2.2 _⟩) fun _ _ x => x) hm

/-- a test -/
noncomputable abbrev Ts (w : World) (A : Around) (env : Env) (H : Heap) (e : Expr) (b : Bool) : Prop := Tm w A H (isTrue e env (eval e env)) (fun _ c _ => c = b)
theorem Ts.cmp {H : Heap} {l r : Expr} {op : CmpOp} {p : Pos} {V₁ V₂ : Heap → Value → Heap → Prop} {b : Bool} (hl : Ev w A env H l V₁) (hr : Ev w A env H r V₂)
    (hop : ∀ h₀ a h₁ b' h₂ (s : Shared), V₁ h₀ a h₁ → V₂ h₁ b' h₂ → Keep h₂ s.heap → wpAny (model prg w) A (compareOp op a b') (fun v s' => Keep s.heap s'.heap ∧ Rest s s' ∧ v = .bool b) noE s)
    (hm : behindInMarks op r = false := by with_unfolding_all rfl) : Ts w A env H (.Compare l [op] [r] p) b := fun s k =>
  wpAny_isTrue_Compare1 (hl.use k fun a s₁ k₁ r₁ h₁ => hr.use (k.trans k₁) fun b s₂ k₂ r₂ h₂ => wpAny_mono (hop _ _ _ _ _ s₂ h₁ h₂ (Keep.refl _))
    (fun v s' x => by obtain ⟨x1, x2, rfl⟩ := x; exact wpAny_truthy_bool ⟨(k₁.trans k₂).trans x1, (r₁.trans r₂).trans x2, rfl⟩) fun _ _ x => x) hm
theorem Ts.val {H : Heap} {e : Expr} {b : Bool} {V : Heap → Value → Heap → Prop} (he : Ev w A env H e V) (ht : ∀ h₀ v h₁ (s : Shared), V h₀ v h₁ → Keep h₁ s.heap → wpAny (model prg w) A (truthy v) (fun c s' => Keep s.heap s'.heap ∧ Rest s s' ∧ c = b) noE s)
    (hi : isTrue e env (eval e env) = (do let v ← eval e env; standAt e.pos; holding [v] (truthy v)) := by rfl) : Ts w A env H e b := fun s k =>
  wpAny_isTrue_value (he.use k fun v s₁ k₁ r₁ h₁ => wpAny_mono (ht _ _ _ s₁ h₁ (Keep.refl _)) (fun c s' x => ⟨k₁.trans x.1, r₁.trans x.2.1, x.2.2⟩) fun _ _ x => x) hi
theorem Ts.bval {H : Heap} {e : Expr} {b : Bool} (he : Ev w A env H e (IsB b)) (hi : isTrue e env (eval e env) = (do let v ← eval e env; standAt e.pos; holding [v] (truthy v)) := by rfl) : Ts w A env H e b :=
  Ts.val he (fun _ _ _ s q _ => by cases q; exact wpAny_truthy_bool ⟨Keep.refl _, Rest.refl _, rfl⟩) hi

/-! statements -/
variable {s : Shared}

/-- the map of a frame with one name more -/
noncomputable abbrev up (m : Str → Option Value) (x : Str) (v : Value) : Str → Option Value := fun y => if y = x then some v else m y

theorem asg {x : Str} {p pos : Pos} {e : Expr} {m : Str → Option Value} {V : Heap → Value → Heap → Prop} {Q : Flow → Shared → Prop} (hn : s.heap.Ns env.locals m) (he : Ev w A env s.heap e V) (hk : env.scope.kind = .function) (hl : env.kindOf x = some .local)
    (h : ∀ v h₁ s', V s.heap v h₁ → Keep s.heap h₁ → Xt [env.locals] h₁ s'.heap → s'.heap.Ns env.locals (up m x v) → Rest s s' → Q .next s')
    (hs : swapsWith e (some (.Name x p)) pos.line env = pure false := by rfl) : wpAny (model prg w) A (exec (.Assign [.Name x p] e pos) env) Q noE s :=
  wpAny_Assign_Name (he.use (Keep.refl _) fun v s₁ k₁ r₁ h₁ => wpAny_storeName_local hl (hn.keeps k₁) (fun h' hn' hs' => h v _ _ h₁ k₁ (Xt.of_same hs' (List.mem_singleton.mpr rfl)) hn' (r₁.trans rht)) (by rw [hk]; rfl)) hs

theorem aug {x : Str} {p pos : Pos} {op : Operator} {e : Expr} {m : Str → Option Value} {u : Value} {V V' : Heap → Value → Heap → Prop} {Q : Flow → Shared → Prop} (hn : s.heap.Ns env.locals m) (hu : m x = some u) (he : Ev w A env s.heap e V) (hk : env.scope.kind = .function) (hl : env.kindOf x = some .local)
    (hop : ∀ v h₁ (s₁ : Shared), V s.heap v h₁ → Keep h₁ s₁.heap → wpAny (model prg w) A (inplaceOp op u v) (fun r s' => Keep s₁.heap s'.heap ∧ Rest s₁ s' ∧ V' s.heap r s'.heap) noE s₁)
    (h : ∀ v h₁ s', V' s.heap v h₁ → Keep s.heap h₁ → Xt [env.locals] h₁ s'.heap → s'.heap.Ns env.locals (up m x v) → Rest s s' → Q .next s') : wpAny (model prg w) A (exec (.AugAssign (.Name x p) op e pos) env) Q noE s :=
  wpAny_AugAssign_Name (wpAny_loadName_local hk hl hn hu (he.use (Keep.refl _) fun v s₁ k₁ r₁ h₁ => wpAny_mono (hop v _ s₁ h₁ (Keep.refl _)) (fun r s₂ x => wpAny_storeName_local hl (hn.keeps (k₁.trans x.1))
    (fun h' hn' hs' => h r _ _ x.2.2 (k₁.trans x.1) (Xt.of_same hs' (List.mem_singleton.mpr rfl)) hn' ((r₁.trans x.2.1).trans rht)) (by rw [hk]; rfl)) fun _ _ x => x))

theorem ifs {test : Expr} {body orelse : List Stmt} {pos : Pos} {b : Bool} {Q : Flow → Shared → Prop} (ht : Ts w A env s.heap test b)
    (h : ∀ s', Keep s.heap s'.heap → Rest s s' → if b = true then wpAny (model prg w) A (execs body env) Q noE s' else wpAny (model prg w) A (execs orelse env) Q noE s') : wpAny (model prg w) A (exec (.If test body orelse pos) env) Q noE s :=
  wpAny_If (ht.use (Keep.refl _) fun c s' k r e => by subst e; exact h s' k r)

theorem rets {e : Expr} {pos : Pos} {V : Heap → Value → Heap → Prop} {Q : Flow → Shared → Prop} (he : Ev w A env s.heap e V) (h : ∀ v s', Keep s.heap s'.heap → Rest s s' → V s.heap v s'.heap → Q (.ret v) s') : wpAny (model prg w) A (exec (.Return (some e) pos) env) Q noE s :=
  wpAny_Return_some (he.use (Keep.refl _) fun v s' k r hv => h v s' k r hv)

theorem seq {st : Stmt} {rest : List Stmt} {Q : Flow → Shared → Prop} (h : wpAny (model prg w) A (exec st env) (fun f s' => match f with | .next => wpAny (model prg w) A (execs rest env) Q noE s' | f => Q f s') noE s) :
    wpAny (model prg w) A (execs (st :: rest) env) Q noE s := wpAny_execs_cons h
theorem sq0 {Q : Flow → Shared → Prop} (h : Q .next s) : wpAny (model prg w) A (execs [] env) Q noE s := wpAny_execs_nil h

end
end Mine
namespace Mine
open Sem (wp)

section
variable {w : World} {A : Around} {env : Env}

/-- call's arguments -/
noncomputable abbrev As (w : World) (A : Around) (env : Env) (H : Heap) (pos : Pos) (es : List Expr) (V : Heap → List Value → Heap → Prop) : Prop := Tm w A H (spliced (backTo pos (starEach es env))) V

theorem as1 {H : Heap} {pos : Pos} {e : Expr} {V : Heap → Value → Heap → Prop} (he : Ev w A env H e V) (hs : starEach [e] env = (false, eval e env) :: starEach [] env := by rfl) :
    As w A env H pos [e] (fun h₀ vs h₁ => ∃ v, vs = [v] ∧ V h₀ v h₁) := fun s k =>
  wpAny_items_cons (he.use k fun v s₁ k₁ r₁ h₁ => wpAny_items_nil ⟨k₁, r₁, v, rfl, h₁⟩) hs
theorem as2 {H : Heap} {pos : Pos} {e₁ e₂ : Expr} {V₁ V₂ : Heap → Value → Heap → Prop} (h₁ : Ev w A env H e₁ V₁) (h₂ : Ev w A env H e₂ V₂) (hs : starEach [e₁, e₂] env = (false, eval e₁ env) :: starEach [e₂] env := by rfl)
    (hs2 : starEach [e₂] env = (false, eval e₂ env) :: starEach [] env := by rfl) :
    As w A env H pos [e₁, e₂] (fun h₀ vs h₂ => ∃ a b h₁, vs = [a, b] ∧ V₁ h₀ a h₁ ∧ V₂ h₁ b h₂ ∧ Keep h₁ h₂) := fun s k =>
  wpAny_items_cons (h₁.use k fun v s₁ k₁ r₁ p₁ => wpAny_items_cons (h₂.use (k.trans k₁) fun u s₂ k₂ r₂ p₂ => wpAny_items_nil ⟨k₁.trans k₂, r₁.trans r₂, v, u, _, rfl, p₁, p₂, k₂⟩) hs2) hs
theorem as3 {H : Heap} {pos : Pos} {e₁ e₂ e₃ : Expr} {V₁ V₂ V₃ : Heap → Value → Heap → Prop} (h₁ : Ev w A env H e₁ V₁) (h₂ : Ev w A env H e₂ V₂) (h₃ : Ev w A env H e₃ V₃) (hs : starEach [e₁, e₂, e₃] env = (false, eval e₁ env) :: starEach [e₂, e₃] env := by rfl)
    (hs2 : starEach [e₂, e₃] env = (false, eval e₂ env) :: starEach [e₃] env := by rfl) (hs3 : starEach [e₃] env = (false, eval e₃ env) :: starEach [] env := by rfl) :
    As w A env H pos [e₁, e₂, e₃] (fun h₀ vs h₃ => ∃ a b c h₁ h₂, vs = [a, b, c] ∧ V₁ h₀ a h₁ ∧ V₂ h₁ b h₂ ∧ V₃ h₂ c h₃ ∧ Keep h₁ h₃ ∧ Keep h₂ h₃) := fun s k =>
  wpAny_items_cons (h₁.use k fun v s₁ k₁ r₁ p₁ => wpAny_items_cons (h₂.use (k.trans k₁) fun u s₂ k₂ r₂ p₂ => wpAny_items_cons (h₃.use ((k.trans k₁).trans k₂) fun x s₃ k₃ r₃ p₃ =>
    wpAny_items_nil ⟨(k₁.trans k₂).trans k₃, (r₁.trans r₂).trans r₃, v, u, x, _, _, rfl, p₁, p₂, p₃, k₂.trans k₃, k₃⟩) hs3) hs2) hs

/-- what a call of a value with arguments does, anywhere behind the heap H -/
noncomputable abbrev Cl (w : World) (A : Around) (H : Heap) (f : Value) (vs : List Value) (V : Heap → Value → Heap → Prop) : Prop :=
  ∀ s : Shared, Keep H s.heap → wpAny (model prg w) A (call f vs) (fun r s' => Keep s.heap s'.heap ∧ Rest s s' ∧ ∀ h, Keep h s.heap → V h r s'.heap) noE s

theorem Ev.meth {H : Heap} {o : Expr} {name : Str} {id : String} {ap pos : Pos} {e : Expr} {rest : List Expr} {V₀ V : Heap → Value → Heap → Prop} {Va : Heap → List Value → Heap → Prop} (ho : Ev w A env H o V₀)
    (ha : As w A env H pos (e :: rest) Va) (hgm : ∀ h₀ v h₁ (s : Shared) (pl : Sem Bool) (Q : Value × List Value → Shared → Prop), V₀ h₀ v h₁ → Keep h₁ s.heap → Q (.builtin id, [v]) s → wpAny (model prg w) A (getMethod v name pl) Q noE s)
    (hc : ∀ h₀ v h₁ vs h₂, V₀ h₀ v h₁ → Va h₁ vs h₂ → Keep H h₁ → Keep h₁ h₂ → Cl w A h₂ (.builtin id) (v :: vs) V)
    (he : starEach (e :: rest) env = (false, eval e env) :: starEach rest env := by rfl) (hplain : (backTo pos (starEach rest env)).any (·.1) = false := by rfl)
    {pl : Sem Bool} (hx : eval (.Call (.Attribute o name ap) (e :: rest) [] pos) env = (do
      let ov ← eval o env
      standAt ap.atName
      let (f, first) ← holding [ov] (getMethod ov name pl)
      callWith pos f first (backTo pos (starEach (e :: rest) env)) []) := by rfl) :
    Ev w A env H (.Call (.Attribute o name ap) (e :: rest) [] pos) V := fun s k =>
  MethodCall_ (ho.use k fun v s₁ k₁ r₁ h₁ => hgm _ _ _ s₁ _ _ h₁ (Keep.refl _) (callWith_method1 (ha.use (k.trans k₁) fun vs s₂ k₂ r₂ h₂ => wpAny_mono (hc _ _ _ _ _ h₁ h₂ (k.trans k₁) k₂ s₂ (Keep.refl _))
    (fun r s₃ x => ⟨(k₁.trans k₂).trans x.1, (r₁.trans r₂).trans x.2.1, x.2.2 _ (k₁.trans k₂)⟩) fun _ _ x => x) he hplain)) hx

theorem Ev.bcall {H : Heap} {fn : Str} {p pos : Pos} {id : String} {e : Expr} {rest : List Expr} {V : Heap → Value → Heap → Prop} {Va : Heap → List Value → Heap → Prop} (hf : Ev w A env H (.Name fn p) (IsV (.builtin id)))
    (ha : As w A env H pos (e :: rest) Va) (hc : ∀ vs h₁ h₂, Va h₁ vs h₂ → Keep H h₁ → Keep h₁ h₂ → Cl w A h₂ (.builtin id) vs V)
    (he : starEach (e :: rest) env = (false, eval e env) :: starEach rest env := by rfl) (hplain : (backTo pos (starEach rest env)).any (·.1) = false := by rfl) : Ev w A env H (.Call (.Name fn p) (e :: rest) [] pos) V := fun s k =>
  wpAny_Call_ofName (hf.use k fun v s₁ k₁ r₁ h₁ => by
    cases h₁
    exact callWith_builtin1 (ha.use (k.trans k₁) fun vs s₂ k₂ r₂ h₂ => wpAny_mono (hc _ _ _ h₂ (k.trans k₁) k₂ s₂ (Keep.refl _)) (fun r s₃ x => ⟨(k₁.trans k₂).trans x.1, (r₁.trans r₂).trans x.2.1, x.2.2 _ (k₁.trans k₂)⟩) fun _ _ x => x) he hplain)

/-- a call of a def of the text -/
theorem Ev.dcall {H : Heap} {fn : Str} {p pos : Pos} {f : Addr} {e : Expr} {rest : List Expr} {V : Heap → Value → Heap → Prop} {Va : Heap → List Value → Heap → Prop} (T : TopOk w H) (hf : Ev w A env H (.Name fn p) (IsV (.ref f))) (hk : keepIn (KF w) (.ref f) = true)
    (ha : As w A env H pos (e :: rest) Va) (hc : ∀ vs h₁ h₂, Va h₁ vs h₂ → Keep H h₁ → Keep h₁ h₂ → Cl w A h₂ (.ref f) vs V)
    (he : starEach (e :: rest) env = (false, eval e env) :: starEach rest env := by rfl) (hplain : (backTo pos (starEach rest env)).any (·.1) = false := by rfl) : Ev w A env H (.Call (.Name fn p) (e :: rest) [] pos) V := fun s k =>
  wpAny_Call_ofName (hf.use k fun v s₁ k₁ r₁ h₁ => by
    cases h₁
    exact callWith_K (h₀ := s.heap) (T.keeps k).kin hk (ha.use (k.trans k₁) fun vs s₂ k₂ r₂ h₂ => ⟨(T.keeps ((k.trans k₁).trans k₂)).kin, wpAny_mono (hc _ _ _ h₂ (k.trans k₁) k₂ s₂ (Keep.refl _)) (fun r s₃ x => ⟨(k₁.trans k₂).trans x.1, (r₁.trans r₂).trans x.2.1, x.2.2 _ (k₁.trans k₂)⟩) fun _ _ x => x⟩) he hplain)

/-! ints and texts -/
theorem Ev.subI {H : Heap} {l r : Expr} {p : Pos} {x y : Int} (hl : Ev w A env H l (IsI x)) (hr : Ev w A env H r (IsI y)) : Ev w A env H (.BinOp l .Sub r p) (IsI (x - y)) :=
  hl.bin hr fun _ _ _ _ _ s ⟨t, ha⟩ ⟨u, hb⟩ _ => by subst ha hb; exact PyProof.Rows.sub_int ⟨Keep.refl _, rht, fun _ => ⟨_, rfl⟩⟩
theorem Ev.modI {H : Heap} {l r : Expr} {p : Pos} {x y : Int} (hy : y ≠ 0) (hl : Ev w A env H l (IsI x)) (hr : Ev w A env H r (IsI y)) : Ev w A env H (.BinOp l .Mod r p) (IsI (x.fmod y)) :=
  hl.bin hr fun _ _ _ _ _ s ⟨t, ha⟩ ⟨u, hb⟩ _ => by subst ha hb; exact mod_int' hy ⟨Keep.refl _, rht, fun _ => ⟨_, rfl⟩⟩
theorem Ev.divI {H : Heap} {l r : Expr} {p : Pos} {x y : Int} (hy : y ≠ 0) (hp : Builtin.divisionGoesByPylong x y = false) (hl : Ev w A env H l (IsI x)) (hr : Ev w A env H r (IsI y)) : Ev w A env H (.BinOp l .FloorDiv r p) (IsI (x.fdiv y)) :=
  hl.bin hr fun _ _ _ _ _ s ⟨t, ha⟩ ⟨u, hb⟩ _ => by subst ha hb; exact floordiv_int hy ⟨Keep.refl _, rht, fun _ => ⟨_, rfl⟩⟩ (.inl hp)

theorem Ts.ltI {H : Heap} {l r : Expr} {p : Pos} {x y : Int} (hl : Ev w A env H l (IsI x)) (hr : Ev w A env H r (IsI y)) (hm : behindInMarks .Lt r = false := by with_unfolding_all rfl) : Ts w A env H (.Compare l [.Lt] [r] p) (decide (x < y)) :=
  Ts.cmp hl hr (fun _ _ _ _ _ s ⟨t, ha⟩ ⟨u, hb⟩ _ => by subst ha hb; exact PyProof.Rows.lt_int ⟨Keep.refl _, Rest.refl _, rfl⟩) hm
theorem Ts.neI {H : Heap} {l r : Expr} {p : Pos} {x y : Int} (hl : Ev w A env H l (IsI x)) (hr : Ev w A env H r (IsI y)) (hm : behindInMarks .NotEq r = false := by with_unfolding_all rfl) : Ts w A env H (.Compare l [.NotEq] [r] p) (x != y) :=
  Ts.cmp hl hr (fun _ _ _ _ _ s ⟨t, ha⟩ ⟨u, hb⟩ _ => by subst ha hb; exact PyProof.Rows.ne_int ⟨Keep.refl _, Rest.refl _, rfl⟩) hm
theorem Ev.eqI {H : Heap} {l r : Expr} {p : Pos} {x y : Int} (hl : Ev w A env H l (IsI x)) (hr : Ev w A env H r (IsI y)) (hm : behindInMarks .Eq r = false := by with_unfolding_all rfl) : Ev w A env H (.Compare l [.Eq] [r] p) (IsB (x == y)) :=
  Ev.cmp hl hr (fun _ _ _ _ _ s ⟨t, ha⟩ ⟨u, hb⟩ _ => by subst ha hb; exact PyProof.Rows.eq_int ⟨Keep.refl _, Rest.refl _, fun _ => rfl⟩) hm
theorem Ts.eqS {H : Heap} {l r : Expr} {p : Pos} {x y : Str} (hl : Ev w A env H l (IsS x)) (hr : Ev w A env H r (IsS y)) (hm : behindInMarks .Eq r = false := by with_unfolding_all rfl) : Ts w A env H (.Compare l [.Eq] [r] p) (x == y) :=
  Ts.cmp hl hr (fun _ _ _ _ _ s ⟨t, ha⟩ ⟨u, hb⟩ _ => by subst ha hb; exact PyProof.Rows.eq_str ⟨Keep.refl _, Rest.refl _, rfl⟩) hm
theorem Ts.notInS {H : Heap} {l r : Expr} {p : Pos} {x y : Str} (hl : Ev w A env H l (IsS y)) (hr : Ev w A env H r (IsS x)) (hm : behindInMarks .NotIn r = false := by with_unfolding_all rfl) : Ts w A env H (.Compare l [.NotIn] [r] p) (Builtin.Str.occurrences x y 0 x.length 1).isEmpty :=
  Ts.cmp hl hr (fun _ _ _ _ _ s ⟨t, ha⟩ ⟨u, hb⟩ _ => by subst ha hb; exact PyProof.Rows.notIn_str ⟨Keep.refl _, Rest.refl _, by simp⟩) hm
theorem Ts.inS {H : Heap} {l r : Expr} {p : Pos} {x y : Str} (hl : Ev w A env H l (IsS y)) (hr : Ev w A env H r (IsS x)) (hm : behindInMarks .In r = false := by with_unfolding_all rfl) : Ts w A env H (.Compare l [.In] [r] p) (!(Builtin.Str.occurrences x y 0 x.length 1).isEmpty) :=
  Ts.cmp hl hr (fun _ _ _ _ _ s ⟨t, ha⟩ ⟨u, hb⟩ _ => by subst ha hb; exact PyProof.Rows.in_str ⟨Keep.refl _, Rest.refl _, rfl⟩) hm
theorem Ts.isNone {H : Heap} {l : Expr} {p p2 : Pos} {k : Nat} {v : Value} (hl : Ev w A env H l (IsV v)) : Ts w A env H (.Compare l [.Is] [.Constant .none k p2] p) (v == .none) :=
  Ts.cmp hl Ev.cnone (fun _ _ _ _ _ s ha hb _ => by cases ha; cases hb; exact is_none ⟨Keep.refl _, Rest.refl _, rfl⟩)

theorem name_int {H : Heap} {e : Expr} {i : Int} {t : Tok} (h : Ev w A env H e (IsV (.int i t))) : Ev w A env H e (IsI i) := h.mono (Keep.refl _) fun _ _ _ _ _ x => ⟨t, x⟩
theorem name_str {H : Heap} {e : Expr} {x : Str} {t : Tok} (h : Ev w A env H e (IsV (.str x t))) : Ev w A env H e (IsS x) := h.mono (Keep.refl _) fun _ _ _ _ _ x => ⟨t, x⟩

theorem boot_len : bootBuiltins "len" = some (.builtin "len") := by decide +kernel
theorem Ev.lenS {H : Heap} {p pos : Pos} {e : Expr} {x : Str} (hf : Ev w A env H (.Name "len" p) (IsV (.builtin "len"))) (he : Ev w A env H e (IsS x)) (hx : x.length ≤ sizeLine) (hs : starEach [e] env = (false, eval e env) :: starEach [] env := by rfl) :
    Ev w A env H (.Call (.Name "len" p) [e] [] pos) (IsI x.length) :=
  Ev.bcall hf (as1 he hs) (fun vs h₁ h₂ ⟨v, e1, t, e2⟩ _ _ s _ => by
    subst e1 e2
    exact PyProof.Rows.len_str (by rw [sizeLine_eq] at hx; omega) ⟨Keep.refl _, rht, fun _ _ => ⟨_, rfl⟩⟩) hs

/-! slices of texts -/
/-- a bound of a slice -/
noncomputable def IsPt (p : Option Int) : Heap → Value → Heap → Prop := fun _ v _ => ∃ l : Option (Int × Tok), v = partValue l ∧ l.map (·.1) = p
theorem pt_none {H : Heap} : Tm w A H (evalPart none env) (IsPt none) := fun s _ => wpAny_pure ⟨Keep.refl _, Rest.refl _, none, rfl, rfl⟩
theorem pt_some {H : Heap} {e : Expr} {i : Int} (he : Ev w A env H e (IsI i)) : Tm w A H (evalPart (some e) env) (IsPt (some i)) := he.mono (Keep.refl _) fun _ _ _ _ _ ⟨t, h⟩ => ⟨some (i, t), h, rfl⟩

/-- a bound, clipped to a length -/
noncomputable def clipN (n : Nat) (i : Int) : Nat := (max 0 (min (if i < 0 then i + n else i) n)).toNat
noncomputable def loN (p : Option Int) (n : Nat) : Nat := p.elim 0 (clipN n)
noncomputable def hiN (p : Option Int) (n : Nat) : Nat := p.elim n (clipN n)
theorem clip_nat (n a : Nat) : clipN n (a : Int) = min a n := by
  unfold clipN
  rw [if_neg (by omega)]
  omega

theorem clip_le (n : Nat) (i : Int) : clipN n i ≤ n := by unfold clipN; omega
theorem lo_le (p : Option Int) (n : Nat) : loN p n ≤ n := by cases p; exact Nat.zero_le _; exact clip_le _ _
theorem hi_le (p : Option Int) (n : Nat) : hiN p n ≤ n := by cases p; exact Nat.le_refl _; exact clip_le _ _
theorem idx_any (n : Nat) (lo hi : Option Int) : Builtin.Str.strSliceIndices lo hi 1 n = Builtin.Str.strSliceIndices (some (loN lo n : Int)) (some (hiN hi n : Int)) 1 n := by
  have e : ∀ i : Int, max 0 (min (if i < 0 then i + (n : Int) else i) (n : Int)) = ((clipN n i : Nat) : Int) := fun i => by unfold clipN; omega
  have e2 : ∀ m : Nat, m ≤ n → max 0 (min (m : Int) (n : Int)) = (m : Int) := fun m hn => by omega
  have hneg : ∀ m : Nat, ((m : Int) < 0) = False := fun m => by simp
  cases lo <;> cases hi <;> simp only [Builtin.Str.strSliceIndices, loN, hiN, Option.elim, show ((1 : Int) > 0) = True from by simp, if_true, hneg, if_false, e, e2 _ (clip_le _ _), e2 _ (Nat.le_refl _), e2 0 (Nat.zero_le _)] <;> simp
theorem idx_len (n : Nat) (lo hi : Option Int) : (Builtin.Str.strSliceIndices lo hi 1 n).length = hiN hi n - loN lo n := by
  rw [idx_any]
  by_cases h : loN lo n ≤ hiN hi n
  · rw [StrLaws.strSliceIndices_plain h (hi_le _ _)]; simp
  · rw [idx_back h (hi_le _ _) (lo_le _ _)]
    have : hiN hi n - loN lo n = 0 := by omega
    rw [this]; rfl
theorem slice_any (x : List Nat) (lo hi : Option Int) : (Builtin.Str.strSliceIndices lo hi 1 x.length).filterMap ((st x).cps[·]?) = sliceG x (loN lo x.length) (hiN hi x.length) := by
  rw [idx_any, slice_G]

theorem Ev.sliceS {H : Heap} {value : Expr} {lower upper : Option Expr} {p pos : Pos} {x : List Nat} {lo hi : Option Int} (hv : Ev w A env H value (IsS (st x))) (hl : Tm w A H (evalPart lower env) (IsPt lo)) (hu : Tm w A H (evalPart upper env) (IsPt hi))
    (hx : x.length ≤ sizeLine) (ht : ∀ o r, letTemporaryGo value o r = pure () := by intro _ _; rfl) : Ev w A env H (.Subscript value (.Slice lower upper none p) pos) (IsS (st (sliceG x (loN lo x.length) (hiN hi x.length)))) := fun s k =>
  wpAny_Subscript_str_slice (hv.use k fun v s₁ k₁ r₁ h₁ => hl.use (k.trans k₁) fun vl s₂ k₂ r₂ h₂ => hu.use ((k.trans k₁).trans k₂) fun vu s₃ k₃ r₃ h₃ => by
    obtain ⟨t, rfl⟩ := h₁
    obtain ⟨l, rfl, el⟩ := h₂
    obtain ⟨u, rfl, eu⟩ := h₃
    refine ⟨st x, t, l, u, rfl, rfl, rfl, ?_⟩
    have kk : Keep s.heap s₃.heap := (k₁.trans k₂).trans k₃
    have rr : Rest s s₃ := (r₁.trans r₂).trans r₃
    have key : slicePicked (st x) l u none = Builtin.Str.strSliceIndices lo hi 1 x.length := by unfold slicePicked; rw [el, eu, st_len]; rfl
    have hpush : Keep s₃.heap (s₃.heap.push { cls := .type "slice", data := .fields #[partValue l, partValue u, .none] }) := fun b o e => Heap.get?_push_of_some _ e
    have len : (sliceG x (loN lo x.length) (hiN hi x.length)).length ≤ x.length := by unfold sliceG; simp; omega
    unfold sliceMade
    by_cases hc : ((((none : Option (Int × Tok)).map (·.1)).getD 1 == 1) && ((slicePicked (st x) l u none).length == (st x).length)) = true
    · rw [if_pos hc]
      refine ⟨kk.trans hpush, rr.ht, t, ?_⟩
      have hlen : hiN hi x.length - loN lo x.length = x.length := by
        have := (Bool.and_eq_true_iff.mp hc).2
        rw [key, st_len, idx_len] at this
        exact beq_iff_eq.mp this
      have hall : sliceG x (loN lo x.length) (hiN hi x.length) = x := by
        have h1 := hi_le hi x.length
        have h2 := lo_le lo x.length
        unfold sliceG
        by_cases hx0 : x = []
        · subst hx0; simp
        · have hpos : 0 < x.length := List.length_pos_iff.mpr hx0
          have h0 : loN lo x.length = 0 := by omega
          rw [h0, List.drop_zero, List.take_of_length_le (by omega)]
      rw [hall]
    · rw [if_neg hc]
      rw [key, slice_any]
      exact ⟨by show (st _).length ≤ sizeLine; rw [st_len]; omega, kk.trans hpush, (rr.ht : Rest s _), _, rfl⟩) ht
end
end Mine
namespace Mine
open Sem (wp)

section
variable {w : World} {A : Around} {env : Env}

/-- a list of texts -/
noncomputable def SL (vs : List Value) (xs : List (List Nat)) : Prop := StrsAre vs (xs.map st)
theorem SL.nil : SL [] [] := StrsAre.nil
theorem SL.snoc {vs : List Value} {xs : List (List Nat)} (h : SL vs xs) (x : List Nat) (t : Tok) : SL (vs ++ [.str (st x) t]) (xs ++ [x]) := by
  unfold SL at h ⊢
  rw [List.map_append]
  generalize xs.map st = ys at h ⊢
  induction h with
  | nil => exact .cons _ _ .nil
  | cons y u _ ih => exact .cons _ _ ih
theorem SL.length {vs : List Value} {xs : List (List Nat)} (h : SL vs xs) : vs.length = xs.length := by
  unfold SL at h
  have : vs.length = (xs.map st).length := by
    generalize xs.map st = ys at h
    induction h with
    | nil => rfl
    | cons y u _ ih => simp [ih]
  simpa using this
theorem SL.values {vs : List Value} {xs : List (List Nat)} (h : SL vs xs) : ∃ l : List (Str × Tok), vs = strValues l ∧ l.map (·.1) = xs.map st := by
  unfold SL at h
  generalize xs.map st = ys at h
  induction h with
  | nil => exact ⟨[], rfl, rfl⟩
  | cons y u _ ih =>
    obtain ⟨l, rfl, e⟩ := ih
    exact ⟨(y, u) :: l, rfl, by simp [e]⟩
theorem SL.of_values {l : List (Str × Tok)} {xs : List (List Nat)} (e : l.map (·.1) = xs.map st) : SL (strValues l) xs := by
  unfold SL
  rw [← e]
  exact strsAre_of_values l

/-- the value is a list of these texts -/
noncomputable def IsL (xs : List (List Nat)) : Heap → Value → Heap → Prop := fun _ v h => ∃ a vs, v = .ref a ∧ h.PlainList a vs.toArray ∧ SL vs xs
/-- .. and a new one -/
noncomputable def NewL (xs : List (List Nat)) : Heap → Value → Heap → Prop := fun h₀ v h => ∃ a vs, v = .ref a ∧ h₀.get? a = none ∧ h.PlainList a vs.toArray ∧ SL vs xs
theorem NewL.old {xs : List (List Nat)} {h₀ h : Heap} {v : Value} (x : NewL xs h₀ v h) : IsL xs h₀ v h := let ⟨a, vs, e, _, p, s⟩ := x; ⟨a, vs, e, p, s⟩
theorem plain_keeps {h h' : Heap} {a : Addr} {vs : Array Value} (x : h.PlainList a vs) (k : Keep h h') : h'.PlainList a vs := x.at fun o e => k a o e
theorem plain_xt {h h' : Heap} {a : Addr} {vs : Array Value} {Z : List Addr} (x : h.PlainList a vs) (k : Xt Z h h') (hz : a ∉ Z) : h'.PlainList a vs := x.at fun o e => k a o hz e
theorem none_back {h h' : Heap} {a : Addr} (k : Keep h h') (x : h'.get? a = none) : h.get? a = none := by
  cases hq : h.get? a with
  | none => rfl
  | some o => rw [k a o hq] at x; cases x
theorem size_none (h : Heap) : h.get? h.objs.size = none := by
  cases hq : h.get? h.objs.size with
  | none => rfl
  | some o => exact absurd (Heap.lt_size hq) (Nat.lt_irrefl _)

noncomputable def totLen (xs : List (List Nat)) : Nat := (xs.map List.length).sum
theorem totLen_le {xs : List (List Nat)} {n : Nat} (h : ∀ x ∈ xs, x.length ≤ n) : totLen xs ≤ xs.length * n := by
  induction xs with
  | nil => simp [totLen]
  | cons x r ih =>
    have h1 := h x (.head _)
    have h2 := ih fun y hy => h y (.tail _ hy)
    simp only [totLen, List.map_cons, List.sum_cons, List.length_cons] at h2 ⊢
    rw [Nat.succ_mul]
    omega
theorem len_sum (xs : List (List Nat)) : ((xs.map st).map (·.length)).sum = totLen xs := by
  unfold totLen
  rw [List.map_map]
  exact congrArg List.sum (List.map_congr_left fun x _ => st_len x)

theorem Ev.joinS {H : Heap} {o e : Expr} {ap pos : Pos} {sep : List Nat} {xs : List (List Nat)} (ho : Ev w A env H o (IsS (st sep))) (he : Ev w A env H e (IsL xs)) (hsz : totLen xs + xs.length * sep.length ≤ 16000000)
    (hs : starEach [e] env = (false, eval e env) :: starEach [] env := by rfl) {pl : Sem Bool} (hx : eval (.Call (.Attribute o "join" ap) [e] [] pos) env = (do
      let ov ← eval o env
      standAt ap.atName
      let (f, first) ← holding [ov] (getMethod ov "join" pl)
      callWith pos f first (backTo pos (starEach [e] env)) []) := by rfl) : Ev w A env H (.Call (.Attribute o "join" ap) [e] [] pos) (IsS (st (joinG sep xs))) :=
  Ev.meth (id := "str.join") ho (as1 he hs) (fun _ v _ s pl Q ⟨t, hv⟩ _ hq => by subst hv; exact GM.join hq)
    (fun h₀ v h₁ vs h₂ ⟨t, hv⟩ ⟨u, hvs, a, us, hu, hl, hsl⟩ _ _ s k => by
      subst hv hvs hu
      obtain ⟨l, rfl, el⟩ := hsl.values
      refine SC.join (texts := xs.map st) ((plain_keeps hl k).isList) el (joinOk_of (by rw [len_sum, List.length_map, st_len]; omega)) fun t' kk => ⟨Keep.refl _, rht, fun _ _ => ⟨t', ?_⟩⟩
      rw [join_G]) hs rfl hx

/-- a new empty list -/
theorem Ev.nilL {H : Heap} {p : Pos} : Ev w A env H (.List [] p) (NewL []) := fun s k =>
  wpAny_List (wpAny_items_nil ⟨by show 0 ≤ sizeLine; exact Nat.zero_le _, fun b o e => Heap.get?_push_of_some _ e, rht, _, [], rfl, size_none _, ⟨_, Heap.get?_push_size _ rfl⟩, SL.nil⟩)

theorem gm_list {M : Model} {a : Addr} {vs : Array Value} {name : Str} {id : String} {s : Shared} {pl : Sem Bool} {Q : Value × List Value → Shared → Prop} (hl : s.heap.PlainList a vs) (sl : Slot "list" name id) (ty : typeOf (.builtin id) = pure (.type "method_descriptor"))
    (hq : Q (.builtin id, [.ref a]) s) : wpAny M A (getMethod (.ref a) name pl) Q noE s := by
  obtain ⟨n, ho⟩ := hl
  exact getMethod_builtin ⟨_, ho, rfl⟩ F.plainAttrs_list sl ty (fun b e => by cases e; exact ⟨_, ho, rfl⟩) hq

variable {s : Shared}
/-- name.append(e) -/
theorem app {l : Str} {p1 p2 p3 p4 : Pos} {e : Expr} {m : Str → Option Value} {a : Addr} {vs : List Value} {V : Heap → Value → Heap → Prop} {Q : Flow → Shared → Prop} (hn : s.heap.Ns env.locals m) (hl : m l = some (.ref a)) (hk : env.scope.kind = .function) (hx : env.kindOf l = some .local)
    (hp : s.heap.PlainList a vs.toArray) (hz : vs.length ≤ sizeLine) (he : Ev w A env s.heap e V)
    (h : ∀ v h₀ h₁ s', V h₀ v h₁ → Keep s.heap h₀ → Keep h₀ h₁ → Xt [a] h₁ s'.heap → s'.heap.PlainList a (vs ++ [v]).toArray → Rest s s' → Q .next s')
    (hs : starEach [e] env = (false, eval e env) :: starEach [] env := by rfl) {pl : Sem Bool} (hev : eval (.Call (.Attribute (.Name l p1) "append" p2) [e] [] p3) env = (do
      let ov ← eval (.Name l p1) env
      standAt p2.atName
      let (f, first) ← holding [ov] (getMethod ov "append" pl)
      callWith p3 f first (backTo p3 (starEach [e] env)) []) := by rfl) (hi : interactive env = false := by rfl) (hsw : swapsWith (.Call (.Attribute (.Name l p1) "append" p2) [e] [] p3) none p4.line env = pure false := by rfl)
    (hd : (l == ("__debug__" : Str)) = false := by decide) : wpAny (model prg w) A (exec (.Expr (.Call (.Attribute (.Name l p1) "append" p2) [e] [] p3) p4) env) Q noE s := by
  refine wpAny_Expr ?_ hi hsw
  refine MethodCall_ ((Ev.name hn hl hk hx hd).use (Keep.refl _) fun v s₁ k₁ r₁ h₁ => ?_) hev
  cases h₁
  refine gm_list (plain_keeps hp k₁) slot_list_append type_list_append (callWith_method1 ((as1 he hs).use k₁ fun us s₂ k₂ r₂ h₂ => ?_) hs rfl)
  obtain ⟨v, rfl, hv⟩ := h₂
  refine wpAny_list_append_plain (plain_keeps hp (k₁.trans k₂)) (fun h' hp' hs' => ?_) (by rw [List.size_toArray]; exact hz)
  have e1 : vs.toArray.push v = (vs ++ [v]).toArray := by simp
  rw [e1] at hp'
  exact h v _ _ _ hv k₁ k₂ (Xt.of_same hs' (List.mem_singleton.mpr rfl)) hp' ((r₁.trans r₂).trans rht)
end
end Mine
namespace Mine
open Sem (wp)

theorem escItems_eq : ∀ (l : List Nat) (i : Nat) (e : Bool), escItems i e l = escG 92 i e l
  | [], i, true => rfl
  | [], i, false => rfl
  | c :: cs, i, true => by rw [escItems, escG, escItems_eq cs]
  | c :: cs, i, false => by rw [escItems, escG, escItems_eq cs, escItems_eq cs]

local macro_rules | `(tactic| walk_at "look") => `(tactic| ((repeat (first | exact if_pos rfl | refine (if_neg (by decide)).trans ?_)); try assumption))

section
variable {w : World} {A : Around}

theorem not_in_G (x : List Nat) (c : Nat) : (Builtin.Str.occurrences (st x) (st [c]) 0 (st x).length 1).isEmpty = !decide (c ∈ x) := by
  have := StrLaws.found_one (st x) c
  rw [show st [c] = ⟨#[c]⟩ from rfl]
  have h2 : decide (c ∈ (st x).cps.toList) = decide (c ∈ x) := by simp
  rw [h2] at this
  rw [← this]; simp

theorem st_quote : (PySem.Str.ofString "\"") = st [34] := by decide
theorem st_beq {x y : List Nat} : (st x == st y) = decide (x = y) := by
  by_cases h : x = y
  · subst h; simp
  · rw [decide_eq_false h]
    rw [beq_eq_false_iff_ne]
    exact fun q => h (st_inj q)

theorem loN_nat {n : Nat} {i : Int} (h : 0 ≤ i) : loN (some i) n = min i.toNat n := by
  obtain ⟨a, rfl⟩ := Int.eq_ofNat_of_zero_le h
  exact clip_nat n a
theorem hiN_nat {n : Nat} {i : Int} (h : 0 ≤ i) : hiN (some i) n = min i.toNat n := loN_nat h
theorem slice_nat {x : List Nat} {a b : Int} (ha : 0 ≤ a) (hb : 0 ≤ b) : sliceG x (loN (some a) x.length) (hiN (some b) x.length) = sliceG x a.toNat b.toNat := by
  rw [loN_nat ha, hiN_nat hb]; exact slice_list_G x _ _
theorem slice_from {x : List Nat} {a : Int} (ha : 0 ≤ a) : sliceG x (loN (some a) x.length) (hiN none x.length) = sliceG x a.toNat x.length := by
  rw [loN_nat ha]
  have := slice_list_G x a.toNat x.length
  rw [Nat.min_self] at this
  exact this

/-- the generator as a for's iterable -/
theorem iter_gen {env : Env} {s : Shared} {h₀ : Heap} {x : Str} {tx : Tok} {p pos : Pos} {arg : Expr} {Q : Value → Shared → Prop} (hh : A.handled = none) (T : TopOk w s.heap) (T₀ : TopOk w h₀) (hk₀ : Keep h₀ s.heap) (hroom : A.depth + 10 < recursionLimit)
    (ha : Ev w A env s.heap arg (IsV (.str x tx))) (hk : env.scope.kind = .function) (hx : env.kindOf "_iter_escaped_chars" = some .globalImplicit) (hg : env.globals = mainGlobals)
    (h : ∀ a g C s', EscAt prg w A a g C h₀ (escItems 0 false x.cps.toList) 0 s' → (∀ (b : Nat) o, s.heap.get? b = some o → b < C) → s.gens.size ≤ g → Keep s.heap s'.heap → Rest s s' → Q (.ref a) s')
    (he : starEach [arg] env = (false, eval arg env) :: starEach [] env := by rfl) :
    wpAny (model prg w) A (eval (.Call (.Name "_iter_escaped_chars" p) [arg] [] pos) env) (fun v s₁ => wpAny (model prg w) A (pyIter v) Q noE s₁) noE s := by
  refine wpAny_Call_ofName ((Ev.global (v := .ref 55) T hk hx hg (by kernel_rfl)).use (Keep.refl _) fun v s₁ k₁ r₁ h₁ => ?_)
  cases h₁
  refine callWith_K (h₀ := s.heap) T.kin (by kernel_rfl) ((as1 ha he).use k₁ fun vs s₂ k₂ r₂ h₂ => ?_) he rfl
  obtain ⟨v, rfl, hv⟩ := h₂
  cases hv
  have k₁₂ : Keep s.heap s₂.heap := k₁.trans k₂
  refine ⟨(T.keeps k₁₂).kin, call_gen hh (T.keeps k₁₂) T₀ (hk₀.trans k₁₂) hroom fun a g C s' hE hC hG k' r' => ?_⟩
  refine wpAny_pyIter_gen hE.1 (h a g C s' hE (fun b o e => ?_) (by rw [hG]; exact (r₁.trans r₂).size) (k₁₂.trans k') ((r₁.trans r₂).trans r'))
  rw [hC]
  exact Heap.lt_size (k₁₂ b o e)

/-- the value of open_pos -/
noncomputable def OpV : Option Int → Value → Prop
  | none, v => v = .none
  | some o, v => ∃ t, v = .int o t

/-- what the strip's loop keeps -/
noncomputable def JS (x : List Nat) (t : Tok) (L r : Addr) (s₀ : Shared) (items : List (Int × List Nat)) (j : Nat) (m : Str → Option Value) (s' : Shared) : Prop :=
  s'.heap.Ns L m ∧ Keep s₀.heap s'.heap ∧ Rest s₀ s' ∧ m "addr" = some (.str (st x) t) ∧ m "result" = some (.ref r) ∧
  ∃ a : Int × Option Int × List (List Nat), a = (items.take j).foldl (stripStepG x 34) (0, none, []) ∧ StripOk x j a ∧ (∃ tk, m "start" = some (.int a.1 tk)) ∧ (∃ v, m "open_pos" = some v ∧ OpV a.2.1 v) ∧
    ∃ vs, s'.heap.PlainList r vs.toArray ∧ SL vs a.2.2

theorem cl_strip {H : Heap} {x : List Nat} {t : Tok} (T : TopOk w H) (hh : A.handled = none) (hroom : A.depth + 20 < recursionLimit) (hx : x.length ≤ 2000) : Cl w A H (.ref 62) [.str (st x) t] (fun _ v _ => ∃ u, v = .str (st (stripG x 92 34)) u) := by
  intro s k
  have hsl : sizeLine = 16777216 := sizeLine_eq
  refine wpAny_call (enter (T.keeps k) rfl (by kernel_rfl) (by omega) (BindsTo.of_eq (binds := [("addr", .str (st x) t)]) rfl) (locs rfl) (fun h₁ F => ?_) (by decide) rfl rfl rfl)
  have hn := F.ns
  have hs : Keep s.heap h₁ := F.keep
  have e0 : (fun y : Str => ([((("addr" : Str)), Value.str (st x) t)] : List (Str × Value)).reverse.lookup y) "addr" = some (Value.str (st x) t) := rfl
  refine seq (ifs (Ts.notInS (x := st x) (y := st [34]) (by rw [← st_quote]; exact Ev.cstr) (name_str (Ev.name hn e0 rfl rfl))) fun s₂ k₂ r₂ => ?_)
  rw [not_in_G]
  have hk₂ : Keep s.heap s₂.heap := hs.trans k₂
  have hr₂ : Rest s s₂ := Rest.of_ht.trans r₂
  replace hn := hn.keeps k₂
  by_cases hq : 34 ∈ x
  · rw [if_neg (by simp [hq])]
    refine sq0 ?_
    refine seq (asg hn Ev.cint rfl rfl fun v3 h₃ s₃ hv3 k₃ x₃ hn₃ r₃ => ?_)
    obtain ⟨t3, rfl⟩ := hv3
    refine seq (asg hn₃ Ev.cnone rfl rfl fun v4 h₄ s₄ hv4 k₄ x₄ hn₄ r₄ => ?_)
    cases hv4
    refine seq (asg hn₄ Ev.nilL rfl rfl fun v5 h₅ s₅ hv5 k₅ x₅ hn₅ r₅ => ?_)
    obtain ⟨r, vs, rfl, hr0, hrl, hvs⟩ := hv5
    have hL0 : s.heap.get? s.heap.objs.size = none := size_none _
    have hz : ∀ b ∈ ([s.heap.objs.size] : List Addr), s.heap.get? b = none := fun b hb => by rw [List.mem_singleton.mp hb]; exact hL0
    have kk₄ : Keep s.heap s₄.heap := (x₄.trans (Xt.refl _ _)).keep (((x₃.keep (hk₂.trans k₃) hz)).trans k₄) hz
    have kk₅ : Keep s.heap s₅.heap := x₅.keep (kk₄.trans k₅) hz
    have hrL : r ≠ s.heap.objs.size := fun q => by
      obtain ⟨o, es, ep, ho, _⟩ := hn₄
      rw [q] at hr0
      rw [show s₄.heap.get? s.heap.objs.size = some o from ho] at hr0
      cases hr0
    have hrs : s.heap.get? r = none := none_back kk₄ hr0
    have hrl₅ : s₅.heap.PlainList r vs.toArray := plain_xt hrl x₅ (fun q => hrL (List.mem_singleton.mp q))
    have rr₅ : Rest s s₅ := ((hr₂.trans r₃).trans r₄).trans r₅
    refine seq (wpAny_For (iter_gen hh ((T.keeps k).keeps kk₅) (T.keeps k) kk₅ (by show A.depth + 1 + 10 < _; omega) (Ev.name hn₅ (by walk_at "look") rfl rfl) rfl rfl rfl fun a g C s₆ hE hC hG k₆ r₆ => ?_))
    have hitems : escItems 0 false (st x).cps.toList = escG 92 0 false x := by rw [escItems_eq]
    rw [hitems] at hE
    have hLC : @LT.lt Nat _ s.heap.objs.size C := by obtain ⟨o, es, ep, ho, _⟩ := hn₅; exact hC _ o ho
    have hrC : @LT.lt Nat _ r C := by obtain ⟨n, ho⟩ := hrl₅; exact hC _ _ ho
    have hsC : ∀ (b : Nat) o, s.heap.get? b = some o → b < C := fun b o e => Nat.lt_trans (Heap.lt_size e) hLC
    have items_pos : ∀ it ∈ escG 92 0 false x, 0 ≤ it.1 := esc_pos 92 x 0 false (fun q => nomatch q)
    have items_len : (escG 92 0 false x).length ≤ x.length := by have := esc_len 92 x 0 false; simpa using this
    obtain ⟨m5, hJ0⟩ : ∃ m5, JS x t s.heap.objs.size r s (escG 92 0 false x) 0 m5 s₆ :=
      ⟨_, hn₅.keeps k₆, kk₅.trans k₆, rr₅.trans r₆, by walk_at "look", by walk_at "look", (0, none, []), rfl, StripOk.init x, ⟨t3, by walk_at "look"⟩, ⟨.none, by walk_at "look", rfl⟩, vs, plain_keeps hrl₅ k₆, hvs⟩
    refine for_esc (m := m5) (all := escG 92 0 false x) (h₀ := s.heap) hh (by show A.depth + 1 < _; omega) rfl rfl rfl hLC (JS x t s.heap.objs.size r s (escG 92 0 false x)) (fun j m s' h => h.1) (fun j m s' h => ⟨h.2.1, (T.keeps k).nolimit.keeps h.2.1⟩)
      (fun j m s' s'' h hlo hr => ?_) ?_ ?_ hE hJ0
    · obtain ⟨hn', hk', hr', ha, hrr, a, ea, hok, hst, hop, vs', hl', hsl'⟩ := h
      exact ⟨hn'.at' fun o e => hlo _ o (.inl hLC) e, fun b o e => hlo b o (.inl (hsC b o e)) (hk' b o e), hr'.transG hr (Nat.le_trans rr₅.size hG), ha, hrr, a, ea, hok, hst, hop, vs', hl'.at fun o e => hlo r o (.inl hrC) e, hsl'⟩
    · intro j it m' s₁ s₂' tt uu hit hJ hn₂ up₂ hr₂'
      obtain ⟨hn', hk', hr', ha, hrr, a, ea, hok, ⟨tk, hst⟩, ⟨ov, hov, hop⟩, vs', hl', hsl'⟩ := hJ
      have hj : j < (escG 92 0 false x).length := (List.getElem?_eq_some_iff.mp hit).1
      have hmem : it ∈ escG 92 0 false x := List.mem_of_getElem? hit
      have hfold : ((escG 92 0 false x).take (j + 1)).foldl (stripStepG x 34) (0, none, []) = stripStepG x 34 a it := by
        rw [List.take_add_one, hit, List.foldl_append, ← ea]; rfl
      have kk₂ : Keep s.heap s₂'.heap := fun b o e => up₂ b o (fun q => by rw [q] at e; exact absurd (Heap.lt_size e) (Nat.lt_irrefl _)) (hk' b o e)
      have rr₂ : Rest s s₂' := hr'.trans hr₂'
      have hl₂ : s₂'.heap.PlainList r vs'.toArray := hl'.at fun o e => up₂ r o hrL e
      have hok' := hok.step (q := 34) it (items_pos it hmem)
      obtain ⟨a1, a2, a3⟩ := a
      have hlen3 : vs'.length ≤ sizeLine := by have h1 := hsl'.length; have h2 := hok.few; simp only at h1 h2; omega
      -- the names
      generalize hm₂ : (fun y : Str => if y = ("ch" : Str) then some (Value.str ⟨it.2.toArray⟩ uu) else if y = ("pos" : Str) then some (Value.int it.1 tt) else m' y) = m₂ at hn₂
      have mc : m₂ "ch" = some (.str (st it.2) uu) := by rw [← hm₂]; walk_at "look"
      have mp : m₂ "pos" = some (.int it.1 tt) := by rw [← hm₂]; walk_at "look"
      have ma : m₂ "addr" = some (.str (st x) t) := by rw [← hm₂]; walk_at "look"
      have mr : m₂ "result" = some (.ref r) := by rw [← hm₂]; walk_at "look"
      have ms : m₂ "start" = some (.int a1 tk) := by rw [← hm₂]; walk_at "look"
      have mo : m₂ "open_pos" = some ov := by rw [← hm₂]; walk_at "look"
      refine seq (ifs (Ts.eqS (name_str (Ev.name hn₂ mc rfl rfl)) (by rw [st_quote]; exact Ev.cstr)) fun s₃' k₃' r₃' => ?_)
      rw [st_beq]
      have hi3 : Hi C s₂'.heap s₃'.heap := fun b o _ e => k₃' b o e
      by_cases hc : it.2 = [34]
      · rw [if_pos (by simp [hc])]
        refine seq (ifs (Ts.isNone (Ev.name (hn₂.keeps k₃') mo rfl rfl)) fun s₄' k₄' r₄' => ?_)
        have hn₄' := (hn₂.keeps k₃').keeps k₄'
        have kk₄' : Keep s₂'.heap s₄'.heap := k₃'.trans k₄'
        cases a2 with
        | none =>
          cases hop
          have hstep : stripStepG x 34 (a1, none, a3) it = (a1, some it.1, a3) := by unfold stripStepG; rw [if_pos hc]
          rw [hstep] at hfold hok'
          rw [if_pos (by decide)]
          refine seq (asg hn₄' (name_int (Ev.name hn₄' mp rfl rfl)) rfl rfl fun v h6 s₆' hv k6 x6 hn6 r6 => ?_)
          obtain ⟨t6, rfl⟩ := hv
          have hr6 : Rest s₂' s₆' := (r₃'.trans r₄').trans r6
          have hx6 : Xt [s.heap.objs.size] s₂'.heap s₆'.heap := (Xt.of_keep (kk₄'.trans k6)).trans x6
          refine sq0 (sq0 (sq0 ⟨fun b o hb e => hx6 b o (fun q => absurd (List.mem_singleton.mp q) (neN (by omega))) e, hr6, _, hn6, hx6.keep kk₂ hz, rr₂.trans hr6, by walk_at "look", by walk_at "look", _, hfold.symm, hok', ⟨tk, by walk_at "look"⟩, ⟨_, if_pos rfl, t6, rfl⟩, vs', plain_xt hl₂ hx6 (fun q => hrL (List.mem_singleton.mp q)), hsl'⟩))
        | some o =>
          obtain ⟨to, rfl⟩ := hop
          have ho0 : 0 ≤ o := hok.opn o rfl
          have ha0 : 0 ≤ a1 := hok.start
          have hstep : stripStepG x 34 (a1, some o, a3) it = (it.1 + 1, none, if a1 = o then a3 else a3 ++ [sliceG x a1.toNat o.toNat]) := by unfold stripStepG; rw [if_pos hc]
          rw [hstep] at hfold hok'
          rw [if_neg (by simp)]
          refine seq (wpAny_mono (Q := fun f s7 => f = .next ∧ Xt [s.heap.objs.size, r] s₂'.heap s7.heap ∧ Rest s₂' s7 ∧ s7.heap.Ns s.heap.objs.size m₂ ∧ ∃ us, s7.heap.PlainList r us.toArray ∧ SL us (if a1 = o then a3 else a3 ++ [sliceG x a1.toNat o.toNat])) ?_ (fun f s7 h7 => ?_) fun _ _ y => y)
          · refine ifs (Ts.neI (name_int (Ev.name hn₄' ms rfl rfl)) (name_int (Ev.name hn₄' mo rfl rfl))) fun s5 k5 r5 => ?_
            have kk5 : Keep s₂'.heap s5.heap := kk₄'.trans k5
            have rr5 : Rest s₂' s5 := (r₃'.trans r₄').trans r5
            by_cases hao : a1 = o
            · rw [if_neg (by simp [hao])]
              exact sq0 ⟨rfl, Xt.of_keep kk5, rr5, hn₂.keeps kk5, vs', plain_keeps hl₂ kk5, by rw [if_pos hao]; exact hsl'⟩
            · rw [if_pos (by simp [hao])]
              have hn5 := hn₂.keeps kk5
              refine seq (app hn5 mr rfl rfl (plain_keeps hl₂ kk5) hlen3 (Ev.sliceS (name_str (Ev.name hn5 ma rfl rfl)) (pt_some (name_int (Ev.name hn5 ms rfl rfl))) (pt_some (name_int (Ev.name hn5 mo rfl rfl))) (by omega)) fun v h0 h1 s6 hv k6 k6' x6 p6 r6 => ?_)
              obtain ⟨tv, rfl⟩ := hv
              have hx6 : Xt [s.heap.objs.size, r] s₂'.heap s6.heap := (Xt.of_keep (kk5.trans (k6.trans k6'))).trans (x6.mono fun b hb => by rw [List.mem_singleton.mp hb]; simp)
              refine sq0 ⟨rfl, hx6, rr5.trans r6, ?_, _, p6, ?_⟩
              · exact x6.ns ((hn5.keeps k6).keeps k6') (fun q => hrL (List.mem_singleton.mp q).symm)
              · rw [if_neg hao, slice_nat ha0 ho0]
                exact hsl'.snoc _ _
          · obtain ⟨rfl, hx7, hr7, hn7, us, hl7, hsl7⟩ := h7
            refine seq (asg hn7 (Ev.addI (name_int (Ev.name hn7 mp rfl rfl)) Ev.cint) rfl rfl fun v h8 s8 hv k8 x8 hn8 r8 => ?_)
            obtain ⟨t8, rfl⟩ := hv
            refine seq (asg hn8 Ev.cnone rfl rfl fun v h9 s9 hv k9 x9 hn9 r9 => ?_)
            cases hv
            have hx9 : Xt [s.heap.objs.size] s7.heap s9.heap := (((Xt.of_keep k8).trans x8).trans (Xt.of_keep k9)).trans x9
            have hx : Xt [s.heap.objs.size, r] s₂'.heap s9.heap := hx7.trans (hx9.mono fun b hb => by rw [List.mem_singleton.mp hb]; simp)
            have hz2 : ∀ b ∈ ([s.heap.objs.size, r] : List Addr), s.heap.get? b = none := fun b hb => by
              rcases List.mem_cons.mp hb with rfl | hb
              · exact hL0
              · rw [List.mem_singleton.mp hb]; exact hrs
            have hr9 : Rest s₂' s9 := (hr7.trans r8).trans r9
            refine sq0 (sq0 (sq0 ⟨fun b o' hb e => hx b o' (notIn2 (by omega) (by omega)) e, hr9, _, hn9, hx.keep kk₂ hz2, rr₂.trans hr9, by walk_at "look", by walk_at "look", _, hfold.symm, hok', ⟨t8, by walk_at "look"⟩, ⟨_, if_pos rfl, rfl⟩, us, plain_xt hl7 hx9 (fun q => hrL (List.mem_singleton.mp q)), hsl7⟩))
      · have hstep : stripStepG x 34 (a1, a2, a3) it = (a1, a2, a3) := by unfold stripStepG; rw [if_neg hc]
        rw [hstep] at hfold hok'
        rw [if_neg (by simp [hc])]
        refine sq0 (sq0 ⟨hi3, r₃', _, hn₂.keeps k₃', kk₂.trans k₃', rr₂.trans r₃', ma, mr, _, hfold.symm, hok', ⟨tk, ms⟩, ⟨ov, mo, hop⟩, vs', plain_keeps hl₂ k₃', hsl'⟩)
    · intro m' s₇ hJ
      obtain ⟨hn', hk', hr', ha, hrr, a, ea, hok, ⟨tk, hst⟩, ⟨ov, hov, hop⟩, vs', hl', hsl'⟩ := hJ
      rw [List.take_length] at ea
      obtain ⟨a1, a2, a3⟩ := a
      have ha0 : 0 ≤ a1 := hok.start
      have hfew : a3.length ≤ x.length := Nat.le_trans hok.few items_len
      have hshort := hok.short
      simp only at hst hsl' hshort
      have hlen3 : vs'.length ≤ sizeLine := by have h1 := hsl'.length; omega
      have hz2 : ∀ b ∈ ([r] : List Addr), s.heap.get? b = none := fun b hb => by rw [List.mem_singleton.mp hb]; exact hrs
      refine seq (wpAny_mono (Q := fun f s8 => f = .next ∧ Keep s.heap s8.heap ∧ Rest s s8 ∧ s8.heap.Ns s.heap.objs.size m' ∧ ∃ us, s8.heap.PlainList r us.toArray ∧ SL us (if a1 < x.length then a3 ++ [sliceG x a1.toNat x.length] else a3)) ?_ (fun f s8 h8 => ?_) fun _ _ y => y)
      · refine ifs (Ts.ltI (name_int (Ev.name hn' hst rfl rfl)) (Ev.lenS (Ev.builtin ((T.keeps k).keeps hk') rfl rfl rfl rfl (by kernel_rfl) boot_len (by decide)) (name_str (Ev.name hn' ha rfl rfl)) (by rw [st_len]; omega))) fun s5 k5 r5 => ?_
        rw [st_len]
        have kk5 : Keep s.heap s5.heap := hk'.trans k5
        by_cases hlt : a1 < x.length
        · rw [if_pos (by simp [hlt])]
          have hn5 := hn'.keeps k5
          refine seq (app hn5 hrr rfl rfl (plain_keeps hl' k5) hlen3 (Ev.sliceS (name_str (Ev.name hn5 ha rfl rfl)) (pt_some (name_int (Ev.name hn5 hst rfl rfl))) pt_none (by omega)) fun v h0 h1 s6 hv k6 k6' x6 p6 r6 => ?_)
          obtain ⟨tv, rfl⟩ := hv
          refine sq0 ⟨rfl, x6.keep ((kk5.trans k6).trans k6') hz2, (hr'.trans r5).trans r6, ?_, _, p6, ?_⟩
          · exact x6.ns ((hn5.keeps k6).keeps k6') (fun q => hrL (List.mem_singleton.mp q).symm)
          · rw [if_pos hlt, slice_from ha0]
            exact hsl'.snoc _ _
        · rw [if_neg (by simp [hlt])]
          exact sq0 ⟨rfl, kk5, hr'.trans r5, hn'.keeps k5, vs', plain_keeps hl' k5, by rw [if_neg hlt]; exact hsl'⟩
      · obtain ⟨rfl, hk8, hr8, hn8, us, hl8, hsl8⟩ := h8
        refine seq (rets (Ev.joinS (sep := []) (by rw [show st [] = PySem.Str.ofString "" from by decide]; exact Ev.cstr) ((Ev.name hn8 hrr rfl rfl).mono (V' := IsL (if a1 < x.length then a3 ++ [sliceG x a1.toNat x.length] else a3)) (Keep.refl _) fun h0 v h1 k0 k1 e => by
          cases e
          exact ⟨r, us, rfl, plain_keeps (plain_keeps hl8 k0) k1, hsl8⟩) ?_) fun v s9 k9 r9 hv => ?_)
        · have : ∀ y ∈ (if a1 < x.length then a3 ++ [sliceG x a1.toNat x.length] else a3), y.length ≤ x.length := by
            intro y hy
            split at hy
            · rcases List.mem_append.mp hy with hy | hy
              · exact hshort y hy
              · rw [List.mem_singleton.mp hy]; exact sliceG_len _ _ _
            · exact hshort y hy
          have h1 := totLen_le this
          have h2 : (if a1 < x.length then a3 ++ [sliceG x a1.toNat x.length] else a3).length ≤ x.length + 1 := by
            split
            · rw [List.length_append, List.length_singleton]; omega
            · omega
          have h3 : (if a1 < x.length then a3 ++ [sliceG x a1.toNat x.length] else a3).length * x.length ≤ 2001 * 2000 := Nat.mul_le_mul (by omega) hx
          simp only [List.length_nil, Nat.mul_zero]
          omega
        · obtain ⟨u, rfl⟩ := hv
          refine ⟨hk8.trans k9, hr8.trans r9, fun h _ => ⟨u, ?_⟩⟩
          unfold stripG stripEndG
          rw [if_pos hq, ← ea]
  · rw [if_pos (by simp [hq])]
    refine seq (rets (name_str (Ev.name hn e0 rfl rfl)) fun v s₃ k₃ r₃ h₃ => ?_)
    obtain ⟨u, rfl⟩ := h₃
    refine ⟨hk₂.trans k₃, hr₂.trans r₃, fun h _ => ⟨u, ?_⟩⟩
    unfold stripG
    rw [if_neg hq]
end
end Mine
namespace Mine
open Sem (wp)
local macro_rules | `(tactic| walk_at "look") => `(tactic| ((repeat (first | exact if_pos rfl | refine (if_neg (by decide)).trans ?_)); try assumption))

section
variable {w : World} {A : Around}

/-- what the loop of the check keeps -/
noncomputable def JC (L : Addr) (s₀ : Shared) (items : List (Int × List Nat)) (j : Nat) (m : Str → Option Value) (s' : Shared) : Prop :=
  s'.heap.Ns L m ∧ Keep s₀.heap s'.heap ∧ Rest s₀ s' ∧ ∃ o tk, m "opens" = some (.int o tk) ∧ opensG 40 41 0 items = opensG 40 41 o (items.drop j)

theorem cl_check {H : Heap} {x : List Nat} {t : Tok} (T : TopOk w H) (hh : A.handled = none) (hroom : A.depth + 30 < recursionLimit) (hx : x.length ≤ 2000) : Cl w A H (.ref 69) [.str (st x) t] (fun _ v _ => v = .bool (checkG x 92 34 40 41)) := by
  intro s k
  refine wpAny_call (enter (T.keeps k) rfl (by kernel_rfl) (by omega) (BindsTo.of_eq (binds := [("addr", .str (st x) t)]) rfl) (locs rfl) (fun h₁ F => ?_) (by decide) rfl rfl rfl)
  have hn := F.ns
  have hs : Keep s.heap h₁ := F.keep
  have e0 : (fun y : Str => ([((("addr" : Str)), Value.str (st x) t)] : List (Str × Value)).reverse.lookup y) "addr" = some (Value.str (st x) t) := rfl
  have hL0 : s.heap.get? s.heap.objs.size = none := size_none _
  have hz : ∀ b ∈ ([s.heap.objs.size] : List Addr), s.heap.get? b = none := fun b hb => by rw [List.mem_singleton.mp hb]; exact hL0
  have T₁ : TopOk w h₁ := (T.keeps k).keeps hs
  refine seq (asg hn (Ev.dcall (f := 62) T₁ (Ev.global T₁ rfl rfl rfl (by kernel_rfl)) (by kernel_rfl) (as1 (Ev.name hn e0 rfl rfl)) (fun vs g₁ g₂ hv kg kg' => by
    obtain ⟨v, rfl, hv⟩ := hv
    cases hv
    exact cl_strip ((T₁.keeps kg).keeps kg') hh (by show A.depth + 1 + 20 < _; omega) hx)) rfl rfl fun v2 h₂ s₂ hv2 k₂ x₂ hn₂ r₂ => ?_)
  obtain ⟨t2, rfl⟩ := hv2
  refine seq (asg hn₂ Ev.cint rfl rfl fun v3 h₃ s₃ hv3 k₃ x₃ hn₃ r₃ => ?_)
  obtain ⟨t3, rfl⟩ := hv3
  have kk₃ : Keep s.heap s₃.heap := x₃.keep ((x₂.keep (hs.trans k₂) hz).trans k₃) hz
  have rr₃ : Rest s s₃ := (Rest.of_ht.trans r₂).trans r₃
  refine seq (wpAny_For (iter_gen hh ((T.keeps k).keeps kk₃) (T.keeps k) kk₃ (by show A.depth + 1 + 10 < _; omega) (Ev.name hn₃ (by walk_at "look") rfl rfl) rfl rfl rfl fun a g C s₆ hE hC hG k₆ r₆ => ?_))
  have hitems : escItems 0 false (st (stripG x 92 34)).cps.toList = escG 92 0 false (stripG x 92 34) := by rw [escItems_eq]
  rw [hitems] at hE
  have hLC : @LT.lt Nat _ s.heap.objs.size C := by obtain ⟨o, es, ep, ho, _⟩ := hn₃; exact hC _ o ho
  have hsC : ∀ (b : Nat) o, s.heap.get? b = some o → b < C := fun b o e => Nat.lt_trans (Heap.lt_size e) hLC
  obtain ⟨m5, hJ0⟩ : ∃ m5, JC s.heap.objs.size s (escG 92 0 false (stripG x 92 34)) 0 m5 s₆ :=
    ⟨_, hn₃.keeps k₆, kk₃.trans k₆, rr₃.trans r₆, 0, t3, by walk_at "look", rfl⟩
  refine for_esc (m := m5) (all := escG 92 0 false (stripG x 92 34)) (h₀ := s.heap) hh (by show A.depth + 1 < _; omega) rfl rfl rfl hLC (JC s.heap.objs.size s (escG 92 0 false (stripG x 92 34))) (fun j m s' h => h.1) (fun j m s' h => ⟨h.2.1, (T.keeps k).nolimit.keeps h.2.1⟩)
    (fun j m s' s'' h hlo hr => ?_) ?_ ?_ hE hJ0
  · obtain ⟨hn', hk', hr', r⟩ := h
    exact ⟨hn'.at' fun o e => hlo _ o (.inl hLC) e, fun b o e => hlo b o (.inl (hsC b o e)) (hk' b o e), hr'.transG hr (Nat.le_trans rr₃.size hG), r⟩
  · intro j it m' s₁ s₂' tt uu hit hJ hn₂ up₂ hr₂'
    obtain ⟨hn', hk', hr', o, tk, hmo, heq⟩ := hJ
    have hdrop : (escG 92 0 false (stripG x 92 34)).drop j = it :: (escG 92 0 false (stripG x 92 34)).drop (j + 1) := by
      obtain ⟨hj, e⟩ := List.getElem?_eq_some_iff.mp hit
      rw [List.drop_eq_getElem_cons hj, e]
    rw [hdrop] at heq
    generalize hrest : (escG 92 0 false (stripG x 92 34)).drop (j + 1) = rest at heq
    have kk₂ : Keep s.heap s₂'.heap := fun b o e => up₂ b o (fun q => by rw [q] at e; exact absurd (Heap.lt_size e) (Nat.lt_irrefl _)) (hk' b o e)
    have rr₂ : Rest s s₂' := hr'.trans hr₂'
    generalize hm₂ : (fun y : Str => if y = ("ch" : Str) then some (Value.str ⟨it.2.toArray⟩ uu) else if y = ("pos" : Str) then some (Value.int it.1 tt) else m' y) = m₂ at hn₂
    have mc : m₂ "ch" = some (.str (st it.2) uu) := by rw [← hm₂]; walk_at "look"
    have mo : m₂ "opens" = some (.int o tk) := by rw [← hm₂]; walk_at "look"
    have ret : ∀ s₃ m₃ o' tk', s₃.heap.Ns s.heap.objs.size m₃ → Xt [s.heap.objs.size] s₂'.heap s₃.heap → Rest s₂' s₃ → m₃ "opens" = some (.int o' tk') → opensG 40 41 0 (escG 92 0 false (stripG x 92 34)) = opensG 40 41 o' rest →
        Hi C s₂'.heap s₃.heap ∧ Rest s₂' s₃ ∧ ∃ m', JC s.heap.objs.size s (escG 92 0 false (stripG x 92 34)) (j + 1) m' s₃ := fun s₃ m₃ o' tk' hn3 hx3 hr3 hm3 he3 =>
      ⟨fun b o hb e => hx3 b o (fun q => absurd (List.mem_singleton.mp q) (neN (by omega))) e, hr3, m₃, hn3, hx3.keep kk₂ hz, rr₂.trans hr3, o', tk', hm3, by rw [hrest]; exact he3⟩
    refine seq (ifs (Ts.eqS (y := st [40]) (name_str (Ev.name hn₂ mc rfl rfl)) (by rw [show st [40] = PySem.Str.ofString "(" from by decide]; exact Ev.cstr)) fun s₃' k₃' r₃' => ?_)
    rw [st_beq]
    have hn₃' := hn₂.keeps k₃'
    by_cases hc : it.2 = [40]
    · rw [if_pos (by simp [hc])]
      rw [opensG, if_pos hc] at heq
      refine seq (aug hn₃' mo Ev.cint rfl rfl (V' := IsI (o + 1)) (fun v h1 s1 hv _ => by obtain ⟨tv, rfl⟩ := hv; exact iadd_int ⟨Keep.refl _, rht, _, rfl⟩) fun v h4 s₄ hv k4 x4 hn4 r4 => ?_)
      obtain ⟨tv, rfl⟩ := hv
      exact sq0 (sq0 (ret s₄ _ _ _ hn4 ((Xt.of_keep (k₃'.trans k4)).trans x4) (r₃'.trans r4) (if_pos rfl) heq))
    · rw [if_neg (by simp [hc])]
      rw [opensG, if_neg hc] at heq
      refine seq (ifs (Ts.eqS (y := st [41]) (name_str (Ev.name hn₃' mc rfl rfl)) (by rw [show st [41] = PySem.Str.ofString ")" from by decide]; exact Ev.cstr)) fun s₄' k₄' r₄' => ?_)
      rw [st_beq]
      have hn₄' := hn₃'.keeps k₄'
      have kk₄' : Keep s₂'.heap s₄'.heap := k₃'.trans k₄'
      by_cases hc2 : it.2 = [41]
      · rw [if_pos (by simp [hc2])]
        rw [if_pos hc2] at heq
        refine seq (aug hn₄' mo Ev.cint rfl rfl (V' := IsI (o - 1)) (fun v h1 s1 hv _ => by obtain ⟨tv, rfl⟩ := hv; exact PyProof.Rows.isub_int ⟨Keep.refl _, rht, _, rfl⟩) fun v h5 s₅ hv k5 x5 hn5 r5 => ?_)
        obtain ⟨tv, rfl⟩ := hv
        have hx5 : Xt [s.heap.objs.size] s₂'.heap s₅.heap := (Xt.of_keep (kk₄'.trans k5)).trans x5
        have hr5 : Rest s₂' s₅ := (r₃'.trans r₄').trans r5
        refine seq (ifs (Ts.ltI (name_int (Ev.name hn5 (if_pos rfl) rfl rfl)) Ev.cint) fun s₆' k₆' r₆' => ?_)
        by_cases hneg : o - 1 < 0
        · rw [if_pos (by simpa using hneg)]
          rw [if_pos hneg] at heq
          refine seq (rets Ev.cbool fun v s₇ k₇ r₇ hv => ?_)
          cases hv
          exact ⟨((hx5.keep kk₂ hz).trans k₆').trans k₇, ((rr₂.trans hr5).trans r₆').trans r₇, fun h _ => by show Value.bool false = _; unfold checkG; rw [heq]⟩
        · rw [if_neg (by simpa using hneg)]
          rw [if_neg hneg] at heq
          exact sq0 (sq0 (sq0 (sq0 (ret s₆' _ _ _ (hn5.keeps k₆') (hx5.trans (Xt.of_keep k₆')) (hr5.trans r₆') (if_pos rfl) heq))))
      · rw [if_neg (by simp [hc2])]
        rw [if_neg hc2] at heq
        exact sq0 (sq0 (sq0 (ret s₄' _ _ _ hn₄' (Xt.of_keep kk₄') (r₃'.trans r₄') mo heq)))
  · intro m' s₇ hJ
    obtain ⟨hn', hk', hr', o, tk, hmo, heq⟩ := hJ
    refine seq (rets (Ev.eqI (name_int (Ev.name hn' hmo rfl rfl)) Ev.cint) fun v s9 k9 r9 hv => ?_)
    cases hv
    refine ⟨hk'.trans k9, hr'.trans r9, fun h _ => ?_⟩
    show Value.bool (o == 0) = _
    unfold checkG
    rw [heq, List.drop_length, opensG]
end
end Mine
namespace Mine
open Sem (wp)
local macro_rules | `(tactic| walk_at "look") => `(tactic| ((repeat (first | exact if_pos rfl | refine (if_neg (by decide)).trans ?_)); try assumption))

theorem item_st (l : List Nat) (i : Nat) (h : i < l.length) : Txt.item (st l) (i : Int) = st [l[i]] := by
  unfold Txt.item Txt.charAt
  rw [StrLaws.seqIndex_nonneg (by omega) (by rw [st_len]; omega)]
  simp [h]

section
variable {w : World} {A : Around} {env : Env}

theorem fits_small {i : Int} (h : -1000000 ≤ i) (h2 : i ≤ 1000000) : fitsSsize i = true := by
  unfold fitsSsize
  simp
  omega

/-- a sign of a text -/
theorem Ev.idxS {H : Heap} {value slice : Expr} {pos : Pos} {l : List Nat} {i : Nat} (hv : Ev w A env H value (IsS (st l))) (hi : Ev w A env H slice (IsI (i : Int))) (h : i < l.length) (hsz : l.length ≤ 1000000)
    (hs : ∀ o k u, subscripted slice false o (.int k u) = operate [o, .int k u] (getItem o (.int k u)) := by intro _ _ _; with_unfolding_all rfl)
    (ht : ∀ o r, letTemporaryGo value o r = pure () := by intro _ _; with_unfolding_all rfl) : Ev w A env H (.Subscript value slice pos) (IsS (st [l[i]])) := fun s k =>
  Subscript_ (hv.use k fun v s₁ k₁ r₁ h₁ => hi.use (k.trans k₁) fun u s₂ k₂ r₂ h₂ => by
    obtain ⟨t, rfl⟩ := h₁
    obtain ⟨t2, rfl⟩ := h₂
    refine item_str (fits_small (by omega) (by omega)) (by omega) (by rw [st_len]; omega) (fun _ => ?_) (hs _ _ _) (ht _)
    rw [item_st l i h]
    exact ⟨k₁.trans k₂, (r₁.trans r₂).ht, _, rfl⟩)

/-- the two arguments of a replace in the law's dress: a sign of the kinds, a written text -/
theorem as_dress {H : Heap} {p1 p2 p3 p4 pos : Pos} {c1 c2 : Nat} {m : Str → Option Value} {l z' : List Nat} {t : Tok} {i : Int} {c : Nat} {z : Str} (hz : z = st z') (hn : H.Ns env.locals m) (hm : m "kinds" = some (.str (st l) t)) (hk : env.scope.kind = .function) (hx : env.kindOf "kinds" = some .local)
    (h0 : 0 ≤ i) (hc : l[i.toNat]? = some c) (hsz : l.length ≤ 1000000) :
    As w A env H pos [.Subscript (.Name "kinds" p1) (.Constant (.int i) c1 p2) p3, .Constant (.str z) c2 p4] (fun _ vs _ => ∃ u v, vs = [.str (st [c]) u, .str (st z') v] ∧ u ≠ 0 ∧ v ≠ 0 ∧ u ≠ v) := fun s k => by
  subst hz
  obtain ⟨a, rfl⟩ := Int.eq_ofNat_of_zero_le h0
  obtain ⟨h, rfl⟩ := List.getElem?_eq_some_iff.mp hc
  have h' : a < l.length := h
  refine wpAny_items_cons (Subscript_ (name_ns hk hx (hn.keeps k) hm (wpAny_Constant_int ?_)))
  refine item_str (fits_small (by omega) (by omega)) (by omega) (by rw [st_len]; omega) (fun _ => ?_)
  rw [item_st l a h']
  refine wpAny_items_cons (wpAny_Constant_str (wpAny_items_nil ⟨Keep.refl _, rht, _, _, rfl, ?_, ?_, ?_⟩))
  · show s.toks + 1 ≠ 0; omega
  · show s.toks + 1 + 1 ≠ 0; omega
  · show s.toks + 1 ≠ s.toks + 1 + 1; omega

theorem Ev.repl {H : Heap} {o : Expr} {ap pos : Pos} {e1 e2 : Expr} {x y z : List Nat} (ho : Ev w A env H o (IsS (st x))) (ha : As w A env H pos [e1, e2] (fun _ vs _ => ∃ u v, vs = [.str (st y) u, .str (st z) v] ∧ u ≠ 0 ∧ v ≠ 0 ∧ u ≠ v))
    (hy : y ≠ []) (hyz : y ≠ z) (hb : x.length + (x.length + 1) * z.length ≤ 16777216) (he : starEach [e1, e2] env = (false, eval e1 env) :: starEach [e2] env := by rfl) (hplain : (backTo pos (starEach [e2] env)).any (·.1) = false := by rfl)
    {pl : Sem Bool} (hx : eval (.Call (.Attribute o "replace" ap) [e1, e2] [] pos) env = (do
      let ov ← eval o env
      standAt ap.atName
      let (f, first) ← holding [ov] (getMethod ov "replace" pl)
      callWith pos f first (backTo pos (starEach [e1, e2] env)) []) := by rfl) : Ev w A env H (.Call (.Attribute o "replace" ap) [e1, e2] [] pos) (IsS (st (replG y z x))) :=
  Ev.meth (id := "str.replace") ho ha (fun _ v _ s pl Q ⟨t, hv⟩ _ hq => by subst hv; exact GM.replace hq)
    (fun h₀ v h₁ vs h₂ ⟨t, hv⟩ ⟨u, u', hvs, h0, h1, h2⟩ _ _ s _ => by
      subst hv hvs
      refine SC.replace h0 h1 h2 (by rw [st_beq, decide_eq_false hyz]) (by rw [st_len, st_len]; exact hb) fun t' k' => ⟨Keep.refl _, rht, fun _ _ => ⟨t', ?_⟩⟩
      rw [replace_G hy]
      rfl) he hplain hx

theorem cl_dress {H : Heap} {x : List Nat} {t t' : Tok} {k0 k1 k2 k3 : Nat} (T : TopOk w H) (hroom : A.depth + 10 < recursionLimit) (hx : x.length ≤ 80) : Cl w A H (.ref 100) [.str (st x) t, .str (st [k0, k1, k2, k3]) t'] (fun _ v _ => ∃ u, v = .str (st (dressG 92 34 40 41 k0 k1 k2 k3 x)) u) := by
  intro s k
  refine wpAny_call (enter (T.keeps k) rfl (by kernel_rfl) (by omega) (BindsTo.of_eq (binds := [("text", .str (st x) t), ("kinds", .str (st [k0, k1, k2, k3]) t')]) rfl) (locs rfl) (fun h₁ F => ?_) (by decide) rfl rfl rfl)
  have hn := F.ns
  have hs : Keep s.heap h₁ := F.keep
  have hL0 : s.heap.get? s.heap.objs.size = none := size_none _
  have hz : ∀ b ∈ ([s.heap.objs.size] : List Addr), s.heap.get? b = none := fun b hb => by rw [List.mem_singleton.mp hb]; exact hL0
  generalize hm : (fun y : Str => ([((("text" : Str)), Value.str (st x) t), ((("kinds" : Str)), Value.str (st [k0, k1, k2, k3]) t')] : List (Str × Value)).reverse.lookup y) = m at hn
  have e0 : m "text" = some (Value.str (st x) t) := by rw [← hm]; rfl
  have e1 : m "kinds" = some (Value.str (st [k0, k1, k2, k3]) t') := by rw [← hm]; rfl
  have l0 := repl_one_len k0 [92, 40] x 2 (Nat.le_refl _) (by omega)
  have l1 := repl_one_len k1 [92, 41] (replG [k0] [92, 40] x) 2 (Nat.le_refl _) (by omega)
  have l2 := repl_one_len k2 [92, 92] (replG [k1] [92, 41] (replG [k0] [92, 40] x)) 2 (Nat.le_refl _) (by omega)
  have s0 : PySem.Str.ofString "\\(" = st [92, 40] := by decide
  have s1 : PySem.Str.ofString "\\)" = st [92, 41] := by decide
  have s2 : PySem.Str.ofString "\\\\" = st [92, 92] := by decide
  have s3 : PySem.Str.ofString "\"(\"" = st [34, 40, 34] := by decide
  refine seq (asg hn (Ev.repl (Ev.repl (name_str (Ev.name hn e0 rfl rfl)) (as_dress s0 hn e1 rfl rfl (by decide) rfl (by show 4 ≤ 1000000; decide)) (by simp) (by simp) (by simp only [List.length_cons, List.length_nil]; omega))
    (as_dress s1 hn e1 rfl rfl (by decide) rfl (by show 4 ≤ 1000000; decide)) (by simp) (by simp) (by simp only [List.length_cons, List.length_nil]; omega)) rfl rfl fun v2 h₂ s₂ hv2 k₂ x₂ hn₂ r₂ => ?_)
  obtain ⟨t2, rfl⟩ := hv2
  have e1' : up m "text" (.str (st (replG [k1] [92, 41] (replG [k0] [92, 40] x))) t2) "kinds" = some (Value.str (st [k0, k1, k2, k3]) t') := by walk_at "look"
  refine seq (rets (Ev.repl (Ev.repl (name_str (Ev.name hn₂ (if_pos rfl) rfl rfl)) (as_dress s2 hn₂ e1' rfl rfl (by decide) rfl (by show 4 ≤ 1000000; decide)) (by simp) (by simp) (by simp only [List.length_cons, List.length_nil]; omega))
    (as_dress s3 hn₂ e1' rfl rfl (by decide) rfl (by show 4 ≤ 1000000; decide)) (by simp) (by simp) (by simp only [List.length_cons, List.length_nil]; omega)) fun v s₃ k₃ r₃ hv => ?_)
  obtain ⟨u, rfl⟩ := hv
  exact ⟨(x₂.keep (hs.trans k₂) hz).trans k₃, (Rest.of_ht.trans r₂).trans r₃, fun h _ => ⟨u, rfl⟩⟩
end
end Mine
namespace Mine
open Sem (wp)

/-! states: what a frame's names hold, told by pure values -/

/-- the heap without the addresses Z -/
noncomputable def clr (Z : List Addr) (h : Heap) : Heap := { h with objs := h.objs.mapIdx fun i o => if i ∈ Z then { o with data := .freed } else o }
theorem clr_get (Z : List Addr) (h : Heap) (b : Addr) : (clr Z h).get? b = if b ∈ Z then none else h.get? b := by
  unfold clr Heap.get?
  rw [Array.getElem?_mapIdx]
  cases h.objs[b]? with
  | none => simp
  | some o => by_cases hb : b ∈ Z <;> simp [hb]

/-- what a value is, told by a heap that it stands in -/
structure Vp where
  p : Heap → Value → Prop
  mono : ∀ {h h' : Heap} {v : Value}, Keep h h' → p h v → p h' v
inductive A2 (h : Heap) : List Value → List Vp → Prop
  | nil : A2 h [] []
  | cons {v vs} {p : Vp} {ps} : p.p h v → A2 h vs ps → A2 h (v :: vs) (p :: ps)
theorem A2.mono {h h' : Heap} {vs : List Value} {ps : List Vp} (x : A2 h vs ps) (k : Keep h h') : A2 h' vs ps := by
  induction x with
  | nil => exact .nil
  | cons e _ ih => exact .cons (Vp.mono _ k e) ih
theorem A2.append {h : Heap} {vs us : List Value} {ps qs : List Vp} (x : A2 h vs ps) (y : A2 h us qs) : A2 h (vs ++ us) (ps ++ qs) := by
  induction x with
  | nil => exact y
  | cons e _ ih => exact .cons e ih
theorem A2.length {h : Heap} {vs : List Value} {ps : List Vp} (x : A2 h vs ps) : vs.length = ps.length := by
  induction x with
  | nil => rfl
  | cons _ _ ih => exact congrArg (· + 1) ih
theorem A2.get {h : Heap} {vs : List Value} {ps : List Vp} (x : A2 h vs ps) : ∀ {i : Nat} {p : Vp}, ps[i]? = some p → ∃ v, vs[i]? = some v ∧ p.p h v := by
  induction x with
  | nil => intro i p e; cases e
  | cons e _ ih =>
    intro i p q
    cases i with
    | zero => cases q; exact ⟨_, rfl, e⟩
    | succ i => exact ih (i := i) q

noncomputable def VS (x : List Nat) : Vp := ⟨fun _ v => ∃ t, v = .str (st x) t, fun _ h => h⟩
noncomputable def VI (i : Int) : Vp := ⟨fun _ v => ∃ t, v = .int i t, fun _ h => h⟩
noncomputable def VB (b : Bool) : Vp := ⟨fun _ v => v = .bool b, fun _ h => h⟩
noncomputable def VN : Vp := ⟨fun _ v => v = .none, fun _ h => h⟩
noncomputable def IsLst (h : Heap) (a : Addr) (vs : List Value) : Prop := h.IsList a vs.toArray
theorem IsLst.mono {h h' : Heap} {a : Addr} {vs : List Value} (x : IsLst h a vs) (k : Keep h h') : IsLst h' a vs := Heap.IsList.at x fun o e => k _ o e
noncomputable def VL (ps : List Vp) : Vp := ⟨fun h v => ∃ (a : Addr) (vs : List Value), v = .ref a ∧ IsLst h a vs ∧ A2 h vs ps, fun k ⟨a, vs, e, l, x⟩ => ⟨a, vs, e, l.mono k, x.mono k⟩⟩
noncomputable def IsTup (h : Heap) (a : Addr) (vs : List Value) : Prop := h.get? a = some { cls := .type "tuple", data := .seq vs.toArray }
noncomputable def VT (ps : List Vp) : Vp := ⟨fun h v => ∃ (a : Addr) (vs : List Value), v = .ref a ∧ IsTup h a vs ∧ A2 h vs ps, fun k ⟨a, vs, e, l, x⟩ => ⟨a, vs, e, k a _ l, x.mono k⟩⟩

/-- a value of p that stands in φ and in what is new -/
noncomputable def Fz (φ : Heap) (p : Vp) : Heap → Value → Heap → Prop := fun h₀ v h₁ => ∀ φ', Keep φ φ' → (∀ b o, h₀.get? b = none → h₁.get? b = some o → φ'.get? b = some o) → p.p φ' v
/-- a value of p that stands in what is new -/
noncomputable def Nw (p : Vp) : Heap → Value → Heap → Prop := fun h₀ v h₁ => ∀ φ', (∀ b o, h₀.get? b = none → h₁.get? b = some o → φ'.get? b = some o) → p.p φ' v

structure Cx (A : Around) (env : Env) (S : Scope) : Prop where
  sc : env.scope = S
  fn : S.kind = .function
  gl : env.globals = mainGlobals
  bl : env.builtins = builtinsNs
  hh : A.handled = none
theorem Cx.k {A : Around} {env : Env} {S : Scope} (C : Cx A env S) : env.scope.kind = .function := C.sc ▸ C.fn
theorem Cx.of {A : Around} {env : Env} {S : Scope} (C : Cx A env S) {x : Str} {k : Option NameKind} (h : S.names.lookup x = k) : env.kindOf x = k := by
  unfold Env.kindOf; rw [C.sc]; exact h
theorem Cx.ni {A : Around} {env : Env} {S : Scope} (C : Cx A env S) : interactive env = false := by
  unfold interactive; rw [C.k]; rfl

/-- the frame's names hold vs, and ow: lists of its own. φ: what stands; from the mark s₀ on, nothing but Z was turned -/
structure St (w : World) (s₀ : Shared) (Z B : List Addr) (φ : Heap) (L : Addr) (vs : List (Str × Vp)) (ow : List (Str × Addr × List Vp)) (s : Shared) : Prop where
  top : TopOk w φ
  kp : Keep φ s.heap
  xt : Xt Z s₀.heap s.heap
  rest : Rest s₀ s
  L0 : φ.get? L = none
  LZ : L ∈ Z ∨ s₀.heap.get? L = none
  ns : ∃ m, s.heap.Ns L m ∧ (∀ x p, vs.lookup x = some p → ∃ v, m x = some v ∧ p.p φ v) ∧ ∀ e ∈ ow, m e.1 = some (.ref e.2.1)
  own : ∀ e ∈ ow, (∃ us, s.heap.PlainList e.2.1 us.toArray ∧ A2 φ us e.2.2) ∧ φ.get? e.2.1 = none ∧ e.2.1 ≠ L ∧ (e.2.1 ∈ Z ∨ s₀.heap.get? e.2.1 = none)
  dis : ow.Pairwise fun p q => p.2.1 ≠ q.2.1
  bz : ∀ b ∈ B, φ.get? b = none ∧ (b ≠ L ∧ ∀ e ∈ ow, e.2.1 ≠ b) ∧ ∃ o, s.heap.get? b = some o

section
variable {w : World} {A : Around} {env : Env} {S : Scope} {s₀ s : Shared} {Z B : List Addr} {φ : Heap} {vs : List (Str × Vp)} {ow : List (Str × Addr × List Vp)} {L : Addr}

theorem St.step {s' : Shared} (h : St w s₀ Z B φ L vs ow s) (k : Keep s.heap s'.heap) (r : Rest s s') : St w s₀ Z B φ L vs ow s' :=
  ⟨h.top, h.kp.trans k, h.xt.trans (Xt.of_keep k), h.rest.trans r, h.L0, h.LZ, let ⟨m, n, x⟩ := h.ns; ⟨m, n.keeps k, x⟩,
    fun e he => let ⟨⟨us, l, a⟩, x⟩ := h.own e he; ⟨⟨us, plain_keeps l k, a⟩, x⟩, h.dis, fun b hb => let ⟨x, y, o, e⟩ := h.bz b hb; ⟨x, y, o, k _ _ e⟩⟩

/-- the mark set anew -/
theorem St.mark (h : St w s₀ Z B φ L vs ow s) : St w s (L :: ow.map (·.2.1)) B φ L vs ow s :=
  ⟨h.top, h.kp, Xt.refl _ _, Rest.refl _, h.L0, .inl (.head _), h.ns, fun e he => let ⟨a, b, c, _⟩ := h.own e he; ⟨a, b, c, .inl (List.mem_cons_of_mem _ (List.mem_map.mpr ⟨e, he, rfl⟩))⟩, h.dis, h.bz⟩
theorem St.back {s' : Shared} {φ' : Heap} {vs' : List (Str × Vp)} {ow' : List (Str × Addr × List Vp)} (h : St w s₀ Z B φ L vs ow s) (h' : St w s (L :: ow.map (·.2.1)) B φ' L vs' ow' s') : St w s₀ Z B φ' L vs' ow' s' := by
  have out : ∀ b, b ∈ L :: ow.map (·.2.1) → b ∈ Z ∨ s₀.heap.get? b = none := fun b hb => by
    rcases List.mem_cons.mp hb with rfl | hb
    · exact h.LZ
    · obtain ⟨e, he, rfl⟩ := List.mem_map.mp hb; exact (h.own e he).2.2.2
  have new : ∀ b, s.heap.get? b = none → b ∈ Z ∨ s₀.heap.get? b = none := fun b hb => by
    by_cases hz : b ∈ Z
    · exact .inl hz
    · refine .inr ?_
      cases hq : s₀.heap.get? b with
      | none => rfl
      | some o => rw [h.xt b o hz hq] at hb; cases hb
  refine ⟨h'.top, h'.kp, fun b o hb e => ?_, h.rest.trans h'.rest, h'.L0, h.LZ, h'.ns, fun e he => ?_, h'.dis, h'.bz⟩
  · refine h'.xt b o (fun q => ?_) (h.xt b o hb e)
    rcases out b q with q | q
    · exact hb q
    · rw [q] at e; cases e
  · obtain ⟨a, b, c, d⟩ := h'.own e he
    exact ⟨a, b, c, d.elim (out _) (new _)⟩

/-- fewer names -/
noncomputable def Sub (vs' vs : List (Str × Vp)) : Prop := ∀ x p, vs'.lookup x = some p → vs.lookup x = some p
theorem Sub.nil {vs : List (Str × Vp)} : Sub [] vs := fun _ _ e => by cases e
theorem Sub.cons {vs' vs : List (Str × Vp)} {x : Str} {p : Vp} (e : vs.lookup x = some p) (h : Sub vs' vs) : Sub ((x, p) :: vs') vs := fun y q e' => by
  rw [List.lookup_cons] at e'
  split at e'
  · rename_i hy; cases e'; rw [beq_iff_eq.mp hy]; exact e
  · exact h y q e'
theorem Sub.refl {vs : List (Str × Vp)} : Sub vs vs := fun _ _ e => e
theorem St.weak {vs' : List (Str × Vp)} (h : St w s₀ Z B φ L vs ow s) (x : Sub vs' vs) : St w s₀ Z B φ L vs' ow s :=
  { h with ns := let ⟨m, n, a, b⟩ := h.ns; ⟨m, n, fun y p e => a y p (x y p e), b⟩ }

theorem ex_xt {h h' : Heap} {L b : Addr} {m : Str → Option Value} (x : Xt [L] h h') (n : h'.Ns L m) (e : ∃ o, h.get? b = some o) : ∃ o, h'.get? b = some o := by
  by_cases q : b = L
  · obtain ⟨o, es, ep, ho, _⟩ := n
    exact ⟨o, q ▸ ho⟩
  · obtain ⟨o, e⟩ := e
    exact ⟨o, x b o (fun z => q (List.mem_singleton.mp z)) e⟩

/-- more of the heap stands -/
theorem St.grow {h₁ : Heap} {s' : Shared} (h : St w s₀ Z B φ L vs ow s) (k : Keep s.heap h₁) (x : Xt (L :: (B ++ ow.map (·.2.1))) h₁ s'.heap) :
    ∃ φ', Keep φ φ' ∧ Keep φ' s'.heap ∧ (φ'.get? L = none ∧ (∀ b ∈ B, φ'.get? b = none) ∧ ∀ e ∈ ow, φ'.get? e.2.1 = none) ∧ ∀ b o, s.heap.get? b = none → h₁.get? b = some o → φ'.get? b = some o := by
  have dom : ∀ b, b ∈ L :: (B ++ ow.map (·.2.1)) → φ.get? b = none ∧ ∃ o, s.heap.get? b = some o := fun b hb => by
    rcases List.mem_cons.mp hb with rfl | hb
    · obtain ⟨m, ⟨o, es, ep, ho, _⟩, _⟩ := h.ns
      exact ⟨h.L0, o, ho⟩
    · rcases List.mem_append.mp hb with hb | hb
      · exact ⟨(h.bz b hb).1, (h.bz b hb).2.2⟩
      · obtain ⟨e, he, rfl⟩ := List.mem_map.mp hb
        obtain ⟨⟨us, ⟨n, l⟩, _⟩, q, _⟩ := h.own e he
        exact ⟨q, _, l⟩
  refine ⟨clr (L :: (B ++ ow.map (·.2.1))) h₁, fun b o e => ?_, fun b o e => ?_, ⟨?_, fun b hb => ?_, fun e he => ?_⟩, fun b o e e' => ?_⟩
  · rw [clr_get, if_neg fun q => by rw [(dom b q).1] at e; cases e]; exact k b o (h.kp b o e)
  · rw [clr_get] at e
    split at e
    · cases e
    · rename_i hb; exact x b o hb e
  · rw [clr_get, if_pos (.head _)]
  · rw [clr_get, if_pos (List.mem_cons_of_mem _ (List.mem_append_left _ hb))]
  · rw [clr_get, if_pos (List.mem_cons_of_mem _ (List.mem_append_right _ (List.mem_map.mpr ⟨e, he, rfl⟩)))]
  · rw [clr_get, if_neg fun q => by obtain ⟨o', ho'⟩ := (dom b q).2; rw [ho'] at e; cases e]; exact e'

theorem St.nm {x : Str} {pos : Pos} {p : Vp} (h : St w s₀ Z B φ env.locals vs ow s) (C : Cx A env S) (e : vs.lookup x = some p) (hl : S.names.lookup x = some .local) (hd : (x == ("__debug__" : Str)) = false := by decide) :
    Ev w A env s.heap (.Name x pos) (fun _ v _ => p.p φ v) := by
  obtain ⟨m, n, a, _⟩ := h.ns
  obtain ⟨v, hv, hp⟩ := a x p e
  exact (Ev.name n hv C.k (C.of hl) hd).mono (Keep.refl _) fun _ _ _ _ _ q => by cases q; exact hp
theorem St.nS {x : Str} {pos : Pos} {l : List Nat} (h : St w s₀ Z B φ env.locals vs ow s) (C : Cx A env S) (e : vs.lookup x = some (VS l)) (hl : S.names.lookup x = some .local) (hd : (x == ("__debug__" : Str)) = false := by decide) :
    Ev w A env s.heap (.Name x pos) (IsS (st l)) := h.nm C e hl hd
theorem St.nI {x : Str} {pos : Pos} {i : Int} (h : St w s₀ Z B φ env.locals vs ow s) (C : Cx A env S) (e : vs.lookup x = some (VI i)) (hl : S.names.lookup x = some .local) (hd : (x == ("__debug__" : Str)) = false := by decide) :
    Ev w A env s.heap (.Name x pos) (IsI i) := h.nm C e hl hd

/-- an own list -/
noncomputable def getO : List (Str × Addr × List Vp) → Str → Option (Addr × List Vp)
  | [], _ => none
  | e :: r, x => bif e.1 == x then some e.2 else getO r x
theorem getO_mem {x : Str} {y : Addr × List Vp} : ∀ {ow : List (Str × Addr × List Vp)}, getO ow x = some y → (x, y) ∈ ow
  | e :: r, h => by
    unfold getO at h
    cases hb : e.1 == x with
    | true => rw [hb] at h; cases h; rw [← beq_iff_eq.mp hb]; exact .head _
    | false => rw [hb] at h; exact .tail _ (getO_mem h)
theorem getO_none {x : Str} {d : Str × Addr × List Vp} : ∀ {l : List (Str × Addr × List Vp)}, getO l x = none → d ∈ l → d.1 ≠ x
  | e :: r, h, m, q => by
    unfold getO at h
    cases hb : e.1 == x with
    | true => rw [hb] at h; cases h
    | false =>
      rw [hb] at h
      rcases List.mem_cons.mp m with q' | q'
      · rw [← q', q, beq_self_eq_true] at hb; cases hb
      · exact getO_none h q' q
noncomputable def setO : List (Str × Addr × List Vp) → Str → List Vp → List (Str × Addr × List Vp)
  | [], _, _ => []
  | e :: r, x, ps => bif e.1 == x then (e.1, e.2.1, ps) :: r else e :: setO r x ps
theorem setO_addrs {x : Str} {ps : List Vp} : ∀ {ow : List (Str × Addr × List Vp)}, (setO ow x ps).map (·.2.1) = ow.map (·.2.1)
  | [] => rfl
  | e :: r => by
    unfold setO
    cases e.1 == x with
    | true => rfl
    | false => exact congrArg (e.2.1 :: ·) setO_addrs
theorem setO_mem {x : Str} {a : Addr} {qs ps : List Vp} {e : Str × Addr × List Vp} : ∀ {ow : List (Str × Addr × List Vp)}, ow.Pairwise (fun p q => p.2.1 ≠ q.2.1) → getO ow x = some (a, qs) → e ∈ setO ow x ps → (e = (x, a, ps)) ∨ (e ∈ ow ∧ e.2.1 ≠ a)
  | d :: r, hp, hg, he => by
    unfold getO at hg
    unfold setO at he
    cases hb : d.1 == x with
    | true =>
      rw [hb] at hg he
      have hg' : d.2 = (a, qs) := Option.some.inj hg
      have ha : d.2.1 = a := by rw [hg']
      rcases List.mem_cons.mp he with rfl | he
      · left; rw [beq_iff_eq.mp hb, ha]
      · exact .inr ⟨.tail _ he, fun q => (List.pairwise_cons.mp hp).1 e he (ha.trans q.symm)⟩
    | false =>
      rw [hb] at hg he
      rcases List.mem_cons.mp he with rfl | he
      · exact .inr ⟨.head _, fun q => (List.pairwise_cons.mp hp).1 _ (getO_mem hg) q⟩
      · rcases setO_mem (List.pairwise_cons.mp hp).2 hg he with q | q
        · exact .inl q
        · exact .inr ⟨.tail _ q.1, q.2⟩
theorem pair_map {ow ow' : List (Str × Addr × List Vp)} (h : ow'.map (·.2.1) = ow.map (·.2.1)) (p : ow.Pairwise fun p q => p.2.1 ≠ q.2.1) : ow'.Pairwise fun p q => p.2.1 ≠ q.2.1 := by
  have h1 : (ow.map (·.2.1)).Pairwise (· ≠ ·) := List.pairwise_map.mpr p
  rw [← h] at h1
  exact List.pairwise_map.mp h1

theorem St.nO {x : Str} {pos : Pos} {a : Addr} {ps : List Vp} (h : St w s₀ Z B φ env.locals vs ow s) (C : Cx A env S) (e : getO ow x = some (a, ps)) (hl : S.names.lookup x = some .local) (hd : (x == ("__debug__" : Str)) = false := by decide) :
    Ev w A env s.heap (.Name x pos) (fun _ v _ => v = .ref a) := by
  obtain ⟨m, n, _, b⟩ := h.ns
  exact (Ev.name n (b _ (getO_mem e)) C.k (C.of hl) hd).mono (Keep.refl _) fun _ _ _ _ _ q => q
/-- .. read as a list -/
theorem St.nOL {x : Str} {pos : Pos} {a : Addr} {ps : List Vp} (h : St w s₀ Z B φ env.locals vs ow s) (C : Cx A env S) (e : getO ow x = some (a, ps)) (hl : S.names.lookup x = some .local) (hd : (x == ("__debug__" : Str)) = false := by decide) :
    Ev w A env s.heap (.Name x pos) (fun _ v h₁ => (VL ps).p h₁ v) :=
  (h.nO C e hl hd).mono (Keep.refl _) fun _ _ _ k k' q => by
    obtain ⟨⟨us, l, x⟩, _⟩ := h.own _ (getO_mem e)
    exact ⟨a, us, q, (plain_keeps l (k.trans k')).isList, x.mono (h.kp.trans (k.trans k'))⟩

theorem St.asg {x : Str} {p1 pos : Pos} {e : Expr} {p : Vp} {Q : Flow → Shared → Prop} (h : St w s₀ Z B φ env.locals vs ow s) (C : Cx A env S) (he : Ev w A env s.heap e (Fz φ p)) (hl : S.names.lookup x = some .local) (hx : getO ow x = none)
    (hq : ∀ φ' s', Keep φ φ' → St w s₀ Z B φ' env.locals ((x, p) :: vs) ow s' → Q .next s')
    (hs : swapsWith e (some (.Name x p1)) pos.line env = pure false := by rfl) : wpAny (model prg w) A (exec (.Assign [.Name x p1] e pos) env) Q noE s := by
  obtain ⟨m, hn, ha, hb⟩ := h.ns
  refine Mine.asg hn he C.k (C.of hl) (fun v h₁ s' hv k x' hn' r => ?_) hs
  have x2 : Xt (env.locals :: (B ++ ow.map (·.2.1))) h₁ s'.heap := x'.mono fun b hb => by rw [List.mem_singleton.mp hb]; exact .head _
  obtain ⟨φ', k1, k2, ⟨f1, f2, f3⟩, k3⟩ := h.grow k x2
  refine hq φ' s' k1 ⟨h.top.keeps k1, k2, ?_, h.rest.trans r, f1, h.LZ, ⟨_, hn', fun y q e' => ?_, fun d hd => ?_⟩, fun d hd => ?_, h.dis, fun b hb => ⟨f2 b hb, (h.bz b hb).2.1, ?_⟩⟩
  · intro b o hb' e'
    refine x' b o (fun q => ?_) (k b o (h.xt b o hb' e'))
    rcases h.LZ with q' | q'
    · exact hb' (List.mem_singleton.mp q ▸ q')
    · rw [List.mem_singleton.mp q, q'] at e'; cases e'
  · rw [List.lookup_cons] at e'
    by_cases hy : y = x
    · subst hy
      simp only [beq_self_eq_true] at e'
      cases e'
      exact ⟨v, if_pos rfl, hv φ' k1 k3⟩
    · rw [show (y == x) = false from by simpa using hy] at e'
      obtain ⟨u, hu, hp⟩ := ha y q e'
      exact ⟨u, (if_neg hy).trans hu, q.mono k1 hp⟩
  · refine (if_neg fun q0 => ?_).trans (hb d hd)
    exact getO_none hx hd q0
  · obtain ⟨⟨us, l, a⟩, b, c, d'⟩ := h.own d hd
    exact ⟨⟨us, plain_xt (plain_keeps l k) x' fun q => c (List.mem_singleton.mp q), a.mono k1⟩, f3 d hd, c, d'⟩
  · exact ex_xt x' hn' (let ⟨o, e⟩ := (h.bz b hb).2.2; ⟨o, k _ _ e⟩)

end
end Mine
namespace Mine
open Sem (wp)

section
variable {w : World} {A : Around} {env : Env} {S : Scope} {s₀ s : Shared} {Z B : List Addr} {φ : Heap} {vs : List (Str × Vp)} {ow : List (Str × Addr × List Vp)} {L : Addr}

/-- the values bound, told -/
inductive B2 (h : Heap) : List (Str × Value) → List (Str × Vp) → Prop
  | nil : B2 h [] []
  | cons {x v p b c} : Vp.p p h v → B2 h b c → B2 h ((x, v) :: b) ((x, p) :: c)
theorem B2.mono {h h' : Heap} {b : List (Str × Value)} {c : List (Str × Vp)} (x : B2 h b c) (k : Keep h h') : B2 h' b c := by
  induction x with
  | nil => exact .nil
  | cons e _ ih => exact .cons (Vp.mono _ k e) ih
theorem B2.get {h : Heap} {b : List (Str × Value)} {c : List (Str × Vp)} (x : B2 h b c) (y : Str) (p : Vp) (e : c.lookup y = some p) : ∃ v, b.lookup y = some v ∧ p.p h v := by
  induction x with
  | nil => cases e
  | cons q _ ih =>
    rw [List.lookup_cons] at e ⊢
    split at e
    · cases e; exact ⟨_, rfl, q⟩
    · exact ih e

/-- a call of a def of the text -/
theorem enterS {H : Heap} {f : Addr} {name qual : Str} {params : Arguments} {body : List Stmt} {dV kV doc pm cdv ct oc : Value} {an od : Option Addr} {osl : Array (Option Value)} {args : Args} {argv : List Value}
    {binds : List (Str × Value)} {V : Heap → Value → Heap → Prop} (T : TopOk w H) (hh : A.handled = none) (ho : (KF w).lookup f = some ⟨oc, od, .func (fnOf name qual params body S dV kV doc pm an cdv ct), osl⟩) (hcd : codeIn (KF w) cdv qual = true)
    (hroom : A.depth < recursionLimit) (ha : args = ⟨argv, []⟩)
    (hbind : ∀ s : Shared, (KF w).In s.heap → BindsTo s (fnOf name qual params body S dV kV doc pm an cdv ct) args binds) (hloc : ∀ y ∈ binds, S.names.lookup y.1 = some .local)
    (hv : B2 H binds.reverse vs) (hcell : ∀ x ∈ S.names, x.2 ≠ .cell) (hco : S.isCoroutine = false) (hgen : S.isGenerator = false) (hk : S.kind = .function)
    (h : ∀ (A' : Around) (env : Env) (s₀ s : Shared) (Q : Flow → Shared → Prop), Keep H s₀.heap → A'.depth = A.depth + 1 → Cx A' env S → St w s₀ [] [] s₀.heap env.locals vs [] s →
      (∀ v s', Keep s₀.heap s'.heap → Rest s₀ s' → V s₀.heap v s'.heap → Q (.ret v) s') → wpAny (model prg w) A' (execs body env) Q noE s)
    (hV : ∀ h h' v h₁, Keep h h' → V h' v h₁ → V h v h₁) : Cl w A H (.ref f) argv V := by
  intro s k
  subst ha
  refine wpAny_call (enter (T.keeps k) ho hcd hroom (hbind s (T.keeps k).kin) hloc (fun h₁ F => ?_) hcell hco hgen hk)
  refine h _ _ s _ _ k rfl ⟨rfl, hk, rfl, rfl, hh⟩ ⟨T.keeps k, F.keep, Xt.of_keep F.keep, rht, size_none _, .inr (size_none _), ⟨_, F.ns, fun y p e => (hv.mono k).get y p e, fun _ q => by cases q⟩, fun _ q => (by cases q), .nil, fun _ q => (by cases q)⟩
    fun v s' k' r' v' => ⟨k', r', fun h hk => hV _ _ _ _ hk v'⟩

theorem nw_mono {p : Vp} {h h' : Heap} {v : Value} {h₁ : Heap} (k : Keep h h') (x : Nw p h' v h₁) : Nw p h v h₁ := fun φ' n => x φ' fun b o e e' => n b o (none_back k e) e'

theorem St.append {x : Str} {p1 p2 p3 p4 : Pos} {e : Expr} {a : Addr} {ps : List Vp} {p : Vp} {Q : Flow → Shared → Prop} (h : St w s₀ Z B φ env.locals vs ow s) (C : Cx A env S) (hg : getO ow x = some (a, ps)) (hl : S.names.lookup x = some .local)
    (hz : ps.length ≤ 1000000) (he : Ev w A env s.heap e (Fz φ p))
    (hq : ∀ φ' s', Keep φ φ' → St w s₀ Z B φ' env.locals vs (setO ow x (ps ++ [p])) s' → Q .next s')
    (hs : starEach [e] env = (false, eval e env) :: starEach [] env := by rfl) {pl : Sem Bool} (hev : eval (.Call (.Attribute (.Name x p1) "append" p2) [e] [] p3) env = (do
      let ov ← eval (.Name x p1) env
      standAt p2.atName
      let (f, first) ← holding [ov] (getMethod ov "append" pl)
      callWith p3 f first (backTo p3 (starEach [e] env)) []) := by rfl) (hsw : swapsWith (.Call (.Attribute (.Name x p1) "append" p2) [e] [] p3) none p4.line env = pure false := by rfl)
    (hd : (x == ("__debug__" : Str)) = false := by decide) : wpAny (model prg w) A (exec (.Expr (.Call (.Attribute (.Name x p1) "append" p2) [e] [] p3) p4) env) Q noE s := by
  obtain ⟨m, hn, ha, hb⟩ := h.ns
  have mem := getO_mem hg
  obtain ⟨⟨us, hp, hA⟩, hφ, haL, haZ⟩ := h.own _ mem
  refine app hn (hb _ mem) C.k (C.of hl) hp (by rw [hA.length, sizeLine_eq]; exact Nat.le_trans hz (by decide)) he (fun v h₀ h₁ s' hv k₀ k₁ x' hp' r => ?_) hs hev C.ni hsw hd
  obtain ⟨φ', k1, k2, ⟨f1, f2, out⟩, k3⟩ := h.grow (k₀.trans k₁) (x'.mono fun b hb => by rw [List.mem_singleton.mp hb]; exact List.mem_cons_of_mem _ (List.mem_append_right _ (List.mem_map.mpr ⟨_, mem, rfl⟩)))
  have kk := k₀.trans k₁
  refine hq φ' s' k1 ⟨h.top.keeps k1, k2, fun b o hb' e' => x' b o (fun q => ?_) (kk b o (h.xt b o hb' e')), h.rest.trans r, f1, h.LZ,
    ⟨m, x'.ns (hn.keeps kk) fun q => haL (List.mem_singleton.mp q).symm, fun y q e => let ⟨v, hv, hp⟩ := ha y q e; ⟨v, hv, q.mono k1 hp⟩, fun d hd => ?_⟩, fun d hd => ?_, pair_map setO_addrs h.dis, fun b hb => ⟨f2 b hb, ⟨(h.bz b hb).2.1.1, fun d hd => ?_⟩, ?_⟩⟩
  · rw [List.mem_singleton.mp q] at hb' e'
    rcases haZ with z | z
    · exact hb' z
    · rw [z] at e'; cases e'
  · rcases setO_mem h.dis hg hd with rfl | ⟨hd, _⟩
    · exact hb (x, a, ps) mem
    · exact hb d hd
  · rcases setO_mem h.dis hg hd with rfl | ⟨hd, hne⟩
    · exact ⟨⟨_, hp', (hA.mono k1).append (.cons (hv φ' k1 fun b o e e' => k3 b o (none_back k₀ e) e') .nil)⟩, out (x, a, ps) mem, haL, haZ⟩
    · obtain ⟨⟨us', l, x⟩, b, c, d'⟩ := h.own d hd
      exact ⟨⟨us', plain_xt (plain_keeps l kk) x' fun q => hne (List.mem_singleton.mp q), x.mono k1⟩, out d hd, c, d'⟩
  · rcases setO_mem h.dis hg hd with rfl | ⟨hd, _⟩
    · exact (h.bz b hb).2.1.2 (x, a, ps) mem
    · exact (h.bz b hb).2.1.2 d hd
  · obtain ⟨o, e⟩ := (h.bz b hb).2.2
    by_cases q : b = a
    · obtain ⟨n, l⟩ := hp'; exact ⟨_, q ▸ l⟩
    · exact ⟨o, x' b o (fun z => q (List.mem_singleton.mp z)) (kk _ _ e)⟩

/-- x = e, e a new list: the frame's own -/
theorem St.newL {x : Str} {p1 pos : Pos} {e : Expr} {ps : List Vp} {Q : Flow → Shared → Prop} (h : St w s₀ Z B φ env.locals vs ow s) (C : Cx A env S)
    (he : Ev w A env s.heap e (fun h₀ v h₁ => ∃ a us, v = .ref a ∧ h₀.get? a = none ∧ h₁.PlainList a us.toArray ∧ A2 φ us ps)) (hl : S.names.lookup x = some .local) (hx : getO ow x = none) (hx2 : vs.lookup x = none)
    (hq : ∀ a s', St w s₀ Z B φ env.locals vs ((x, a, ps) :: ow) s' → Q .next s')
    (hs : swapsWith e (some (.Name x p1)) pos.line env = pure false := by rfl) : wpAny (model prg w) A (exec (.Assign [.Name x p1] e pos) env) Q noE s := by
  obtain ⟨m, hn, ha, hb⟩ := h.ns
  refine Mine.asg hn he C.k (C.of hl) (fun v h₁ s' hv k x' hn' r => ?_) hs
  obtain ⟨a, us, rfl, hnew, hl1, hA⟩ := hv
  have haL : a ≠ env.locals := fun q => by obtain ⟨o, es, ep, ho, _⟩ := hn; rw [q] at hnew; rw [show s.heap.get? env.locals = some o from ho] at hnew; cases hnew
  have hφ : φ.get? a = none := none_back h.kp hnew
  refine hq a s' ⟨h.top, fun b o e => x' b o (fun q => ?_) (k b o (h.kp b o e)), fun b o hb' e => x' b o (fun q => ?_) (k b o (h.xt b o hb' e)), h.rest.trans r, h.L0, h.LZ,
    ⟨_, hn', fun y q e' => ?_, fun d hd => ?_⟩, fun d hd => ?_, List.pairwise_cons.mpr ⟨fun d hd q => ?_, h.dis⟩, fun b hb => ⟨(h.bz b hb).1, ⟨(h.bz b hb).2.1.1, fun d hd => ?_⟩, ex_xt x' hn' (let ⟨o, e⟩ := (h.bz b hb).2.2; ⟨o, k _ _ e⟩)⟩⟩
  · rw [List.mem_singleton.mp q, h.L0] at e; cases e
  · rw [List.mem_singleton.mp q] at hb' e
    rcases h.LZ with z | z
    · exact hb' z
    · rw [z] at e; cases e
  · obtain ⟨u, hu, hp⟩ := ha y q e'
    exact ⟨u, (if_neg fun q => by rw [q, hx2] at e'; cases e').trans hu, hp⟩
  · rcases List.mem_cons.mp hd with rfl | hd
    · exact if_pos rfl
    · exact (if_neg fun q => getO_none hx hd q).trans (hb d hd)
  · rcases List.mem_cons.mp hd with rfl | hd
    · refine ⟨⟨us, plain_xt hl1 x' fun q => haL (List.mem_singleton.mp q), hA⟩, hφ, haL, ?_⟩
      by_cases hz : a ∈ Z
      · exact .inl hz
      · refine .inr ?_
        cases hq : s₀.heap.get? a with
        | none => rfl
        | some o => rw [h.xt a o hz hq] at hnew; cases hnew
    · obtain ⟨⟨us', l, x⟩, b, c, d'⟩ := h.own d hd
      exact ⟨⟨us', plain_xt (plain_keeps l k) x' fun q => c (List.mem_singleton.mp q), x⟩, b, c, d'⟩
  · obtain ⟨⟨us', ⟨n, l⟩, x⟩, _⟩ := h.own d hd
    have q' : a = d.2.1 := q
    rw [q', l] at hnew
    cases hnew
  · rcases List.mem_cons.mp hd with rfl | hd
    · intro q
      obtain ⟨o, e⟩ := (h.bz b hb).2.2
      have q' : a = b := q
      rw [← q', hnew] at e
      cases e
    · exact (h.bz b hb).2.1.2 d hd


theorem St.base {φ' : Heap} (h : St w s₀ Z B φ L vs ow s) (k : Keep φ φ') (k' : Keep φ' s.heap) (f : φ'.get? L = none ∧ (∀ b ∈ B, φ'.get? b = none) ∧ ∀ e ∈ ow, φ'.get? e.2.1 = none) : St w s₀ Z B φ' L vs ow s :=
  ⟨h.top.keeps k, k', h.xt, h.rest, f.1, h.LZ, let ⟨m, n, a, b⟩ := h.ns; ⟨m, n, fun y q e => let ⟨v, hv, hp⟩ := a y q e; ⟨v, hv, q.mono k hp⟩, b⟩,
    fun d hd => let ⟨⟨us, l, x⟩, _, c⟩ := h.own d hd; ⟨⟨us, l, x.mono k⟩, f.2.2 d hd, c⟩, h.dis, fun b hb => ⟨f.2.1 b hb, (h.bz b hb).2⟩⟩

/-- a busy object turned, and no more busy -/
theorem St.unb {I : Addr} {s' : Shared} (h : St w s₀ Z (I :: B) φ L vs ow s) (hI : I ∈ Z ∨ s₀.heap.get? I = none) (x : Xt [I] s.heap s'.heap) (r : Rest s s') (hB : I ∉ B) : St w s₀ Z B φ L vs ow s' := by
  obtain ⟨b1, b2, _⟩ := h.bz I (.head _)
  refine ⟨h.top, fun b o e => x b o (fun q => ?_) (h.kp b o e), fun b o hb e => x b o (fun q => ?_) (h.xt b o hb e), h.rest.trans r, h.L0, h.LZ, ?_, fun d hd => ?_, h.dis, fun b hb => ?_⟩
  · rw [List.mem_singleton.mp q, b1] at e; cases e
  · rw [List.mem_singleton.mp q] at hb e
    rcases hI with z | z
    · exact hb z
    · rw [z] at e; cases e
  · obtain ⟨m, n, a⟩ := h.ns
    exact ⟨m, x.ns n fun q => b2.1 (List.mem_singleton.mp q).symm, a⟩
  · obtain ⟨⟨us, l, y⟩, c⟩ := h.own d hd
    exact ⟨⟨us, plain_xt l x fun q => b2.2 d hd (List.mem_singleton.mp q), y⟩, c⟩
  · obtain ⟨y, z, o, e⟩ := h.bz b (.tail _ hb)
    exact ⟨y, z, o, x b o (fun q => hB (List.mem_singleton.mp q ▸ hb)) e⟩
theorem St.addb {I : Addr} (h : St w s₀ Z B φ L vs ow s) (x : φ.get? I = none) (y : I ≠ L ∧ ∀ e ∈ ow, e.2.1 ≠ I) (e : ∃ o, s.heap.get? I = some o) : St w s₀ Z (I :: B) φ L vs ow s :=
  { h with bz := fun b hb => (List.mem_cons.mp hb).elim (fun q => q ▸ ⟨x, y, e⟩) (h.bz b) }
theorem St.drop {I : Addr} (h : St w s₀ Z (I :: B) φ L vs ow s) : St w s₀ Z B φ L vs ow s := { h with bz := fun b hb => h.bz b (.tail _ hb) }

/-- an iterator that hands out no tuple of its own -/
noncomputable def PlainIt (o : Obj) : Prop := ∀ n, o.cls = .type n → (["enumerate", "zip", "dict_itemiterator", "dict_reverseitemiterator", "odict_iterator", "itertools.zip_longest", "itertools.pairwise"].contains n) = false
theorem plainIt {o : Obj} {n : String} (h : o.cls = .type n) (e : (["enumerate", "zip", "dict_itemiterator", "dict_reverseitemiterator", "odict_iterator", "itertools.zip_longest", "itertools.pairwise"].contains n) = false) : PlainIt o := fun m q => by
  rw [h] at q; cases q; exact e
/-- what the loop's source walks over -/
noncomputable def Itr (w : World) (A : Around) (φ : Heap) (s : Shared) (v : Value) (n : Nat) (pI : Nat → Vp) : Prop :=
  ∀ Q : Value → Shared → Prop, (∀ (o : Obj) (fp : List Addr) (P : Nat → Value → Prop) (W : Nat → Heap → Prop), Walks prg w A s.heap.objs.size fp [s.heap.objs.size] n P W → (∀ b ∈ fp, b = s.heap.objs.size ∨ ∃ o, φ.get? b = some o) →
    (∀ i u, P i u → (pI i).p φ u) → W 0 (s.heap.push o) → (∀ i h, W i h → ∃ o, h.get? s.heap.objs.size = some o ∧ PlainIt o) → Q (.ref s.heap.objs.size) { s with heap := s.heap.push o }) → wpAny (model prg w) A (pyIter v) Q noE s

theorem sign_at {x : List Nat} {i : Nat} {u : Value} (h : SignAt (st x) i u) : (VS (x.drop i |>.take 1)).p φ u := by
  obtain ⟨c, t', hc, hu⟩ := h
  refine ⟨t', ?_⟩
  have hc' : x[i]? = some c := by simpa [st] using hc
  obtain ⟨hlt, rfl⟩ := List.getElem?_eq_some_iff.mp hc'
  rw [hu, List.drop_eq_getElem_cons hlt]
  rfl
theorem itr_str {x : List Nat} {v : Value} (hh : A.handled = none) (hv : (VS x).p φ v) : Itr w A φ s v x.length (fun i => VS (x.drop i |>.take 1)) := by
  obtain ⟨t, rfl⟩ := hv
  intro Q hq
  have e : (st x).cps.size = x.length := st_len x
  have one : ∀ b ∈ ([s.heap.objs.size] : List Addr), b = s.heap.objs.size ∨ ∃ o, φ.get? b = some o := fun b hb => .inl (List.mem_singleton.mp hb)
  cases ha : (st x).cps.all (· < 128)
  · have W := Walks.strWide (prog := prg) (w := w) hh s.heap.objs.size (st x) t
    rw [e] at W
    exact wpAny_pyIter_wide ha (hq _ _ _ _ W one (fun i u => sign_at) ⟨_, Heap.get?_push_size _ rfl, rfl, rfl⟩ fun i h ⟨o, ho, hc, _⟩ => ⟨o, ho, plainIt hc (by decide)⟩)
  · have W := Walks.strAscii (prog := prg) (w := w) hh s.heap.objs.size (st x) t
    rw [e] at W
    exact wpAny_pyIter_ascii ha (hq _ _ _ _ W one (fun i u => sign_at) ⟨_, Heap.get?_push_size _ rfl, rfl, rfl⟩ fun i h ⟨o, ho, hc, _⟩ => ⟨o, ho, plainIt hc (by decide)⟩)
theorem itr_list {ps : List Vp} {v : Value} (hh : A.handled = none) (k : Keep φ s.heap) (hv : (VL ps).p φ v) : Itr w A φ s v ps.length (fun i => ps.getD i VN) := by
  obtain ⟨a, us, rfl, hl, hA⟩ := hv
  intro Q hq
  have hl' : s.heap.IsList a us.toArray := hl.mono k
  refine wpAny_pyIter_list hl' ?_
  obtain ⟨o, ho, _⟩ := id hl'
  have hne : a ≠ s.heap.objs.size := fun q => by have := Heap.lt_size ho; rw [q] at this; exact absurd this (Nat.lt_irrefl _)
  have W := Walks.list (prog := prg) (w := w) hh s.heap.objs.size a hne us.toArray
  have ez : us.toArray.size = ps.length := hA.length
  rw [ez] at W
  refine hq _ _ _ _ W (fun b hb => ?_) (fun i u e => ?_) ⟨⟨_, Heap.get?_push_size _ rfl, rfl, rfl⟩, hl'.push _⟩ fun i h ⟨⟨o, ho, hc, _⟩, _⟩ => ⟨o, ho, plainIt hc (by decide)⟩
  · rcases List.mem_cons.mp hb with hb | hb
    · exact .inl hb
    · rw [List.mem_singleton.mp hb]
      obtain ⟨o, ho, _⟩ := hl
      exact .inr ⟨_, ho⟩
  · have hu : us[i]? = some u := by simpa using e
    have hi : i < ps.length := by rw [← hA.length]; exact (List.getElem?_eq_some_iff.mp hu).1
    obtain ⟨v, hv, hp⟩ := hA.get (List.getElem?_eq_getElem hi)
    rw [hu] at hv
    cases hv
    have : ps.getD i VN = ps[i] := by rw [List.getD_eq_getElem?_getD, List.getElem?_eq_getElem hi]; rfl
    show (ps.getD i VN).p φ u
    rw [this]
    exact hp

/-- the target of a loop takes its value -/
noncomputable def Tgt (w : World) (A : Around) (env : Env) (target : Expr) (p : Vp) (vs vs' : List (Str × Vp)) (ow : List (Str × Addr × List Vp)) : Prop :=
  ∀ (s₀ s : Shared) (Z B : List Addr) (φ : Heap) (I : Addr) (v : Value) (Q : Unit → Shared → Prop), St w s₀ Z B φ env.locals vs ow s → I ∈ B → (∃ o, s.heap.get? I = some o ∧ PlainIt o) → p.p φ v → (∀ s', St w s₀ Z B φ env.locals vs' ow s' → Xt [env.locals] s.heap s'.heap → Q () s') →
    wpAny (model prg w) A (letOwnedTupleGo target (.ref I) v) (fun _ s₁ => wpAny (model prg w) A (assign target env v) Q noE s₁) noE s

theorem St.putX {x : Str} {p : Vp} {v : Value} {s' : Shared} {m : Str → Option Value} (h : St w s₀ Z B φ L vs ow s) (hx : getO ow x = none) (hv : p.p φ v)
    (hm : (∀ x p, vs.lookup x = some p → ∃ v, m x = some v ∧ p.p φ v) ∧ ∀ e ∈ ow, m e.1 = some (.ref e.2.1)) (n : s'.heap.Ns L (fun y => if y = x then some v else m y)) (x' : Xt [L] s.heap s'.heap) (r : Rest s s') : St w s₀ Z B φ L ((x, p) :: vs) ow s' := by
  refine ⟨h.top, fun b o e => x' b o (fun q => ?_) (h.kp b o e), fun b o hb e => x' b o (fun q => ?_) (h.xt b o hb e), h.rest.trans r, h.L0, h.LZ, ⟨_, n, fun y q e => ?_, fun d hd => ?_⟩, fun d hd => ?_, h.dis, fun b hb => ?_⟩
  · rw [List.mem_singleton.mp q, h.L0] at e; cases e
  · rw [List.mem_singleton.mp q] at hb e
    rcases h.LZ with z | z
    · exact hb z
    · rw [z] at e; cases e
  · rw [List.lookup_cons] at e
    by_cases hy : y = x
    · subst hy
      rw [beq_self_eq_true] at e
      cases e
      exact ⟨v, if_pos rfl, hv⟩
    · rw [show (y == x) = false from by simpa using hy] at e
      obtain ⟨u, hu, hp⟩ := hm.1 y q e
      exact ⟨u, (if_neg hy).trans hu, hp⟩
  · exact (if_neg fun q => getO_none hx hd q).trans (hm.2 d hd)
  · obtain ⟨⟨us, l, a⟩, b, c, d'⟩ := h.own d hd
    exact ⟨⟨us, plain_xt l x' fun q => c (List.mem_singleton.mp q), a⟩, b, c, d'⟩
  · obtain ⟨y, z, o, e⟩ := h.bz b hb
    exact ⟨y, z, o, x' b o (fun q => z.1 (List.mem_singleton.mp q)) e⟩

theorem St.put {x : Str} {p : Vp} {v : Value} {h' : Heap} {t : Nat} {m : Str → Option Value} (h : St w s₀ Z B φ L vs ow s) (hx : getO ow x = none) (hv : p.p φ v)
    (hm : (∀ x p, vs.lookup x = some p → ∃ v, m x = some v ∧ p.p φ v) ∧ ∀ e ∈ ow, m e.1 = some (.ref e.2.1)) (n : h'.Ns L (fun y => if y = x then some v else m y)) (sb : Heap.SameBut L s.heap h') : St w s₀ Z B φ L ((x, p) :: vs) ow { s with heap := h', toks := t } :=
  h.putX hx hv hm n (Xt.of_same sb (List.mem_singleton.mpr rfl)) rht

theorem tgt_name {x : Str} {px : Pos} {p : Vp} (C : Cx A env S) (hl : S.names.lookup x = some .local) (hx : getO ow x = none) : Tgt w A env (.Name x px) p vs ((x, p) :: vs) ow := by
  intro s₀ s Z B φ I v Q h _ _ hv hq
  obtain ⟨m, hn, hm⟩ := h.ns
  refine wpAny_pure (wpAny_assign_Name (wpAny_storeName_local (C.of hl) hn (fun h' hn' hs' => hq _ (h.put hx hv hm hn' hs') (Xt.of_same hs' (List.mem_singleton.mpr rfl))) (by rw [C.k]; rfl)))

/-- for x in e: body -/
theorem St.for {target : Expr} {pos : Pos} {iter : Expr} {body : List Stmt} {p : Vp} {n : Nat} {pI : Nat → Vp} {Q : Flow → Shared → Prop} (h : St w s₀ Z B φ env.locals vs ow s)
    (he : Ev w A env s.heap iter (Fz φ p)) (hI : ∀ φ' v s', Keep φ φ' → Keep φ' s'.heap → p.p φ' v → Itr w A φ' s' v n pI)
    (vsI vsB : Nat → List (Str × Vp)) (owI : Nat → List (Str × Addr × List Vp)) (h0 : Sub (vsI 0) vs) (ho : owI 0 = ow) (ht : ∀ i, Tgt w A env target (pI i) (vsI i) (vsB i) (owI i))
    (step : ∀ i I φ₁ s₁, i < n → Keep φ φ₁ → St w s₁ (env.locals :: (owI i).map (·.2.1)) (I :: B) φ₁ env.locals (vsB i) (owI i) s₁ →
      (∀ vs' ow' φ' s', St w s₁ (env.locals :: (owI i).map (·.2.1)) (I :: B) φ' env.locals vs' ow' s' → St w s₀ Z B φ' env.locals vs' ow' s') →
      wpAny (model prg w) A (execs body env) (fun f s₂ => match f with
        | .next | .cont => ∃ φ₂, Keep φ₁ φ₂ ∧ St w s₁ (env.locals :: (owI i).map (·.2.1)) (I :: B) φ₂ env.locals (vsI (i + 1)) (owI (i + 1)) s₂
        | .brk => Q .next s₂
        | .ret v => Q (.ret v) s₂) noE s₁)
    (fin : ∀ φ₁ s₁, Keep φ φ₁ → St w s₀ Z B φ₁ env.locals (vsI n) (owI n) s₁ → Q .next s₁)
    (hs : ∀ v, foldedSetIterable iter env v = pure v := by intro _; rfl) :
    wpAny (model prg w) A (exec (.For target iter body [] pos) env) Q noE s := by
  refine wpAny_For (he.use (Keep.refl _) fun v s₁ k₁ r₁ hv => ?_) hs
  obtain ⟨φ', kφ, kφ', hf, k3⟩ := h.grow k₁ (Xt.refl _ _)
  have h₁ : St w s₀ Z B φ' env.locals vs ow s₁ := (h.step k₁ r₁).base kφ kφ' hf
  refine hI φ' v s₁ kφ kφ' (hv φ' kφ k3) _ fun o fp P W hW hfp hP hW0 hWo => ?_
  have hsn : s₁.heap.get? s₁.heap.objs.size = none := size_none _
  have gone : ∀ {b : Addr} {o : Obj}, s₁.heap.get? b = some o → b ≠ s₁.heap.objs.size := fun e q => by rw [q, hsn] at e; cases e
  have hIφ : φ'.get? s₁.heap.objs.size = none := none_back kφ' hsn
  have hIZ : s₁.heap.objs.size ∈ Z ∨ s₀.heap.get? s₁.heap.objs.size = none := by
    by_cases hz : s₁.heap.objs.size ∈ Z
    · exact .inl hz
    · refine .inr ?_
      cases hq : s₀.heap.get? s₁.heap.objs.size with
      | none => rfl
      | some o => rw [h₁.xt _ o hz hq] at hsn; cases hsn
  have hIB : s₁.heap.objs.size ∉ B := fun q => by obtain ⟨_, _, o, e⟩ := h₁.bz _ q; exact gone e rfl
  have kp : Keep s₁.heap (s₁.heap.push o) := fun b o e => Heap.get?_push_of_some _ e
  have h₂ := (h₁.weak h0).step (s' := { s₁ with heap := s₁.heap.push o }) kp rht
  have hne : ∀ e ∈ ow, e.2.1 ≠ s₁.heap.objs.size := fun e he => by obtain ⟨⟨us, ⟨n, l⟩, _⟩, _⟩ := h₁.own e he; exact gone l
  have hLI : env.locals ≠ s₁.heap.objs.size := by obtain ⟨m, ⟨o, es, ep, ho, _⟩, _⟩ := h₁.ns; exact gone ho
  have hSt : St w s₀ Z (s₁.heap.objs.size :: B) φ' env.locals (vsI 0) (owI 0) { s₁ with heap := s₁.heap.push o } := by
    rw [ho]
    exact h₂.addb hIφ ⟨fun q => hLI q.symm, hne⟩ (let ⟨o, e, _⟩ := hWo _ _ hW0; ⟨o, e⟩)
  refine codeAny_forLoop_any (fun k s' => ∃ i φ₂, k = n - i ∧ i ≤ n ∧ Keep φ' φ₂ ∧ W i s'.heap ∧ St w s₀ Z (s₁.heap.objs.size :: B) φ₂ env.locals (vsI i) (owI i) s') ?_ n
    ⟨0, φ', rfl, Nat.zero_le _, Keep.refl _, hW0, hSt⟩
  rintro k s' ⟨i, φ₂, rfl, hi, k₂, hWi, hS⟩
  rcases Nat.lt_or_ge i n with hlt | hge
  · refine hW.item i s' _ _ hlt hWi fun v h' tk hPv hW' hk => ?_
    have hS' : St w s₀ Z B φ₂ env.locals (vsI i) (owI i) { s' with heap := h', toks := tk } := hS.unb hIZ (fun b o hb e => hk b o hb e) rht hIB
    obtain ⟨bx, by1, _⟩ := hS.bz _ (.head _)
    have hS2 := hS'.addb bx by1 (let ⟨o, e, _⟩ := hWo _ _ hW'; ⟨o, e⟩)
    refine fromNoE (wpAny_mono (ht i s₀ _ Z _ φ₂ s₁.heap.objs.size v (fun _ s₅ => wpAny (model prg w) A (execs body env) (fun f s₃ => match f with
          | .next | .cont => ∃ m, m < n - i ∧ ∃ i φ₂, m = n - i ∧ i ≤ n ∧ Keep φ' φ₂ ∧ W i s₃.heap ∧ St w s₀ Z (s₁.heap.objs.size :: B) φ₂ env.locals (vsI i) (owI i) s₃
          | .brk => Q .next s₃
          | .ret v => Q (.ret v) s₃) noE s₅) hS2 (.head _) (hWo _ _ hW') ((pI i).mono k₂ (hP i v hPv)) fun s₅ hS5 x5 => ?_) (fun _ _ y => fromNoE (wpAny_mono y (fun _ _ z => fromNoE z) fun _ _ z => z)) fun _ _ z => z)
    have goes : ∀ s₆, (∃ φ₃, Keep φ₂ φ₃ ∧ St w s₅ (env.locals :: (owI i).map (·.2.1)) (s₁.heap.objs.size :: B) φ₃ env.locals (vsI (i + 1)) (owI (i + 1)) s₆) →
        ∃ m, m < n - i ∧ ∃ i φ₂, m = n - i ∧ i ≤ n ∧ Keep φ' φ₂ ∧ W i s₆.heap ∧ St w s₀ Z (s₁.heap.objs.size :: B) φ₂ env.locals (vsI i) (owI i) s₆ := fun s₆ ⟨φ₃, k₃, h6⟩ => by
      refine ⟨n - (i + 1), Nat.sub_lt_sub_left hlt (Nat.lt_succ_self i), i + 1, φ₃, rfl, hlt, k₂.trans k₃, hW.frame _ _ _ hW' fun b hb o e => ?_, hS5.back h6⟩
      rcases hfp b hb with q | ⟨o', e'⟩
      · have e5 := x5 b o (fun z => by1.1 (q.symm.trans (List.mem_singleton.mp z))) e
        refine h6.xt b o (fun z => ?_) e5
        rcases List.mem_cons.mp z with z | z
        · exact by1.1 (q.symm.trans z)
        · obtain ⟨d, hd, z⟩ := List.mem_map.mp z
          exact by1.2 d hd (z.trans q)
      · have : o = o' := Option.some.inj (e.symm.trans (hS'.kp _ _ (k₂ _ _ e')))
        rw [this]
        exact h6.kp _ _ (k₃ _ _ (k₂ _ _ e'))
    refine wpAny_mono (step i _ φ₂ s₅ hlt (kφ.trans k₂) hS5.mark fun _ _ _ _ h' => (hS5.back h').drop) (fun f s₆ h6 => ?_) fun _ _ z => z
    cases f with
    | next => exact goes s₆ h6
    | cont => exact goes s₆ h6
    | brk => exact h6
    | ret v => exact h6
  · obtain rfl : i = n := Nat.le_antisymm hi hge
    exact hW.done s' _ _ hWi fun h' tk hk => wpAny_execs_nil (fin φ₂ _ (kφ.trans k₂) (hS.unb hIZ (fun b o hb e => hk b o hb e) rht hIB))
end
end Mine
namespace Mine
open Sem (wp)

/-- the search of bisect_left, of bisect_right -/
noncomputable def bisG (t : Int → Bool) (a : List Int) : Nat → Nat → Nat → Nat
  | 0, lo, _ => lo
  | n + 1, lo, hi => if lo < hi then (if t (a.getD ((lo + hi) / 2) 0) then bisG t a n ((lo + hi) / 2 + 1) hi else bisG t a n lo ((lo + hi) / 2)) else lo
noncomputable def bisL (a : List Int) (x : Int) : Nat := bisG (fun y => decide (y < x)) a a.length 0 a.length
noncomputable def bisR (a : List Int) (x : Int) : Nat := bisG (fun y => !decide (x < y)) a a.length 0 a.length
theorem bis_le (t : Int → Bool) (a : List Int) : ∀ n lo hi, lo ≤ hi → bisG t a n lo hi ≤ hi
  | 0, lo, hi, h => h
  | n + 1, lo, hi, h => by
    unfold bisG
    split
    · rename_i hlt
      have : (lo + hi) / 2 < hi := by omega
      split
      · exact bis_le t a n _ hi this
      · exact Nat.le_trans (bis_le t a n lo _ (by omega)) (Nat.le_of_lt this)
    · exact h

section
variable {w : World} {A : Around} {env : Env} {S : Scope} {s₀ s : Shared} {Z B : List Addr} {φ : Heap} {vs : List (Str × Vp)} {ow : List (Str × Addr × List Vp)} {L : Addr} {β : Type}

theorem while' {test : Expr} {body : List Stmt} {pos : Pos} {Q : Flow → Shared → Prop} (I : Nat → Shared → Prop) (n : Nat) (h : I n s)
    (turn : ∀ n s, I n s → ∃ b, Ts w A env s.heap test b ∧ ∀ s', Keep s.heap s'.heap → Rest s s' → if b = true then wpAny (model prg w) A (execs body env) (fun f s₃ => match f with
      | .next | .cont => ∃ m, m < n ∧ I m s₃
      | .brk => Q .next s₃
      | .ret v => Q (.ret v) s₃) noE s' else Q .next s') : wpAny (model prg w) A (exec (.While test body [] pos) env) Q noE s := by
  refine wpAny_While (codeAny_whileLoop I (fun n s hI => ?_) n h)
  obtain ⟨b, ht, hb⟩ := turn n s hI
  refine fromNoE (ht.use (Keep.refl _) fun c s' k r e => ?_)
  subst e
  have := hb s' k r
  cases c with
  | true => exact fromNoE (wpAny_mono this (fun f s₃ h₃ => by cases f <;> exact h₃) fun _ _ z => z)
  | false => exact wpAny_execs_nil this

theorem fzI {H : Heap} {e : Expr} {i : Int} (h : Ev w A env H e (IsI i)) : Ev w A env H e (Fz φ (VI i)) := h.mono (Keep.refl _) fun _ _ _ _ _ x _ _ _ => x
theorem fzS {H : Heap} {e : Expr} {x : List Nat} (h : Ev w A env H e (IsS (st x))) : Ev w A env H e (Fz φ (VS x)) := h.mono (Keep.refl _) fun _ _ _ _ _ x _ _ _ => x
theorem St.nF {x : Str} {pos : Pos} {p : Vp} (h : St w s₀ Z B φ env.locals vs ow s) (C : Cx A env S) (e : vs.lookup x = some p) (hl : S.names.lookup x = some .local) (hd : (x == ("__debug__" : Str)) = false := by decide) :
    Ev w A env s.heap (.Name x pos) (fun _ v h₁ => p.p h₁ v) := (h.nm C e hl hd).mono (Keep.refl _) fun _ _ _ k k' q => p.mono (h.kp.trans (k.trans k')) q
theorem St.nZ {x : Str} {pos : Pos} {p : Vp} (h : St w s₀ Z B φ env.locals vs ow s) (C : Cx A env S) (e : vs.lookup x = some p) (hl : S.names.lookup x = some .local) (hd : (x == ("__debug__" : Str)) = false := by decide) :
    Ev w A env s.heap (.Name x pos) (Fz φ p) := (h.nm C e hl hd).mono (Keep.refl _) fun _ _ _ _ _ q _ k _ => p.mono k q
theorem St.tp (h : St w s₀ Z B φ env.locals vs ow s) : TopOk w s.heap := h.top.keeps h.kp
theorem St.len {p : Pos} (h : St w s₀ Z B φ env.locals vs ow s) (C : Cx A env S) (hl : S.names.lookup ("len" : Str) = some .globalImplicit) : Ev w A env s.heap (.Name "len" p) (IsV (.builtin "len")) :=
  Ev.builtin h.tp C.k (C.of hl) C.gl C.bl (by kernel_rfl) boot_len (by decide)
theorem St.keepE (h : St w s₀ [] B φ L vs ow s) : Keep s₀.heap s.heap := fun b o e => h.xt b o (fun q => by cases q) e

theorem Ev.idxL {H : Heap} {value slice : Expr} {pos : Pos} {ps : List Vp} {p : Vp} {i : Nat} (hv : Ev w A env H value (fun _ v h₁ => (VL ps).p h₁ v)) (hi : Ev w A env H slice (IsI (i : Int))) (h : ps[i]? = some p) (hsz : i < 1000000)
    (hs : ∀ o k u, subscripted slice false o (.int k u) = operate [o, .int k u] (getItem o (.int k u)) := by intro _ _ _; with_unfolding_all rfl)
    (ht : ∀ o r, letTemporaryGo value o r = pure () := by intro _ _; with_unfolding_all rfl) : Ev w A env H (.Subscript value slice pos) (fun _ v h₁ => p.p h₁ v) := fun s k =>
  Subscript_ (hv.use k fun v s₁ k₁ r₁ h₁ => hi.use (k.trans k₁) fun u s₂ k₂ r₂ h₂ => by
    obtain ⟨a, us, rfl, hl, hA⟩ := h₁
    obtain ⟨t2, rfl⟩ := h₂
    obtain ⟨x, hx, hp⟩ := hA.get h
    have hl' : Heap.IsList _ a us.toArray := hl.mono k₂
    refine subscriptTail_builtin hl'.typeIs slot_list_getitem.lookup (wpAny_getItem_list hl' (by omega) (by omega) (x := x) ?_ ⟨k₁.trans k₂, r₁.trans r₂, p.mono k₂ hp⟩) (hs _ _ _) (ht _)
    simpa using hx)

theorem Ev.lenL {H : Heap} {p pos : Pos} {e : Expr} {ps : List Vp} (hf : Ev w A env H (.Name "len" p) (IsV (.builtin "len"))) (he : Ev w A env H e (fun _ v h₁ => (VL ps).p h₁ v)) (hx : ps.length ≤ 1000000)
    (hs : starEach [e] env = (false, eval e env) :: starEach [] env := by rfl) : Ev w A env H (.Call (.Name "len" p) [e] [] pos) (IsI ps.length) :=
  Ev.bcall hf (as1 he hs) (fun vs h₁ h₂ ⟨v, e1, a, us, e2, hl, hA⟩ _ _ s k => by
    subst e1 e2
    have hl' : Heap.IsList _ a us.toArray := hl.mono k
    have ez : us.toArray.size = ps.length := hA.length
    exact PyProof.Rows.len_list hl' (by rw [ez]; omega) ⟨Keep.refl _, rht, fun _ _ => ⟨_, by rw [ez]⟩⟩) hs

theorem asI {i : Nat} {ns : List Int} {k : Int} (h : ns[i]? = some k) : (ns.map VI)[i]? = some (VI k) := by rw [List.getElem?_map, h]; rfl

/-- what the row of names at D holds -/
theorem ns_of {h : Heap} {D : Addr} {mg : Str → Option Value} {n : Str} {v : Value} (X : (KF w).In h) (G : h.Ns D mg) (e : nsIn (KF w) D n = some (some v)) : mg n = some v := by
  obtain ⟨o, es, ep, at', hd, _, look⟩ := G
  unfold nsIn at e
  cases q : (KF w).lookup D with
  | none => rw [q] at e; cases e
  | some o' =>
    obtain rfl : o' = o := Option.some.inj ((X D o' q).symm.trans at')
    obtain ⟨c, d, dt, sl⟩ := o'
    obtain rfl : dt = .dict es ep := hd
    rw [q] at e
    have f : (es.find? fun z => z.key.isStr n).map (·.val) = mg n := look n
    rw [← f, ← Array.find?_toList]
    dsimp only at e
    cases p : es.toList.find? (·.key.isStr n) with
    | none => rw [p] at e; dsimp only at e; split at e <;> cases e
    | some z => rw [p] at e; cases e; rfl

/-- the defaults of a def of bisect -/
theorem dfl_key {M : Model} {D : Addr} {s : Shared} {k2 : Option Value → Sem β} {Q : β → Shared → Prop} {E : Value → Shared → Prop} (X : (KF w).In s.heap) (e : nsOkIn (KF w) D = true) (q : nsIn (KF w) D "key" = some (some .none))
    (h : wpAny M A (k2 (some .none)) Q E s) : wpAny M A (nsGet D "key" >>= k2) Q E s := by
  have G := Heap.Ns.of_isNs (isNs_of_in X e)
  refine wpAny_bind (wpAny_nsGet G ?_)
  rw [ns_of X G q]
  exact h

theorem iteT {c : Bool} {P P' : Prop} (hc : c = true) (h : P) : if c = true then P else P' := by rw [if_pos hc]; exact h
theorem iteF {c : Bool} {P P' : Prop} (hc : c = false) (h : P') : if c = true then P else P' := by rw [hc]; exact h
theorem dT {p : Prop} [Decidable p] (h : p) : decide p = true := decide_eq_true h
theorem dF {p : Prop} [Decidable p] (h : ¬ p) : decide p = false := decide_eq_false h
theorem fuel_lo {t : Int → Bool} {a : List Int} {n lo hi : Nat} (h : ¬ lo < hi) : bisG t a n lo hi = lo := by
  cases n with
  | zero => rfl
  | succ n => unfold bisG; rw [if_neg h]
theorem mid_int (lo hi : Nat) : ((lo : Int) + (hi : Int)).fdiv 2 = ((lo + hi) / 2 : Nat) := by
  rw [Int.fdiv_eq_ediv_of_nonneg _ (by decide)]; rfl
theorem lt_nat (a b : Nat) : decide ((a : Int) < (b : Int)) = decide (a < b) := by simp
theorem suc_nat (a : Nat) : (a : Int) + 1 = ((a + 1 : Nat) : Int) := rfl

theorem cl_bisL {H : Heap} {a : List Int} {x : Int} {va vx : Value} (T : TopOk w H) (hh : A.handled = none) (hroom : A.depth + 10 < recursionLimit) (hva : (VL (a.map VI)).p H va) (hvx : (VI x).p H vx) (hz : a.length ≤ 1000) :
    Cl w A H (.ref 48) [va, vx] (IsI (bisL a x)) := by
  refine enterS (vs := [("key", VN), ("hi", VN), ("lo", VI 0), ("x", VI x), ("a", VL (a.map VI))]) T hh rfl (by kernel_rfl) (Nat.lt_of_le_of_lt (Nat.le_add_right _ _) hroom) rfl
    (binds := [("a", va), ("x", vx), ("lo", .int 0 232), ("hi", .none), ("key", .none)]) (fun s X M A E Q' hq => by
      show wpAny M A (seqItems? (.ref 40) >>= _) _ _ _
      refine wpAny_bind (wpAny_seqItems (X 40 _ rfl) rfl ?_)
      show wpAny M A (((nsGet 41 "key" >>= _) >>= _) >>= _) _ _ _
      refine wpAny_bind (wpAny_bind (dfl_key X (by kernel_rfl) (by kernel_rfl) ?_))
      repeat (first | exact hq | refine wpAny_pure ?_)) (locs rfl)
    (.cons rfl (.cons rfl (.cons ⟨_, rfl⟩ (.cons hvx (.cons hva .nil))))) (by decide) rfl rfl rfl ?_ fun _ _ _ _ _ q => q
  intro A' env s₀ s Q k hd C h hQ
  refine seq (ifs (Ts.ltI (h.nI C rfl rfl) Ev.cint) fun s₁ k₁ r₁ => ?_)
  refine iteF (by decide) (sq0 ?_)
  have h1 := h.step k₁ r₁
  refine seq (ifs (Ts.isNone (v := .none) (h1.nm (p := VN) C rfl rfl)) fun s₂ k₂ r₂ => ?_)
  refine iteT rfl ?_
  have h2 := h1.step k₂ r₂
  refine seq (h2.asg C (fzI (Ev.lenL (h2.len C rfl) (h2.nF C rfl rfl) (by rw [List.length_map]; omega))) rfl rfl fun φ₃ s₃ q₃ h3 => ?_)
  rw [List.length_map] at h3
  refine sq0 (seq (ifs (Ts.isNone (v := .none) (h3.nm (p := VN) C rfl rfl)) fun s₄ k₄ r₄ => ?_))
  refine iteT rfl ?_
  have h4 := h3.step k₄ r₄
  refine seq (while' (fun n s' => ∃ φ lo hi, (hi - lo ≤ n ∧ hi ≤ a.length ∧ lo ≤ hi) ∧ bisG (fun y => decide (y < x)) a n lo hi = bisL a x ∧
    St w s₀ [] [] φ env.locals [("lo", VI (lo : Nat)), ("hi", VI (hi : Nat)), ("a", VL (a.map VI)), ("x", VI x)] [] s') a.length
    ⟨φ₃, 0, a.length, ⟨Nat.sub_le _ _, Nat.le_refl _, Nat.zero_le _⟩, rfl, h4.weak (.cons rfl (.cons rfl (.cons rfl (.cons rfl .nil))))⟩ ?_)
  rintro n s₅ ⟨φ, lo, hi, ⟨g1, g2, g3⟩, g4, h5⟩
  refine ⟨_, Ts.ltI (h5.nI C rfl rfl) (h5.nI C rfl rfl), fun s₆ k₆ r₆ => ?_⟩
  rw [lt_nat]
  have h6 := h5.step k₆ r₆
  by_cases hlt : lo < hi
  · refine iteT (dT hlt) ?_
    obtain ⟨n, rfl⟩ : ∃ m, n = m + 1 := ⟨n - 1, by omega⟩
    have hm : (lo + hi) / 2 < a.length := by omega
    have hm2 : (lo + hi) / 2 < hi ∧ lo ≤ (lo + hi) / 2 := by omega
    refine seq (h6.asg C (fzI (Ev.divI (by decide) (PyProof.noPylong_small (by decide)) (Ev.addI (h6.nI C rfl rfl) (h6.nI C rfl rfl)) Ev.cint)) rfl rfl fun φ₇ s₇ q₇ h7 => ?_)
    rw [mid_int] at h7
    refine seq (ifs (Ts.ltI (Ev.idxL (h7.nF C rfl rfl) (h7.nI C rfl rfl) (asI (List.getElem?_eq_getElem hm)) (by omega)) (h7.nI C rfl rfl)) fun s₈ k₈ r₈ => ?_)
    have h8 := h7.step k₈ r₈
    unfold bisG at g4
    rw [if_pos hlt, List.getD_eq_getElem?_getD, List.getElem?_eq_getElem hm, Option.getD_some] at g4
    by_cases hc : a[(lo + hi) / 2] < x
    · refine iteT (dT hc) ?_
      rw [if_pos (dT hc)] at g4
      refine seq (h8.asg C (fzI (Ev.addI (h8.nI C rfl rfl) Ev.cint)) rfl rfl fun φ₉ s₉ q₉ h9 => ?_)
      rw [suc_nat] at h9
      exact sq0 (sq0 ⟨n, Nat.lt_succ_self n, φ₉, _, hi, ⟨by omega, g2, hm2.1⟩, g4, h9.weak (.cons rfl (.cons rfl (.cons rfl (.cons rfl .nil))))⟩)
    · refine iteF (dF hc) ?_
      rw [if_neg (by simp [hc])] at g4
      refine seq (h8.asg C (fzI (h8.nI C rfl rfl)) rfl rfl fun φ₉ s₉ q₉ h9 => ?_)
      exact sq0 (sq0 ⟨n, Nat.lt_succ_self n, φ₉, lo, _, ⟨by omega, Nat.le_of_lt hm, hm2.2⟩, g4, h9.weak (.cons rfl (.cons rfl (.cons rfl (.cons rfl .nil))))⟩)
  · refine iteF (dF hlt) ?_
    rw [fuel_lo hlt] at g4
    refine sq0 (seq (rets (h6.nI C rfl rfl) fun v s₇ k₇ r₇ hv => ?_))
    rw [g4] at hv
    have h7 := h6.step k₇ r₇
    exact hQ v s₇ h7.keepE h7.rest hv
end
end Mine
namespace Mine
open Sem (wp)

noncomputable def insG (a : List Int) (x : Int) : List Int := a.take (bisR a x) ++ x :: a.drop (bisR a x)

section
variable {w : World} {A : Around} {env : Env}
theorem as4 {H : Heap} {pos : Pos} {e₁ e₂ e₃ e₄ : Expr} {p₁ p₂ p₃ p₄ : Vp} (h₁ : Ev w A env H e₁ (fun _ v h => p₁.p h v)) (h₂ : Ev w A env H e₂ (fun _ v h => p₂.p h v)) (h₃ : Ev w A env H e₃ (fun _ v h => p₃.p h v)) (h₄ : Ev w A env H e₄ (fun _ v h => p₄.p h v))
    (hs : starEach [e₁, e₂, e₃, e₄] env = (false, eval e₁ env) :: starEach [e₂, e₃, e₄] env := by rfl) (hs2 : starEach [e₂, e₃, e₄] env = (false, eval e₂ env) :: starEach [e₃, e₄] env := by rfl)
    (hs3 : starEach [e₃, e₄] env = (false, eval e₃ env) :: starEach [e₄] env := by rfl) (hs4 : starEach [e₄] env = (false, eval e₄ env) :: starEach [] env := by rfl) :
    As w A env H pos [e₁, e₂, e₃, e₄] (fun _ vs h => ∃ a b c d, vs = [a, b, c, d] ∧ p₁.p h a ∧ p₂.p h b ∧ p₃.p h c ∧ p₄.p h d) := fun s k =>
  wpAny_items_cons (h₁.use k fun a s₁ k₁ r₁ q₁ => wpAny_items_cons (h₂.use (k.trans k₁) fun b s₂ k₂ r₂ q₂ => wpAny_items_cons (h₃.use ((k.trans k₁).trans k₂) fun c s₃ k₃ r₃ q₃ => wpAny_items_cons (h₄.use (((k.trans k₁).trans k₂).trans k₃) fun d s₄ k₄ r₄ q₄ =>
    wpAny_items_nil ⟨((k₁.trans k₂).trans k₃).trans k₄, ((r₁.trans r₂).trans r₃).trans r₄, a, b, c, d, rfl, p₁.mono ((k₂.trans k₃).trans k₄) q₁, p₂.mono (k₃.trans k₄) q₂, p₃.mono k₄ q₃, q₄⟩) hs4) hs3) hs2) hs
end

section
variable {w : World} {A : Around} {env : Env} {S : Scope} {s₀ s : Shared} {Z B : List Addr} {φ : Heap} {vs : List (Str × Vp)} {ow : List (Str × Addr × List Vp)} {L : Addr}

theorem cl_bisR {H : Heap} {a : List Int} {x : Int} {va vx v0 vn : Value} (T : TopOk w H) (hh : A.handled = none) (hroom : A.depth + 10 < recursionLimit) (hva : (VL (a.map VI)).p H va) (hvx : (VI x).p H vx) (hv0 : (VI 0).p H v0) (hvn : VN.p H vn) (hz : a.length ≤ 1000) :
    Cl w A H (.ref 39) [va, vx, v0, vn] (IsI (bisR a x)) := by
  refine enterS (vs := [("key", VN), ("hi", VN), ("lo", VI 0), ("x", VI x), ("a", VL (a.map VI))]) T hh rfl (by kernel_rfl) (Nat.lt_of_le_of_lt (Nat.le_add_right _ _) hroom) rfl
    (binds := [("a", va), ("x", vx), ("lo", v0), ("hi", vn), ("key", .none)]) (fun s X M A E Q' hq => by
      show wpAny M A (seqItems? (.ref 31) >>= _) _ _ _
      refine wpAny_bind (wpAny_seqItems (X 31 _ rfl) rfl ?_)
      show wpAny M A (((nsGet 32 "key" >>= _) >>= _) >>= _) _ _ _
      refine wpAny_bind (wpAny_bind (dfl_key X (by kernel_rfl) (by kernel_rfl) ?_))
      repeat (first | exact hq | refine wpAny_pure ?_)) (locs rfl)
    (.cons rfl (.cons hvn (.cons hv0 (.cons hvx (.cons hva .nil))))) (by decide) rfl rfl rfl ?_ fun _ _ _ _ _ q => q
  intro A' env s₀ s Q k hd C h hQ
  refine seq (ifs (Ts.ltI (h.nI C rfl rfl) Ev.cint) fun s₁ k₁ r₁ => ?_)
  refine iteF (by decide) (sq0 ?_)
  have h1 := h.step k₁ r₁
  refine seq (ifs (Ts.isNone (v := .none) (h1.nm (p := VN) C rfl rfl)) fun s₂ k₂ r₂ => ?_)
  refine iteT rfl ?_
  have h2 := h1.step k₂ r₂
  refine seq (h2.asg C (fzI (Ev.lenL (h2.len C rfl) (h2.nF C rfl rfl) (by rw [List.length_map]; omega))) rfl rfl fun φ₃ s₃ q₃ h3 => ?_)
  rw [List.length_map] at h3
  refine sq0 (seq (ifs (Ts.isNone (v := .none) (h3.nm (p := VN) C rfl rfl)) fun s₄ k₄ r₄ => ?_))
  refine iteT rfl ?_
  have h4 := h3.step k₄ r₄
  refine seq (while' (fun n s' => ∃ φ lo hi, (hi - lo ≤ n ∧ hi ≤ a.length ∧ lo ≤ hi) ∧ bisG (fun y => !decide (x < y)) a n lo hi = bisR a x ∧
    St w s₀ [] [] φ env.locals [("lo", VI (lo : Nat)), ("hi", VI (hi : Nat)), ("a", VL (a.map VI)), ("x", VI x)] [] s') a.length
    ⟨φ₃, 0, a.length, ⟨Nat.sub_le _ _, Nat.le_refl _, Nat.zero_le _⟩, rfl, h4.weak (.cons rfl (.cons rfl (.cons rfl (.cons rfl .nil))))⟩ ?_)
  rintro n s₅ ⟨φ, lo, hi, ⟨g1, g2, g3⟩, g4, h5⟩
  refine ⟨_, Ts.ltI (h5.nI C rfl rfl) (h5.nI C rfl rfl), fun s₆ k₆ r₆ => ?_⟩
  rw [lt_nat]
  have h6 := h5.step k₆ r₆
  by_cases hlt : lo < hi
  · refine iteT (dT hlt) ?_
    obtain ⟨n, rfl⟩ : ∃ m, n = m + 1 := ⟨n - 1, by omega⟩
    have hm : (lo + hi) / 2 < a.length := by omega
    have hm2 : (lo + hi) / 2 < hi ∧ lo ≤ (lo + hi) / 2 := by omega
    refine seq (h6.asg C (fzI (Ev.divI (by decide) (PyProof.noPylong_small (by decide)) (Ev.addI (h6.nI C rfl rfl) (h6.nI C rfl rfl)) Ev.cint)) rfl rfl fun φ₇ s₇ q₇ h7 => ?_)
    rw [mid_int] at h7
    refine seq (ifs (Ts.ltI (h7.nI C rfl rfl) (Ev.idxL (h7.nF C rfl rfl) (h7.nI C rfl rfl) (asI (List.getElem?_eq_getElem hm)) (by omega))) fun s₈ k₈ r₈ => ?_)
    have h8 := h7.step k₈ r₈
    unfold bisG at g4
    rw [if_pos hlt, List.getD_eq_getElem?_getD, List.getElem?_eq_getElem hm, Option.getD_some] at g4
    by_cases hc : x < a[(lo + hi) / 2]
    · refine iteT (dT hc) ?_
      rw [if_neg (by simp [hc])] at g4
      refine seq (h8.asg C (fzI (h8.nI C rfl rfl)) rfl rfl fun φ₉ s₉ q₉ h9 => ?_)
      exact sq0 (sq0 ⟨n, Nat.lt_succ_self n, φ₉, lo, _, ⟨by omega, Nat.le_of_lt hm, hm2.2⟩, g4, h9.weak (.cons rfl (.cons rfl (.cons rfl (.cons rfl .nil))))⟩)
    · refine iteF (dF hc) ?_
      rw [if_pos (by simp [hc])] at g4
      refine seq (h8.asg C (fzI (Ev.addI (h8.nI C rfl rfl) Ev.cint)) rfl rfl fun φ₉ s₉ q₉ h9 => ?_)
      rw [suc_nat] at h9
      exact sq0 (sq0 ⟨n, Nat.lt_succ_self n, φ₉, _, hi, ⟨by omega, g2, hm2.1⟩, g4, h9.weak (.cons rfl (.cons rfl (.cons rfl (.cons rfl .nil))))⟩)
  · refine iteF (dF hlt) ?_
    rw [fuel_lo hlt] at g4
    refine sq0 (seq (rets (h6.nI C rfl rfl) fun v s₇ k₇ r₇ hv => ?_))
    rw [g4] at hv
    have h7 := h6.step k₇ r₇
    exact hQ v s₇ h7.keepE h7.rest hv

/-- an own list turned -/
theorem St.turn {x : Str} {a : Addr} {ps ps' : List Vp} {us' : List Value} {s' : Shared} (h : St w s₀ Z B φ L vs ow s) (hg : getO ow x = some (a, ps)) (x' : Xt [a] s.heap s'.heap) (r : Rest s s') (hp' : s'.heap.PlainList a us'.toArray) (hA : A2 φ us' ps') :
    St w s₀ Z B φ L vs (setO ow x ps') s' := by
  obtain ⟨m, hn, ha, hb⟩ := h.ns
  have mem := getO_mem hg
  obtain ⟨_, hφ, haL, haZ⟩ := h.own _ mem
  refine ⟨h.top, fun b o e => x' b o (fun q => ?_) (h.kp b o e), fun b o hb' e' => x' b o (fun q => ?_) (h.xt b o hb' e'), h.rest.trans r, h.L0, h.LZ,
    ⟨m, x'.ns hn fun q => haL (List.mem_singleton.mp q).symm, ha, fun d hd => ?_⟩, fun d hd => ?_, pair_map setO_addrs h.dis, fun b hb => ⟨(h.bz b hb).1, ⟨(h.bz b hb).2.1.1, fun d hd => ?_⟩, ?_⟩⟩
  · rw [List.mem_singleton.mp q, hφ] at e; cases e
  · rw [List.mem_singleton.mp q] at hb' e'
    rcases haZ with z | z
    · exact hb' z
    · rw [z] at e'; cases e'
  · rcases setO_mem h.dis hg hd with rfl | ⟨hd, _⟩
    · exact hb (x, a, ps) mem
    · exact hb d hd
  · rcases setO_mem h.dis hg hd with rfl | ⟨hd, hne⟩
    · exact ⟨⟨_, hp', hA⟩, hφ, haL, haZ⟩
    · obtain ⟨⟨us', l, x⟩, c⟩ := h.own d hd
      exact ⟨⟨us', plain_xt l x' fun q => hne (List.mem_singleton.mp q), x⟩, c⟩
  · rcases setO_mem h.dis hg hd with rfl | ⟨hd, _⟩
    · exact (h.bz b hb).2.1.2 (x, a, ps) mem
    · exact (h.bz b hb).2.1.2 d hd
  · obtain ⟨o, e⟩ := (h.bz b hb).2.2
    by_cases q : b = a
    · obtain ⟨n, l⟩ := hp'; exact ⟨_, q ▸ l⟩
    · exact ⟨o, x' b o (fun z => q (List.mem_singleton.mp z)) e⟩

theorem map_ob (f : Array Value → Array Value) (its : Array Value) (n : Nat) : ∃ n', Obj.mapSeq f { cls := .type "list", data := .seq its n } = { cls := .type "list", data := .seq (f its) n' } := by
  unfold Obj.mapSeq
  exact ⟨if (f its).size == its.size then n else n + 1, rfl⟩

theorem list_insert {a : Addr} {us : List Value} {i : Nat} {j : Int} {t : Tok} {x : Value} {Q : Value → Shared → Prop} {E : Value → Shared → Prop} (hj : j = (i : Int)) (hl : s.heap.PlainList a us.toArray) (hi : i ≤ us.length) (hz : us.length ≤ 1000)
    (h : ∀ h', h'.PlainList a (us.take i ++ x :: us.drop i).toArray → Heap.SameBut a s.heap h' → Q .none { s with heap := h' }) : wpAny (model prg w) A (call (.builtin "list.insert") [.ref a, .int j t, x]) Q E s := by
  obtain ⟨n, ho⟩ := hl
  have hf : Builtin.List.listFitsIndex j = true := by
    unfold Builtin.List.listFitsIndex
    rw [Bool.and_eq_true, decide_eq_true_eq, decide_eq_true_eq]
    omega
  have hz' : us.toArray.size ≤ sizeLine := by rw [List.size_toArray, sizeLine_eq]; omega
  refine call_meets PySem.F.slot_list_insert ⟨_, ho, rfl⟩ PySem.F.entry_list_insert (PySem.F.args_list_insert_3 _ _ _) (PySem.AutoSeq1.list_insert_list_int_val_1 a _ n j t x (by simp [hf]) hz') ⟨ho, h _ ?_ (Heap.SameBut.update ..)⟩
  obtain ⟨n', e⟩ := map_ob (fun xs => have k := if j < 0 then (j + (xs.size : Int)).toNat else min j.toNat xs.size; (xs.extract 0 k).push x ++ xs.extract k) us.toArray n
  refine ⟨n', ?_⟩
  rw [Heap.get?_update_self _ ho (by rw [e]; rfl), e]
  have hk : (if j < 0 then (j + (us.toArray.size : Int)).toNat else min j.toNat us.toArray.size) = i := by
    rw [hj, if_neg (by omega), List.size_toArray]
    exact Nat.min_eq_left hi
  have hv : (fun xs : Array Value => have k := if j < 0 then (j + (xs.size : Int)).toNat else min j.toNat xs.size; (xs.extract 0 k).push x ++ xs.extract k) us.toArray = (us.take i ++ x :: us.drop i).toArray := by
    show (us.toArray.extract 0 (if j < 0 then (j + (us.toArray.size : Int)).toNat else min j.toNat us.toArray.size)).push x ++ us.toArray.extract (if j < 0 then (j + (us.toArray.size : Int)).toNat else min j.toNat us.toArray.size) = _
    rw [hk]
    apply Array.toList_inj.mp
    simp
    exact List.take_of_length_le (by simp)
  exact congrArg (fun z => some ({ cls := .type "list", data := .seq z n' } : Obj)) hv

theorem A2.take {h : Heap} : ∀ {vs : List Value} {ps : List Vp}, A2 h vs ps → ∀ i, A2 h (vs.take i) (ps.take i)
  | _, _, _, 0 => .nil
  | _, _, .nil, _ + 1 => .nil
  | _, _, .cons e x, i + 1 => .cons e (x.take i)
theorem A2.drop {h : Heap} : ∀ {vs : List Value} {ps : List Vp}, A2 h vs ps → ∀ i, A2 h (vs.drop i) (ps.drop i)
  | _, _, x, 0 => x
  | _, _, .nil, _ + 1 => .nil
  | _, _, .cons _ x, i + 1 => x.drop i

theorem A2.ints {h h' : Heap} {vs : List Value} {ns : List Int} (x : A2 h vs (ns.map VI)) : A2 h' vs (ns.map VI) := by
  generalize e : ns.map VI = ps at x
  induction x generalizing ns with
  | nil => exact .nil
  | cons q x ih =>
    cases ns with
    | nil => cases e
    | cons n ns =>
      obtain ⟨e1, e2⟩ := List.cons.inj e
      subst e1
      exact .cons q (ih e2)
theorem bisR_le (a : List Int) (x : Int) : bisR a x ≤ a.length := bis_le _ _ _ _ _ (Nat.zero_le _)
theorem bisL_le (a : List Int) (x : Int) : bisL a x ≤ a.length := bis_le _ _ _ _ _ (Nat.zero_le _)

/-- a call of a def that turns lists of its caller -/
theorem enterG {f : Addr} {name qual : Str} {params : Arguments} {body : List Stmt} {dV kV doc pm cdv ct oc : Value} {an od : Option Addr} {osl : Array (Option Value)} {argv : List Value}
    {binds : List (Str × Value)} {Q : Value → Shared → Prop} (T : TopOk w φ) (k : Keep φ s.heap) (hh : A.handled = none) (ho : (KF w).lookup f = some ⟨oc, od, .func (fnOf name qual params body S dV kV doc pm an cdv ct), osl⟩) (hcd : codeIn (KF w) cdv qual = true)
    (hroom : A.depth < recursionLimit) (hbind : (KF w).In s.heap → BindsTo s (fnOf name qual params body S dV kV doc pm an cdv ct) ⟨argv, []⟩ binds) (hloc : ∀ y ∈ binds, S.names.lookup y.1 = some .local)
    (hv : ∀ y p, vs.lookup y = some p → ∃ v, binds.reverse.lookup y = some v ∧ p.p φ v) (hcell : ∀ x ∈ S.names, x.2 ≠ .cell) (hco : S.isCoroutine = false) (hgen : S.isGenerator = false) (hk : S.kind = .function)
    (ho1 : ∀ e ∈ ow, binds.reverse.lookup e.1 = some (.ref e.2.1)) (ho2 : ∀ e ∈ ow, (∃ us, s.heap.PlainList e.2.1 us.toArray ∧ A2 φ us e.2.2) ∧ φ.get? e.2.1 = none) (dis : ow.Pairwise fun p q => p.2.1 ≠ q.2.1)
    (h : ∀ (A' : Around) (env : Env) (s₁ : Shared) (Q' : Flow → Shared → Prop), A'.depth = A.depth + 1 → Cx A' env S → St w s (ow.map (·.2.1)) [] φ env.locals vs ow s₁ →
      (∀ v s', Q v s' → Q' (.ret v) s') → (∀ s', Q .none s' → Q' .next s') → wpAny (model prg w) A' (execs body env) Q' noE s₁) : wpAny (model prg w) A (call (.ref f) argv) Q noE s := by
  have T' := T.keeps k
  have hL : s.heap.get? s.heap.objs.size = none := size_none _
  refine wpAny_call (enter T' ho hcd hroom (hbind T'.kin) hloc (fun h₁ F => ?_) hcell hco hgen hk)
  refine h _ _ _ _ rfl ⟨rfl, hk, rfl, rfl, hh⟩ ⟨T, k.trans F.keep, Xt.of_keep F.keep, rht, none_back k hL, .inr hL, ⟨_, F.ns, hv, ho1⟩, fun e he => ?_, dis, fun _ q => (by cases q)⟩ (fun _ _ q => q) fun _ q => q
  obtain ⟨⟨us, l, x⟩, y⟩ := ho2 e he
  refine ⟨⟨us, plain_keeps l F.keep, x⟩, y, fun q => ?_, .inl (List.mem_map.mpr ⟨e, he, rfl⟩)⟩
  obtain ⟨n, l⟩ := l
  rw [q] at l
  rw [show s.heap.get? s.heap.objs.size = some _ from l] at hL
  cases hL

/-- insort_right(row, n), row an own list of the caller -/
theorem cl_insort {r : Addr} {us : List Value} {a : List Int} {x : Int} {vx : Value} {Q : Value → Shared → Prop} (T : TopOk w φ) (hh : A.handled = none) (hroom : A.depth + 20 < recursionLimit) (k : Keep φ s.heap) (hφ : φ.get? r = none) (hl : s.heap.PlainList r us.toArray)
    (hA : A2 φ us (a.map VI)) (hvx : (VI x).p φ vx) (hz : a.length ≤ 900)
    (h : ∀ s' us', Xt [r] s.heap s'.heap → Rest s s' → s'.heap.PlainList r us'.toArray → A2 φ us' ((insG a x).map VI) → Q .none s') : wpAny (model prg w) A (call (.ref 30) [.ref r, vx]) Q noE s := by
  refine enterG (binds := [("a", .ref r), ("x", vx), ("lo", .int 0 205), ("hi", .none), ("key", .none)]) (vs := [("key", VN), ("hi", VN), ("lo", VI 0), ("x", VI x)]) (ow := [("a", r, a.map VI)]) T k hh rfl (by kernel_rfl) (Nat.lt_of_le_of_lt (Nat.le_add_right _ _) hroom) (fun X M A E Q' hq => by
      show wpAny M A (seqItems? (.ref 22) >>= _) _ _ _
      refine wpAny_bind (wpAny_seqItems (X 22 _ rfl) rfl ?_)
      show wpAny M A (((nsGet 23 "key" >>= _) >>= _) >>= _) _ _ _
      refine wpAny_bind (wpAny_bind (dfl_key X (by kernel_rfl) (by kernel_rfl) ?_))
      repeat (first | exact hq | refine wpAny_pure ?_)) (locs rfl) (fun y p e => ?_) (by decide) rfl rfl rfl (fun d hd => by rw [List.mem_singleton.mp hd]; rfl) (fun d hd => by rw [List.mem_singleton.mp hd]; exact ⟨⟨us, hl, hA⟩, hφ⟩) (List.pairwise_singleton _ _) ?_
  · have b : B2 φ [("key", .none), ("hi", .none), ("lo", .int 0 205), ("x", vx)] [("key", VN), ("hi", VN), ("lo", VI 0), ("x", VI x)] := .cons rfl (.cons rfl (.cons ⟨_, rfl⟩ (.cons hvx .nil)))
    obtain ⟨v, e1, e2⟩ := b.get y p e
    refine ⟨v, ?_, e2⟩
    show List.lookup y (([("key", .none), ("hi", .none), ("lo", .int 0 205), ("x", vx)] : List (Str × Value)) ++ ([("a", .ref r)] : List (Str × Value))) = some v
    rw [List.lookup_append, e1]
    rfl
  intro A' env s₁ Q' hd C hS _ fin
  refine seq (ifs (Ts.isNone (v := .none) (hS.nm (p := VN) C rfl rfl)) fun s₂ k₂ r₂ => iteT rfl ?_)
  have h2 := hS.step k₂ r₂
  refine seq (h2.asg C (p := VI (bisR a x)) (fzI (Ev.dcall h2.tp (Ev.global (v := .ref 39) h2.tp C.k (C.of rfl) C.gl (by kernel_rfl)) (by kernel_rfl) (as4 (h2.nOL C rfl rfl) (h2.nF C rfl rfl) (h2.nF C rfl rfl) (h2.nF C rfl rfl))
    fun vs h₁ h₃ ⟨va, vx, v0, vn, e, e1, e2, e3, e4⟩ k1 k3 => ?_)) rfl rfl fun φ₃ s₃ q₃ h3 => ?_)
  · subst e
    exact cl_bisR (h2.tp.keeps (k1.trans k3)) C.hh (by rw [hd]; omega) e1 e2 e3 e4 (by omega)
  obtain ⟨⟨us₃, hp₃, hA₃⟩, hφ₃, _⟩ := h3.own _ (.head _)
  refine sq0 (seq (wpAny_Expr (MethodCall_ ((h3.nO C rfl rfl).use (Keep.refl _) fun v s₄ k₄ r₄ e => ?_) rfl) C.ni rfl))
  cases e
  refine gm_list (plain_keeps hp₃ k₄) PySem.F.slot_list_insert PySem.F.type_list_insert (callWith_method1 ((as2 (h3.nI C rfl rfl) (h3.nm C rfl rfl)).use k₄ fun us s₅ k₅ r₅ q₅ => ?_) rfl rfl)
  obtain ⟨v1, v2, h₁, rfl, ⟨t1, rfl⟩, q2, _⟩ := q₅
  have hle := bisR_le a x
  have hl3 : us₃.length = a.length := by rw [hA₃.length, List.length_map]
  refine list_insert rfl (plain_keeps hp₃ (k₄.trans k₅)) (by omega) (by omega) fun h' hp' hs' => ?_
  have A' := (hA₃.take (bisR a x)).append (.cons q2 (hA₃.drop (bisR a x)))
  have e1 : (a.map VI).take (bisR a x) ++ VI x :: (a.map VI).drop (bisR a x) = (insG a x).map VI := by
    unfold insG
    rw [List.map_append, List.map_cons, List.map_take, List.map_drop]
  rw [e1] at A'
  have h4 := (h3.step (k₄.trans k₅) (r₄.trans r₅)).turn (x := "a") (s' := { s₅ with heap := h' }) rfl (Xt.of_same hs' (List.mem_singleton.mpr rfl)) rht hp' A'
  obtain ⟨⟨us₅, hp₅, hA₅⟩, _⟩ := h4.own _ (.head _)
  exact sq0 (fin _ (h _ us₅ h4.xt h4.rest hp₅ hA₅.ints))
end
end Mine
namespace Mine
open Sem (wp)
open PySem.Builtin.Str (occurrences partsBetween)

section
variable {w : World} {A : Around} {env : Env} {S : Scope} {s₀ s : Shared} {Z B : List Addr} {φ : Heap} {vs : List (Str × Vp)} {ow : List (Str × Addr × List Vp)} {L : Addr}

theorem A2.strs {h : Heap} {vs : List Value} {xs : List (List Nat)} (x : SL vs xs) : A2 h vs (xs.map VS) := by
  induction xs generalizing vs with
  | nil => cases x; exact .nil
  | cons y ys ih =>
    cases x with
    | cons _ u x => exact .cons ⟨u, rfl⟩ (ih x)
theorem A2.toSL {h : Heap} : ∀ {xs : List (List Nat)} {vs : List Value}, A2 h vs (xs.map VS) → SL vs xs
  | [], _, .nil => StrsAre.nil
  | _ :: _, _, .cons ⟨u, e⟩ x => by subst e; exact .cons _ u x.toSL

/-- a new list -/
theorem nw_push {h h' : Heap} {us : List Value} {ps : List Vp} {n : Nat} (k : Keep h h') (hA : ∀ φ : Heap, A2 φ us ps) : Nw (VL ps) h (.ref h'.objs.size) (h'.push { cls := .type "list", data := .seq us.toArray n }) := fun φ' nn =>
  ⟨_, us, rfl, ⟨_, nn _ _ (none_back k (size_none _)) (Heap.get?_push_size _ rfl), rfl, n, rfl⟩, hA φ'⟩
theorem nw_fz {H : Heap} {e : Expr} {p : Vp} (h : Ev w A env H e (Nw p)) : Ev w A env H e (Fz φ p) := h.mono (Keep.refl _) fun _ _ _ _ _ x φ' _ n => x φ' n
/-- a new value, seen in the whole heap -/
theorem nw_full {H : Heap} {e : Expr} {p : Vp} (h : Ev w A env H e (Nw p)) : Ev w A env H e (fun _ v h₁ => p.p h₁ v) := h.mono (Keep.refl _) fun _ _ h₁ _ _ x => x h₁ fun _ _ _ e => e

theorem call_split {x y : List Nat} {t u : Tok} (hy : y ≠ []) (hl : Low y) (hx : x.length ≤ 100000) {h₀ : Heap} : Cl w A h₀ (.builtin "str.split") [.str (st x) t, .str (st y) u] (Nw (VL ((splitG x y (x.length + 1)).map VS))) := fun s _ => by
  have hy0 : ((st y).length == 0) = false := by rw [st_len]; cases y with | nil => exact absurd rfl hy | cons => rfl
  have ez := sizeLine_eq
  have hsz : (st x).length ≤ sizeLine := by rw [st_len, ez]; omega
  have hn : (partsBetween (st x) (occurrences (st x) (st y) 0 (st x).length ((st x).length + 1)) (st y).length).length ≤ sizeLine := by
    have e1 := StrLaws.occ_length_le_len (st x) (st y) 0 (st x).length ((st x).length + 1)
    rw [length_partsBetween, ez]
    rw [st_len] at e1 ⊢
    omega
  have key : ∀ (l : List (Str × Tok)) (tk : Nat), l.map (·.1) = Txt.split (st x) (st y) →
      Keep s.heap (s.heap.push { cls := .type "list", data := .seq (strValues l).toArray }) ∧ Rest s { s with heap := s.heap.push { cls := .type "list", data := .seq (strValues l).toArray }, toks := tk } ∧
        ∀ h, Keep h s.heap → Nw (VL ((splitG x y (x.length + 1)).map VS)) h (.ref s.heap.objs.size) (s.heap.push { cls := .type "list", data := .seq (strValues l).toArray }) := fun l tk e =>
    ⟨fun b o e => Heap.get?_push_of_some _ e, rht, fun h hk => nw_push hk fun φ => A2.strs (SL.of_values (e.trans (split_G hl)))⟩
  cases h1 : (decide ((st x).length < (st y).length) || decide (Builtin.Str.strKind (st x) < Builtin.Str.strKind (st y)))
  · cases hf : (occurrences (st x) (st y) 0 (st x).length ((st x).length + 1)).isEmpty
    · refine call_meets PySem.F.slot_str_split (typeIs_str _ _ _) PySem.F.entry_str_split (PySem.F.args_str_split_2 _ _) (meets_str_split_sep (st x) (st y) t u h1 hy0 hf hsz hn) ?_
      show wants _ _ _ { s with toks := _, heap := s.heap.push { cls := .type "list", data := .seq (strsFrom s.toks (partsBetween (st x) (occurrences (st x) (st y) 0 (st x).length ((st x).length + 1)) (st y).length)).toArray } }
      rw [strsFrom_eq]
      exact key (numbered s.toks _) _ ((numbered_texts _ _).trans ((if_neg (ne_true_of_eq_false h1)).trans (if_neg (ne_true_of_eq_false hf))).symm)
    · exact call_meets PySem.F.slot_str_split (typeIs_str _ _ _) PySem.F.entry_str_split (PySem.F.args_str_split_2 _ _) (meets_str_split_not_found (st x) (st y) t u h1 hy0 hf)
        (key [(st x, t)] s.toks ((if_neg (ne_true_of_eq_false h1)).trans (if_pos hf)).symm)
  · exact call_meets PySem.F.slot_str_split (typeIs_str _ _ _) PySem.F.entry_str_split (PySem.F.args_str_split_2 _ _) (meets_str_split_cannot_occur (st x) (st y) t u h1)
      (key [(st x, t)] s.toks (if_pos h1).symm)

theorem Ev.splitS {H : Heap} {o e : Expr} {ap pos : Pos} {x y : List Nat} (ho : Ev w A env H o (IsS (st x))) (he : Ev w A env H e (IsS (st y))) (hy : y ≠ []) (hl : Low y) (hx : x.length ≤ 100000)
    (hs : starEach [e] env = (false, eval e env) :: starEach [] env := by rfl) {pl : Sem Bool} (hev : eval (.Call (.Attribute o "split" ap) [e] [] pos) env = (do
      let ov ← eval o env
      standAt ap.atName
      let (f, first) ← holding [ov] (getMethod ov "split" pl)
      callWith pos f first (backTo pos (starEach [e] env)) []) := by rfl) : Ev w A env H (.Call (.Attribute o "split" ap) [e] [] pos) (Nw (VL ((splitG x y (x.length + 1)).map VS))) :=
  Ev.meth (id := "str.split") ho (as1 he hs) (fun _ v _ s pl Q ⟨t, hv⟩ _ hq => by subst hv; exact GM.split hq)
    (fun h₀ v h₁ vs h₂ ⟨t, hv⟩ ⟨u, hvs, u', hu⟩ _ _ => by subst hv hvs hu; exact call_split hy hl hx) hs rfl hev

theorem Ev.joinV {H : Heap} {o e : Expr} {ap pos : Pos} {sep : List Nat} {xs : List (List Nat)} (ho : Ev w A env H o (IsS (st sep))) (he : Ev w A env H e (fun _ v h₁ => (VL (xs.map VS)).p h₁ v)) (hsz : totLen xs + xs.length * sep.length ≤ 16000000)
    (hs : starEach [e] env = (false, eval e env) :: starEach [] env := by rfl) {pl : Sem Bool} (hx : eval (.Call (.Attribute o "join" ap) [e] [] pos) env = (do
      let ov ← eval o env
      standAt ap.atName
      let (f, first) ← holding [ov] (getMethod ov "join" pl)
      callWith pos f first (backTo pos (starEach [e] env)) []) := by rfl) : Ev w A env H (.Call (.Attribute o "join" ap) [e] [] pos) (IsS (st (joinG sep xs))) :=
  Ev.meth (id := "str.join") ho (as1 he hs) (fun _ v _ s pl Q ⟨t, hv⟩ _ hq => by subst hv; exact GM.join hq)
    (fun h₀ v h₁ vs h₂ ⟨t, hv⟩ ⟨u, hvs, a, us, hu, hl, hA⟩ _ _ s k => by
      subst hv hvs hu
      obtain ⟨l, rfl, el⟩ := hA.toSL.values
      refine SC.join (texts := xs.map st) (hl.mono k) el (joinOk_of (by rw [len_sum, List.length_map, st_len]; omega)) fun t' kk => ⟨Keep.refl _, rht, fun _ _ => ⟨t', ?_⟩⟩
      rw [join_G]) hs rfl hx

theorem Ev.neg {H : Heap} {e : Expr} {i : Int} {p : Pos} (h : Ev w A env H e (IsI i)) : Ev w A env H (.UnaryOp .USub e p) (IsI (-i)) := fun s k =>
  wpAny_UnaryOp (h.use k fun v s₁ k₁ r₁ h₁ => by obtain ⟨t, rfl⟩ := h₁; exact PyProof.Rows.neg_int ⟨k₁, r₁.ht, _, rfl⟩)

/-- x[::-1] -/
theorem Ev.revS {H : Heap} {value stp : Expr} {p pos : Pos} {x : List Nat} (hv : Ev w A env H value (IsS (st x))) (hs : Ev w A env H stp (IsI (-1))) (hx : x.length ≤ 100000) (ht : ∀ o r, letTemporaryGo value o r = pure () := by intro _ _; rfl) :
    Ev w A env H (.Subscript value (.Slice none none (some stp) p) pos) (IsS (st x.reverse)) := fun s k => by
  refine wpAny_Subscript_Slice_step (T := "str") PySem.F.slot_str_getitem.lookup (hv.use k fun v s₁ k₁ r₁ h₁ => wpAny_Slice (wpAny_pure (wpAny_pure (hs.use (k.trans k₁) fun u s₂ k₂ r₂ h₂ => ?_)))) ht
  obtain ⟨t, rfl⟩ := h₁
  obtain ⟨t2, rfl⟩ := h₂
  refine ⟨typeIs_str _ _ t, wpAny_getItem_str_slice (l := none) (u := none) (st := some (-1, t2)) ⟨_, Heap.get?_push_size _ rfl, rfl, rfl⟩ rfl ?_⟩
  have hr : Txt.sliceBy (st x) none none (-1, t2) = st x.reverse := by
    apply Str.ext'
    apply Array.toList_inj.mp
    rw [step_rev_list, st_len]
    show _ = x.reverse
    apply List.ext_getElem (by simp)
    intro i h1 h2
    simp at h1 h2 ⊢
    rw [List.getElem?_eq_getElem (by omega)]
    rfl
  have kp : Keep s₂.heap (s₂.heap.push { cls := .type "slice", data := .fields #[.none, .none, .int (-1) t2] }) := fun b o e => Heap.get?_push_of_some _ e
  refine post_val_or_str ⟨Nat.le_trans (Txt.sliceBy_le _ _ _ _ (show (-1 : Int) ≠ 0 by decide)) (by rw [st_len, sizeLine_eq]; omega), fun t' k' => ⟨(k₁.trans k₂).trans kp, ((r₁.trans r₂).ht : Rest s _), t', ?_⟩⟩
  rw [← hr]
  rfl

theorem Ev.sliceL {H : Heap} {value : Expr} {lower upper : Option Expr} {p pos : Pos} {ps qs : List Vp} {lo hi : Option Int} (hv : Ev w A env H value (fun _ v h₁ => (VL ps).p h₁ v)) (hl : Tm w A H (evalPart lower env) (IsPt lo))
    (hu : Tm w A H (evalPart upper env) (IsPt hi)) (hx : ps.length ≤ 100000) (hq : ∀ us : List Value, us.length = ps.length → ∃ zs : List Value, slicePick us.toArray lo hi none = zs.toArray ∧ ∀ h, A2 h us ps → A2 h zs qs) (ht : ∀ o r, letTemporaryGo value o r = pure () := by intro _ _; rfl) :
    Ev w A env H (.Subscript value (.Slice lower upper none p) pos) (fun _ v h₁ => (VL qs).p h₁ v) := fun s k => by
  refine wpAny_Subscript_list_slice (hv.use k fun v s₁ k₁ r₁ h₁ => hl.use (k.trans k₁) fun vl s₂ k₂ r₂ h₂ => hu.use ((k.trans k₁).trans k₂) fun vu s₃ k₃ r₃ h₃ => ?_) ht
  obtain ⟨a, us, rfl, hl', hA⟩ := h₁
  obtain ⟨l, rfl, rfl⟩ := h₂
  obtain ⟨u, rfl, rfl⟩ := h₃
  have k₂₃ := k₂.trans k₃
  obtain ⟨zs, hz, hzA⟩ := hq us hA.length
  have kp : Keep s₃.heap ((s₃.heap.push { cls := .type "slice", data := .fields #[partValue l, partValue u, .none] }).push { cls := .type "list", data := .seq (slicePick us.toArray (l.map (·.1)) (u.map (·.1)) none) }) := fun b o e => Heap.get?_push_of_some _ (Heap.get?_push_of_some _ e)
  have part : ∀ l : Option (Int × Tok), IsPart (partValue l) (l.map (·.1)) := fun l => by cases l with | none => exact .none | some q => exact .int _ _
  refine ⟨a, us.toArray, _, _, rfl, hl'.mono k₂₃, by rw [List.size_toArray, hA.length, sizeLine_eq]; omega, part l, part u, (k₁.trans k₂₃).trans kp, ((r₁.trans r₂).trans r₃).ht, _, zs, rfl, ?_, hzA _ (hA.mono (k₂₃.trans kp))⟩
  rw [← Heap.size_push]
  exact ⟨_, Heap.get?_push_size _ rfl, rfl, 0, by rw [hz]⟩
theorem pick_to {us : List Value} {ps : List Vp} (n : Nat) : ∃ zs : List Value, slicePick us.toArray none (some (n : Int)) none = zs.toArray ∧ ∀ h, A2 h us ps → A2 h zs (ps.take n) :=
  ⟨us.take n, by rw [slicePick_upto'], fun _ x => x.take n⟩
theorem pick_from {us : List Value} {ps : List Vp} (n : Nat) : ∃ zs : List Value, slicePick us.toArray (some (n : Int)) none none = zs.toArray ∧ ∀ h, A2 h us ps → A2 h zs (ps.drop n) :=
  ⟨us.drop n, by rw [slicePick_from'], fun _ x => x.drop n⟩

/-! the numbers of the signs -/
noncomputable def order21 : List Nat := [91, 93, 58, 44, 59, 43, 45, 42, 47, 124, 38, 60, 62, 61, 37, 123, 125, 126, 94, 64, 33]
noncomputable def tokOf (c : Nat) : Int := match order21.idxOf? c with | some i => ([9, 10, 11, 12, 13, 14, 15, 16, 17, 18, 19, 20, 21, 22, 24, 25, 26, 31, 32, 49, 54] : List Int).getD i 0 | none => 0
theorem tok_all : (order21.all fun c => match nsIn (KF w) 70 (st [c]) with | some (some (.int n _)) => n == tokOf c | _ => false) = true := by kernel_rfl
theorem tok_at (c : Nat) (hc : c ∈ order21) : ∃ t, nsIn (KF w) 70 (st [c]) = some (some (.int (tokOf c) t)) := by
  have h := List.all_eq_true.mp (tok_all (w := w)) c hc
  split at h
  · rename_i n t e
    exact ⟨t, by rw [e, beq_iff_eq.mp h]⟩
  · cases h
theorem keys70 : ∃ es n, (KF w).lookup 70 = some ⟨.type "dict", none, .dict es n, #[]⟩ ∧ KeysLit w.params es.toList :=
  ⟨_, _, rfl, by repeat' (first | exact trivial | exact ⟨_, _, rfl, rfl⟩ | apply And.intro)⟩
theorem Ev.tok {H : Heap} {e : Expr} {p pos : Pos} {c : Nat} (T : TopOk w H) (hf : Ev w A env H (.Name "EXACT_TOKEN_TYPES" p) (IsV (.ref 70))) (he : Ev w A env H e (IsS (st [c]))) (hc : c ∈ order21)
    (hs : ∀ o x u, subscripted e false o (.str x u) = operate [o, .str x u] (getItem o (.str x u)) := by intro _ _ _; with_unfolding_all rfl) :
    Ev w A env H (.Subscript (.Name "EXACT_TOKEN_TYPES" p) e pos) (IsI (tokOf c)) := fun s k =>
  Subscript_ (hf.use k fun v s₁ k₁ r₁ h₁ => he.use (k.trans k₁) fun u s₂ k₂ r₂ h₂ => by
    cases h₁
    obtain ⟨t2, rfl⟩ := h₂
    obtain ⟨t, ht⟩ := tok_at (w := w) c hc
    have X := (T.keeps ((k.trans k₁).trans k₂)).kin
    obtain ⟨es, n, hl, hk⟩ := keys70 (w := w)
    have hm := mapOf_K (prog := prg) (w := w) X (a := 70) hl hk
    exact tail_any hm.typeIs slot_dict_getitem.lookup (wpAny_getItem_of (strKind_is prg w _ t2) hm (find_K hl ht) ⟨k₁.trans k₂, (r₁.trans r₂).ht, t, rfl⟩) (hs _ _ _))
end
end Mine
namespace Mine

theorem split_tot_go (x y : List Nat) (limit : Nat) : ∀ (r : List Nat) (n free i a : Nat), (a ≤ i ∨ a ≤ free) → totLen (partsG x y.length a (occG y limit n free i r)) ≤ x.length - a
  | [], n, free, i, a, h => by
    unfold occG
    split
    · rename_i q
      simp only [partsG, totLen, List.map_cons, List.map_nil, List.sum_cons, List.sum_nil, List.length_take, List.length_drop]
      omega
    · simp [partsG, totLen]
  | c :: r, n, free, i, a, h => by
    unfold occG
    split
    · rename_i q
      have ih := split_tot_go x y limit r (n + 1) (i + y.length) (i + 1) (i + y.length) (.inr (Nat.le_refl _))
      simp only [partsG, totLen, List.map_cons, List.sum_cons, List.length_take, List.length_drop] at ih ⊢
      omega
    · exact split_tot_go x y limit r n free (i + 1) a (h.imp_left Nat.le_succ_of_le)
theorem split_tot (x y : List Nat) (limit : Nat) : totLen (splitG x y limit) ≤ x.length := split_tot_go x y limit x 0 0 0 0 (.inl (Nat.le_refl _))
theorem occ_num (y : List Nat) (limit : Nat) : ∀ (r : List Nat) (n free i : Nat), (occG y limit n free i r).length ≤ r.length + 1
  | [], n, free, i => by unfold occG; split <;> simp
  | c :: r, n, free, i => by
    unfold occG
    split
    · exact Nat.succ_le_succ (occ_num y limit r _ _ _)
    · exact Nat.le_succ_of_le (occ_num y limit r _ _ _)
theorem parts_num (x : List Nat) (w : Nat) : ∀ (l : List Nat) (a : Nat), (partsG x w a l).length = l.length + 1
  | [], _ => rfl
  | _ :: r, _ => congrArg (· + 1) (parts_num x w r _)
theorem split_num (x y : List Nat) (limit : Nat) : (splitG x y limit).length ≤ x.length + 2 := by
  unfold splitG
  rw [parts_num]
  exact Nat.succ_le_succ (occ_num y limit x 0 0 0)
theorem join_len (sep : List Nat) : ∀ ps : List (List Nat), (joinG sep ps).length ≤ totLen ps + ps.length * sep.length
  | [] => Nat.zero_le _
  | [p] => by simp [joinG, totLen]
  | p :: q :: r => by
    have ih := join_len sep (q :: r)
    rw [List.length_cons, Nat.succ_mul]
    simp only [joinG, totLen, List.map_cons, List.sum_cons, List.length_append] at ih ⊢
    omega
theorem tot_split (ps : List (List Nat)) (n : Nat) : totLen (ps.take n) + totLen (ps.drop n) = totLen ps := by
  unfold totLen
  rw [← List.sum_append, ← List.map_append, List.take_append_drop]

section
variable {α : Type} [DecidableEq α]
/-- a sign laid into the tree -/
noncomputable def treeStep (lp rp : α) (tok : α → Int) (s : List α × List Int) (c : α) : List α × List Int :=
  (joinG [lp, rp] ((splitG s.1 [lp, rp] (s.1.length + 1)).take (bisL s.2 (tok c) + 1)) ++ [lp, lp, rp] ++ [c] ++ [lp, rp, rp] ++ joinG [lp, rp] ((splitG s.1 [lp, rp] (s.1.length + 1)).drop (bisL s.2 (tok c) + 1)), insG s.2 (tok c))
noncomputable def treeG (lp rp : α) (tok : α → Int) (word : List α) : List α × List Int := word.reverse.foldl (treeStep lp rp tok) ([lp, rp], [])
end

theorem ins_len (a : List Int) (x : Int) : (insG a x).length = a.length + 1 := by
  have := bisR_le a x
  unfold insG
  rw [List.length_append, List.length_cons, List.length_take, List.length_drop, Nat.min_eq_left this]
  omega
noncomputable def bnd : Nat → Nat
  | 0 => 2
  | n + 1 => 6 * bnd n + 20
theorem gaps_small {x : List Nat} {L : Nat} (h : x.length ≤ L) (n : Nat) : totLen ((splitG x [40, 41] (x.length + 1)).take n) + ((splitG x [40, 41] (x.length + 1)).take n).length * 2 ≤ 3 * L + 4 ∧
    totLen ((splitG x [40, 41] (x.length + 1)).drop n) + ((splitG x [40, 41] (x.length + 1)).drop n).length * 2 ≤ 3 * L + 4 := by
  have h1 := tot_split (splitG x [40, 41] (x.length + 1)) n
  have h2 := split_tot x [40, 41] (x.length + 1)
  have h3 := split_num x [40, 41] (x.length + 1)
  have h4 : ((splitG x [40, 41] (x.length + 1)).take n).length ≤ (splitG x [40, 41] (x.length + 1)).length := by rw [List.length_take]; exact Nat.min_le_right _ _
  have h5 : ((splitG x [40, 41] (x.length + 1)).drop n).length ≤ (splitG x [40, 41] (x.length + 1)).length := by rw [List.length_drop]; omega
  omega
theorem tree_len {tok : Nat → Int} {s : List Nat × List Int} {c : Nat} {L : Nat} (h : s.1.length ≤ L) : (treeStep 40 41 tok s c).1.length ≤ 6 * L + 20 := by
  have g := gaps_small h (bisL s.2 (tok c) + 1)
  have j1 := join_len [40, 41] ((splitG s.1 [40, 41] (s.1.length + 1)).take (bisL s.2 (tok c) + 1))
  have j2 := join_len [40, 41] ((splitG s.1 [40, 41] (s.1.length + 1)).drop (bisL s.2 (tok c) + 1))
  have e : (treeStep 40 41 tok s c).1.length = (joinG [40, 41] ((splitG s.1 [40, 41] (s.1.length + 1)).take (bisL s.2 (tok c) + 1))).length + 7 + (joinG [40, 41] ((splitG s.1 [40, 41] (s.1.length + 1)).drop (bisL s.2 (tok c) + 1))).length := by
    unfold treeStep
    simp only [List.length_append, List.length_cons, List.length_nil]
  have e2 : ([40, 41] : List Nat).length = 2 := rfl
  rw [e2] at j1 j2
  omega
theorem fold_take {α β : Type} (f : β → α → β) (s : β) (l : List α) {i : Nat} {c : α} (h : l[i]? = some c) : (l.take (i + 1)).foldl f s = f ((l.take i).foldl f s) c := by
  rw [List.take_add_one, h, List.foldl_append]; rfl
theorem tree_bnd (tok : Nat → Int) (l : List Nat) : ∀ i, i ≤ l.length → ((l.take i).foldl (treeStep 40 41 tok) ([40, 41], [])).1.length ≤ bnd i ∧ ((l.take i).foldl (treeStep 40 41 tok) ([40, 41], [])).2.length = i
  | 0, _ => ⟨Nat.le_refl _, rfl⟩
  | i + 1, h => by
    obtain ⟨h1, h2⟩ := tree_bnd tok l i (Nat.le_of_succ_le h)
    rw [fold_take _ _ l (List.getElem?_eq_getElem h)]
    exact ⟨tree_len h1, by show (insG _ _).length = _; rw [ins_len, h2]⟩
theorem bnd_le {i : Nat} (h : i ≤ 5) : bnd i ≤ 46652 := by
  match i, h with
  | 0, _ => decide
  | 1, _ => decide
  | 2, _ => decide
  | 3, _ => decide
  | 4, _ => decide
  | 5, _ => decide
end Mine
namespace Mine
open Sem (wp)

section
variable {w : World} {A : Around} {env : Env} {S : Scope} {s₀ s : Shared} {Z B : List Addr} {φ : Heap} {vs : List (Str × Vp)} {ow : List (Str × Addr × List Vp)} {L : Addr}

/-- a call of a def, statement or value: its name -/
theorem St.gl {x : Str} {p : Pos} {v : Value} (h : St w s₀ Z B φ env.locals vs ow s) (C : Cx A env S) (hl : S.names.lookup x = some .globalImplicit) (e : nsIn (KF w) mainGlobals x = some (some v)) (hd : (x == ("__debug__" : Str)) = false := by decide) :
    Ev w A env s.heap (.Name x p) (IsV v) := Ev.global h.tp C.k (C.of hl) C.gl e hd

theorem Ev.cS {H : Heap} {z : Str} {x : List Nat} {k : Nat} {p : Pos} (h : z = st x) : Ev w A env H (.Constant (.str z) k p) (IsS (st x)) := h ▸ Ev.cstr
theorem Ev.addT {H : Heap} {l r : Expr} {p : Pos} {x y : List Nat} (hl : Ev w A env H l (IsS (st x))) (hr : Ev w A env H r (IsS (st y))) (hz : x.length + y.length ≤ 16000000) : Ev w A env H (.BinOp l .Add r p) (IsS (st (x ++ y))) := by
  rw [← st_append]
  exact Ev.addS hl hr (by rw [st_len, st_len, sizeLine_eq]; omega)
theorem Ev.succ {H : Heap} {l r : Expr} {p : Pos} {x : Nat} (hl : Ev w A env H l (IsI (x : Int))) (hr : Ev w A env H r (IsI 1)) : Ev w A env H (.BinOp l .Add r p) (IsI ((x + 1 : Nat) : Int)) := Ev.addI hl hr
theorem pick_toS {us : List Value} {xs : List (List Nat)} (n : Nat) : ∃ zs : List Value, slicePick us.toArray none (some (n : Int)) none = zs.toArray ∧ ∀ h, A2 h us (xs.map VS) → A2 h zs ((xs.take n).map VS) := by
  rw [List.map_take]; exact pick_to n
theorem pick_fromS {us : List Value} {xs : List (List Nat)} (n : Nat) : ∃ zs : List Value, slicePick us.toArray (some (n : Int)) none none = zs.toArray ∧ ∀ h, A2 h us (xs.map VS) → A2 h zs ((xs.drop n).map VS) := by
  rw [List.map_drop]; exact pick_from n

/-- insort_right(row, e) -/
theorem St.insort {x : Str} {p1 p2 p3 p4 : Pos} {e : Expr} {a : Addr} {ns : List Int} {n : Int} {Q : Flow → Shared → Prop} (h : St w s₀ Z B φ env.locals vs ow s) (C : Cx A env S) (hroom : A.depth + 20 < recursionLimit) (hg : getO ow x = some (a, ns.map VI)) (hl : S.names.lookup x = some .local)
    (hi : S.names.lookup ("insort_right" : Str) = some .globalImplicit) (he : Ev w A env s.heap e (IsI n)) (hz : ns.length ≤ 900)
    (hq : ∀ s', St w s₀ Z B φ env.locals vs (setO ow x ((insG ns n).map VI)) s' → Q .next s')
    (hs : starEach [.Name x p1, e] env = (false, eval (.Name x p1) env) :: starEach [e] env := by rfl) (hs2 : starEach [e] env = (false, eval e env) :: starEach [] env := by rfl)
    (hsw : swapsWith (.Call (.Name "insort_right" p2) [.Name x p1, e] [] p3) none p4.line env = pure false := by rfl) (hd : (x == ("__debug__" : Str)) = false := by decide)
    (hpl : (backTo p3 (starEach [e] env)).any (·.1) = false := by rfl) :
    wpAny (model prg w) A (exec (.Expr (.Call (.Name "insort_right" p2) [.Name x p1, e] [] p3) p4) env) Q noE s := by
  have mem := getO_mem hg
  obtain ⟨⟨us, hp, hA⟩, hφ, haL, haZ⟩ := h.own _ mem
  refine wpAny_Expr ?_ C.ni hsw
  refine wpAny_Call_ofName ((h.gl (v := .ref 30) C hi (by kernel_rfl)).use (Keep.refl _) fun v s₁ k₁ r₁ h₁ => ?_)
  cases h₁
  refine callWith_K (h₀ := s.heap) h.tp.kin (by kernel_rfl) ((as2 (h.nO C hg hl hd) he hs hs2).use k₁ fun vs' s₂ k₂ r₂ h₂ => ?_) hs hpl
  obtain ⟨v1, v2, h3, rfl, rfl, hv2, _⟩ := h₂
  have k := k₁.trans k₂
  refine ⟨(h.tp.keeps k).kin, cl_insort h.top C.hh hroom (h.kp.trans k) hφ (plain_keeps hp k) hA hv2 hz fun s' us' x' r' hp' hA' => ?_⟩
  exact hq s' ((h.step k (r₁.trans r₂)).turn hg x' r' hp' hA')

theorem ev_tup2 {H : Heap} {e₁ e₂ : Expr} {c : Nat} {p : Pos} {V₁ V₂ : Heap → Value → Heap → Prop} (h₁ : Ev w A env H e₁ V₁) (h₂ : Ev w A env H e₂ V₂)
    (hs : starEach [e₁, e₂] env = (false, eval e₁ env) :: starEach [e₂] env := by rfl) (hs2 : starEach [e₂] env = (false, eval e₂ env) :: starEach [] env := by rfl) :
    Ev w A env H (.Tuple [e₁, e₂] c p) (fun h₀ v h₃ => ∃ T a b g₁ g₂, v = .ref T ∧ h₀.get? T = none ∧ IsTup h₃ T [a, b] ∧ V₁ h₀ a g₁ ∧ V₂ g₁ b g₂ ∧ Keep g₁ g₂ ∧ Keep g₂ h₃) := fun s k =>
  wpAny_Tuple ((as2 h₁ h₂ (pos := p) hs hs2).use k fun vs s₁ k₁ r₁ q => by
    obtain ⟨a, b, g, rfl, q1, q2, kg⟩ := q
    exact ⟨by rw [sizeLine_eq]; show 2 ≤ 16777216; decide, fun b o e => Heap.get?_push_of_some _ (k₁ b o e), r₁.ht, _, a, b, g, _, rfl, none_back k₁ (size_none _), Heap.get?_push_size _ rfl, q1, q2, kg, fun b o e => Heap.get?_push_of_some _ e⟩)

/-- a list of one's own, handed back -/
theorem own_out {a : Addr} {us : List Value} {ns : List Int} {h₀ h₁ : Heap} (hn : h₀.get? a = none) (hl : h₁.PlainList a us.toArray) (hA : A2 φ us (ns.map VI)) {φ' : Heap} (nn : ∀ b o, h₀.get? b = none → h₁.get? b = some o → φ'.get? b = some o) : (VL (ns.map VI)).p φ' (.ref a) := by
  obtain ⟨n, e⟩ := hl
  exact ⟨a, us, rfl, ⟨_, nn _ _ hn e, rfl, n, rfl⟩, hA.ints⟩


theorem setO_one {x : Str} {a : Addr} {ps qs : List Vp} : setO [(x, a, ps)] x qs = [(x, a, qs)] := by unfold setO; simp

set_option maxHeartbeats 1000000 in
theorem cl_tree {H : Heap} {x : List Nat} {vx : Value} (T : TopOk w H) (hh : A.handled = none) (hroom : A.depth + 40 < recursionLimit) (hvx : (VS x).p H vx) (hx : x.length ≤ 5) (ho : ∀ c ∈ x, c ∈ order21) :
    Cl w A H (.ref 93) [vx] (Nw (VT [VS (treeG 40 41 tokOf x).1, VL ((treeG 40 41 tokOf x).2.map VI)])) := by
  refine enterS (vs := [("word", VS x)]) T hh rfl (by kernel_rfl) (Nat.lt_of_le_of_lt (Nat.le_add_right _ _) hroom) rfl
    (binds := [("word", vx)]) (fun s X => BindsTo.of_eq rfl) (locs rfl) (.cons hvx .nil) (by decide) rfl rfl rfl ?_ fun _ _ _ _ k q => nw_mono k q
  intro A' env s₀ s Q k hd C h hQ
  have s0 : PySem.Str.ofString "()" = st [40, 41] := by decide
  have s1 : PySem.Str.ofString "(()" = st [40, 40, 41] := by decide
  have s2 : PySem.Str.ofString "())" = st [40, 41, 41] := by decide
  refine seq (h.asg C (p := VS [40, 41]) (fzS (by rw [← s0]; exact Ev.cstr)) rfl rfl fun φ₁ s₁ q₁ h1 => ?_)
  refine seq (h1.newL C (ps := []) (Ev.nilL.mono (Keep.refl _) fun _ _ _ _ _ ⟨a, us, e, hn, hl, hs⟩ => ⟨a, us, e, hn, hl, A2.strs (xs := []) hs⟩) rfl rfl rfl fun a s₂ h2 => ?_)
  have hxr : x.reverse.length ≤ 5 := by rw [List.length_reverse]; exact hx
  refine seq (h2.for (p := VS x.reverse) (n := x.reverse.length) (pI := fun i => VS (x.reverse.drop i |>.take 1)) (fzS (Ev.revS (h2.nS C rfl rfl) (Ev.neg Ev.cint) (by omega))) (fun φ' v s' _ _ hv => itr_str C.hh hv)
    (fun i => [("text", VS ((x.reverse.take i).foldl (treeStep 40 41 tokOf) ([40, 41], [])).1)]) (fun i => [("sign", VS (x.reverse.drop i |>.take 1)), ("text", VS ((x.reverse.take i).foldl (treeStep 40 41 tokOf) ([40, 41], [])).1)])
    (fun i => [("row", a, ((x.reverse.take i).foldl (treeStep 40 41 tokOf) ([40, 41], [])).2.map VI)]) (.cons rfl .nil) rfl (fun i => tgt_name C rfl rfl) ?_ ?_)
  · intro i I φ₃ s₃ hi k₃ h3 back
    obtain ⟨c, hc⟩ : ∃ c, x.reverse[i]? = some c := ⟨_, List.getElem?_eq_getElem hi⟩
    have hcx : c ∈ order21 := ho c (List.mem_reverse.mp (List.mem_of_getElem? hc))
    have hsg : (x.reverse.drop i).take 1 = [c] := by
      obtain ⟨hlt, rfl⟩ := List.getElem?_eq_some_iff.mp hc
      rw [List.drop_eq_getElem_cons hlt]; rfl
    obtain ⟨b1, b2⟩ := tree_bnd tokOf x.reverse i (Nat.le_of_lt hi)
    have b3 := bnd_le (Nat.le_trans (Nat.le_of_lt hi) hxr)
    rw [fold_take _ _ x.reverse hc]
    generalize (x.reverse.take i).foldl (treeStep 40 41 tokOf) ([40, 41], []) = t at h3 b1 b2 back ⊢
    rw [hsg] at h3
    have hz : t.2.length ≤ 5 := by rw [b2]; exact Nat.le_trans (Nat.le_of_lt hi) hxr
    have hp := bisL_le t.2 (tokOf c)
    refine seq (h3.asg C (p := VI (bisL t.2 (tokOf c))) (fzI (Ev.dcall h3.tp (h3.gl (v := .ref 48) C rfl (by kernel_rfl)) (by kernel_rfl) (as2 (h3.nOL C rfl rfl) (Ev.tok h3.tp (h3.gl (v := .ref 70) C rfl (by kernel_rfl)) (h3.nS C rfl rfl) hcx))
      fun vs h₁ h₄ ⟨va, vb, g, e, e1, e2, k4⟩ ka kb => ?_)) rfl rfl fun φ₄ s₄ q₄ h4 => ?_)
    · subst e
      exact cl_bisL (h3.tp.keeps (ka.trans kb)) C.hh (by rw [hd]; omega) ((VL _).mono k4 e1) e2 (by omega)
    refine seq (h4.insort C (by rw [hd]; omega) rfl rfl rfl (Ev.tok h4.tp (h4.gl (v := .ref 70) C rfl (by kernel_rfl)) (h4.nS C rfl rfl) hcx) (by omega) fun s₅ h5 => ?_)
    have hlow : Low [40, 41] := fun c hc => by rcases List.mem_cons.mp hc with rfl | hc; decide; rw [List.mem_singleton.mp hc]; decide
    refine seq (h5.asg C (nw_fz (Ev.splitS (h5.nS C rfl rfl) (by rw [← s0]; exact Ev.cstr) (by simp) hlow (by omega))) rfl rfl fun φ₆ s₆ q₆ h6 => ?_)
    have gs := gaps_small (x := t.1) (Nat.le_trans b1 b3) (bisL t.2 (tokOf c) + 1)
    have g3 := split_num t.1 [40, 41] (t.1.length + 1)
    have j1 := join_len [40, 41] ((splitG t.1 [40, 41] (t.1.length + 1)).take (bisL t.2 (tokOf c) + 1))
    have j2 := join_len [40, 41] ((splitG t.1 [40, 41] (t.1.length + 1)).drop (bisL t.2 (tokOf c) + 1))
    have e2 : ([40, 41] : List Nat).length = 2 := rfl
    rw [e2] at j1 j2
    have ez := sizeLine_eq
    refine seq (h6.asg C (p := VS (treeStep 40 41 tokOf t c).1) (fzS ?_) rfl rfl fun φ₇ s₇ q₇ h7 => ?_)
    · unfold treeStep
      refine Ev.addT (Ev.addT (Ev.addT (Ev.addT (Ev.joinV (Ev.cS s0) (Ev.sliceL (h6.nF C rfl rfl) pt_none (pt_some (Ev.succ (h6.nI C rfl rfl) Ev.cint)) (by rw [List.length_map]; omega) (fun us _ => pick_toS _)) (by rw [e2]; omega))
        (Ev.cS s1) ?_) (h6.nS C rfl rfl) ?_) (Ev.cS s2) ?_) (Ev.joinV (Ev.cS s0) (Ev.sliceL (h6.nF C rfl rfl) (pt_some (Ev.succ (h6.nI C rfl rfl) Ev.cint)) pt_none (by rw [List.length_map]; omega) (fun us _ => pick_fromS _)) (by rw [e2]; omega)) ?_
      all_goals (simp only [List.length_append, List.length_cons, List.length_nil]; omega)
    rw [setO_one] at h7
    exact sq0 ⟨φ₇, q₄.trans (q₆.trans q₇), h7.weak (vs' := [("text", VS (treeStep 40 41 tokOf t c).1)]) (.cons rfl .nil)⟩
  · intro φ₃ s₃ k₃ h3
    obtain ⟨⟨us, hp, hA⟩, _, _, hn⟩ := h3.own _ (.head _)
    rw [show x.reverse.take x.reverse.length = x.reverse from List.take_length] at h3 hA
    refine seq (rets (ev_tup2 (h3.nm C rfl rfl) (h3.nO C rfl rfl)) fun v s₄ k₄ r₄ hv => ?_)
    obtain ⟨T, va, vb, g₁, g₂, rfl, hT, hT2, ⟨t1, e1⟩, e2, kg, kg2⟩ := hv
    have h4 := h3.step k₄ r₄
    subst e1 e2
    have hs3 := h3.keepE
    have hna : s₀.heap.get? a = none := hn.elim (fun q => by cases q) id
    refine hQ _ _ h4.keepE h4.rest fun φ' nn => ⟨T, _, rfl, nn _ _ (none_back hs3 hT) hT2, .cons ⟨t1, rfl⟩ (.cons (own_out hna (plain_keeps hp k₄) hA nn) .nil)⟩
end
end Mine
namespace Mine
open Sem (wp)
open PySem.Builtin PySem.Builtin.Str

section
variable {M : Model} {A : Around} {s : Shared}
theorem range_two {len a b : Nat} {i j : Int} {u v : Tok} {Q : Nat × Nat → Shared → Prop} {E : Value → Shared → Prop} (hi : i = a) (hj : j = b) (hb : b ≤ len) (h : Q (a, b) s) : wpAny M A (searchRange len [.int i u, .int j v]) Q E s := by
  subst hi hj
  unfold searchRange
  refine wpAny_bind (wpAny_bind (wpAny_specialOf (T := "int") (typeIs_int s a u) AutoSeq1.idx_int ?_))
  show wpAny M A (asIndex (.int a u) >>= _) _ _ _
  refine wpAny_bind (wpAny_pure (wpAny_pure ?_))
  refine wpAny_bind (wpAny_bind (wpAny_specialOf (T := "int") (typeIs_int s b v) AutoSeq1.idx_int ?_))
  show wpAny M A (asIndex (.int b v) >>= _) _ _ _
  refine wpAny_bind (wpAny_pure (wpAny_pure (wpAny_pure ?_)))
  have e1 : (max 0 (if (a : Int) < 0 then (a : Int) + len else a)).toNat = a := by rw [if_neg (by omega)]; omega
  have e2 : (max 0 (if (b : Int) < 0 then (b : Int) + len else b)).toNat = b := by rw [if_neg (by omega)]; omega
  rw [e1, e2, Nat.min_eq_left hb]
  exact h
end

/-- where w stands in x from a on -/
noncomputable def findG {α : Type} [DecidableEq α] (x w : List α) (a : Nat) : Option Nat := (occG w 1 0 a a (x.drop a)).head?
theorem occ_at (x y : List Nat) (a : Nat) (ha : a ≤ x.length) : occurrences (st x) (st y) a x.length 1 = occG y 1 0 a a (x.drop a) := by
  rw [StrLaws.occ_eq]
  have := occ_from x y 1 (x.length - a) a #[] a rfl ha
  simpa using this

theorem call_find {w : World} {A : Around} {h₀ : Heap} {x y : List Nat} {a : Nat} {i j : Int} {t u va vb : Tok} (hi : i = a) (hj : j = x.length) (ha : a ≤ x.length) :
    Cl w A h₀ (.builtin "str.find") [.str (st x) t, .str (st y) u, .int i va, .int j vb] (IsI ((findG x y a).elim (-1) fun n => (n : Int))) := fun s _ => by
  refine wpAny_call_entry PySem.F.slot_str_find (typeIs_str _ _ _) PySem.F.entry_str_find ?_ (PySem.F.args_str_find_4 _ _ _ _)
  show wpAny _ _ ((searchRange (st x).length [.int i va, .int j vb] >>= fun r => pure (st x, st y, r.1, r.2)) >>= _) _ _ s
  refine wpAny_bind (wpAny_bind (range_two hi (by rw [hj]) (by rw [st_len]; exact Nat.le_refl _) (wpAny_pure ?_)))
  show wpAny _ _ (match occurrences (st x) (st y) a x.length 1 with | i :: _ => retInt i | [] => (do rule "str.find.not-found"; retInt (-1))) _ _ s
  rw [occ_at x y a ha]
  unfold findG
  cases occG y 1 0 a a (x.drop a) with
  | nil => exact wpAny_bind (wpAny_rule (wpAny_bind (wpAny_mkInt (wpAny_pure ⟨_, rfl, Keep.refl _, rht, fun _ _ => ⟨_, rfl⟩⟩))))
  | cons i r => exact wpAny_bind (wpAny_mkInt (wpAny_pure ⟨_, rfl, Keep.refl _, rht, fun _ _ => ⟨_, rfl⟩⟩))
end Mine
namespace Mine
open Sem (wp)

section
variable {w : World} {A : Around} {env : Env} {S : Scope} {s₀ s : Shared} {Z B : List Addr} {φ : Heap} {vs : List (Str × Vp)} {ow : List (Str × Addr × List Vp)} {L : Addr}

theorem Ts.gtI {H : Heap} {l r : Expr} {p : Pos} {x y : Int} (hl : Ev w A env H l (IsI x)) (hr : Ev w A env H r (IsI y)) (hm : behindInMarks .Gt r = false := by with_unfolding_all rfl) : Ts w A env H (.Compare l [.Gt] [r] p) (decide (y < x)) :=
  Ts.cmp hl hr (fun _ _ _ _ _ s ⟨t, ha⟩ ⟨u, hb⟩ _ => by subst ha hb; exact PyProof.Rows.gt_int ⟨Keep.refl _, Rest.refl _, rfl⟩) hm
theorem Ts.geI {H : Heap} {l r : Expr} {p : Pos} {x y : Int} (hl : Ev w A env H l (IsI x)) (hr : Ev w A env H r (IsI y)) (hm : behindInMarks .GtE r = false := by with_unfolding_all rfl) : Ts w A env H (.Compare l [.GtE] [r] p) (decide (y ≤ x)) :=
  Ts.cmp hl hr (fun _ _ _ _ _ s ⟨t, ha⟩ ⟨u, hb⟩ _ => by subst ha hb; exact PyProof.Rows.ge_int ⟨Keep.refl _, Rest.refl _, rfl⟩) hm
theorem Ts.str {H : Heap} {e : Expr} {x : List Nat} (he : Ev w A env H e (IsS (st x))) (hx : x.length ≤ 100000) (hi : isTrue e env (eval e env) = (do let v ← eval e env; standAt e.pos; holding [v] (truthy v)) := by rfl) :
    Ts w A env H e ((x.length : Int) != 0) := Ts.val he (fun _ _ _ s ⟨t, h⟩ _ => by
    subst h
    exact P.truthy_str (by rw [st_len]; omega) ⟨Keep.refl _, rht, by rw [st_len]⟩) hi

/-- xs[-1] -/
theorem Ev.lastL {H : Heap} {value slice : Expr} {pos : Pos} {ps : List Vp} {p : Vp} (hv : Ev w A env H value (fun _ v h₁ => (VL ps).p h₁ v)) (hi : Ev w A env H slice (IsI (-1))) (h : ps[ps.length - 1]? = some p) 
    (hs : ∀ o k u, subscripted slice false o (.int k u) = operate [o, .int k u] (getItem o (.int k u)) := by intro _ _ _; with_unfolding_all rfl)
    (ht : ∀ o r, letTemporaryGo value o r = pure () := by intro _ _; with_unfolding_all rfl) : Ev w A env H (.Subscript value slice pos) (fun _ v h₁ => p.p h₁ v) := fun s k =>
  Subscript_ (hv.use k fun v s₁ k₁ r₁ h₁ => hi.use (k.trans k₁) fun u s₂ k₂ r₂ h₂ => by
    obtain ⟨a, us, rfl, hl, hA⟩ := h₁
    obtain ⟨t2, rfl⟩ := h₂
    obtain ⟨x, hx, hp⟩ := hA.get h
    have hl' : Heap.IsList _ a us.toArray := hl.mono k₂
    have hlt := (List.getElem?_eq_some_iff.mp h).1
    have ez : us.toArray.size = ps.length := hA.length
    refine subscriptTail_builtin hl'.typeIs slot_list_getitem.lookup (wpAny_getItem_list_neg hl' (by decide) (by rw [ez]; omega) (by decide) (x := x) ?_ ⟨k₁.trans k₂, r₁.trans r₂, p.mono k₂ hp⟩) (hs _ _ _) (ht _)
    have e : (-1 + (us.toArray.size : Int)).toNat = ps.length - 1 := by rw [ez]; omega
    rw [e]
    simpa using hx)

/-- assert -/
theorem assertT {test : Expr} {pos : Pos} {b : Bool} {Q : Flow → Shared → Prop} (hh : A.handled = none) (ht : Ts w A env s.heap test b) (hb : b = true) (h : ∀ s', Keep s.heap s'.heap → Rest s s' → Q .next s') : wpAny (model prg w) A (exec (.Assert test none pos) env) Q noE s :=
  wpAny_Assert hh (ht.use (Keep.refl _) fun c s' k r e => by subst e hb; exact h s' k r)

/-- x, y = (e₁, e₂) -/
theorem St.swap2 {x y : Str} {px py tp : Pos} {c1 c2 : Nat} {p2 pos : Pos} {e₁ e₂ : Expr} {p q : Vp} {Q : Flow → Shared → Prop} (h : St w s₀ Z B φ env.locals vs ow s) (C : Cx A env S) (h₁ : Ev w A env s.heap e₁ (fun _ v _ => p.p φ v)) (h₂ : Ev w A env s.heap e₂ (fun _ v _ => q.p φ v))
    (hx : S.names.lookup x = some .local) (hy : S.names.lookup y = some .local) (ox : getO ow x = none) (oy : getO ow y = none)
    (hw : ∀ env' : Env, env'.scope = S → swappedStores [.Tuple [.Name x px, .Name y py] c1 tp] (.Tuple [e₁, e₂] c2 p2) env' = pure (some [x, y]))
    (hq : ∀ s', St w s₀ Z B φ env.locals ((x, p) :: (y, q) :: vs) ow s' → Q .next s')
    (hs : starEach [e₁, e₂] env = (false, eval e₁ env) :: starEach [e₂] env := by rfl) (hs2 : starEach [e₂] env = (false, eval e₂ env) :: starEach [] env := by rfl) :
    wpAny (model prg w) A (exec (.Assign [.Tuple [.Name x px, .Name y py] c1 tp] (.Tuple [e₁, e₂] c2 p2) pos) env) Q noE s := by
  refine Assign_Tuple_swapped (names := [x, y]) ((ev_tup2 h₁ h₂ hs hs2).use (Keep.refl _) fun v s₁ k₁ r₁ hv => ?_) rfl (hw env C.sc)
  obtain ⟨T, a, b, g₁, g₂, rfl, hT, hT2, ha, hb, _, _⟩ := hv
  refine unpackItems_tuple (items := #[a, b]) C.hh ⟨_, hT2, rfl, _, rfl⟩ fun h' he => ?_
  have k' : Keep s₁.heap h' := fun b o e => he b o (Nat.ne_of_lt (Heap.lt_size e)) e
  have h1 := (h.step k₁ r₁).step (s' := { s₁ with heap := h' }) k' rht
  have hp : (env.scope.kind == .class || (env.scope.kind == .module && env.locals != env.globals)) = false := by rw [C.k]; rfl
  obtain ⟨m, hn, hm⟩ := h1.ns
  show wpAny _ A (do holding [a] (bindName env y b); holding [] (bindName env x a); pure ()) _ _ _
  refine wpAny_bind (wpAny_holding (wpAny_bindName (wpAny_storeName_local (C.of hy) hn (fun h₂ hn₂ hs₂ => ?_) hp)))
  have h2 := h1.put (t := s₁.toks) oy hb hm hn₂ hs₂
  obtain ⟨m2, hn2, hm2⟩ := h2.ns
  exact wpAny_bind (wpAny_holding (wpAny_bindName (wpAny_storeName_local (C.of hx) hn2 (fun h₃ hn₃ hs₃ => wpAny_pure (hq _ (h2.put ox ha hm2 hn₃ hs₃))) hp)))

/-- x += e, ints -/
theorem St.augI {x : Str} {p1 pos : Pos} {e : Expr} {i j : Int} {Q : Flow → Shared → Prop} (h : St w s₀ Z B φ env.locals vs ow s) (C : Cx A env S) (hx : vs.lookup x = some (VI i)) (hl : S.names.lookup x = some .local) (ox : getO ow x = none) (he : Ev w A env s.heap e (IsI j))
    (hq : ∀ s', St w s₀ Z B φ env.locals ((x, VI (i + j)) :: vs) ow s' → Q .next s') : wpAny (model prg w) A (exec (.AugAssign (.Name x p1) .Add e pos) env) Q noE s := by
  obtain ⟨m, hn, ha, hb⟩ := h.ns
  obtain ⟨u, hu, tu, rfl⟩ := ha x _ hx
  refine aug (V' := IsI (i + j)) hn hu he C.k (C.of hl) (fun v h₁ s₁ ⟨t, hv⟩ _ => by subst hv; exact PyProof.Rows.iadd_int ⟨Keep.refl _, rht, _, rfl⟩) fun v h₁ s' ⟨t, hv⟩ k x' hn' r => ?_
  exact hq s' ((h.step (s' := { s with heap := h₁ }) k rht).putX ox ⟨t, hv⟩ ⟨ha, hb⟩ hn' x' ⟨r.os, r.bare, r.gens, r.size⟩)
end
end Mine
namespace Mine
open Sem (wp)

section
variable {α : Type} [DecidableEq α]
/-- the parts stand in x, one behind the other -/
noncomputable def ellGo (x : List α) : List (List α) → Nat → Bool
  | [], _ => true
  | w :: r, p => match findG x w p with | some i => ellGo x r (i + w.length) | none => false
noncomputable def posG (x : List α) (ws : List (List α)) : Nat := ws.foldl (fun p w => (findG x w p).getD 0 + w.length) 0
end
theorem occ_in (y : List Nat) (L : Nat) : ∀ (r : List Nat) (n free i e : Nat), e ∈ occG y L n free i r → e + y.length ≤ i + r.length
  | [], n, free, i, e, h => by
    unfold occG at h
    split at h
    · rename_i q
      rw [List.mem_singleton.mp h, ← q.2.2]; simp
    · cases h
  | c :: r, n, free, i, e, h => by
    unfold occG at h
    split at h
    · rename_i q
      rcases List.mem_cons.mp h with rfl | h
      · have := congrArg List.length q.2.2
        rw [List.length_take] at this
        omega
      · have := occ_in y L r _ _ _ e h
        rw [List.length_cons]; omega
    · have := occ_in y L r _ _ _ e h
      rw [List.length_cons]; omega
theorem find_in {x y : List Nat} {a n : Nat} (ha : a ≤ x.length) (h : findG x y a = some n) : n + y.length ≤ x.length := by
  unfold findG at h
  have := occ_in y 1 _ _ _ _ n (List.mem_of_head? h)
  rw [List.length_drop] at this
  omega

section
variable {w : World} {A : Around} {env : Env} {S : Scope} {s₀ s : Shared} {Z B : List Addr} {φ : Heap} {vs : List (Str × Vp)} {ow : List (Str × Addr × List Vp)} {L : Addr}

theorem ell_cons {x v : List Nat} {r : List (List Nat)} {p : Nat} : ellGo x (v :: r) p = match findG x v p with | some i => ellGo x r (i + v.length) | none => false := rfl
/-- an int, and a fact -/
noncomputable def VF (i : Int) (P : Prop) : Vp := ⟨fun _ v => (∃ t, v = .int i t) ∧ P, fun _ h => h⟩
theorem St.fact {x : Str} {i : Int} {P : Prop} (h : St w s₀ Z B φ L vs ow s) (e : vs.lookup x = some (VF i P)) : P := by
  obtain ⟨m, _, a, _⟩ := h.ns
  obtain ⟨_, _, _, p⟩ := a x _ e
  exact p
theorem St.nV {x : Str} {pos : Pos} {i : Int} {P : Prop} (h : St w s₀ Z B φ env.locals vs ow s) (C : Cx A env S) (e : vs.lookup x = some (VF i P)) (hl : S.names.lookup x = some .local) (hd : (x == ("__debug__" : Str)) = false := by decide) :
    Ev w A env s.heap (.Name x pos) (IsI i) := (h.nm C e hl hd).mono (Keep.refl _) fun _ _ _ _ _ q => q.1
theorem fzV {H : Heap} {e : Expr} {i : Int} {P : Prop} (h : Ev w A env H e (IsI i)) (p : P) : Ev w A env H e (Fz φ (VF i P)) := h.mono (Keep.refl _) fun _ _ _ _ _ x _ _ _ => ⟨x, p⟩
/-- other names for what the names hold -/
theorem St.conv {x : Str} {i : Int} {P : Prop} (h : St w s₀ Z B φ L ((x, VI i) :: vs) ow s) (p : P) : St w s₀ Z B φ L ((x, VF i P) :: vs) ow s :=
  { h with ns := let ⟨m, n, a, b⟩ := h.ns; ⟨m, n, fun y q e => by
      rw [List.lookup_cons] at e
      have := a y
      rw [List.lookup_cons] at this
      split at e
      · rename_i hy
        rw [hy] at this
        cases e
        obtain ⟨v, hv, hp⟩ := this _ rfl
        exact ⟨v, hv, hp, p⟩
      · rename_i hy
        rw [hy] at this
        exact this q e, b⟩ }

theorem Ev.findS {H : Heap} {o e₁ e₂ e₃ : Expr} {ap pos : Pos} {x y : List Nat} {a : Nat} (ho : Ev w A env H o (IsS (st x))) (h₁ : Ev w A env H e₁ (IsS (st y))) (h₂ : Ev w A env H e₂ (IsI (a : Int))) (h₃ : Ev w A env H e₃ (IsI (x.length : Int))) (ha : a ≤ x.length)
    (hs : starEach [e₁, e₂, e₃] env = (false, eval e₁ env) :: starEach [e₂, e₃] env := by rfl) (hs2 : starEach [e₂, e₃] env = (false, eval e₂ env) :: starEach [e₃] env := by rfl) (hs3 : starEach [e₃] env = (false, eval e₃ env) :: starEach [] env := by rfl)
    (hpl : (backTo pos (starEach [e₂, e₃] env)).any (·.1) = false := by rfl)
    {pl : Sem Bool} (hev : eval (.Call (.Attribute o "find" ap) [e₁, e₂, e₃] [] pos) env = (do
      let ov ← eval o env
      standAt ap.atName
      let (f, first) ← holding [ov] (getMethod ov "find" pl)
      callWith pos f first (backTo pos (starEach [e₁, e₂, e₃] env)) []) := by rfl) : Ev w A env H (.Call (.Attribute o "find" ap) [e₁, e₂, e₃] [] pos) (IsI ((findG x y a).elim (-1) fun n => (n : Int))) :=
  Ev.meth (id := "str.find") ho (as3 h₁ h₂ h₃ hs hs2 hs3) (fun _ v _ s pl Q ⟨t, hv⟩ _ hq => by subst hv; exact GM.find hq)
    (fun h₀ v h₁ vs h₂ ⟨t, hv⟩ ⟨a', b, c, g₁, g₂, hvs, ⟨t1, e1⟩, ⟨t2, e2⟩, ⟨t3, e3⟩, _⟩ _ _ => by subst hv hvs e1 e2 e3; exact call_find rfl rfl ha) hs hpl hev

theorem as_VS {xs : List (List Nat)} {i : Nat} {x : List Nat} (h : xs[i]? = some x) : (xs.map VS)[i]? = some (VS x) := by rw [List.getElem?_map, h]; rfl

set_option maxHeartbeats 1000000 in
theorem cl_ellipsis {H : Heap} {want got u r : List Nat} {vw vg : Value} (T : TopOk w H) (hh : A.handled = none) (hroom : A.depth + 10 < recursionLimit) (hvw : (VS want).p H vw) (hvg : (VS got).p H vg) (hz : want.length ≤ 1000) (hz2 : got.length ≤ 1000)
    (hp : splitG want [46, 46, 46] (want.length + 1) = [[], u, r, []]) (ho : (occG [46, 46, 46] 1 0 0 0 want).isEmpty = false) :
    Cl w A H (.ref 21) [vw, vg] (IsB (ellGo got [[], u, r, []] 0)) := by
  refine enterS (vs := [("got", VS got), ("want", VS want)]) T hh rfl (by kernel_rfl) (Nat.lt_of_le_of_lt (Nat.le_add_right _ _) hroom) rfl
    (binds := [("want", vw), ("got", vg)]) (fun s X => BindsTo.of_eq rfl) (locs rfl) (.cons hvg (.cons hvw .nil)) (by decide) rfl rfl rfl ?_ fun _ _ _ _ _ q => q
  intro A' env s₀ s Q k hd C h hQ
  have dots : PySem.Str.ofString "..." = st [46, 46, 46] := by decide
  have mark : ∀ {s : Shared} {φ : Heap} {vs : List (Str × Vp)} {ow : List (Str × Addr × List Vp)} {p : Pos}, St w s₀ [] [] φ env.locals vs ow s → Ev w A' env s.heap (.Name "ELLIPSIS_MARKER" p) (IsS (st [46, 46, 46])) := fun h => by
    rw [← dots]
    exact name_str (h.gl (v := .str "..." 189) C rfl (by kernel_rfl))
  refine seq (ifs (Ts.notInS (mark h) (h.nS C rfl rfl)) fun s₁ k₁ r₁ => ?_)
  refine iteF (by rw [st_len, occ_G]; exact ho) (sq0 ?_)
  have h1 := h.step k₁ r₁
  have hlow : Low [46, 46, 46] := fun c hc => by simp at hc; omega
  refine seq (h1.asg C (nw_fz (Ev.splitS (h1.nS C rfl rfl) (mark h1) (by simp) hlow (by omega))) rfl rfl fun φ₂ s₂ q₂ h2 => ?_)
  rw [hp] at h2
  refine seq (assertT C.hh (Ts.geI (Ev.lenL (h2.len C rfl) (h2.nF C rfl rfl) (by show 4 ≤ 1000000; decide)) Ev.cint) (dT (by show (2 : Int) ≤ 4; decide)) fun s₃ k₃ r₃ => ?_)
  have h3 := h2.step k₃ r₃
  refine seq (h3.swap2 (p := VI 0) (q := VI got.length) C Ev.cint ((Ev.lenS (h3.len C rfl) (h3.nS C rfl rfl) (by rw [st_len, sizeLine_eq]; omega)).mono (Keep.refl _) fun _ _ _ _ _ q => by rw [st_len] at q; exact q) rfl rfl rfl rfl
    (fun e he => by cases e; cases he; rfl) fun s₄ h4 => ?_)
  refine seq (h4.asg C (p := VS []) (fzS ((Ev.idxL (h4.nF C rfl rfl) Ev.cint (as_VS (xs := [[], u, r, []]) (i := 0) rfl) (by decide)).mono (Keep.refl _) fun _ _ _ _ _ q => q)) rfl rfl fun φ₅ s₅ q₅ h5 => ?_)
  refine seq (ifs (Ts.str (h5.nS C rfl rfl) (by simp)) fun s₆ k₆ r₆ => ?_)
  refine iteF rfl (sq0 ?_)
  have h6 := h5.step k₆ r₆
  refine seq (h6.asg C (p := VS []) (fzS ((Ev.lastL (h6.nF C rfl rfl) (Ev.neg Ev.cint) (as_VS (xs := [[], u, r, []]) (i := 3) rfl)).mono (Keep.refl _) fun _ _ _ _ _ q => q)) rfl rfl fun φ₇ s₇ q₇ h7 => ?_)
  refine seq (ifs (Ts.str (h7.nS C rfl rfl) (by simp)) fun s₈ k₈ r₈ => ?_)
  refine iteF rfl (sq0 ?_)
  have h8 := h7.step k₈ r₈
  refine seq (ifs (Ts.gtI (h8.nI C rfl rfl) (h8.nI C rfl rfl)) fun s₉ k₉ r₉ => ?_)
  refine iteF (dF (by omega)) (sq0 ?_)
  have h9 := h8.step k₉ r₉
  have h10 := (h9.weak (vs' := [("startpos", VI 0), ("endpos", VI got.length), ("got", VS got), ("ws", VL ([[], u, r, []].map VS))]) (.cons rfl (.cons rfl (.cons rfl (.cons rfl .nil))))).conv
    (P := posG got ([[], u, r, []].take 0) ≤ got.length ∧ ellGo got ([[], u, r, []].drop 0) (posG got ([[], u, r, []].take 0)) = ellGo got [[], u, r, []] 0) ⟨Nat.zero_le _, rfl⟩
  generalize hws : ([[], u, r, []] : List (List Nat)) = ws at h10 hQ
  have hlen : ws.length = 4 := by rw [← hws]; rfl
  refine seq (h10.for (p := VL (ws.map VS)) (n := (ws.map VS).length) (pI := fun i => (ws.map VS).getD i VN) (h10.nZ C rfl rfl) (fun φ' v s' _ k' hv => itr_list C.hh k' hv)
    (fun i => [("startpos", VF (posG got (ws.take i) : Nat) (posG got (ws.take i) ≤ got.length ∧ ellGo got (ws.drop i) (posG got (ws.take i)) = ellGo got ws 0)), ("endpos", VI got.length), ("got", VS got)])
    (fun i => [("w", (ws.map VS).getD i VN), ("startpos", VF (posG got (ws.take i) : Nat) (posG got (ws.take i) ≤ got.length ∧ ellGo got (ws.drop i) (posG got (ws.take i)) = ellGo got ws 0)), ("endpos", VI got.length), ("got", VS got)])
    (fun _ => []) (.cons rfl (.cons rfl (.cons rfl .nil))) rfl (fun i => tgt_name C rfl rfl) ?_ ?_)
  · intro i I φ₃ s₃ hi k₃ hL back
    rw [List.length_map] at hi
    obtain ⟨f1, f2⟩ := hL.fact (x := "startpos") rfl
    have e1 : (ws.map VS).getD i VN = VS ws[i] := by rw [List.getD_eq_getElem?_getD, List.getElem?_map, List.getElem?_eq_getElem hi]; rfl
    have e2 : ws.drop i = ws[i] :: ws.drop (i + 1) := List.drop_eq_getElem_cons hi
    have e3 : posG got (ws.take (i + 1)) = (findG got ws[i] (posG got (ws.take i))).getD 0 + ws[i].length := fold_take _ _ ws (List.getElem?_eq_getElem hi)
    rw [e1] at hL
    rw [e2] at f2
    rw [e3]
    generalize hP : posG got (ws.take i) = P at *
    refine seq (hL.asg C (fzI (Ev.findS (hL.nS C rfl rfl) (hL.nS C rfl rfl) (hL.nV C rfl rfl) (hL.nI C rfl rfl) f1)) rfl rfl fun φ₄ s₄ q₄ hA => ?_)
    refine seq (ifs (Ts.ltI (hA.nI C rfl rfl) Ev.cint) fun s₅ k₅ r₅ => ?_)
    have hB := hA.step k₅ r₅
    rw [ell_cons] at f2
    cases hf : findG got ws[i] P with
    | none =>
      rw [hf] at f2
      refine iteT (dT (by show (-1 : Int) < 0; decide)) (seq (rets Ev.cbool fun v s₆ k₆ r₆ hv => ?_))
      have hC := back _ _ _ _ (hB.step k₆ r₆)
      exact hQ v s₆ hC.keepE hC.rest (by rw [← f2]; exact hv)
    | some n =>
      rw [hf] at f2
      have hin := find_in f1 hf
      refine iteF (dF (by show ¬ ((n : Int) < 0); omega)) (sq0 ?_)
      rw [hf] at hB
      refine seq (hB.augI (i := (n : Int)) (j := (ws[i].length : Int)) C rfl rfl rfl ((Ev.lenS (hB.len C rfl) (hB.nS C rfl rfl) (by rw [st_len, sizeLine_eq]; omega)).mono (Keep.refl _) fun _ _ _ _ _ q => by rw [st_len] at q; exact q) fun s₆ hC => ?_)
      have hD := (hC.weak (vs' := [("startpos", VI ((n : Int) + (ws[i].length : Int))), ("endpos", VI got.length), ("got", VS got)]) (.cons rfl (.cons rfl (.cons rfl .nil)))).conv
        (P := n + ws[i].length ≤ got.length ∧ ellGo got (ws.drop (i + 1)) (n + ws[i].length) = ellGo got ws 0) ⟨hin, f2⟩
      exact sq0 ⟨φ₄, q₄, hD⟩
  · intro φ₃ s₃ k₃ h3
    obtain ⟨f1, f2⟩ := h3.fact (x := "startpos") rfl
    rw [List.length_map, List.drop_length] at f2
    refine seq (rets Ev.cbool fun v s₄ k₄ r₄ hv => ?_)
    have h4 := h3.step k₄ r₄
    exact hQ v s₄ h4.keepE h4.rest (by rw [← f2]; exact hv)
end
end Mine
namespace Mine
open Sem (wp)
open PySem.Builtin.Str (occurrences partsBetween)

section
variable {w : World} {A : Around} {env : Env} {S : Scope} {s₀ s : Shared} {Z B : List Addr} {φ : Heap} {vs : List (Str × Vp)} {ow : List (Str × Addr × List Vp)} {L : Addr}

theorem call_split1 {x y : List Nat} {i : Int} {t u v : Tok} (hi : i = 1) (hy : y ≠ []) (hl : Low y) (hx : x.length ≤ 100000) {h₀ : Heap} : Cl w A h₀ (.builtin "str.split") [.str (st x) t, .str (st y) u, .int i v] (Nw (VL ((splitG x y 1).map VS))) := fun s _ => by
  subst hi
  have hy0 : ((st y).length == 0) = false := by rw [st_len]; cases y with | nil => exact absurd rfl hy | cons => rfl
  have ez := sizeLine_eq
  have hsz : (st x).length ≤ sizeLine := by rw [st_len, ez]; omega
  have lim : limitOf (st x) 1 = 1 := rfl
  have hn : (partsBetween (st x) (occurrences (st x) (st y) 0 (st x).length (limitOf (st x) 1)) (st y).length).length ≤ sizeLine := by
    have e1 := StrLaws.occ_length_le_len (st x) (st y) 0 (st x).length (limitOf (st x) 1)
    rw [length_partsBetween, ez]
    rw [st_len] at e1 ⊢
    omega
  have key : ∀ (l : List (Str × Tok)) (tk : Nat), l.map (·.1) = Txt.splitMax (st x) (st y) 1 →
      Keep s.heap (s.heap.push { cls := .type "list", data := .seq (strValues l).toArray }) ∧ Rest s { s with heap := s.heap.push { cls := .type "list", data := .seq (strValues l).toArray }, toks := tk } ∧
        ∀ h, Keep h s.heap → Nw (VL ((splitG x y 1).map VS)) h (.ref s.heap.objs.size) (s.heap.push { cls := .type "list", data := .seq (strValues l).toArray }) := fun l tk e =>
    ⟨fun b o e => Heap.get?_push_of_some _ e, rht, fun h hk => nw_push hk fun φ => A2.strs (SL.of_values (e.trans (split1_G hl)))⟩
  cases h1 : (decide ((st x).length < (st y).length) || decide (Builtin.Str.strKind (st x) < Builtin.Str.strKind (st y)))
  · cases hf : (occurrences (st x) (st y) 0 (st x).length (limitOf (st x) 1)).isEmpty
    · refine call_meets PySem.F.slot_str_split (typeIs_str _ _ _) PySem.F.entry_str_split (PySem.F.args_str_split_3 _ _ _) (meets_str_split_sep_max (st x) (st y) 1 t u v (by decide) h1 hy0 hf hsz hn) ?_
      show wants _ _ _ { s with toks := _, heap := s.heap.push { cls := .type "list", data := .seq (strsFrom s.toks (partsBetween (st x) (occurrences (st x) (st y) 0 (st x).length (limitOf (st x) 1)) (st y).length)).toArray } }
      rw [strsFrom_eq]
      exact key (numbered s.toks _) _ ((numbered_texts _ _).trans ((if_neg (ne_true_of_eq_false h1)).trans (if_neg (ne_true_of_eq_false hf))).symm)
    · exact call_meets PySem.F.slot_str_split (typeIs_str _ _ _) PySem.F.entry_str_split (PySem.F.args_str_split_3 _ _ _) (meets_str_split_max_not_found (st x) (st y) 1 t u v (by decide) h1 hy0 hf)
        (key [(st x, t)] s.toks ((if_neg (ne_true_of_eq_false h1)).trans (if_pos hf)).symm)
  · exact call_meets PySem.F.slot_str_split (typeIs_str _ _ _) PySem.F.entry_str_split (PySem.F.args_str_split_3 _ _ _) (meets_str_split_max_cannot_occur (st x) (st y) 1 t u v (by decide) h1)
      (key [(st x, t)] s.toks (if_pos h1).symm)

theorem Ev.splitS1 {H : Heap} {o e e₂ : Expr} {ap pos : Pos} {x y : List Nat} (ho : Ev w A env H o (IsS (st x))) (he : Ev w A env H e (IsS (st y))) (he₂ : Ev w A env H e₂ (IsI 1)) (hy : y ≠ []) (hl : Low y) (hx : x.length ≤ 100000)
    (hs : starEach [e, e₂] env = (false, eval e env) :: starEach [e₂] env := by rfl) (hs2 : starEach [e₂] env = (false, eval e₂ env) :: starEach [] env := by rfl) (hpl : (backTo pos (starEach [e₂] env)).any (·.1) = false := by rfl)
    {pl : Sem Bool} (hev : eval (.Call (.Attribute o "split" ap) [e, e₂] [] pos) env = (do
      let ov ← eval o env
      standAt ap.atName
      let (f, first) ← holding [ov] (getMethod ov "split" pl)
      callWith pos f first (backTo pos (starEach [e, e₂] env)) []) := by rfl) : Ev w A env H (.Call (.Attribute o "split" ap) [e, e₂] [] pos) (Nw (VL ((splitG x y 1).map VS))) :=
  Ev.meth (id := "str.split") ho (as2 he he₂ hs hs2) (fun _ v _ s pl Q ⟨t, hv⟩ _ hq => by subst hv; exact GM.split hq)
    (fun h₀ v h₁ vs h₂ ⟨t, hv⟩ ⟨a, b, g, hvs, ⟨t1, e1⟩, ⟨t2, e2⟩, _⟩ _ _ => by subst hv hvs e1 e2; exact call_split1 rfl hy hl hx) hs hpl hev

noncomputable def changedG {α : Type} [DecidableEq α] (x : List α) (a b : α) : List α := joinG [b, a] (splitG x [a, b] 1)

theorem cl_changed {H : Heap} {x : List Nat} {a b : Nat} {vx vp : Value} (T : TopOk w H) (hh : A.handled = none) (hroom : A.depth + 10 < recursionLimit) (hvx : (VS x).p H vx) (hvp : (VS [a, b]).p H vp) (hz : x.length ≤ 1000) (ha : a < 256) (hb : b < 256) :
    Cl w A H (.ref 121) [vx, vp] (IsS (st (changedG x a b))) := by
  refine enterS (vs := [("pair", VS [a, b]), ("word", VS x)]) T hh rfl (by kernel_rfl) (Nat.lt_of_le_of_lt (Nat.le_add_right _ _) hroom) rfl
    (binds := [("word", vx), ("pair", vp)]) (fun s X => BindsTo.of_eq rfl) (locs rfl) (.cons hvp (.cons hvx .nil)) (by decide) rfl rfl rfl ?_ fun _ _ _ _ _ q => q
  intro A' env s₀ s Q k hd C h hQ
  have hlow : Low [a, b] := fun c hc => by
    rcases List.mem_cons.mp hc with rfl | hc
    · exact ha
    · rw [List.mem_singleton.mp hc]; exact hb
  have t1 := split_tot x [a, b] 1
  have t2 := split_num x [a, b] 1
  refine seq (rets (Ev.joinV (sep := [b, a]) (xs := splitG x [a, b] 1) (Ev.addT (x := [b]) (y := [a]) (Ev.idxS (l := [a, b]) (i := 1) (h.nS C rfl rfl) Ev.cint (by simp) (by simp)) (Ev.idxS (l := [a, b]) (i := 0) (h.nS C rfl rfl) Ev.cint (by simp) (by simp)) (by simp))
    (nw_full (Ev.splitS1 (h.nS C rfl rfl) (h.nS C rfl rfl) Ev.cint (by simp) hlow (by omega))) (by show _ + _ * 2 ≤ _; omega)) fun v s₁ k₁ r₁ hv => ?_)
  have h1 := h.step k₁ r₁
  exact hQ v s₁ h1.keepE h1.rest hv
end
end Mine
namespace Mine

section
variable {α : Type} [DecidableEq α]
/-- what is asked of a word: up, down (turned), the sign between -/
noncomputable def wants3 (ks : List α) (k j : Nat) (i : Nat) : List (α × α × α) := match ks[i]?, ks[k]?, ks[j]? with | some a, some b, some c => [(a, b, c)] | _, _, _ => []
noncomputable def wantJ (ks : List α) (k j : Nat) : List (α × α × α) := (List.range (j + 1)).flatMap (wants3 ks k j)
noncomputable def wantK (ks : List α) (k : Nat) : List (α × α × α) := (List.range k).flatMap (wantJ ks k)
noncomputable def wantsG (ks : List α) : List (α × α × α) := (List.range 4).flatMap (wantK ks)
noncomputable def matchG (one : List α) (a b c : α) : Bool := ellGo one [[], [a, b], [c], []] 0
noncomputable def addG (found : List (List α)) (x : List α) : List (List α) := if x ∈ found then found else found ++ [x]
noncomputable def wantUp (one : List α) (s : List (List α) × Bool × Bool) (t : α × α × α) : List (List α) × Bool × Bool :=
  if matchG one t.1 t.2.1 t.2.2 = true then (addG s.1 (changedG one t.1 t.2.1), true, s.2.2) else s
noncomputable def wantDn (one : List α) (s : List (List α) × Bool × Bool) (t : α × α × α) : List (List α) × Bool × Bool :=
  if matchG one t.2.1 t.1 t.2.2 = true then (addG s.1 (changedG one t.2.1 t.1), s.2.1, true) else s
noncomputable def wantStep (one : List α) (s : List (List α) × Bool × Bool) (t : α × α × α) : List (List α) × Bool × Bool := wantDn one (wantUp one s t) t
noncomputable def classF (ws : List (α × α × α)) : Nat → List (List α) → List (List α) → List (List α) → Nat → Option (List (List α) × List (List α) × List (List α))
  | 0, _, _, _, _ => none
  | n + 1, found, lows, highs, at' => match found[at']? with
    | none => some (found, lows, highs)
    | some one => let r := ws.foldl (wantStep one) (found, false, false)
      classF ws n r.1 (if r.2.2 then lows else lows ++ [one]) (if r.2.1 then highs else highs ++ [one]) (at' + 1)

theorem add_pre (found : List (List α)) (x : List α) : found <+: addG found x := by
  unfold addG
  split
  · exact List.prefix_rfl
  · exact List.prefix_append _ _
theorem step_pre (one : List α) (s : List (List α) × Bool × Bool) (t : α × α × α) : s.1 <+: (wantUp one s t).1 ∧ (wantUp one s t).1 <+: (wantStep one s t).1 := by
  constructor
  · unfold wantUp
    split
    · exact add_pre _ _
    · exact List.prefix_rfl
  · unfold wantStep wantDn
    split
    · exact add_pre _ _
    · exact List.prefix_rfl
theorem fold_pre (one : List α) : ∀ (l : List (α × α × α)) (s : List (List α) × Bool × Bool), s.1 <+: (l.foldl (wantStep one) s).1
  | [], s => List.prefix_rfl
  | t :: l, s => ((step_pre one s t).1.trans (step_pre one s t).2).trans (fold_pre one l _)
theorem class_pre (ws : List (α × α × α)) : ∀ (n : Nat) (f l h : List (List α)) (a : Nat) {F L H : List (List α)}, classF ws n f l h a = some (F, L, H) → f <+: F ∧ l <+: L ∧ h <+: H
  | 0, f, l, h, a, F, L, H, e => by cases e
  | n + 1, f, l, h, a, F, L, H, e => by
    unfold classF at e
    split at e
    · cases e; exact ⟨List.prefix_rfl, List.prefix_rfl, List.prefix_rfl⟩
    · rename_i one _
      obtain ⟨x, y, z⟩ := class_pre ws n _ _ _ _ e
      refine ⟨(fold_pre one ws (f, false, false)).trans x, ?_, ?_⟩
      · refine List.IsPrefix.trans ?_ y
        split
        · exact List.prefix_rfl
        · exact List.prefix_append _ _
      · refine List.IsPrefix.trans ?_ z
        split
        · exact List.prefix_rfl
        · exact List.prefix_append _ _
end
section
variable {α : Type}
theorem wants3_eq {ks : List α} {k j i : Nat} (hi : i < ks.length) (hk : k < ks.length) (hj : j < ks.length) : wants3 ks k j i = [(ks[i], ks[k], ks[j])] := by
  unfold wants3
  rw [List.getElem?_eq_getElem hi, List.getElem?_eq_getElem hk, List.getElem?_eq_getElem hj]
theorem wants3_mem {ks : List α} {k j i : Nat} {t : α × α × α} (h : t ∈ wants3 ks k j i) : t.1 ∈ ks ∧ t.2.1 ∈ ks ∧ t.2.2 ∈ ks := by
  unfold wants3 at h
  split at h
  · rename_i a b c ha hb hc
    rw [List.mem_singleton.mp h]
    exact ⟨List.mem_of_getElem? ha, List.mem_of_getElem? hb, List.mem_of_getElem? hc⟩
  · cases h
theorem wants_mem {ks : List α} {t : α × α × α} (h : t ∈ wantsG ks) : t.1 ∈ ks ∧ t.2.1 ∈ ks ∧ t.2.2 ∈ ks := by
  obtain ⟨k, _, h⟩ := List.mem_flatMap.mp h
  obtain ⟨j, _, h⟩ := List.mem_flatMap.mp h
  obtain ⟨i, _, h⟩ := List.mem_flatMap.mp h
  exact wants3_mem h
theorem flat_le {β γ : Type} (l : List β) (f : β → List γ) (b : Nat) (h : ∀ x ∈ l, (f x).length ≤ b) : (l.flatMap f).length ≤ l.length * b := by
  induction l with
  | nil => simp
  | cons a l ih =>
    rw [List.flatMap_cons, List.length_append, List.length_cons, Nat.succ_mul]
    have h1 := h a (.head _)
    have h2 := ih fun x hx => h x (.tail _ hx)
    omega
theorem wants3_len (ks : List α) (k j i : Nat) : (wants3 ks k j i).length ≤ 1 := by
  unfold wants3
  split
  · exact Nat.le_refl _
  · exact Nat.zero_le _
theorem flat3_len (ks : List α) (k j i : Nat) : ((List.range i).flatMap (wants3 ks k j)).length ≤ i := by
  have := flat_le (List.range i) (wants3 ks k j) 1 fun x _ => wants3_len ks k j x
  rw [List.length_range, Nat.mul_one] at this
  exact this
theorem flatJ_len (ks : List α) (k j : Nat) (hj : j ≤ 4) : ((List.range j).flatMap (wantJ ks k)).length ≤ 20 := by
  have := flat_le (List.range j) (wantJ ks k) 5 fun x hx => Nat.le_trans (flat3_len ks k x (x + 1)) (by have := List.mem_range.mp hx; omega)
  rw [List.length_range] at this
  omega
theorem flatK_len (ks : List α) (k : Nat) (hk : k ≤ 4) : ((List.range k).flatMap (wantK ks)).length ≤ 80 := by
  have := flat_le (List.range k) (wantK ks) 20 fun x hx => flatJ_len ks x x (by have := List.mem_range.mp hx; omega)
  rw [List.length_range] at this
  omega
end
theorem want_split {a b c : Nat} (ha : a ≠ 46) (hb : b ≠ 46) (hc : c ≠ 46) : splitG ([46, 46, 46] ++ [a, b] ++ ([46, 46, 46] ++ [c] ++ [46, 46, 46])) [46, 46, 46] (([46, 46, 46] ++ [a, b] ++ ([46, 46, 46] ++ [c] ++ [46, 46, 46])).length + 1) = [[], [a, b], [c], []] := by
  simp [splitG, occG, partsG, ha, hb, hc]
theorem want_occ {a b c : Nat} : (occG [46, 46, 46] 1 0 0 0 ([46, 46, 46] ++ [a, b] ++ ([46, 46, 46] ++ [c] ++ [46, 46, 46]))).isEmpty = false := by
  simp [occG]
end Mine
namespace Mine
open Sem (wp)

/-! comprehensions of lists, of any depth -/
noncomputable def emitOf (elt : Expr) (acc : Value) (env : Env) : Sem Unit := do let _ ← call (.builtin "list.append") [acc, ← eval elt env]
noncomputable def innerK (e elt : Expr) (gens : List Comprehension) (d : Nat) (acc : Value) (env : Env) (K : Sem Fin) : Sem Fin := match gens[d + 1]? with
  | some g' => do
    let x ← eval g'.iter env
    standAt g'.iter.pos
    let x ← if g'.is_async != 0 then foldedIterable g'.iter x else foldedSetIterable g'.iter env x
    let _ ← runOwn (.compStart e (d + 1) (← holding [x] (if g'.is_async != 0 then asyncIter x else pyIter x)) acc env) env
    K
  | none => do emitOf elt acc env; K

theorem turn_list (elt : Expr) (gens : List Comprehension) (scope : Scope) (pos : Pos) (d : Nat) (target iter : Expr) (ifs : List Expr) (it acc : Value) (env : Env) (hg : gens[d]? = some ⟨target, iter, ifs, 0⟩) :
    compTurn (.ListComp elt gens scope pos) d it acc env = (do
      standAt iter.pos
      match ← pyNext it with
      | none => pure (.done .next)
      | some v =>
        letOwnedTupleGo target it v
        assign target env v
        let mut ok := true
        for c in ifs do
          if ok then ok ← isTrue c env (eval c env)
        if ok then
          innerK (.ListComp elt gens scope pos) elt gens d acc env (again (.compLoop (.ListComp elt gens scope pos) d it acc env))
        else again (.compLoop (.ListComp elt gens scope pos) d it acc env)) := by
  unfold compTurn innerK emitOf
  simp only [hg]
  rfl

section
variable {w : World} {A : Around} {env : Env} {S : Scope} {s₀ s : Shared} {Z B : List Addr} {φ : Heap} {vs : List (Str × Vp)} {ow : List (Str × Addr × List Vp)} {L : Addr}

theorem St.markZ (h : St w s₀ Z B φ L vs ow s) (Z' : List Addr) (hL : L ∈ Z') (ho : ∀ e ∈ ow, e.2.1 ∈ Z') : St w s Z' B φ L vs ow s :=
  ⟨h.top, h.kp, Xt.refl _ _, Rest.refl _, h.L0, .inl hL, h.ns, fun e he => let ⟨a, b, c, _⟩ := h.own e he; ⟨a, b, c, .inl (ho e he)⟩, h.dis, h.bz⟩
theorem St.backZ {Z' B' : List Addr} {s' : Shared} {φ' : Heap} {vs' : List (Str × Vp)} {ow' : List (Str × Addr × List Vp)} (h : St w s₀ Z B φ L vs ow s) (hz : ∀ b ∈ Z', b ∈ Z ∨ s₀.heap.get? b = none) (h' : St w s Z' B' φ' L vs' ow' s') : St w s₀ Z B' φ' L vs' ow' s' := by
  have new : ∀ b, s.heap.get? b = none → b ∈ Z ∨ s₀.heap.get? b = none := fun b hb => by
    by_cases hz : b ∈ Z
    · exact .inl hz
    · refine .inr ?_
      cases hq : s₀.heap.get? b with
      | none => rfl
      | some o => rw [h.xt b o hz hq] at hb; cases hb
  refine ⟨h'.top, h'.kp, fun b o hb e => ?_, h.rest.trans h'.rest, h'.L0, h.LZ, h'.ns, fun e he => ?_, h'.dis, h'.bz⟩
  · refine h'.xt b o (fun q => ?_) (h.xt b o hb e)
    rcases hz b q with q | q
    · exact hb q
    · rw [q] at e; cases e
  · obtain ⟨a, b, c, d⟩ := h'.own e he
    exact ⟨a, b, c, d.elim (hz _) (new _)⟩
/-- a busy object turned -/
theorem St.busyT {I : Addr} {s' : Shared} (h : St w s₀ Z B φ L vs ow s) (hb : I ∈ B) (hI : I ∈ Z ∨ s₀.heap.get? I = none) (x : Xt [I] s.heap s'.heap) (r : Rest s s') (e : ∃ o, s'.heap.get? I = some o) : St w s₀ Z B φ L vs ow s' := by
  obtain ⟨b1, b2, _⟩ := h.bz I hb
  refine ⟨h.top, fun b o e => x b o (fun q => ?_) (h.kp b o e), fun b o hb e => x b o (fun q => ?_) (h.xt b o hb e), h.rest.trans r, h.L0, h.LZ, ?_, fun d hd => ?_, h.dis, fun b hb => ?_⟩
  · rw [List.mem_singleton.mp q, b1] at e; cases e
  · rw [List.mem_singleton.mp q] at hb e
    rcases hI with z | z
    · exact hb z
    · rw [z] at e; cases e
  · obtain ⟨m, n, a⟩ := h.ns
    exact ⟨m, x.ns n fun q => b2.1 (List.mem_singleton.mp q).symm, a⟩
  · obtain ⟨⟨us, l, y⟩, c⟩ := h.own d hd
    exact ⟨⟨us, plain_xt l x fun q => b2.2 d hd (List.mem_singleton.mp q), y⟩, c⟩
  · obtain ⟨y, z, o, e'⟩ := h.bz b hb
    refine ⟨y, z, ?_⟩
    by_cases q : b = I
    · exact q ▸ e
    · exact ⟨o, x b o (fun z => q (List.mem_singleton.mp z)) e'⟩

/-- the state of a comprehension: D the list that grows -/
noncomputable def CS (w : World) (s₀ : Shared) (Z B : List Addr) (φ : Heap) (C D : Addr) (vs : List (Str × Vp)) (qs : List Vp) (s : Shared) : Prop :=
  St w s₀ Z B φ C vs [] s ∧ D ∈ B ∧ ∃ ys : List Value, s.heap.PlainList D ys.toArray ∧ A2 φ ys qs
theorem CS.step {C D : Addr} {qs : List Vp} {s' : Shared} (h : CS w s₀ Z B φ C D vs qs s) (k : Keep s.heap s'.heap) (r : Rest s s') : CS w s₀ Z B φ C D vs qs s' :=
  let ⟨x, d, ys, l, a⟩ := h; ⟨x.step k r, d, ys, plain_keeps l k, a⟩

theorem comp_emit {e elt : Expr} {gens : List Comprehension} {d : Nat} {D : Addr} {qs : List Vp} {q : Vp} {K : Sem Fin} {Q : Fin → Shared → Prop} (hg : gens[d + 1]? = none) (h : CS w s₀ Z B φ env.locals D vs qs s) (hD : D ∈ Z ∨ s₀.heap.get? D = none) (hz : qs.length ≤ 16000000)
    (he : Ev w A env s.heap elt (fun _ v _ => ∀ h, q.p h v)) (hK : ∀ s', CS w s₀ Z B φ env.locals D vs (qs ++ [q]) s' → wpAny (model prg w) A K Q noE s') : wpAny (model prg w) A (innerK e elt gens d (.ref D) env K) Q noE s := by
  unfold innerK emitOf
  rw [hg]
  refine wpAny_bind (wpAny_bind (he.use (Keep.refl _) fun v s₁ k r hv => ?_))
  obtain ⟨x, dB, ys, l, a⟩ := h.step k r
  refine wpAny_bind (wpAny_list_append_plain l (fun h' hp' hs' => wpAny_pure (hK _ ?_)) (by rw [List.size_toArray, a.length, sizeLine_eq]; exact Nat.le_trans hz (by decide)))
  have e1 : ys.toArray.push v = (ys ++ [v]).toArray := by simp
  rw [e1] at hp'
  exact ⟨x.busyT dB hD (Xt.of_same hs' (List.mem_singleton.mpr rfl)) rht (let ⟨n, l⟩ := hp'; ⟨_, l⟩), dB, _, hp', a.append (.cons (hv φ) .nil)⟩

theorem comp_emitF {e elt : Expr} {gens : List Comprehension} {d : Nat} {D : Addr} {qs : List Vp} {q : Vp} {K : Sem Fin} {Q : Fin → Shared → Prop} (hg : gens[d + 1]? = none) (h : CS w s₀ Z B φ env.locals D vs qs s) (hD : D ∈ Z ∨ s₀.heap.get? D = none) (hz : qs.length ≤ 16000000)
    (he : Ev w A env s.heap elt (Fz φ q)) (hK : ∀ φ' s', Keep φ φ' → CS w s₀ Z B φ' env.locals D vs (qs ++ [q]) s' → wpAny (model prg w) A K Q noE s') : wpAny (model prg w) A (innerK e elt gens d (.ref D) env K) Q noE s := by
  unfold innerK emitOf
  rw [hg]
  refine wpAny_bind (wpAny_bind (he.use (Keep.refl _) fun v s₁ k r hv => ?_))
  obtain ⟨x, dB, ys, l, a⟩ := h.step k r
  refine wpAny_bind (wpAny_list_append_plain l (fun h' hp' hs' => wpAny_pure ?_) (by rw [List.size_toArray, a.length, sizeLine_eq]; exact Nat.le_trans hz (by decide)))
  have e1 : ys.toArray.push v = (ys ++ [v]).toArray := by simp
  rw [e1] at hp'
  have x' : Xt [D] s₁.heap h' := Xt.of_same hs' (List.mem_singleton.mpr rfl)
  obtain ⟨φ', k1, k2, hf, k3⟩ := h.1.grow (s' := { s₁ with heap := h' }) k (x'.mono fun b hb => by rw [List.mem_singleton.mp hb]; exact List.mem_cons_of_mem _ (List.mem_append_left _ dB))
  exact hK φ' _ k1 ⟨(x.busyT (s' := { s₁ with heap := h' }) dB hD x' rht (let ⟨n, l⟩ := hp'; ⟨_, l⟩)).base k1 k2 hf, dB, _, hp', (a.mono k1).append (.cons (hv φ' k1 k3) .nil)⟩

theorem comp_loop {elt : Expr} {gens : List Comprehension} {scope : Scope} {pos px : Pos} {d : Nat} {x : Str} {iter : Expr} {ifs : List Expr} {D : Addr} {cenv : Env} {n : Nat} {pI : Nat → Vp} {R : Result → Shared → Prop} {I : Addr} {fp : List Addr} {P : Nat → Value → Prop} {W : Nat → Heap → Prop}
    (hg : gens[d]? = some ⟨.Name x px, iter, ifs, 0⟩) (C : Cx A cenv S) (hx : S.names.lookup x = some .local)
    (hW : Walks prg w A I fp [I] n P W) (hfp : ∀ b ∈ fp, b = I ∨ ∃ o, φ.get? b = some o) (hP : ∀ i u, P i u → (pI i).p φ u) (hWo : ∀ i h, W i h → ∃ o, h.get? I = some o) (hIZ : I ∈ Z ∨ s₀.heap.get? I = none) (hIB : I ∉ B) (hDB : D ∈ B) (hDZ : D ∈ Z ∨ s₀.heap.get? D = none) (hne : I ≠ D) (hnl : I ≠ cenv.locals)
    (out : Nat → List Vp) (hW0 : W 0 s.heap) (h : CS w s₀ Z (I :: B) φ cenv.locals D vs (out 0) s)
    (step : ∀ i φ₁ s₁, i < n → Keep φ φ₁ → CS w s₁ [cenv.locals, D] (I :: B) φ₁ cenv.locals D ((x, pI i) :: vs) (out i) s₁ →
      wpAny (model prg w) A (forIn ifs true fun c r => if r = true then do let ok ← isTrue c cenv (eval c cenv); pure (ForInStep.yield ok) else pure (ForInStep.yield r)) (fun ok s₂ =>
        if ok = true then ∀ (K : Sem Fin) (Q : Fin → Shared → Prop), (∀ φ₃ s₃, Keep φ₁ φ₃ → CS w s₁ [cenv.locals, D] (I :: B) φ₃ cenv.locals D vs (out (i + 1)) s₃ → wpAny (model prg w) A K Q noE s₃) → wpAny (model prg w) A (innerK (.ListComp elt gens scope pos) elt gens d (.ref D) cenv K) Q noE s₂
        else ∃ φ₃, Keep φ₁ φ₃ ∧ CS w s₁ [cenv.locals, D] (I :: B) φ₃ cenv.locals D vs (out (i + 1)) s₂) noE s₁)
    (fin : ∀ φ₁ s₁, Keep φ φ₁ → CS w s₀ Z B φ₁ cenv.locals D vs (out n) s₁ → R (.ok .next) s₁) :
    codeAny (model prg w) A (.compLoop (.ListComp elt gens scope pos) d (.ref I) (.ref D) cenv) R s := by
  refine codeAny_loop rfl (fun k s' => ∃ i φ₂, k = n - i ∧ i ≤ n ∧ Keep φ φ₂ ∧ W i s'.heap ∧ CS w s₀ Z (I :: B) φ₂ cenv.locals D vs (out i) s') (fun k s' hJ => ?_) n ⟨0, φ, rfl, Nat.zero_le _, Keep.refl _, hW0, h⟩
  show wpAny _ A ((compTurn (.ListComp elt gens scope pos) d (.ref I) (.ref D) cenv).onRaise (fun x => do noteFrame x cenv; theTreesLotGoes x)) _ _ s'
  refine wpAny_noted ?_
  rw [turn_list _ _ _ _ _ _ _ _ _ _ _ hg]
  obtain ⟨i, φ₂, rfl, hi, k₂, hWi, hS, hDB', ys, hl, hA⟩ := hJ
  refine wpAny_bind (wpAny_standAt (wpAny_bind ?_))
  rcases Nat.lt_or_ge i n with hlt | hge
  · refine hW.item i s' _ _ hlt hWi fun v h' tk hPv hW' hk => ?_
    have x1 : Xt [I] s'.heap h' := fun b o hb e => hk b o hb e
    have hS' := hS.busyT (s' := { s' with heap := h', toks := tk }) (.head _) hIZ x1 rht (hWo _ _ hW')
    have hl' : h'.PlainList D ys.toArray := plain_xt hl x1 fun q => hne (List.mem_singleton.mp q).symm
    refine wpAny_bind (wpAny_pure (wpAny_bind ?_))
    obtain ⟨m, hn, hm⟩ := hS'.ns
    refine wpAny_assign_Name (wpAny_storeName_local (C.of hx) hn (fun h₃ hn₃ hs₃ => ?_) (by rw [C.k]; rfl))
    have hS3 := hS'.put (t := tk + 1) rfl ((pI i).mono k₂ (hP i v hPv)) hm hn₃ hs₃
    have x3 : Xt [cenv.locals] h' h₃ := Xt.of_same hs₃ (List.mem_singleton.mpr rfl)
    have hDl : D ≠ cenv.locals := (hS.bz D hDB').2.1.1
    have hl3 : h₃.PlainList D ys.toArray := plain_xt hl' x3 fun q => hDl (List.mem_singleton.mp q)
    have hz' : ∀ b ∈ [cenv.locals, D], b ∈ Z ∨ s₀.heap.get? b = none := fun b hb => by
      rcases List.mem_cons.mp hb with rfl | hb
      · exact hS.LZ
      · rw [List.mem_singleton.mp hb]; exact hDZ
    have goes : ∀ s₆, (∃ φ₃, Keep φ₂ φ₃ ∧ CS w { s' with heap := h₃, toks := tk + 1 } [cenv.locals, D] (I :: B) φ₃ cenv.locals D vs (out (i + 1)) s₆) →
        ∃ m, m < n - i ∧ ∃ i φ₂, m = n - i ∧ i ≤ n ∧ Keep φ φ₂ ∧ W i s₆.heap ∧ CS w s₀ Z (I :: B) φ₂ cenv.locals D vs (out i) s₆ := fun s₆ ⟨φ₃, k₃, h6, d6, y6⟩ => by
      refine ⟨n - (i + 1), Nat.sub_lt_sub_left hlt (Nat.lt_succ_self i), i + 1, φ₃, rfl, hlt, k₂.trans k₃, hW.frame _ _ _ hW' fun b hb o e => ?_, hS3.backZ hz' h6, d6, y6⟩
      rcases hfp b hb with q | ⟨o', e'⟩
      · subst q
        have e5 := x3 b o (fun z => hnl (List.mem_singleton.mp z)) e
        refine h6.xt b o (fun z => ?_) e5
        rcases List.mem_cons.mp z with z | z
        · exact hnl z
        · exact hne (List.mem_singleton.mp z)
      · have : o = o' := Option.some.inj (e.symm.trans (hS'.kp _ _ (k₂ _ _ e')))
        rw [this]
        exact h6.kp _ _ (k₃ _ _ (k₂ _ _ e'))
    have hst := step i φ₂ { s' with heap := h₃, toks := tk + 1 } hlt k₂ ⟨hS3.markZ [cenv.locals, D] (.head _) (fun _ q => by cases q), hDB', ys, hl3, hA⟩
    refine wpAny_bind (fromNoE (wpAny_mono hst (fun ok s₄ h₄ => ?_) fun _ _ z => z))
    cases ok with
    | false => exact wpAny_pure ⟨rfl, goes s₄ h₄⟩
    | true => exact fromNoE (h₄ _ _ fun φ₃ s₅ k₃ h₅ => wpAny_pure ⟨rfl, goes s₅ ⟨φ₃, k₃, h₅⟩⟩)
  · obtain rfl : i = n := Nat.le_antisymm hi hge
    refine hW.done s' _ _ hWi fun h' tk hk => wpAny_pure (fin φ₂ _ k₂ ?_)
    have x1 : Xt [I] s'.heap h' := fun b o hb e => hk b o hb e
    exact ⟨hS.unb hIZ x1 rht hIB, hDB, ys, plain_xt hl x1 fun q => hne (List.mem_singleton.mp q).symm, hA⟩
end
end Mine
namespace Mine
open Sem (wp)

section
variable {w : World} {A : Around} {env : Env} {S : Scope} {s₀ s : Shared} {Z B : List Addr} {φ : Heap} {vs : List (Str × Vp)} {ow : List (Str × Addr × List Vp)} {L : Addr}

/-- what a turn of a comprehension does -/
noncomputable def Turn (w : World) (A : Around) (cenv : Env) (e elt : Expr) (gens : List Comprehension) (d : Nat) (ifs : List Expr) (D : Addr) (vs vs' : List (Str × Vp)) (qs qs' : List Vp) (B : List Addr) (φ₁ : Heap) (s₁ : Shared) : Prop :=
  CS w s₁ [cenv.locals, D] B φ₁ cenv.locals D vs qs s₁ →
  wpAny (model prg w) A (forIn ifs true fun c r => if r = true then do let ok ← isTrue c cenv (eval c cenv); pure (ForInStep.yield ok) else pure (ForInStep.yield r)) (fun ok s₂ =>
    if ok = true then ∀ (K : Sem Fin) (Q : Fin → Shared → Prop), (∀ φ₃ s₃, Keep φ₁ φ₃ → CS w s₁ [cenv.locals, D] B φ₃ cenv.locals D vs' qs' s₃ → wpAny (model prg w) A K Q noE s₃) → wpAny (model prg w) A (innerK e elt gens d (.ref D) cenv K) Q noE s₂
    else ∃ φ₃, Keep φ₁ φ₃ ∧ CS w s₁ [cenv.locals, D] B φ₃ cenv.locals D vs' qs' s₂) noE s₁

theorem comp_start {elt : Expr} {gens : List Comprehension} {scope : Scope} {pos px : Pos} {d : Nat} {x : Str} {iter : Expr} {ifs : List Expr} {D : Addr} {cenv : Env} {n : Nat} {pI : Nat → Vp} {R : Result → Shared → Prop} {I : Addr} {fp : List Addr} {P : Nat → Value → Prop} {W : Nat → Heap → Prop}
    (hg : gens[d]? = some ⟨.Name x px, iter, ifs, 0⟩) (C : Cx A cenv S) (hx : S.names.lookup x = some .local)
    (hW : Walks prg w A I fp [I] n P W) (hfp : ∀ b ∈ fp, b = I ∨ ∃ o, φ.get? b = some o) (hP : ∀ i u, P i u → (pI i).p φ u) (hWo : ∀ i h, W i h → ∃ o, h.get? I = some o) (hIZ : I ∈ Z ∨ s₀.heap.get? I = none) (hIB : I ∉ B) (hDB : D ∈ B) (hDZ : D ∈ Z ∨ s₀.heap.get? D = none) (hne : I ≠ D) (hnl : I ≠ cenv.locals)
    (out : Nat → List Vp) (hW0 : W 0 s.heap) (h : CS w s₀ Z (I :: B) φ cenv.locals D vs (out 0) s)
    (step : ∀ i φ₁ s₁, i < n → Keep φ φ₁ → Turn w A cenv (.ListComp elt gens scope pos) elt gens d ifs D ((x, pI i) :: vs) vs (out i) (out (i + 1)) (I :: B) φ₁ s₁)
    (fin : ∀ φ₁ s₁, Keep φ φ₁ → CS w s₀ Z B φ₁ cenv.locals D vs (out n) s₁ → R (.ok .next) s₁) :
    codeAny (model prg w) A (.compStart (.ListComp elt gens scope pos) d (.ref I) (.ref D) cenv) R s := by
  have loop := comp_loop (R := R) (scope := scope) (pos := pos) hg C hx hW hfp hP hWo hIZ hIB hDB hDZ hne hnl out hW0 h step fin
  refine codeAny_of_tree ?_
  show wpAny _ _ ((compStart (.ListComp elt gens scope pos) d (.ref I) (.ref D) cenv).onRaise (fun x => do noteFrame x cenv; standAt theWindowsPlace)) _ _ s
  refine wpAny_notedAt ?_
  unfold compStart
  have hc : (clausesOf (.ListComp elt gens scope pos))[d]? = some ⟨.Name x px, iter, ifs, 0⟩ := hg
  rw [hc]
  show wpAny _ _ (ask >>= _) _ _ s
  refine wpAny_bind (wpAny_askSetting (wpAny_ite ?_))
  split
  · first
      | exact wpAny_bind (wpAny_pure (wpAny_pure (And.intro rfl loop)))
      | exact wpAny_pure (And.intro rfl loop)
  · refine wpAny_bind (wpAny_rule ?_)
    show wpAny _ _ (standAt iter.pos >>= _) _ _ s
    refine wpAny_bind (wpAny_standAt (wpAny_bind (hW.self 0 s _ _ hW0 (wpAny_pure (And.intro rfl loop)))))

/-- an iterator made, and walked -/
theorem comp_iter {elt : Expr} {gens : List Comprehension} {scope : Scope} {pos px : Pos} {d : Nat} {x : Str} {iter : Expr} {ifs : List Expr} {D : Addr} {cenv : Env} {v : Value} {n : Nat} {pI : Nat → Vp} {R : Result → Shared → Prop}
    (hg : gens[d]? = some ⟨.Name x px, iter, ifs, 0⟩) (C : Cx A cenv S) (hx : S.names.lookup x = some .local) (hv : Itr w A φ s v n pI) (hDZ : D ∈ Z ∨ s₀.heap.get? D = none)
    (out : Nat → List Vp) (h : CS w s₀ Z B φ cenv.locals D vs (out 0) s)
    (step : ∀ I i φ₁ s₁, i < n → Keep φ φ₁ → Turn w A cenv (.ListComp elt gens scope pos) elt gens d ifs D ((x, pI i) :: vs) vs (out i) (out (i + 1)) (I :: B) φ₁ s₁)
    (fin : ∀ φ₁ s₁, Keep φ φ₁ → CS w s₀ Z B φ₁ cenv.locals D vs (out n) s₁ → R (.ok .next) s₁) :
    wpAny (model prg w) A (pyIter v) (fun it s' => codeAny (model prg w) A (.compStart (.ListComp elt gens scope pos) d it (.ref D) cenv) R s') noE s := by
  refine hv _ fun o fp P W hW hfp hP hW0 hWo => ?_
  replace hWo : ∀ i h, W i h → ∃ o, h.get? s.heap.objs.size = some o := fun i h w => let ⟨o, e, _⟩ := hWo i h w; ⟨o, e⟩
  have hsn : s.heap.get? s.heap.objs.size = none := size_none _
  have gone : ∀ {b : Addr} {o : Obj}, s.heap.get? b = some o → b ≠ s.heap.objs.size := fun e q => by rw [q, hsn] at e; cases e
  have kp : Keep s.heap (s.heap.push o) := fun b o e => Heap.get?_push_of_some _ e
  obtain ⟨hS, hDB, ys, hl, hA⟩ := h
  have hIZ : s.heap.objs.size ∈ Z ∨ s₀.heap.get? s.heap.objs.size = none := by
    by_cases hz : s.heap.objs.size ∈ Z
    · exact .inl hz
    · refine .inr ?_
      cases hq : s₀.heap.get? s.heap.objs.size with
      | none => rfl
      | some o => rw [hS.xt _ o hz hq] at hsn; cases hsn
  have hIB : s.heap.objs.size ∉ B := fun q => by obtain ⟨_, _, o, e⟩ := hS.bz _ q; exact gone e rfl
  have hnl : s.heap.objs.size ≠ cenv.locals := fun q => by obtain ⟨m, ⟨o, es, ep, ho, _⟩, _⟩ := hS.ns; exact gone ho q.symm
  have hne : s.heap.objs.size ≠ D := fun q => by obtain ⟨n, l⟩ := hl; exact gone l q.symm
  have hS2 := (hS.step (s' := { s with heap := s.heap.push o }) kp rht).addb (none_back hS.kp hsn) ⟨hnl, fun _ q => by cases q⟩ (hWo _ _ hW0)
  exact comp_start hg C hx hW hfp hP hWo hIZ hIB hDB hDZ hne hnl out hW0 ⟨hS2, List.mem_cons_of_mem _ hDB, ys, plain_keeps hl kp, hA⟩ (step _) fin

/-- a comprehension within a comprehension -/
theorem comp_next {elt : Expr} {gens : List Comprehension} {scope : Scope} {pos px : Pos} {d : Nat} {x : Str} {iter : Expr} {ifs : List Expr} {D : Addr} {p : Vp} {n : Nat} {pI : Nat → Vp} {K : Sem Fin} {Q : Fin → Shared → Prop}
    (hg : gens[d + 1]? = some ⟨.Name x px, iter, ifs, 0⟩) (C : Cx A env S) (hx : S.names.lookup x = some .local) (he : Ev w A env s.heap iter (Fz φ p)) (hI : ∀ φ' v s', Keep φ φ' → Keep φ' s'.heap → p.p φ' v → Itr w A φ' s' v n pI) (hDZ : D ∈ Z ∨ s₀.heap.get? D = none)
    (out : Nat → List Vp) (h : CS w s₀ Z B φ env.locals D vs (out 0) s)
    (step : ∀ I i φ₁ s₁, i < n → Keep φ φ₁ → Turn w A env (.ListComp elt gens scope pos) elt gens (d + 1) ifs D ((x, pI i) :: vs) vs (out i) (out (i + 1)) (I :: B) φ₁ s₁)
    (fin : ∀ φ₁ s₁, Keep φ φ₁ → CS w s₀ Z B φ₁ env.locals D vs (out n) s₁ → wpAny (model prg w) A K Q noE s₁)
    (hs : ∀ v, foldedSetIterable iter env v = pure v := by intro _; rfl) :
    wpAny (model prg w) A (innerK (.ListComp elt gens scope pos) elt gens d (.ref D) env K) Q noE s := by
  unfold innerK
  rw [hg]
  refine wpAny_bind (he.use (Keep.refl _) fun v s₁ k r hv => wpAny_bind (wpAny_standAt ?_))
  obtain ⟨hS, hDB, ys, hl, hA⟩ := h
  obtain ⟨φ', k1, k2, hf, k3⟩ := hS.grow k (Xt.refl _ _)
  have hS1 := (hS.step k r).base k1 k2 hf
  show wpAny _ _ (foldedSetIterable iter env v >>= _) _ _ s₁
  refine wpAny_bind (wpAny_of_eq (hs v) (wpAny_bind (wpAny_holding ?_)))
  show wpAny _ _ (pyIter v) _ _ s₁
  refine wpAny_mono (comp_iter (R := fun r s' => match r with | .ok f => wpAny (model prg w) A K Q noE s' | .error e => cameBackBy (model prg w) A env noE e s') hg C hx (hI φ' v s₁ k1 k2 (hv φ' k1 k3)) hDZ out ⟨hS1, hDB, ys, plain_keeps hl k, hA.mono k1⟩
    (fun I i φ₁ s₁ hi k => step I i φ₁ s₁ hi (k1.trans k)) (fun φ₁ s₂ k h => fin φ₁ s₂ (k1.trans k) h)) (fun it s' hc => ?_) fun _ _ z => z
  exact wpAny_bind (wpAny_runOwn (codeAny_mono hc fun r s'' hr => by cases r <;> exact hr))

/-- a comprehension: its values are told without a heap -/
theorem comp_core {H : Heap} {posC : Pos} {use : Option (Value → Sem Unit)} {Q : Value → Shared → Prop} {s : Shared} {elt : Expr} {gens : List Comprehension} {scope : Scope} {pos px : Pos} {x : Str} {iter : Expr} {ifs : List Expr} {p : Vp} {n : Nat} {pI : Nat → Vp} {cl : List (Str × Addr)} {g' : List Comprehension} (S' : Scope)
    (T : TopOk w H) (C : Cx A env S) (hgens : gens = ⟨.Name x px, iter, ifs, 0⟩ :: g') (he : Ev w A env H iter (fun _ v h₁ => p.p h₁ v)) (hI : ∀ h v s', Keep h s'.heap → p.p h v → Itr w A h s' v n pI)
    (hclos : closureFor scope env = pure cl) (hcell : ∀ y ∈ scope.names, y.2 ≠ .cell) (hkind : scope.kind = .function) (hnames : ∀ y ∈ scope.names, y.2 = .local → scope.names.lookup y.1 = some .local)
    (hS' : relabel scope env = S') (hx : S'.names.lookup x = some .local) (out : Nat → List Vp) (hout : out 0 = [])
    (step : ∀ (cenv : Env) (D I : Addr) (B : List Addr) i φ₁ s₁, cenv.cells = cl → Cx A cenv S' → i < n → Keep H φ₁ → Turn w A cenv (.ListComp elt gens scope pos) elt gens 0 ifs D [(x, pI i)] [] (out i) (out (i + 1)) (I :: B) φ₁ s₁)
    (k : Keep H s.heap) (post : ∀ (C D : Addr) φ₁ s₂ s₁, Keep s.heap s₁.heap → Rest s s₁ → s₁.heap.get? C = none → s₁.heap.get? D = none → D ≠ C → CS w s₁ [] [D] φ₁ C D [] (out n) s₂ → compPost (model prg w) A noE use Q (.ref D) C (.ok .next) s₂)
    (hs : ∀ x, foldedSetIterable iter env x = pure x := by intro _; rfl) :
    wpAny (model prg w) A (comprehension (.ListComp elt gens scope pos) scope env posC (newList []) false (eval iter env) use) Q noE s := by
  subst hgens
  refine wpAny_comprehension_free (use := use) (g := ⟨.Name x px, iter, ifs, 0⟩) (gs := g') rfl hs hclos hkind hnames (he.use k fun v s₁ k₁ r₁ hv => hI _ v s₁ (Keep.refl _) hv _ fun o fp P W hW hfp hP hW0 hWo => ?_)
  replace hWo : ∀ i h, W i h → ∃ o, h.get? s₁.heap.objs.size = some o := fun i h w => let ⟨o, e, _⟩ := hWo i h w; ⟨o, e⟩
  have hsn : s₁.heap.get? s₁.heap.objs.size = none := size_none _
  generalize hI' : s₁.heap.objs.size = I at *
  have kp : Keep s₁.heap (s₁.heap.push o) := fun b o e => Heap.get?_push_of_some _ e
  have hz1 : (s₁.heap.push o).objs.size = I + 1 := by rw [Heap.size_push, hI']
  refine wpAny_newObj_type (wpAny_newFunctionEnv hcell (by intro y hy; simp at hy) (fun h₁ hns₁ hsb₁ => ?_) hkind)
  dsimp only at hns₁ hsb₁ ⊢
  generalize hH2 : (s₁.heap.push o).push { cls := .type "list", dict := none, data := .seq ([] : List Value).toArray } = H2 at hns₁ hsb₁ ⊢
  have hz2 : H2.objs.size = I + 2 := by rw [← hH2, Heap.size_push, hz1]
  rw [hz2] at hns₁ hsb₁ ⊢
  rw [hz1]
  have fresh : ∀ a, I ≤ a → s₁.heap.get? a = none := fun a ha => by
    cases e : s₁.heap.get? a with
    | none => rfl
    | some o' => exact absurd (Heap.lt_size e) (by rw [hI']; exact Nat.not_lt.mpr ha)
  have low : ∀ {b : Addr} {o : Obj}, s₁.heap.get? b = some o → b < I := fun e => by rw [← hI']; exact Heap.lt_size e
  have up2 : ∀ (b : Addr) o, b ≠ I + 2 → H2.get? b = some o → h₁.get? b = some o := fun b o hb e => hsb₁.extBut b o hb (Heap.get?_push_of_some _ e)
  have upo : ∀ (b : Addr) o', (s₁.heap.push o).get? b = some o' → h₁.get? b = some o' := fun b o' e => up2 b o' (Nat.ne_of_lt (Nat.lt_of_lt_of_le (Heap.lt_size e) (by rw [hz1]; exact Nat.le_succ _))) (by rw [← hH2]; exact Heap.get?_push_of_some _ e)
  have k₂ : Keep s₁.heap h₁ := fun b o' e => upo b o' (kp b o' e)
  have hD : h₁.PlainList (I + 1) ([] : List Value).toArray := ⟨_, up2 _ _ (Nat.ne_of_lt (Nat.lt_succ_self _)) (by rw [← hH2, ← hz1]; exact Heap.get?_push_size _ rfl)⟩
  have nI : I ≠ I + 1 := Nat.ne_of_lt (Nat.lt_succ_self _)
  have nC : I ≠ I + 2 := Nat.ne_of_lt (Nat.lt_succ_of_lt (Nat.lt_succ_self _))
  have nD : I + 1 ≠ I + 2 := Nat.ne_of_lt (Nat.lt_succ_self _)
  have hW1 : W 0 h₁ := hW.frame _ _ _ hW0 fun b _ o' e => upo b o' e
  refine comp_start (S := S') (φ := s₁.heap) (s₀ := s₁) (Z := []) (B := [I + 1]) (vs := []) rfl ⟨hS', by rw [← hS']; exact hkind, C.gl, C.bl, C.hh⟩ hx hW hfp hP hWo (.inr (fresh _ (Nat.le_refl _))) (fun q => nI (List.mem_singleton.mp q)) (.head _) (.inr (fresh _ (Nat.le_succ _))) nI nC
    out hW1 ⟨⟨T.keeps (k.trans k₁), k₂, Xt.of_keep k₂, rht, fresh _ (Nat.le_add_right _ _), .inr (fresh _ (Nat.le_add_right _ _)), ⟨_, hns₁, fun _ _ e => (by cases e), fun _ q => (by cases q)⟩, fun _ q => (by cases q), .nil, fun b hb => ?_⟩, List.mem_cons_of_mem _ (.head _), [], hD, by rw [hout]; exact .nil⟩
    (fun i φ₁ s₂ hi k' => step _ _ _ _ i φ₁ s₂ rfl ⟨hS', by rw [← hS']; exact hkind, C.gl, C.bl, C.hh⟩ hi ((k.trans k₁).trans k')) fun φ₁ s₂ k' h2 => ?_
  · rcases List.mem_cons.mp hb with rfl | hb
    · exact ⟨fresh _ (Nat.le_refl _), ⟨nC, fun _ q => by cases q⟩, hWo _ _ hW1⟩
    · rw [List.mem_singleton.mp hb]
      obtain ⟨n, l⟩ := hD
      exact ⟨fresh _ (Nat.le_succ _), ⟨nD, fun _ q => by cases q⟩, _, l⟩
  · exact post _ _ φ₁ s₂ s₁ k₁ r₁ (fresh _ (Nat.le_add_right _ _)) (fresh _ (Nat.le_succ _)) nD h2
theorem Ev.comp {H : Heap} {elt : Expr} {gens : List Comprehension} {scope : Scope} {pos px : Pos} {x : Str} {iter : Expr} {ifs : List Expr} {p : Vp} {n : Nat} {pI : Nat → Vp} {cl : List (Str × Addr)} {g' : List Comprehension} (S' : Scope)
    (T : TopOk w H) (C : Cx A env S) (hgens : gens = ⟨.Name x px, iter, ifs, 0⟩ :: g') (he : Ev w A env H iter (fun _ v h₁ => p.p h₁ v)) (hI : ∀ h v s', Keep h s'.heap → p.p h v → Itr w A h s' v n pI)
    (hclos : closureFor scope env = pure cl) (hcell : ∀ y ∈ scope.names, y.2 ≠ .cell) (hkind : scope.kind = .function) (hnames : ∀ y ∈ scope.names, y.2 = .local → scope.names.lookup y.1 = some .local)
    (hS' : relabel scope env = S') (hx : S'.names.lookup x = some .local) (out : Nat → List Vp) (hout : out 0 = [])
    (step : ∀ (cenv : Env) (D I : Addr) (B : List Addr) i φ₁ s₁, cenv.cells = cl → Cx A cenv S' → i < n → Keep H φ₁ → Turn w A cenv (.ListComp elt gens scope pos) elt gens 0 ifs D [(x, pI i)] [] (out i) (out (i + 1)) (I :: B) φ₁ s₁)
    (hev : eval (.ListComp elt gens scope pos) env = comprehension (.ListComp elt gens scope pos) scope env (firstIterPos gens pos) (newList []) false (eval iter env) none := by rfl)
    (hs : ∀ x, foldedSetIterable iter env x = pure x := by intro _; rfl)
    (hfree : ∀ φ φ' ys, A2 φ ys (out n) → A2 φ' ys (out n) := by intro _ _ _ x; exact A2.strs x.toSL) :
    Ev w A env H (.ListComp elt gens scope pos) (Nw (VL (out n))) := fun s k => by
  rw [hev]
  refine comp_core S' T C hgens he hI hclos hcell hkind hnames hS' hx out hout step k (fun c D φ₁ s₂ s₁ k₁ r₁ fC fD nD h2 => ?_) hs
  obtain ⟨hS2, _, ys, hl, hA⟩ := h2
  obtain ⟨m, hn, _⟩ := hS2.ns
  refine ⟨m, hn, fun h' hs' => ⟨fun b o' e => ?_, (r₁.trans hS2.rest).ht, fun φ' nn => ?_⟩⟩
  · have e1 := k₁ b o' e
    exact hs'.extBut b o' (fun q => by rw [q, fC] at e1; cases e1) (hS2.keepE b o' e1)
  · obtain ⟨n, l⟩ := hl
    exact ⟨_, ys, rfl, ⟨_, nn _ _ (none_back k₁ fD) (hs'.extBut _ _ nD l), rfl, n, rfl⟩, hfree _ φ' _ hA⟩

theorem Ev.compF {H : Heap} {elt : Expr} {gens : List Comprehension} {scope : Scope} {pos px : Pos} {x : Str} {iter : Expr} {ifs : List Expr} {p : Vp} {n : Nat} {pI : Nat → Vp} {cl : List (Str × Addr)} {g' : List Comprehension} {V : Heap → Value → Heap → Prop} (S' : Scope)
    (T : TopOk w H) (C : Cx A env S) (hgens : gens = ⟨.Name x px, iter, ifs, 0⟩ :: g') (he : Ev w A env H iter (fun _ v h₁ => p.p h₁ v)) (hI : ∀ h v s', Keep h s'.heap → p.p h v → Itr w A h s' v n pI)
    (hclos : closureFor scope env = pure cl) (hcell : ∀ y ∈ scope.names, y.2 ≠ .cell) (hkind : scope.kind = .function) (hnames : ∀ y ∈ scope.names, y.2 = .local → scope.names.lookup y.1 = some .local)
    (hS' : relabel scope env = S') (hx : S'.names.lookup x = some .local) (out : Nat → List Vp) (hout : out 0 = [])
    (step : ∀ (cenv : Env) (D I : Addr) (B : List Addr) i φ₁ s₁, cenv.cells = cl → Cx A cenv S' → i < n → Keep H φ₁ → Turn w A cenv (.ListComp elt gens scope pos) elt gens 0 ifs D [(x, pI i)] [] (out i) (out (i + 1)) (I :: B) φ₁ s₁)
    (hev : eval (.ListComp elt gens scope pos) env = comprehension (.ListComp elt gens scope pos) scope env (firstIterPos gens pos) (newList []) false (eval iter env) none := by rfl)
    (hs : ∀ x, foldedSetIterable iter env x = pure x := by intro _; rfl)
    (hV : V = fun _ v h₁ => (VL (out n)).p h₁ v := by rfl) : Ev w A env H (.ListComp elt gens scope pos) V := fun s k => by
  subst hV
  rw [hev]
  refine comp_core S' T C hgens he hI hclos hcell hkind hnames hS' hx out hout step k (fun c D φ₁ s₂ s₁ k₁ r₁ fC fD nD h2 => ?_) hs
  obtain ⟨hS2, _, ys, hl, hA⟩ := h2
  obtain ⟨m, hn, _⟩ := hS2.ns
  refine ⟨m, hn, fun h' hs' => ⟨fun b o' e => ?_, (r₁.trans hS2.rest).ht, ?_⟩⟩
  · have e1 := k₁ b o' e
    exact hs'.extBut b o' (fun q => by rw [q, fC] at e1; cases e1) (hS2.keepE b o' e1)
  · obtain ⟨n, l⟩ := hl
    exact ⟨_, ys, rfl, ⟨_, hs'.extBut _ _ nD l, rfl, n, rfl⟩, hA.mono fun b o e => hs'.extBut b o (fun q => by rw [q, hS2.L0] at e; cases e) (hS2.kp b o e)⟩

/-- x = [..], x a local of the frame: the store comes ahead of the letting go -/
theorem St.asgComp {ow : List (Str × Addr × List Vp)} {elt : Expr} {gens : List Comprehension} {scope : Scope} {pos px py pos2 : Pos} {x y : Str} {iter : Expr} {ifs : List Expr} {p : Vp} {n : Nat} {pI : Nat → Vp} {cl : List (Str × Addr)} {g' : List Comprehension} {Q : Flow → Shared → Prop} (S' : Scope)
    (h : St w s₀ Z B φ env.locals vs ow s) (C : Cx A env S) (hgens : gens = ⟨.Name x px, iter, ifs, 0⟩ :: g') (he : Ev w A env s.heap iter (fun _ v h₁ => p.p h₁ v)) (hI : ∀ h v s', Keep h s'.heap → p.p h v → Itr w A h s' v n pI)
    (hclos : closureFor scope env = pure cl) (hcell : ∀ y ∈ scope.names, y.2 ≠ .cell) (hkind : scope.kind = .function) (hnames : ∀ y ∈ scope.names, y.2 = .local → scope.names.lookup y.1 = some .local)
    (hS' : relabel scope env = S') (hx : S'.names.lookup x = some .local) (out : Nat → List Vp) (hout : out 0 = [])
    (step : ∀ (cenv : Env) (D I : Addr) (B : List Addr) i φ₁ s₁, cenv.cells = cl → Cx A cenv S' → i < n → Keep s.heap φ₁ → Turn w A cenv (.ListComp elt gens scope pos) elt gens 0 ifs D [(x, pI i)] [] (out i) (out (i + 1)) (I :: B) φ₁ s₁)
    (hl : S.names.lookup y = some .local) (hy : getO ow y = none)
    (hq : ∀ φ' s', Keep φ φ' → St w s₀ Z B φ' env.locals ((y, VL (out n)) :: vs) ow s' → Q .next s')
    (hsw : ∀ env' : Env, env'.scope = S → swapsWith (.ListComp elt gens scope pos) (some (.Name y py)) pos2.line env' = pure true)
    (hev : ∀ u, evalThenUse (.ListComp elt gens scope pos) env u = (do let _ ← comprehension (.ListComp elt gens scope pos) scope env (firstIterPos gens pos) (newList []) false (eval iter env) (some u)) := by intro _; rfl)
    (hs : ∀ x, foldedSetIterable iter env x = pure x := by intro _; rfl)
    (hfree : ∀ φ φ' ys, A2 φ ys (out n) → A2 φ' ys (out n) := by intro _ _ _ x; exact A2.strs x.toSL) : wpAny (model prg w) A (exec (.Assign [.Name y py] (.ListComp elt gens scope pos) pos2) env) Q noE s := by
  rw [exec_Assign]
  refine wpAny_bind (wpAny_standAt ?_)
  show wpAny _ _ (swapsWith (.ListComp elt gens scope pos) (some (.Name y py)) pos2.line env >>= _) _ _ _
  rw [hsw env C.sc]
  refine wpAny_bind (wpAny_pure ?_)
  show wpAny _ _ (evalThenUse (.ListComp elt gens scope pos) env (fun v => assignAll v [assign (.Name y py) env]) >>= fun _ => pure Flow.next) _ _ _
  rw [hev]
  refine wpAny_bind (wpAny_bind (comp_core S' h.tp C hgens he hI hclos hcell hkind hnames hS' hx out hout step (Keep.refl _) (fun c D φ₁ s₂ s₁ k₁ r₁ fC fD nD h2 => ?_) hs))
  obtain ⟨hS2, _, ys, hl2, hA⟩ := h2
  have k₂ : Keep s.heap s₂.heap := k₁.trans hS2.keepE
  have hS := h.step (s' := s₂) k₂ (r₁.trans hS2.rest)
  have hDn : s.heap.get? D = none := none_back k₁ fD
  have gone : ∀ {b : Addr} {o : Obj}, s.heap.get? b = some o → b ≠ D := fun e q => by rw [q, hDn] at e; cases e
  have hDL : D ≠ env.locals := by obtain ⟨m, ⟨o, es, ep, ho, _⟩, _⟩ := h.ns; exact (gone ho).symm
  have cL : c ≠ env.locals := fun q => by
    obtain ⟨m, ⟨o, es, ep, ho, _⟩, _⟩ := h.ns
    have := k₁ _ _ ho
    rw [← q, fC] at this; cases this
  have hcn : s.heap.get? c = none := none_back k₁ fC
  have exs : ∀ b, b ∈ env.locals :: (B ++ ow.map (·.2.1)) → φ.get? b = none ∧ ∃ o, s.heap.get? b = some o := fun b hb => by
    rcases List.mem_cons.mp hb with rfl | hb
    · obtain ⟨m, ⟨o, es, ep, ho, _⟩, _⟩ := h.ns
      exact ⟨h.L0, o, ho⟩
    · rcases List.mem_append.mp hb with hb | hb
      · exact ⟨(h.bz b hb).1, (h.bz b hb).2.2⟩
      · obtain ⟨e, he, rfl⟩ := List.mem_map.mp hb
        obtain ⟨⟨us, ⟨n, l⟩, _⟩, q, _⟩ := h.own e he
        exact ⟨q, _, l⟩
  obtain ⟨m₂, hn₂, _⟩ := hS2.ns
  have hSb := hS.addb (I := c) (none_back h.kp hcn) ⟨cL, fun e he q => by obtain ⟨⟨us, ⟨n, l⟩, _⟩, _⟩ := h.own e he; rw [q, hcn] at l; cases l⟩ (let ⟨o, es, ep, ho, _⟩ := hn₂; ⟨o, ho⟩)
  have k1 : Keep φ (clr (c :: env.locals :: (B ++ ow.map (·.2.1))) s₂.heap) := fun b o e => by
    rw [clr_get, if_neg fun q => ?_]
    · exact hS.kp b o e
    · rcases List.mem_cons.mp q with q | q
      · rw [q, none_back h.kp hcn] at e; cases e
      · rw [(exs b q).1] at e; cases e
  have hS' := hSb.base k1 (fun b o e => by
    rw [clr_get] at e
    split at e
    · cases e
    · exact e) ⟨by rw [clr_get, if_pos (List.mem_cons_of_mem _ (.head _))], fun b hb => by
      rw [clr_get, if_pos]
      rcases List.mem_cons.mp hb with rfl | hb
      · exact .head _
      · exact List.mem_cons_of_mem _ (List.mem_cons_of_mem _ (List.mem_append_left _ hb)), fun e he => by rw [clr_get, if_pos (List.mem_cons_of_mem _ (List.mem_cons_of_mem _ (List.mem_append_right _ (List.mem_map.mpr ⟨e, he, rfl⟩))))]⟩
  have hv : (VL (out n)).p (clr (c :: env.locals :: (B ++ ow.map (·.2.1))) s₂.heap) (.ref D) := by
    obtain ⟨n', l⟩ := hl2
    refine ⟨D, ys, rfl, ⟨{ cls := .type "list", data := .seq ys.toArray n' }, ?_, rfl, n', rfl⟩, hfree _ _ _ hA⟩
    rw [clr_get, if_neg fun q => ?_]
    · exact l
    · rcases List.mem_cons.mp q with q | q
      · exact nD q
      · obtain ⟨o, e⟩ := (exs D q).2
        exact gone e rfl
  obtain ⟨m₃, hn₃, hm₃⟩ := hS'.ns
  refine wpAny_assign_Name (wpAny_storeName_local (C.of hl) hn₃ (fun h' hn' hs' => ?_) (by rw [C.k]; rfl))
  have hS3 := hS'.put (t := s₂.toks + 1) hy hv hm₃ hn' hs'
  refine ⟨m₂, hn₂.at' fun o e => hs'.extBut _ o cL e, fun h'' hs'' => wpAny_pure (wpAny_pure (hq _ _ k1 (hS3.unb (s' := { s₂ with heap := h'', toks := s₂.toks + 1 }) ?_ (Xt.of_same hs'' (List.mem_singleton.mpr rfl)) rht fun q => ?_)))⟩
  · by_cases hz : c ∈ Z
    · exact .inl hz
    · refine .inr ?_
      cases hq : s₀.heap.get? c with
      | none => rfl
      | some o => rw [h.xt _ o hz hq] at hcn; cases hcn
  · obtain ⟨_, _, o, e⟩ := h.bz c q
    rw [hcn] at e; cases e
end
end Mine
namespace Mine
open Sem (wp)

section
variable {w : World} {A : Around} {env : Env} {S : Scope} {s₀ s : Shared} {Z B : List Addr} {φ : Heap} {vs : List (Str × Vp)} {ow : List (Str × Addr × List Vp)} {L : Addr}

/-- what a cell of these holds -/
noncomputable def CeOk (cells : List (Str × Addr)) (φ : Heap) (x : Str) (p : Vp) : Prop := ∃ c v, cells.lookup x = some c ∧ φ.IsCell c (some v) ∧ p.p φ v
theorem CeOk.mono {cells : List (Str × Addr)} {φ φ' : Heap} {x : Str} {p : Vp} (h : CeOk cells φ x p) (k : Keep φ φ') : CeOk cells φ' x p := let ⟨c, v, e, i, q⟩ := h; ⟨c, v, e, i.keeps k, p.mono k q⟩

theorem Ev.cell {H : Heap} {x : Str} {pos : Pos} {p : Vp} (hk : env.scope.kind = .function) (hl : env.kindOf x = some .cell) (h : CeOk env.cells φ x p) (k : Keep φ H) (hd : (x == ("__debug__" : Str)) = false := by decide) :
    Ev w A env H (.Name x pos) (fun _ v _ => p.p φ v) := fun s kk => by
  obtain ⟨c, v, e, i, q⟩ := h
  exact wpAny_Name (wpAny_loadName_cell hk hl e (i.keeps (k.trans kk)) ⟨Keep.refl _, Rest.refl _, q⟩) hd

theorem clos_go {env : Env} (f : Str → Addr) (g : Str × NameKind → List (Str × Addr) → Sem (ForInStep (List (Str × Addr)))) (hg : ∀ n k cs, g (n, k) cs = if k == .free then (do let c ← cellOf env n; pure (.yield ((n, c) :: cs))) else pure (.yield cs)) :
    ∀ (names : List (Str × NameKind)) (acc : List (Str × Addr)), (∀ n, (n, .free) ∈ names → env.cells.lookup n = some (f n)) → forIn names acc g = pure (names.foldl (fun cs e => if e.2 == .free then (e.1, f e.1) :: cs else cs) acc)
  | [], acc, _ => rfl
  | (n, k) :: r, acc, h => by
    rw [List.forIn_cons, hg]
    by_cases hk : (k == .free) = true
    · have e : k = .free := by cases k <;> first | rfl | cases hk
      subst e
      have := h n (.head _)
      rw [if_pos hk]
      unfold cellOf
      rw [this]
      exact (clos_go f g hg r _ fun n hn => h n (.tail _ hn)).trans (by rw [List.foldl_cons, if_pos hk])
    · rw [if_neg hk]
      exact (clos_go f g hg r _ fun n hn => h n (.tail _ hn)).trans (by rw [List.foldl_cons, if_neg hk])
theorem clos_of {scope : Scope} {env : Env} (f : Str → Addr) (h : ∀ n, (n, .free) ∈ scope.names → env.cells.lookup n = some (f n)) {cl : List (Str × Addr)} (e : scope.names.foldl (fun cs e => if e.2 == .free then (e.1, f e.1) :: cs else cs) [] = cl) : closureFor scope env = pure cl := by
  show (forIn scope.names ([] : List (Str × Addr)) _ >>= fun cs => pure cs) = pure cl
  rw [clos_go f _ (fun n k cs => rfl) _ _ h, e]
  rfl

/-- a call of a def that has cells; us: the cells that stand empty -/
noncomputable def Bof (cells : List (Str × Addr)) (us : List Str) : List Addr := (cells.filter fun e => us.contains e.1).map (·.2)
theorem enterC {H : Heap} {f : Addr} {name qual : Str} {params : Arguments} {body : List Stmt} {dV kV doc pm cdv ct oc : Value} {an od : Option Addr} {osl : Array (Option Value)} {argv : List Value}
    {binds : List (Str × Value)} {V : Heap → Value → Heap → Prop} (us : List Str) {vc : List (Str × Vp)} (T : TopOk w H) (hh : A.handled = none) (ho : (KF w).lookup f = some ⟨oc, od, .func (fnOf name qual params body S dV kV doc pm an cdv ct), osl⟩) (hcd : codeIn (KF w) cdv qual = true)
    (hroom : A.depth < recursionLimit) (hbind : ∀ s : Shared, (KF w).In s.heap → BindsTo s (fnOf name qual params body S dV kV doc pm an cdv ct) ⟨argv, []⟩ binds)
    (hkind : (binds.all fun y => S.names.lookup y.1 == some .local || S.names.lookup y.1 == some .cell) = true) (hnd : ((cellsFrom 0 S.names []).map (·.1)).Nodup)
    (hvl : ∀ x p, vs.lookup x = some p → ∃ v, bindL (fun y => S.names.lookup y) binds (fun _ => none) x = some v ∧ p.p H v)
    (hvc : ∀ x p, vc.lookup x = some p → S.names.lookup x = some .cell ∧ us.contains x = false ∧ ∃ v, bindC (fun y => S.names.lookup y) binds (fun _ => none) x = some v ∧ p.p H v)
    (hus : ∀ x, us.contains x = true → bindC (fun y => S.names.lookup y) binds (fun _ => none) x = none)
    (hco : S.isCoroutine = false) (hgen : S.isGenerator = false) (hk : S.kind = .function)
    (h : ∀ (A' : Around) (env : Env) (s₀ s : Shared) (φ : Heap) (Q : Flow → Shared → Prop), Keep H s₀.heap → A'.depth = A.depth + 1 → A'.units = A.units + 3 → Cx A' env S → St w s₀ [] (Bof env.cells us) φ env.locals vs [] s → Keep H φ → (∀ x p, vc.lookup x = some p → CeOk env.cells φ x p) →
      (∀ x c, us.contains x = true → env.cells.lookup x = some c → s.heap.IsCell c none) → env.cells = cellsFrom (env.locals + 1) S.names [] → s₀.heap.objs.size ≤ env.locals →
      (∀ v s', Keep s₀.heap s'.heap → Rest s₀ s' → V s₀.heap v s'.heap → Q (.ret v) s') → wpAny (model prg w) A' (execs body env) Q noE s)
    (hV : ∀ h h' v h₁, Keep h h' → V h' v h₁ → V h v h₁) : Cl w A H (.ref f) argv V := by
  intro s k
  have T' := T.keeps k
  refine wpAny_call (codeAny_call_function hroom (T'.kin _ _ ho) rfl hco hgen rfl (codeRec_of T'.kin hcd) (hbind s T'.kin _ _ _ _ ?_))
  refine wpAny_newFunctionEnv_cells hk (kindsX hkind _) fun env' he s' x => ?_
  have hks : Keep s.heap s'.heap := x.toInCall.keep
  refine ⟨T'.nolimit.keeps hks, codeAny_func (fromNoE ?_)⟩
  have hL : env'.locals = s.heap.objs.size := by rw [he]; rfl
  have hC : env'.cells = cellsFrom (env'.locals + 1) S.names [] := by rw [he]; rfl
  have hlow : ∀ {b : Addr} {o : Obj}, s.heap.get? b = some o → b < env'.locals := fun e => by rw [hL]; exact Heap.lt_size e
  have hmem : ∀ {b}, b ∈ Bof env'.cells us → ∃ n, us.contains n = true ∧ (n, b) ∈ env'.cells := fun hb => by
    obtain ⟨e, he, rfl⟩ := List.mem_map.mp hb
    obtain ⟨h1, h2⟩ := List.mem_filter.mp he
    exact ⟨e.1, h2, h1⟩
  have hout : ∀ {b}, b ∈ env'.locals :: Bof env'.cells us → env'.locals ≤ b := fun hb => by
    rcases List.mem_cons.mp hb with rfl | hb
    · exact Nat.le_refl _
    · obtain ⟨n, _, hm⟩ := hmem hb
      exact Nat.le_of_lt (x.above n _ hm)
  have kφ : Keep s.heap (clr (env'.locals :: Bof env'.cells us) s'.heap) := fun b o e => by
    rw [clr_get, if_neg fun q => Nat.lt_irrefl _ (Nat.lt_of_lt_of_le (hlow e) (hout q))]
    exact hks b o e
  have kind : env'.kindOf = fun y => S.names.lookup y := by funext y; rw [he]; rfl
  have xn := x.toInCall.ns
  have xc := x.cell
  rw [kind] at xn xc
  refine h _ env' s s' (clr (env'.locals :: Bof env'.cells us) s'.heap) _ k rfl rfl ⟨by rw [he]; rfl, hk, by rw [he]; rfl, by rw [he]; rfl, hh⟩ ⟨T'.keeps kφ, fun b o e => ?_, Xt.of_keep hks, ?_, by rw [clr_get, if_pos (.head _)], .inr (by rw [hL]; exact size_none _), ⟨_, xn, fun y p e => ?_, fun _ q => (by cases q)⟩, fun _ q => (by cases q), .nil, fun b hb => ?_⟩
    (k.trans kφ) (fun y p e => ?_) (fun y c hu hc => ?_) hC (by rw [hL]; exact Nat.le_refl _) fun v s'' k' r' v' => ⟨k', r', fun h hk' => hV _ _ _ _ hk' v'⟩
  · rw [clr_get] at e
    split at e
    · cases e
    · exact e
  · obtain ⟨hp, tk, e⟩ := x.toInCall.same
    rw [e]; exact rht
  · obtain ⟨v, hv, hp⟩ := hvl y p e
    exact ⟨v, hv, p.mono (k.trans kφ) hp⟩
  · obtain ⟨n, _, hm⟩ := hmem hb
    refine ⟨by rw [clr_get, if_pos (List.mem_cons_of_mem _ hb)], ⟨Nat.ne_of_gt (x.above n b hm), fun _ q => by cases q⟩, ?_⟩
    have hm' := hm
    rw [hC] at hm'
    have := lookup_of_mem_nodup (cellsFrom_names S.names 0 (env'.locals + 1) [] [] rfl ▸ hnd) hm'
    rw [← hC] at this
    obtain ⟨o, ho, _⟩ := xc n b this
    exact ⟨o, ho⟩
  · obtain ⟨h1, h2, v, hv, hp⟩ := hvc y p e
    obtain ⟨c, hc⟩ : ∃ c, env'.cells.lookup y = some c := by
      have := cellsFrom_some (x := y) S.names (env'.locals + 1) [] (.inl h1)
      rw [← hC] at this
      exact Option.isSome_iff_exists.mp this
    obtain ⟨o, ho, hd⟩ := xc y c hc
    rw [hv] at hd
    refine ⟨c, v, hc, ⟨o, ?_, hd⟩, p.mono (k.trans kφ) hp⟩
    rw [clr_get, if_neg fun q => ?_]
    · exact ho
    · rcases List.mem_cons.mp q with q | q
      · exact absurd q (Nat.ne_of_gt (x.above y c (mem_of_lookup hc)))
      · obtain ⟨n, hn, hm⟩ := hmem q
        rw [name_of_addr x.apart hm (mem_of_lookup hc), h2] at hn
        cases hn
  · have := xc y c hc
    rw [hus y hu] at this
    exact this
/-- x = e, x a cell that stood empty -/
theorem St.setC {x : Str} {p1 pos : Pos} {e : Expr} {p : Vp} {c : Addr} {B' : List Addr} {s₁ : Shared} {Q : Flow → Shared → Prop} (h : St w s₀ [] B φ env.locals vs [] s) (C : Cx A env S) (hl : S.names.lookup x = some .cell) (hc : env.cells.lookup x = some c) (hB : c ∈ B) (hB' : ∀ b ∈ B', b ∈ B ∧ b ≠ c)
    (h0 : s₁.heap.IsCell c none) (k0 : Xt [env.locals] s₁.heap s.heap) (hn0 : s₀.heap.get? c = none) (he : Ev w A env s.heap e (Fz φ p))
    (hq : ∀ φ' s', Keep φ φ' → St w s₀ [] B' φ' env.locals vs [] s' → CeOk env.cells φ' x p → Xt [env.locals, c] s₁.heap s'.heap → Q .next s')
    (hs : swapsWith e (some (.Name x p1)) pos.line env = pure false := by rfl) : wpAny (model prg w) A (exec (.Assign [.Name x p1] e pos) env) Q noE s := by
  refine wpAny_Assign_Name (he.use (Keep.refl _) fun v s₂ k r hv => ?_) hs
  obtain ⟨b1, ⟨b2, _⟩, _⟩ := h.bz c hB
  have i0 : s₂.heap.IsCell c none := by
    obtain ⟨o, ho, hd⟩ := h0
    exact ⟨o, k _ _ (k0 c o (fun q => b2 (List.mem_singleton.mp q)) ho), hd⟩
  refine wpAny_storeName_cell C.k (C.of hl) hc i0 fun h' hc' hs' => ?_
  have x' : Xt [c] s₂.heap h' := Xt.of_same hs' (List.mem_singleton.mpr rfl)
  have hS := (h.step k r).busyT (s' := { s₂ with heap := h' }) hB (.inr hn0) x' rht (let ⟨o, ho, _⟩ := hc'; ⟨o, ho⟩)
  have hS' : St w s₀ [] B' φ env.locals vs [] { s₂ with heap := h' } := { hS with bz := fun b hb => hS.bz b (hB' b hb).1 }
  have hex : ∀ b, b ∈ env.locals :: B' → φ.get? b = none ∧ ∃ o, s.heap.get? b = some o := fun b hb => by
    rcases List.mem_cons.mp hb with rfl | hb
    · obtain ⟨m, ⟨o, es, ep, ho, _⟩, _⟩ := h.ns
      exact ⟨h.L0, o, ho⟩
    · obtain ⟨y, _, z⟩ := h.bz b (hB' b hb).1
      exact ⟨y, z⟩
  have k1 : Keep φ (clr (env.locals :: B') h') := fun b o e => by
    rw [clr_get, if_neg fun q => by rw [(hex b q).1] at e; cases e]
    exact hS'.kp b o e
  have k2 : Keep (clr (env.locals :: B') h') h' := fun b o e => by
    rw [clr_get] at e
    split at e
    · cases e
    · exact e
  have hp : p.p (clr (env.locals :: B') h') v := hv _ k1 fun b o e e' => by
    rw [clr_get, if_neg fun q => by obtain ⟨o', ho'⟩ := (hex b q).2; rw [ho'] at e; cases e]
    refine x' b o (fun q => ?_) e'
    obtain ⟨_, _, o', ho'⟩ := h.bz c hB
    rw [List.mem_singleton.mp q, ho'] at e
    cases e
  refine hq _ _ k1 (hS'.base k1 k2 ⟨by rw [clr_get, if_pos (.head _)], fun b hb => by rw [clr_get, if_pos (List.mem_cons_of_mem _ hb)], fun _ q => by cases q⟩) ⟨c, v, hc, ?_, hp⟩ fun b o hb e => ?_
  · obtain ⟨o, ho, hd⟩ := hc'
    refine ⟨o, ?_, hd⟩
    rw [clr_get, if_neg fun q => ?_]
    · exact ho
    · rcases List.mem_cons.mp q with q | q
      · exact b2 q
      · exact (hB' c q).2 rfl
  · exact x' b o (fun q => hb (List.mem_cons_of_mem _ q)) (k b o (k0 b o (fun q => hb (List.mem_singleton.mp q ▸ .head _)) e))
end
end Mine
namespace Mine
open Sem (wp)

section
variable {w : World} {A : Around} {env : Env} {S : Scope} {s₀ s : Shared} {Z B : List Addr} {φ : Heap} {vs : List (Str × Vp)} {ow : List (Str × Addr × List Vp)} {L : Addr}

theorem Ts.or2 {H : Heap} {e₁ e₂ : Expr} {p : Pos} {a b : Bool} (h₁ : Ts w A env H e₁ a) (h₂ : Ts w A env H e₂ b) : Ts w A env H (.BoolOp .Or [e₁, e₂] p) (a || b) := fun s k =>
  wpAny_isTrue_BoolOp (wpAny_allTrue_Or_cons (h₁.use k fun c s₁ k₁ r₁ e => by
    subst e
    cases c with
    | true => exact ⟨k₁, r₁, rfl⟩
    | false => exact wpAny_allTrue_Or_cons (h₂.use (k.trans k₁) fun c s₂ k₂ r₂ e => by
        subst e
        cases c with
        | true => exact ⟨k₁.trans k₂, r₁.trans r₂, rfl⟩
        | false => exact wpAny_allTrue_Or_nil ⟨k₁.trans k₂, r₁.trans r₂, rfl⟩)))

/-- [e], e a text -/
theorem Ev.listS1 {H : Heap} {e : Expr} {p : Pos} {x : List Nat} (he : Ev w A env H e (IsS (st x))) (hs : starEach [e] env = (false, eval e env) :: starEach [] env := by rfl) : Ev w A env H (.List [e] p) (Nw (VL ([x].map VS))) := fun s k =>
  wpAny_List (wpAny_items_cons (he.use k fun v s₁ k₁ r₁ ⟨t, hv⟩ => wpAny_items_nil ⟨by rw [sizeLine_eq]; show 1 ≤ 16777216; decide, fun b o e => Heap.get?_push_of_some _ (k₁ b o e), r₁.ht, nw_push k₁ fun φ => .cons ⟨t, hv⟩ .nil⟩) hs)

/-- a + b, lists of texts -/
theorem Ev.addLS {H : Heap} {l r : Expr} {p : Pos} {xs ys : List (List Nat)} (hl : Ev w A env H l (fun _ v h₁ => (VL (xs.map VS)).p h₁ v)) (hr : Ev w A env H r (fun _ v h₁ => (VL (ys.map VS)).p h₁ v)) (hz : xs.length + ys.length ≤ 1000000) : Ev w A env H (.BinOp l .Add r p) (Nw (VL ((xs ++ ys).map VS))) := fun s k =>
  wpAny_BinOp (hl.use k fun v s₁ k₁ r₁ h₁ => hr.use (k.trans k₁) fun u s₂ k₂ r₂ h₂ => by
    obtain ⟨a, us, rfl, la, hA⟩ := h₁
    obtain ⟨b, zs, rfl, lb, hB⟩ := h₂
    have la' : Heap.IsList _ a us.toArray := la.mono k₂
    have lb' : Heap.IsList _ b zs.toArray := lb
    have e1 : us.length = xs.length := by rw [hA.length, List.length_map]
    have e2 : zs.length = ys.length := by rw [hB.length, List.length_map]
    obtain ⟨⟨cls, dd, data, sl⟩, ho, hc, n, hd⟩ := id la'
    obtain ⟨⟨cls2, dd2, data2, sl2⟩, ho2, hc2, n2, hd2⟩ := id lb'
    simp only at hc hd hc2 hd2
    subst hc hd hc2 hd2
    have e : us.toArray ++ zs.toArray = (us ++ zs).toArray := by simp
    have hz' : us.toArray.size + zs.toArray.size ≤ sizeLine := by rw [List.size_toArray, List.size_toArray, e1, e2, sizeLine_eq]; omega
    refine concat_meets ⟨_, ho, rfl⟩ ⟨_, ho2, rfl⟩ noFill_list_add seq_list_add PySem.F.slot_list_add PySem.F.entry_list_add (PySem.F.args_list_add_2 _ _) (list_addW a b us.toArray zs.toArray n n2 dd dd2 sl sl2 hz') ⟨ho, ho2, ?_⟩
    rw [e]
    refine ⟨fun b o e => Heap.get?_push_of_some _ ((k₁.trans k₂) b o e), ((r₁.trans r₂).ht : Rest s _), nw_push (k₁.trans k₂) fun φ => ?_⟩
    rw [List.map_append]
    exact (A2.strs hA.toSL).append (A2.strs hB.toSL))
end

section
variable {α : Type}
noncomputable def mixedF : Nat → List α → List α → List (List α)
  | 0, xs, ys => [xs ++ ys]
  | _ + 1, [], ys => [ys]
  | _ + 1, x :: xs, [] => [x :: xs]
  | n + 1, x :: xs, y :: ys => (mixedF n xs (y :: ys)).map (x :: ·) ++ (mixedF n (x :: xs) ys).map (y :: ·)
theorem mixed_few : ∀ (n : Nat) (xs ys : List α), (mixedF n xs ys).length ≤ 2 ^ n
  | 0, xs, ys => Nat.le_refl _
  | n + 1, [], ys => Nat.one_le_two_pow
  | n + 1, x :: xs, [] => Nat.one_le_two_pow
  | n + 1, x :: xs, y :: ys => by
    have h1 := mixed_few n xs (y :: ys)
    have h2 := mixed_few n (x :: xs) ys
    rw [mixedF, List.length_append, List.length_map, List.length_map, Nat.pow_succ]
    omega
theorem mixed_len : ∀ (n : Nat) (xs ys : List α), ∀ z ∈ mixedF n xs ys, z.length = xs.length + ys.length
  | 0, xs, ys, z, h => by rw [List.mem_singleton.mp h, List.length_append]
  | n + 1, [], ys, z, h => by rw [List.mem_singleton.mp h]; simp
  | n + 1, x :: xs, [], z, h => by rw [List.mem_singleton.mp h]; rfl
  | n + 1, x :: xs, y :: ys, z, h => by
    rw [mixedF] at h
    rcases List.mem_append.mp h with h | h
    · obtain ⟨z', h', rfl⟩ := List.mem_map.mp h
      have := mixed_len n _ _ z' h'
      simp only [List.length_cons] at this ⊢
      omega
    · obtain ⟨z', h', rfl⟩ := List.mem_map.mp h
      have := mixed_len n _ _ z' h'
      simp only [List.length_cons] at this ⊢
      omega
end

section
variable {w : World} {A : Around}

theorem tail_slice (x : Nat) (xs : List Nat) : sliceG (x :: xs) (loN (some 1) (x :: xs).length) (hiN none (x :: xs).length) = xs := by
  have : loN (some 1) (x :: xs).length = 1 := by
    show clipN _ ((1 : Nat) : Int) = 1
    rw [clip_nat, List.length_cons]
    omega
  rw [this]
  unfold sliceG
  show (xs.drop 0).take ((x :: xs).length - 1) = xs
  rw [List.drop_zero, List.length_cons, Nat.add_sub_cancel, List.take_length]

theorem Ev.tailS {env : Env} {H : Heap} {value : Expr} {k : Nat} {p1 p pos : Pos} {x : Nat} {xs : List Nat} (hv : Ev w A env H value (IsS (st (x :: xs)))) (hx : (x :: xs).length ≤ 100000) (ht : ∀ o r, letTemporaryGo value o r = pure () := by intro _ _; rfl) :
    Ev w A env H (.Subscript value (.Slice (some (.Constant (.int 1) k p1)) none none p) pos) (IsS (st xs)) := by
  have := Ev.sliceS (p := p) (pos := pos) hv (pt_some (Ev.cint (i := 1) (k := k) (p := p1))) pt_none (by rw [sizeLine_eq]; omega) ht
  rw [tail_slice] at this
  exact this
/-- a turn that puts one text in front -/
theorem turn_cons {elt : Expr} {cenv : Env} {S' : Scope} {p1 p2 p3 p4 px : Pos} {e : Expr} {gens : List Comprehension} {d kk : Nat} {D I : Addr} {B : List Addr} {φ₁ : Heap} {s₁ : Shared} {cn vn : Str} {x : Nat} {xs r : List Nat} {out out' : List Vp}
    (C : Cx A cenv S') (hg : gens[d + 1]? = none) (hcn : S'.names.lookup cn = some .cell) (hvn : S'.names.lookup vn = some .local) (hc : CeOk cenv.cells φ₁ cn (VS (x :: xs))) (hz : (x :: xs).length ≤ 1000) (hr : r.length ≤ 1000) (hzo : out.length ≤ 16000000) (ho : out' = out ++ [VS (x :: r)])
    (hd1 : (cn == ("__debug__" : Str)) = false) (hd2 : (vn == ("__debug__" : Str)) = false)
    (hel : elt = .BinOp (.Subscript (.Name cn p1) (.Constant (.int 0) kk p2) p3) .Add (.Name vn p4) px) : Turn w A cenv e elt gens d [] D [(vn, VS r)] [] out out' (I :: B) φ₁ s₁ := fun hCS => by
  refine wpAny_tests_nil ?_
  refine iteT rfl ?_
  intro K Q hK
  subst hel ho
  have hE : Ev w A cenv s₁.heap (.BinOp (.Subscript (.Name cn p1) (.Constant (.int 0) kk p2) p3) .Add (.Name vn p4) px) (IsS (st ([x] ++ r))) :=
    Ev.addT (Ev.idxS (l := x :: xs) (i := 0) (Ev.cell (p := VS (x :: xs)) C.k (C.of hcn) hc hCS.1.kp hd1) Ev.cint (by simp) (by omega)) (hCS.1.nS C (by rw [List.lookup_cons, beq_self_eq_true]) hvn hd2) (by simp only [List.length_cons, List.length_nil]; omega)
  exact comp_emit (q := VS (x :: r)) hg hCS (.inl (List.mem_cons_of_mem _ (.head _))) hzo (hE.mono (Keep.refl _) fun _ _ _ _ _ q _ => q) fun s' h' => hK φ₁ s' (Keep.refl _) ⟨h'.1.weak .nil, h'.2⟩

theorem out_succ {l : List (List Nat)} {f : List Nat → List Nat} {i : Nat} (h : i < l.length) : ((l.take (i + 1)).map f).map VS = ((l.take i).map f).map VS ++ [VS (f l[i])] := by
  rw [List.take_add_one, List.getElem?_eq_getElem h, List.map_append, List.map_append]
  rfl
theorem getD_VS {l : List (List Nat)} {i : Nat} (h : i < l.length) : (l.map VS).getD i VN = VS l[i] := by rw [List.getD_eq_getElem?_getD, List.getElem?_map, List.getElem?_eq_getElem h]; rfl

noncomputable def MixC (w : World) (n : Nat) : Prop := ∀ {A : Around} {H : Heap} {xs ys : List Nat} {v1 v2 : Value}, TopOk w H → A.handled = none → A.depth + 10 * n + 20 < recursionLimit → xs.length + ys.length ≤ n → n ≤ 5 → (VS xs).p H v1 → (VS ys).p H v2 →
    Cl w A H (.ref 133) [v1, v2] (Nw (VL ((mixedF (n + 1) xs ys).map VS)))

theorem clos_one {scope : Scope} {env : Env} {x : Str} {c : Addr} (hc : env.cells.lookup x = some c) (h : scope.names.filter (fun e => e.2 == .free) = [(x, .free)]) : closureFor scope env = pure [(x, c)] := by
  refine clos_of (fun _ => c) (fun n hn => ?_) ?_
  · have : (n, NameKind.free) ∈ scope.names.filter (fun e => e.2 == .free) := List.mem_filter.mpr ⟨hn, rfl⟩
    rw [h] at this
    cases List.mem_singleton.mp this
    exact hc
  · have key : ∀ (l : List (Str × NameKind)) (acc : List (Str × Addr)), l.foldl (fun cs e => if e.2 == .free then (e.1, c) :: cs else cs) acc = ((l.filter (fun e => e.2 == .free)).map (fun e => (e.1, c))).reverse ++ acc := by
      intro l
      induction l with
      | nil => intro acc; rfl
      | cons e l ih =>
        intro acc
        rw [List.foldl_cons, ih, List.filter_cons]
        split <;> simp
    rw [key, h]
    rfl

theorem mix_step (n : Nat) (ih : ∀ m, n = m + 1 → MixC w m) : MixC w n := by
  intro A H xs ys v1 v2 T hh hroom hlen hn h1 h2
  refine enterC (vs := []) [] (vc := [("one", VS xs), ("two", VS ys)]) T hh rfl (by kernel_rfl) (by omega) (binds := [("one", v1), ("two", v2)]) (fun s X => BindsTo.of_eq rfl) (by kernel_rfl) (by decide +kernel) (fun x p e => by cases e)
    (fun x p e => ?_) (fun x e => by cases e) rfl rfl rfl ?_ fun _ _ _ _ k q => nw_mono k q
  · rcases List.mem_cons.mp (mem_of_lookup e) with q | q
    · cases q; exact ⟨rfl, rfl, v1, rfl, h1⟩
    · cases List.mem_singleton.mp q; exact ⟨rfl, rfl, v2, rfl, h2⟩
  intro A' env s₀ s φ Q k hd _ C h kφ hc hun hcells hsz hQ
  have c1 := hc "one" _ rfl
  have c2 := hc "two" _ rfl
  have s0 : PySem.Str.ofString "" = st [] := by decide
  have nm1 : ∀ {H : Heap} {p : Pos}, Keep φ H → Ev w A' env H (.Name "one" p) (IsS (st xs)) := fun k => Ev.cell (p := VS xs) C.k (C.of rfl) c1 k
  have nm2 : ∀ {H : Heap} {p : Pos}, Keep φ H → Ev w A' env H (.Name "two" p) (IsS (st ys)) := fun k => Ev.cell (p := VS ys) C.k (C.of rfl) c2 k
  refine seq (ifs (Ts.or2 (Ts.eqS (nm1 h.kp) (Ev.cS s0)) (Ts.eqS (nm2 h.kp) (Ev.cS s0))) fun s₁ k₁ r₁ => ?_)
  rw [st_beq, st_beq]
  have h1' := h.step k₁ r₁
  by_cases he : xs = [] ∨ ys = []
  · refine iteT (by simpa using he) ?_
    refine seq (rets (Ev.listS1 (Ev.addT (nm1 h1'.kp) (nm2 h1'.kp) (by omega))) fun v s₂ k₂ r₂ hv => ?_)
    have h2' := h1'.step k₂ r₂
    have e : mixedF (n + 1) xs ys = [xs ++ ys] := by
      rcases he with rfl | rfl
      · rfl
      · cases xs with
        | nil => rfl
        | cons x xs => show [x :: xs] = _; simp
    exact hQ v s₂ h2'.keepE h2'.rest (by rw [e]; exact nw_mono h1'.keepE hv)
  · refine iteF (by simpa using he) (sq0 ?_)
    obtain ⟨x, xs, rfl⟩ : ∃ x r, xs = x :: r := by cases xs with | nil => exact absurd (.inl rfl) he | cons x r => exact ⟨x, r, rfl⟩
    obtain ⟨y, ys, rfl⟩ : ∃ x r, ys = x :: r := by cases ys with | nil => exact absurd (.inr rfl) he | cons x r => exact ⟨x, r, rfl⟩
    simp only [List.length_cons] at hlen
    obtain ⟨m, rfl⟩ : ∃ m, n = m + 1 := ⟨n - 1, by omega⟩
    have IH : MixC w m := ih m rfl
    have few1 := mixed_few (m + 1) xs (y :: ys)
    have few2 := mixed_few (m + 1) (x :: xs) ys
    have p2 : 2 ^ (m + 1) ≤ 32 := Nat.pow_le_pow_right (by decide) (show m + 1 ≤ 5 from hn)
    obtain ⟨a1, w1, l1, i1, q1⟩ := id c1
    obtain ⟨a2, w2, l2, i2, q2⟩ := id c2
    refine seq (h1'.asgComp (p := VL ((mixedF (m + 1) xs (y :: ys)).map VS)) (n := ((mixedF (m + 1) xs (y :: ys)).map VS).length) (pI := fun i => ((mixedF (m + 1) xs (y :: ys)).map VS).getD i VN) (cl := [("one", a1)])
      ⟨.function, [(".0", .local), ("rest", .local), ("one", .cell)], false, false, []⟩ C rfl ?_ (fun h v s' k hv => itr_list C.hh k hv) (clos_one l1 rfl) (by decide) rfl (by decide) ?_ rfl
      (fun i => (((mixedF (m + 1) xs (y :: ys)).take i).map (x :: ·)).map VS) rfl ?_ rfl rfl (fun φ₂ s₂ q₂ h2 => ?_) ?_)
    · refine nw_full (Ev.dcall h1'.tp (h1'.gl (v := .ref 133) C rfl (by kernel_rfl)) (by kernel_rfl) (as2 (Ev.tailS (nm1 h1'.kp) (by simp only [List.length_cons]; omega)) (nm2 h1'.kp)) fun vs h₁ h₃ ⟨va, vb, g, e, e1, e2, k4⟩ ka kb => ?_)
      subst e
      exact IH (xs := xs) (ys := y :: ys) (h1'.tp.keeps (ka.trans kb)) C.hh (by rw [hd]; omega) (by simp only [List.length_cons]; omega) (by omega) e1 e2
    · unfold relabel Env.kindOf
      rw [C.sc]
      rfl
    · intro cenv D I B i φ₁ s₁ hcl hC hi k₃
      rw [List.length_map] at hi
      rw [getD_VS hi]
      have hml := mixed_len (m + 1) xs (y :: ys) _ (List.getElem_mem hi)
      simp only [List.length_cons] at hml
      exact turn_cons (xs := xs) hC rfl (by rfl) (by rfl) ⟨a1, w1, by rw [hcl]; rfl, i1.keeps (h1'.kp.trans k₃), q1⟩ (by simp only [List.length_cons]; omega) (by omega) (by rw [List.length_map, List.length_map, List.length_take]; omega) (out_succ hi) (by decide) (by decide) rfl
    · rw [List.length_map, List.take_length] at h2
      refine seq (rets (Ev.addLS (h2.nF C rfl rfl) (nw_full (p := VL (((mixedF (m + 1) (x :: xs) ys).map (y :: ·)).map VS)) ?_) (by rw [List.length_map, List.length_map]; omega)) fun v s₃ k₃ r₃ hv => ?_)
      · have e5 : ((mixedF (m + 1) (x :: xs) ys).map (y :: ·)).map VS = (fun i => (((mixedF (m + 1) (x :: xs) ys).take i).map (y :: ·)).map VS) ((mixedF (m + 1) (x :: xs) ys).map VS).length := by
          show _ = (((mixedF (m + 1) (x :: xs) ys).take ((mixedF (m + 1) (x :: xs) ys).map VS).length).map (y :: ·)).map VS
          rw [List.length_map, List.take_length]
        rw [e5]
        refine Ev.comp (p := VL ((mixedF (m + 1) (x :: xs) ys).map VS)) (n := ((mixedF (m + 1) (x :: xs) ys).map VS).length) (pI := fun i => ((mixedF (m + 1) (x :: xs) ys).map VS).getD i VN) (cl := [("two", a2)])
          ⟨.function, [(".0", .local), ("rest", .local), ("two", .cell)], false, false, []⟩ h2.tp C rfl ?_ (fun h v s' k hv => itr_list C.hh k hv) (clos_one l2 rfl) (by decide) rfl (by decide) ?_ rfl
          (fun i => (((mixedF (m + 1) (x :: xs) ys).take i).map (y :: ·)).map VS) rfl ?_
        · have kk : Keep φ s₂.heap := q₂.trans h2.kp
          refine nw_full (Ev.dcall h2.tp (h2.gl (v := .ref 133) C rfl (by kernel_rfl)) (by kernel_rfl) (as2 (nm1 kk) (Ev.tailS (nm2 kk) (by simp only [List.length_cons]; omega))) fun vs h₁ h₃ ⟨va, vb, g, e, e1, e2, k4⟩ ka kb => ?_)
          subst e
          exact IH (xs := x :: xs) (ys := ys) (h2.tp.keeps (ka.trans kb)) C.hh (by rw [hd]; omega) (by simp only [List.length_cons]; omega) (by omega) e1 e2
        · unfold relabel Env.kindOf
          rw [C.sc]
          rfl
        · intro cenv D I B i φ₁ s₁ hcl hC hi k₃
          rw [List.length_map] at hi
          rw [getD_VS hi]
          have hml := mixed_len (m + 1) (x :: xs) ys _ (List.getElem_mem hi)
          simp only [List.length_cons] at hml
          exact turn_cons (xs := ys) hC rfl (by rfl) (by rfl) ⟨a2, w2, by rw [hcl]; rfl, i2.keeps ((q₂.trans h2.kp).trans k₃), q2⟩ (by simp only [List.length_cons]; omega) (by omega) (by rw [List.length_map, List.length_map, List.length_take]; omega) (out_succ hi) (by decide) (by decide) rfl
      · have h3 := h2.step k₃ r₃
        exact hQ v s₃ h3.keepE h3.rest (nw_mono h2.keepE hv)
    · intro env' e
      obtain ⟨⟩ := env'
      cases e
      rfl
theorem cl_mixed : ∀ n, MixC w n
  | 0 => mix_step 0 fun _ e => by cases e
  | n + 1 => mix_step (n + 1) fun m e => by cases e; exact cl_mixed n
end
end Mine
namespace Mine
open Sem (wp)

section
variable {w : World} {A : Around} {env : Env} {S : Scope} {s₀ s : Shared} {Z B : List Addr} {φ : Heap} {vs : List (Str × Vp)} {ow : List (Str × Addr × List Vp)} {L : Addr}

noncomputable def relab (scope S : Scope) : Scope := { scope with names := scope.names.map fun (n, k) => if (k == .free && S.kind == .function && S.names.lookup n == some .cell) then (n, .cell) else (n, k) }
theorem relab_eq {scope : Scope} (h : env.scope = S) : relabel scope env = relab scope S := by subst h; rfl

theorem Ts.inG {H : Heap} {l r : Expr} {p : Pos} {x : List Nat} {c : Nat} (hl : Ev w A env H l (IsS (st [c]))) (hr : Ev w A env H r (IsS (st x))) (hm : behindInMarks .In r = false := by with_unfolding_all rfl) : Ts w A env H (.Compare l [.In] [r] p) (decide (c ∈ x)) := by
  have := Ts.inS (p := p) hl hr hm
  rw [not_in_G, Bool.not_not] at this
  exact this
theorem Ts.notInG {H : Heap} {l r : Expr} {p : Pos} {x : List Nat} {c : Nat} (hl : Ev w A env H l (IsS (st [c]))) (hr : Ev w A env H r (IsS (st x))) (hm : behindInMarks .NotIn r = false := by with_unfolding_all rfl) : Ts w A env H (.Compare l [.NotIn] [r] p) (!decide (c ∈ x)) := by
  have := Ts.notInS (p := p) hl hr hm
  rw [not_in_G] at this
  exact this
theorem clos_two {scope : Scope} {env : Env} {x y : Str} {c d : Addr} (hc : env.cells.lookup x = some c) (hd : env.cells.lookup y = some d) (hxy : y ≠ x) (h : scope.names.filter (fun e => e.2 == .free) = [(x, .free), (y, .free)]) : closureFor scope env = pure [(y, d), (x, c)] := by
  refine clos_of (fun n => if n = x then c else d) (fun n hn => ?_) ?_
  · have : (n, NameKind.free) ∈ scope.names.filter (fun e => e.2 == .free) := List.mem_filter.mpr ⟨hn, rfl⟩
    rw [h] at this
    rcases List.mem_cons.mp this with q | q
    · cases q; rw [if_pos rfl]; exact hc
    · cases List.mem_singleton.mp q; rw [if_neg hxy]; exact hd
  · have key : ∀ (l : List (Str × NameKind)) (acc : List (Str × Addr)), l.foldl (fun cs e => if e.2 == .free then (e.1, if e.1 = x then c else d) :: cs else cs) acc = ((l.filter (fun e => e.2 == .free)).map (fun e => (e.1, if e.1 = x then c else d))).reverse ++ acc := by
      intro l
      induction l with
      | nil => intro acc; rfl
      | cons e l ih =>
        intro acc
        rw [List.foldl_cons, ih, List.filter_cons]
        split <;> simp
    rw [key, h]
    simp [hxy]
theorem drop_take1 {x : List Nat} {i : Nat} (h : i < x.length) : (x.drop i).take 1 = [x[i]] := by rw [List.drop_eq_getElem_cons h]; rfl

/-- [sign for sign in text if test] -/
theorem Ev.filt {H : Heap} {gens : List Comprehension} {scope : Scope} {pos px p2 : Pos} {x : Str} {iter test : Expr} {l : List Nat} {cl : List (Str × Addr)} {pr : Nat → Bool}
    (T : TopOk w H) (C : Cx A env S) (hgens : gens = [⟨.Name x px, iter, [test], 0⟩]) (he : Ev w A env H iter (IsS (st l))) (hclos : closureFor scope env = pure cl) (hcell : ∀ y ∈ scope.names, y.2 ≠ .cell) (hkind : scope.kind = .function) (hnames : ∀ y ∈ scope.names, y.2 = .local → scope.names.lookup y.1 = some .local)
    (hx : (relab scope S).names.lookup x = some .local) (hz : l.length ≤ 1000)
    (ht : ∀ (cenv : Env) φ₁ (s₁ : Shared) (c : Nat) Z B, cenv.cells = cl → Cx A cenv (relab scope S) → Keep H φ₁ → c ∈ l → St w s₁ Z B φ₁ cenv.locals [(x, VS [c])] [] s₁ → Ts w A cenv s₁.heap test (pr c))
    (hev : eval (.ListComp (.Name x p2) gens scope pos) env = comprehension (.ListComp (.Name x p2) gens scope pos) scope env (firstIterPos gens pos) (newList []) false (eval iter env) none := by rfl)
    (hs : ∀ x, foldedSetIterable iter env x = pure x := by intro _; rfl) (hd : (x == ("__debug__" : Str)) = false := by decide) :
    Ev w A env H (.ListComp (.Name x p2) gens scope pos) (Nw (VL (((l.filter pr).map ([·])).map VS))) := by
  have e5 : ((l.filter pr).map ([·])).map VS = (fun i => (((l.take i).filter pr).map ([·])).map VS) l.length := by
    show _ = (((l.take l.length).filter pr).map ([·])).map VS
    rw [List.take_length]
  rw [e5]
  subst hgens
  refine Ev.comp (p := VS l) (n := l.length) (pI := fun i => VS (l.drop i |>.take 1)) _ T C rfl (he.mono (Keep.refl _) fun _ _ _ _ _ q => q) (fun h v s' _ hv => itr_str C.hh hv) hclos hcell hkind hnames (relab_eq C.sc) hx (fun i => (((l.take i).filter pr).map ([·])).map VS) rfl ?_ hev hs
  intro cenv D I B i φ₁ s₁ hcl hC hi k₁
  rw [drop_take1 hi]
  intro hCS
  refine wpAny_tests_one ((ht cenv φ₁ s₁ l[i] _ _ hcl hC k₁ (List.getElem_mem hi) hCS.1).use (Keep.refl _) fun b s₂ k₂ r₂ e => ?_)
  subst e
  have h2 := hCS.step k₂ r₂
  have ho : (((l.take (i + 1)).filter pr).map ([·])).map VS = (((l.take i).filter pr).map ([·])).map VS ++ (if pr l[i] then [VS [l[i]]] else []) := by
    rw [List.take_add_one, List.getElem?_eq_getElem hi, List.filter_append, List.map_append, List.map_append]
    congr 1
    show (([l[i]].filter pr).map ([·])).map VS = _
    by_cases hp : pr l[i] = true
    · rw [if_pos hp, List.filter_cons_of_pos hp]; rfl
    · rw [if_neg hp, List.filter_cons_of_neg hp]; rfl
  by_cases hp : pr l[i] = true
  · rw [if_pos hp] at ho
    refine iteT hp fun K Q hK => ?_
    refine comp_emit (q := VS [l[i]]) rfl h2 (.inl (List.mem_cons_of_mem _ (.head _))) ?_ ((h2.1.nS hC (l := [l[i]]) (by rw [List.lookup_cons, beq_self_eq_true]) hx hd).mono (Keep.refl _) fun _ _ _ _ _ q _ => q) fun s' h' => hK φ₁ s' (Keep.refl _) ⟨h'.1.weak .nil, by rw [ho]; exact h'.2⟩
    rw [List.length_map, List.length_map]
    have := List.length_filter_le pr (l.take i)
    rw [List.length_take] at this
    omega
  · rw [if_neg hp, List.append_nil] at ho
    refine iteF (by simpa using hp) ⟨φ₁, Keep.refl _, h2.1.weak .nil, by rw [ho]; exact h2.2⟩

theorem join_ones (l : List Nat) : joinG [] (l.map ([·])) = l := by
  induction l with
  | nil => rfl
  | cons a l ih =>
    cases l with
    | nil => rfl
    | cons b l => 
      show [a] ++ [] ++ joinG [] ((b :: l).map ([·])) = _
      rw [ih]; rfl
theorem tot_ones (l : List Nat) : totLen (l.map ([·])) = l.length := by
  unfold totLen
  induction l with
  | nil => rfl
  | cons a l ih => simp only [List.map_cons, List.sum_cons, List.length_cons, List.length_nil] at ih ⊢; omega
theorem Ev.joinOnes {H : Heap} {e : Expr} {k : Nat} {p1 ap pos : Pos} {l : List Nat} (he : Ev w A env H e (Nw (VL ((l.map ([·])).map VS)))) (hz : l.length ≤ 1000)
    (hs : starEach [e] env = (false, eval e env) :: starEach [] env := by rfl) {pl : Sem Bool} (hx : eval (.Call (.Attribute (.Constant (.str (PySem.Str.ofString "")) k p1) "join" ap) [e] [] pos) env = (do
      let ov ← eval (.Constant (.str (PySem.Str.ofString "")) k p1) env
      standAt ap.atName
      let (f, first) ← holding [ov] (getMethod ov "join" pl)
      callWith pos f first (backTo pos (starEach [e] env)) []) := by rfl) : Ev w A env H (.Call (.Attribute (.Constant (.str (PySem.Str.ofString "")) k p1) "join" ap) [e] [] pos) (IsS (st l)) := by
  have := Ev.joinV (sep := []) (xs := l.map ([·])) (Ev.cS (x := []) (z := PySem.Str.ofString "") (by decide)) (nw_full he) (by rw [tot_ones, List.length_map]; simp; omega) hs hx
  rw [join_ones] at this
  exact this

/-- xs[i] of a list that no name holds, of texts -/
theorem Ev.idxT {H : Heap} {value slice : Expr} {pos : Pos} {xs : List (List Nat)} {x : List Nat} {i : Nat} (hv : Ev w A env H value (fun _ v h₁ => (VL (xs.map VS)).p h₁ v)) (hi : Ev w A env H slice (IsI (i : Int))) (h : xs[i]? = some x) (hsz : i < 1000000)
    (hs : ∀ o k u, subscripted slice false o (.int k u) = operate [o, .int k u] (getItem o (.int k u)) := by intro _ _ _; with_unfolding_all rfl) : Ev w A env H (.Subscript value slice pos) (IsS (st x)) := fun s k =>
  Subscript_ (hv.use k fun v s₁ k₁ r₁ h₁ => hi.use (k.trans k₁) fun u s₂ k₂ r₂ h₂ => by
    obtain ⟨a, us, rfl, hl, hA⟩ := h₁
    obtain ⟨t2, rfl⟩ := h₂
    obtain ⟨v, hx, t, rfl⟩ := hA.get (as_VS h)
    have hl' : Heap.IsList _ a us.toArray := hl.mono k₂
    refine subscriptTail_builtin_flat hl'.typeIs slot_list_getitem.lookup (wpAny_getItem_list hl' (by omega) (by omega) (x := .str (st x) t) ?_ ⟨fun _ q => (by cases q), k₁.trans k₂, r₁.trans r₂, t, rfl⟩) (hs _ _ _)
    simpa using hx)

/-- x[:-1] -/
theorem Ev.initS {H : Heap} {value e : Expr} {p pos : Pos} {l : List Nat} (hv : Ev w A env H value (IsS (st l))) (he : Ev w A env H e (IsI (-1))) (hz : l.length ≤ 1000) (ht : ∀ o r, letTemporaryGo value o r = pure () := by intro _ _; rfl) :
    Ev w A env H (.Subscript value (.Slice none (some e) none p) pos) (IsS (st l.dropLast)) := by
  have := Ev.sliceS (p := p) (pos := pos) hv pt_none (pt_some he) (by rw [sizeLine_eq]; omega) ht
  have e : sliceG l (loN none l.length) (hiN (some (-1)) l.length) = l.dropLast := by
    have : hiN (some (-1)) l.length = l.length - 1 := by
      show clipN _ _ = _
      unfold clipN
      rw [if_pos (by decide)]
      omega
    rw [this, List.dropLast_eq_take]
    rfl
  rw [e] at this
  exact this
/-- x[-1] -/
theorem Ev.lastS {H : Heap} {value slice : Expr} {pos : Pos} {l : List Nat} (hv : Ev w A env H value (IsS (st l))) (hi : Ev w A env H slice (IsI (-1))) (h : l ≠ []) (hsz : l.length ≤ 1000)
    (hs : ∀ o k u, subscripted slice false o (.int k u) = operate [o, .int k u] (getItem o (.int k u)) := by intro _ _ _; with_unfolding_all rfl)
    (ht : ∀ o r, letTemporaryGo value o r = pure () := by intro _ _; with_unfolding_all rfl) : Ev w A env H (.Subscript value slice pos) (IsS (st [l.getLast h])) := fun s k =>
  Subscript_ (hv.use k fun v s₁ k₁ r₁ h₁ => hi.use (k.trans k₁) fun u s₂ k₂ r₂ h₂ => by
    obtain ⟨t, rfl⟩ := h₁
    obtain ⟨t2, rfl⟩ := h₂
    have hl := List.length_pos_iff.mpr h
    refine item_str (by decide) (by rw [st_len]; omega) (by rw [st_len]; omega) (fun _ => ?_) (hs _ _ _) (ht _)
    have e : Txt.item (st l) (-1) = st [l.getLast h] := by
      unfold Txt.item Txt.charAt
      rw [seqIndex_neg (by decide) (by rw [st_len]; omega), st_len]
      have e2 : (-1 + (l.length : Int)).toNat = l.length - 1 := by omega
      rw [e2, List.getLast_eq_getElem h]
      simp
      rw [List.getElem?_eq_getElem (by omega)]
      rfl
    rw [e]
    exact ⟨k₁.trans k₂, (r₁.trans r₂).ht, _, rfl⟩)
end
end Mine
namespace Mine
open Sem (wp)

section
variable {α : Type} [DecidableEq α]
noncomputable def belowG (kinds : List α) (root : α) : List α := (splitG kinds [root] (kinds.length + 1)).headD [] ++ [root]
noncomputable def wordsF (kinds : List α) : Nat → List α → List (List α)
  | 0, _ => [[]]
  | n + 1, x => match x.getLast? with
    | none => [[]]
    | some root => (wordsF kinds n (x.dropLast.filter fun c => decide (c ∈ belowG kinds root))).flatMap fun one =>
        (wordsF kinds n (x.dropLast.filter fun c => !decide (c ∈ belowG kinds root))).flatMap fun two => (mixedF 6 one two).map (· ++ [root])
end

theorem filt_sum {α : Type} (p : α → Bool) (l : List α) : (l.filter p).length + (l.filter fun c => !p c).length = l.length := by
  induction l with
  | nil => rfl
  | cons a l ih =>
    by_cases h : p a = true
    · rw [List.filter_cons_of_pos h, List.filter_cons_of_neg (by simp [h]), List.length_cons, List.length_cons]; omega
    · rw [List.filter_cons_of_neg h, List.filter_cons_of_pos (by simpa using h), List.length_cons, List.length_cons]; omega
theorem words_len (kinds : List Nat) : ∀ (n : Nat) (x : List Nat), x.length ≤ n → ∀ z ∈ wordsF kinds n x, z.length = x.length
  | 0, x, h, z, hz => by rw [List.mem_singleton.mp hz]; exact (Nat.le_zero.mp h).symm
  | n + 1, x, h, z, hz => by
    unfold wordsF at hz
    cases hx : x.getLast? with
    | none =>
      rw [hx] at hz
      rw [List.mem_singleton.mp hz, List.getLast?_eq_none_iff.mp hx]
    | some root =>
      rw [hx] at hz
      have hpos : 0 < x.length := List.length_pos_iff.mpr fun q => by rw [q] at hx; cases hx
      have hs := filt_sum (fun c => decide (c ∈ belowG kinds root)) x.dropLast
      rw [List.length_dropLast] at hs
      obtain ⟨one, h1, hz⟩ := List.mem_flatMap.mp hz
      obtain ⟨two, h2, hz⟩ := List.mem_flatMap.mp hz
      obtain ⟨m, h3, rfl⟩ := List.mem_map.mp hz
      have l1 := words_len kinds n _ (by omega) one h1
      have l2 := words_len kinds n _ (by omega) two h2
      have l3 := mixed_len 6 one two m h3
      rw [List.length_append, l3, l1, l2, List.length_singleton]
      omega
theorem mixed_few2 {α : Type} : ∀ (n : Nat) (xs ys : List α), (mixedF n xs ys).length ≤ 2 ^ (xs.length + ys.length)
  | 0, xs, ys => Nat.one_le_two_pow
  | n + 1, [], ys => Nat.one_le_two_pow
  | n + 1, x :: xs, [] => Nat.one_le_two_pow
  | n + 1, x :: xs, y :: ys => by
    have h1 := mixed_few2 n xs (y :: ys)
    have h2 := mixed_few2 n (x :: xs) ys
    rw [mixedF, List.length_append, List.length_map, List.length_map]
    have e1 : (x :: xs).length + (y :: ys).length = (xs.length + ys.length + 1) + 1 := by simp only [List.length_cons]; omega
    have e2 : xs.length + (y :: ys).length = xs.length + ys.length + 1 := by simp only [List.length_cons]; omega
    have e3 : (x :: xs).length + ys.length = xs.length + ys.length + 1 := by simp only [List.length_cons]; omega
    rw [e2] at h1
    rw [e3] at h2
    rw [e1, Nat.pow_succ]
    omega
theorem flat_few {β γ : Type} (l : List β) (f : β → List γ) (b : Nat) (h : ∀ x ∈ l, (f x).length ≤ b) : (l.flatMap f).length ≤ l.length * b := by
  induction l with
  | nil => simp
  | cons a l ih =>
    rw [List.flatMap_cons, List.length_append, List.length_cons, Nat.succ_mul]
    have h1 := h a (.head _)
    have h2 := ih fun x hx => h x (.tail _ hx)
    omega
theorem sq_le {a b : Nat} : a * a + (b * b + (a + b)) ≤ (a + b + 1) * (a + b + 1) := by
  have : (a + b + 1) * (a + b + 1) = a * a + b * b + 2 * (a * b) + 2 * a + 2 * b + 1 := by
    simp only [Nat.add_mul, Nat.mul_add, Nat.mul_one, Nat.one_mul, Nat.mul_comm b a]
    omega
  omega
theorem words_few (kinds : List Nat) : ∀ (n : Nat) (x : List Nat), x.length ≤ n → (wordsF kinds n x).length ≤ 2 ^ (x.length * x.length)
  | 0, x, h => Nat.one_le_two_pow
  | n + 1, x, h => by
    unfold wordsF
    cases hx : x.getLast? with
    | none => exact Nat.one_le_two_pow
    | some root =>
      have hpos : 0 < x.length := List.length_pos_iff.mpr fun q => by rw [q] at hx; cases hx
      have hs := filt_sum (fun c => decide (c ∈ belowG kinds root)) x.dropLast
      rw [List.length_dropLast] at hs
      show (List.flatMap _ _).length ≤ _
      generalize ha : (x.dropLast.filter fun c => decide (c ∈ belowG kinds root)) = L at *
      generalize hb : (x.dropLast.filter fun c => !decide (c ∈ belowG kinds root)) = R at *
      have c1 := words_few kinds n L (by omega)
      have c2 := words_few kinds n R (by omega)
      have inner : ∀ one ∈ wordsF kinds n L, ((wordsF kinds n R).flatMap fun two => (mixedF 6 one two).map (· ++ [root])).length ≤ (wordsF kinds n R).length * 2 ^ (L.length + R.length) := fun one h1 =>
        flat_few _ _ _ fun two h2 => by
          rw [List.length_map, ← words_len kinds n L (by omega) one h1, ← words_len kinds n R (by omega) two h2]
          exact mixed_few2 6 one two
      refine Nat.le_trans (flat_few _ _ _ inner) ?_
      have e : x.length = L.length + R.length + 1 := by omega
      rw [e]
      refine Nat.le_trans (Nat.mul_le_mul c1 (Nat.mul_le_mul_right _ c2)) ?_
      rw [← Nat.pow_add, ← Nat.pow_add]
      exact Nat.pow_le_pow_right (by decide) sq_le
end Mine
namespace Mine
open Sem (wp)

section
variable {w : World}
noncomputable def WordsC (w : World) (kinds : List Nat) (n : Nat) : Prop := ∀ {A : Around} {H : Heap} {x : List Nat} {v1 v2 : Value}, TopOk w H → A.handled = none → A.depth + 10 * n + 80 < recursionLimit → x.length ≤ n → n ≤ 5 → (∀ c ∈ x, c < 256) → (VS x).p H v1 → (VS kinds).p H v2 →
    Cl w A H (.ref 138) [v1, v2] (Nw (VL ((wordsF kinds (n + 1) x).map VS)))

theorem flat_succ {β : Type} {l : List β} {f : β → List (List Nat)} {i : Nat} (h : i < l.length) : ((l.take (i + 1)).flatMap f).map VS = ((l.take i).flatMap f).map VS ++ (f l[i]).map VS := by
  rw [List.take_add_one, List.getElem?_eq_getElem h, List.flatMap_append, List.map_append]
  congr 1
  show ((f l[i]) ++ []).map VS = _
  rw [List.append_nil]
theorem map_succ {l : List (List Nat)} {f : List Nat → List Nat} {i : Nat} (h : i < l.length) : ((l.take (i + 1)).map f).map VS = ((l.take i).map f).map VS ++ [VS (f l[i])] := out_succ h

set_option maxHeartbeats 1000000 in
theorem words_step (kinds : List Nat) (hkz : kinds.length ≤ 100) (n : Nat) (ih : ∀ m, n = m + 1 → WordsC w kinds m) : WordsC w kinds n := by
  intro A H x v1 v2 T hh hroom hlen hn hlow h1 h2
  refine enterC (vs := [("word", VS x), ("kinds", VS kinds)]) ["root", "below", "rights"] (vc := []) T hh rfl (by kernel_rfl) (by omega) (binds := [("word", v1), ("kinds", v2)]) (fun s X => BindsTo.of_eq rfl) (by kernel_rfl) (by decide +kernel) (fun x p e => ?_)
    (fun x p e => by cases e) (fun x e => ?_) rfl rfl rfl ?_ fun _ _ _ _ k q => nw_mono k q
  · rcases List.mem_cons.mp (mem_of_lookup e) with q | q
    · cases q; exact ⟨v1, rfl, h1⟩
    · cases List.mem_singleton.mp q; exact ⟨v2, rfl, h2⟩
  · simp only [List.contains_cons, Bool.or_eq_true, beq_iff_eq, List.contains_nil, Bool.false_eq_true, or_false] at e
    rcases e with rfl | rfl | rfl <;> rfl
  intro A' env s₀ s φ Q k hd _ C h kφ hc hun hcells hsz hQ
  have s0 : PySem.Str.ofString "" = st [] := by decide
  have hB : Bof env.cells ["root", "below", "rights"] = [env.locals + 1 + 1 + 1, env.locals + 1 + 1, env.locals + 1] := by rw [hcells]; rfl
  have l1 : env.cells.lookup ("root" : Str) = some (env.locals + 1) := by rw [hcells]; rfl
  have l2 : env.cells.lookup ("below" : Str) = some (env.locals + 1 + 1) := by rw [hcells]; rfl
  have l3 : env.cells.lookup ("rights" : Str) = some (env.locals + 1 + 1 + 1) := by rw [hcells]; rfl
  rw [hB] at h
  have u1 := hun "root" _ rfl l1
  have u2 := hun "below" _ rfl l2
  have u3 := hun "rights" _ rfl l3
  have n1 : env.locals + 1 ≠ env.locals + 1 + 1 := Nat.ne_of_lt (Nat.lt_succ_self _)
  have n2 : env.locals + 1 + 1 ≠ env.locals + 1 + 1 + 1 := Nat.ne_of_lt (Nat.lt_succ_self _)
  have n3 : env.locals + 1 ≠ env.locals + 1 + 1 + 1 := Nat.ne_of_lt (Nat.lt_succ_of_lt (Nat.lt_succ_self _))
  have z0 : env.locals ≠ env.locals + 1 := Nat.ne_of_lt (Nat.lt_succ_self _)
  have fr : ∀ b, env.locals ≤ b → s₀.heap.get? b = none := fun b hb => by
    cases hq : s₀.heap.get? b with
    | none => rfl
    | some o => exact absurd (Heap.lt_size hq) (Nat.not_lt.mpr (Nat.le_trans hsz hb))
  refine seq (ifs (Ts.eqS (h.nS C rfl rfl) (Ev.cS s0)) fun s₁ k₁ r₁ => ?_)
  rw [st_beq]
  have h1' := h.step k₁ r₁
  by_cases he : x = []
  · refine iteT (dT he) (seq (rets (Ev.listS1 (Ev.cS s0)) fun v s₂ k₂ r₂ hv => ?_))
    have h2' := h1'.step k₂ r₂
    subst he
    exact hQ v s₂ h2'.keepE h2'.rest (nw_mono h1'.keepE hv)
  · refine iteF (dF he) (sq0 ?_)
    have hxl : x.length ≤ 5 := Nat.le_trans hlen hn
    obtain ⟨m, rfl⟩ : ∃ m, n = m + 1 := ⟨n - 1, by have := List.length_pos_iff.mpr he; omega⟩
    have IH : WordsC w kinds m := ih m rfl
    refine seq (h1'.setC (p := VS [x.getLast he]) (B' := [env.locals + 1 + 1 + 1, env.locals + 1 + 1]) C rfl l1 (.tail _ (.tail _ (.head _))) (fun b hb => by
        rcases List.mem_cons.mp hb with rfl | hb
        · exact ⟨.head _, n3.symm⟩
        · rw [List.mem_singleton.mp hb]; exact ⟨.tail _ (.head _), n1.symm⟩) u1 (Xt.of_keep k₁) (fr _ (Nat.le_add_right _ _)) (fzS (Ev.lastS (h1'.nS C rfl rfl) (Ev.neg Ev.cint) he (by omega))) fun φ₂ s₂ q₂ h2 e2 x2 => ?_)
    have z1 : ∀ b, env.locals < b → b ≠ env.locals + 1 → b ∉ [env.locals, env.locals + 1] := fun b h1 h2 q => by
      rcases List.mem_cons.mp q with q | q
      · exact Nat.ne_of_gt h1 q
      · exact h2 (List.mem_singleton.mp q)
    have cellX : ∀ {Z : List Addr} {c : Addr} {h h' : Heap} {v : Option Value}, h.IsCell c v → Xt Z h h' → c ∉ Z → h'.IsCell c v := fun ⟨o, ho, hd⟩ x hz => ⟨o, x _ o hz ho, hd⟩
    have g0 : env.locals < env.locals + 1 + 1 := Nat.lt_succ_of_lt (Nat.lt_succ_self _)
    have g1 : env.locals < env.locals + 1 + 1 + 1 := Nat.lt_succ_of_lt g0
    have u2' := cellX u2 x2 (z1 _ g0 n1.symm)
    have u3' := cellX u3 x2 (z1 _ g1 n3.symm)
    have hrl : x.getLast he < 256 := hlow _ (List.getLast_mem he)
    generalize hroot : x.getLast he = root at e2 hrl
    have hlow1 : Low [root] := fun c hc => by rw [List.mem_singleton.mp hc]; exact hrl
    have hdl : (splitG kinds [root] (kinds.length + 1))[0]? = some ((splitG kinds [root] (kinds.length + 1)).headD []) := by
      unfold splitG
      cases occG [root] (kinds.length + 1) 0 0 0 kinds <;> rfl
    have hbl : ((splitG kinds [root] (kinds.length + 1)).headD []).length ≤ 100 := by
      refine Nat.le_trans ?_ (Nat.le_trans (split_tot kinds [root] (kinds.length + 1)) hkz)
      cases (splitG kinds [root] (kinds.length + 1)) with
      | nil => exact Nat.zero_le _
      | cons a l => exact Nat.le_add_right _ _
    have er : ∀ {H : Heap} {p : Pos}, Keep φ₂ H → Ev w A' env H (.Name "root" p) (IsS (st [root])) := fun k => Ev.cell (p := VS [root]) C.k (C.of rfl) e2 k
    refine seq (h2.setC (s₁ := s₂) (p := VS (belowG kinds root)) (B' := [env.locals + 1 + 1 + 1]) C rfl l2 (.tail _ (.head _)) (fun b hb => by
        rw [List.mem_singleton.mp hb]; exact ⟨.head _, n2.symm⟩) u2' (Xt.refl _ _) (fr _ (Nat.le_of_lt g0)) (fzS (Ev.addT (Ev.idxT (nw_full (Ev.splitS (h2.nS C rfl rfl) (er h2.kp) (by simp) hlow1 (by omega))) Ev.cint hdl (by decide)) (er h2.kp) (by show _ + 1 ≤ _; omega))) fun φ₃ s₃ q₃ h3 e3 x3 => ?_)
    have u3'' := cellX u3' x3 (fun q => by
      rcases List.mem_cons.mp q with q | q
      · exact Nat.ne_of_gt g1 q
      · exact n2.symm (List.mem_singleton.mp q))
    have hz0 : ∀ b ∈ [env.locals], b ∈ ([] : List Addr) ∨ s₀.heap.get? b = none := fun b hb => by rw [List.mem_singleton.mp hb]; exact .inr (fr _ (Nat.le_refl _))
    have hdl5 : x.dropLast.length ≤ 4 := by rw [List.length_dropLast]; omega
    have hdm : x.dropLast.length ≤ m := by rw [List.length_dropLast]; omega
    have hsum := filt_sum (fun c => decide (c ∈ belowG kinds root)) x.dropLast
    have hlowL : ∀ (p : Nat → Bool), ∀ c ∈ x.dropLast.filter p, c < 256 := fun p c hc => hlow c ((List.dropLast_sublist x).subset (List.mem_filter.mp hc).1)
    obtain ⟨a1, w1, ll1, i1, q1⟩ := id e2
    obtain ⟨a2, w2, ll2, i2, q2'⟩ := id e3
    have h3m := h3.markZ [env.locals] (.head _) (fun _ q => by cases q)
    refine seq (h3m.asg (p := VL ((wordsF kinds (m + 1) (x.dropLast.filter fun c => decide (c ∈ belowG kinds root))).map VS)) C (nw_fz (Ev.dcall h3.tp (h3.gl (v := .ref 138) C rfl (by kernel_rfl)) (by kernel_rfl)
      (as2 (Ev.joinOnes (Ev.filt (pr := fun c => decide (c ∈ belowG kinds root)) h3.tp C rfl (Ev.initS (h3.nS C rfl rfl) (Ev.neg Ev.cint) (by omega)) (clos_one ll2 rfl) (by decide) rfl (by decide) rfl (by omega) fun cenv φ₁ s₁ c Z B hcl hC k' hc hs => ?_) (by have := List.length_filter_le (fun c => decide (c ∈ belowG kinds root)) x.dropLast; omega)) (h3.nS C rfl rfl))
      fun vs h₁ h₃ ⟨va, vb, g, e, e1, e2, k4⟩ ka kb => ?_)) rfl rfl fun φ₄ s₄ q₄ h4m => ?_)
    · exact Ts.inG (hs.nS hC (l := [c]) rfl rfl) (Ev.cell (p := VS (belowG kinds root)) hC.k (hC.of rfl) ⟨a2, w2, by rw [hcl]; rfl, i2.keeps (h3.kp.trans k'), q2'⟩ hs.kp)
    · subst e
      exact IH (h3.tp.keeps (ka.trans kb)) C.hh (by rw [hd]; omega) (by omega) (by omega) (hlowL _) e1 e2
    have h4 := h3.backZ hz0 h4m
    have u4 := cellX u3'' h4m.xt (fun q => Nat.ne_of_gt g1 (List.mem_singleton.mp q))
    refine seq (h4.setC (s₁ := s₄) (p := VL ((wordsF kinds (m + 1) (x.dropLast.filter fun c => !decide (c ∈ belowG kinds root))).map VS)) (B' := []) C rfl l3 (.head _) (fun _ q => by cases q) u4 (Xt.refl _ _) (fr _ (Nat.le_of_lt g1)) (nw_fz (Ev.dcall h4.tp (h4.gl (v := .ref 138) C rfl (by kernel_rfl)) (by kernel_rfl)
      (as2 (Ev.joinOnes (Ev.filt (pr := fun c => !decide (c ∈ belowG kinds root)) h4.tp C rfl (Ev.initS (h4.nS C rfl rfl) (Ev.neg Ev.cint) (by omega)) (clos_one ll2 rfl) (by decide) rfl (by decide) rfl (by omega) fun cenv φ₁ s₁ c Z B hcl hC k' hc hs => ?_) (by have := List.length_filter_le (fun c => !decide (c ∈ belowG kinds root)) x.dropLast; omega)) (h4.nS C rfl rfl))
      fun vs h₁ h₃ ⟨va, vb, g, e, e1, e2, k4⟩ ka kb => ?_)) fun φ₅ s₅ q₅ h5 e5 x5 => ?_)
    · exact Ts.notInG (hs.nS hC (l := [c]) rfl rfl) (Ev.cell (p := VS (belowG kinds root)) hC.k (hC.of rfl) ⟨a2, w2, by rw [hcl]; rfl, i2.keeps ((q₄.trans h4.kp).trans k'), q2'⟩ hs.kp)
    · subst e
      exact IH (h4.tp.keeps (ka.trans kb)) C.hh (by rw [hd]; omega) (by omega) (by omega) (hlowL _) e1 e2
    have ew : wordsF kinds (m + 1 + 1) x = (wordsF kinds (m + 1) (x.dropLast.filter fun c => decide (c ∈ belowG kinds root))).flatMap fun one =>
        (wordsF kinds (m + 1) (x.dropLast.filter fun c => !decide (c ∈ belowG kinds root))).flatMap fun two => (mixedF 6 one two).map (· ++ [root]) := by
      conv => lhs; unfold wordsF
      rw [List.getLast?_eq_some_getLast he, hroot]
    have b1 := words_len kinds (m + 1) (x.dropLast.filter fun c => decide (c ∈ belowG kinds root)) (by omega)
    have b2 := words_len kinds (m + 1) (x.dropLast.filter fun c => !decide (c ∈ belowG kinds root)) (by omega)
    have f1 := words_few kinds (m + 1) (x.dropLast.filter fun c => decide (c ∈ belowG kinds root)) (by omega)
    have f2 := words_few kinds (m + 1) (x.dropLast.filter fun c => !decide (c ∈ belowG kinds root)) (by omega)
    generalize hLw : wordsF kinds (m + 1) (x.dropLast.filter fun c => decide (c ∈ belowG kinds root)) = l1' at *
    generalize hRw : wordsF kinds (m + 1) (x.dropLast.filter fun c => !decide (c ∈ belowG kinds root)) = l2' at *
    generalize hLn : (x.dropLast.filter fun c => decide (c ∈ belowG kinds root)).length = La at *
    generalize hRn : (x.dropLast.filter fun c => !decide (c ∈ belowG kinds root)).length = Ra at *
    have hsum4 : La + Ra ≤ 4 := by omega
    have big : ∀ i j k : Nat, i ≤ l1'.length → j ≤ l2'.length → k ≤ 2 ^ (La + Ra) → i * (l2'.length * 2 ^ (La + Ra)) + j * 2 ^ (La + Ra) + k ≤ 16000000 := fun i j k hi hj hk => by
      have hLL : La * La ≤ 4 * La := Nat.mul_le_mul_right _ (by omega)
      have hRR : Ra * Ra ≤ 4 * Ra := Nat.mul_le_mul_right _ (by omega)
      have p1 : l2'.length * 2 ^ (La + Ra) ≤ 2 ^ (Ra * Ra + (La + Ra)) := by rw [Nat.pow_add 2 (Ra * Ra) (La + Ra)]; exact Nat.mul_le_mul_right _ f2
      have p2 : i * (l2'.length * 2 ^ (La + Ra)) ≤ 2 ^ (La * La + (Ra * Ra + (La + Ra))) := by rw [Nat.pow_add 2 (La * La)]; exact Nat.mul_le_mul (Nat.le_trans hi f1) p1
      have p3 : j * 2 ^ (La + Ra) ≤ 2 ^ (Ra * Ra + (La + Ra)) := Nat.le_trans (Nat.mul_le_mul_right _ hj) p1
      have q1 : (2 : Nat) ^ (La * La + (Ra * Ra + (La + Ra))) ≤ 2 ^ 20 := Nat.pow_le_pow_right (by decide) (by omega)
      have q2 : (2 : Nat) ^ (Ra * Ra + (La + Ra)) ≤ 2 ^ 20 := Nat.pow_le_pow_right (by decide) (by omega)
      have q3 : (2 : Nat) ^ (La + Ra) ≤ 2 ^ 20 := Nat.pow_le_pow_right (by decide) (by omega)
      have q4 : (2 : Nat) ^ 20 = 1048576 := rfl
      omega
    have F2l : ∀ one ∈ l1', ∀ two ∈ l2', ((mixedF 6 one two).map (· ++ [root])).length ≤ 2 ^ (La + Ra) := fun one h1 two h2 => by
      rw [List.length_map, ← b1 one h1, ← b2 two h2]; exact mixed_few2 6 one two
    have F1l : ∀ one ∈ l1', (l2'.flatMap fun two => (mixedF 6 one two).map (· ++ [root])).length ≤ l2'.length * 2 ^ (La + Ra) := fun one h1 => flat_few _ _ _ (F2l one h1)
    have nn1 : ∀ i, (l1'.take i).length ≤ l1'.length := fun i => by rw [List.length_take]; exact Nat.min_le_right _ _
    have nn2 : ∀ i, (l2'.take i).length ≤ l2'.length := fun i => by rw [List.length_take]; exact Nat.min_le_right _ _
    have e6 : (l1'.flatMap fun one => l2'.flatMap fun two => (mixedF 6 one two).map (· ++ [root])).map VS = (fun i => ((l1'.take i).flatMap fun one => l2'.flatMap fun two => (mixedF 6 one two).map (· ++ [root])).map VS) (l1'.map VS).length := by
      show _ = ((l1'.take (l1'.map VS).length).flatMap _).map VS
      rw [List.length_map, List.take_length]
    obtain ⟨a3, w3, ll3, i3, q3'⟩ := id e5
    refine seq (rets (V := Nw (VL ((l1'.flatMap fun one => l2'.flatMap fun two => (mixedF 6 one two).map (· ++ [root])).map VS))) ?_ fun v s₆ k₆ r₆ hv => ?_)
    · rw [e6]
      refine Ev.comp (p := VL (l1'.map VS)) (n := (l1'.map VS).length) (pI := fun i => (l1'.map VS).getD i VN) _ h5.tp C rfl (h5.nF C rfl rfl) (fun h v s' k hv => itr_list C.hh k hv) (cl := [("root", a1), ("rights", a3)]) (clos_two ll3 ll1 (by decide) rfl) (by decide) rfl (by decide) (relab_eq C.sc) rfl
        (fun i => ((l1'.take i).flatMap fun one => l2'.flatMap fun two => (mixedF 6 one two).map (· ++ [root])).map VS) rfl ?_
      · intro cenv D I B i φ₁ s₁ hcl hC hi k₁
        rw [List.length_map] at hi
        rw [getD_VS hi]
        have m1 : l1'[i] ∈ l1' := List.getElem_mem hi
        generalize ho1 : l1'[i] = one at *
        intro hCS
        refine wpAny_tests_nil (iteT rfl fun K Q hK => ?_)
        refine comp_next (p := VL (l2'.map VS)) (n := (l2'.map VS).length) (pI := fun j => (l2'.map VS).getD j VN) rfl hC rfl
          ((Ev.cell (p := VL (l2'.map VS)) hC.k (hC.of rfl) ⟨a3, w3, by rw [hcl]; rfl, i3.keeps (h5.kp.trans k₁), (VL _).mono (h5.kp.trans k₁) q3'⟩ hCS.1.kp).mono (Keep.refl _) fun _ _ _ _ _ q _ k _ => (VL _).mono k q) (fun φ' v s' _ k' hv => itr_list hC.hh k' hv) (.inl (.tail _ (.head _)))
          (fun j => ((l1'.take i).flatMap fun one => l2'.flatMap fun two => (mixedF 6 one two).map (· ++ [root])).map VS ++ ((l2'.take j).flatMap fun two => (mixedF 6 one two).map (· ++ [root])).map VS) (by
            show CS _ _ _ _ _ _ _ _ (_ ++ []) _
            rw [List.append_nil]; exact hCS) ?_ ?_
        · intro I1 j φ₂ s₂ hj k₂
          rw [List.length_map] at hj
          rw [getD_VS hj]
          have m2 : l2'[j] ∈ l2' := List.getElem_mem hj
          generalize ho2 : l2'[j] = two at *
          have lsum : one.length + two.length ≤ 5 := by rw [b1 one m1, b2 two m2]; omega
          intro hCS1
          refine wpAny_tests_nil (iteT rfl fun K Q hK => ?_)
          refine comp_next (p := VL ((mixedF 6 one two).map VS)) (n := ((mixedF 6 one two).map VS).length) (pI := fun k => ((mixedF 6 one two).map VS).getD k VN) rfl hC rfl
            (nw_fz (Ev.dcall hCS1.1.tp (hCS1.1.gl (v := .ref 133) hC rfl (by kernel_rfl)) (by kernel_rfl) (as2 (hCS1.1.nS hC (l := one) rfl rfl) (hCS1.1.nS hC (l := two) rfl rfl)) fun vs h₁ h₃ ⟨va, vb, g, e, e1, e2, k4⟩ ka kb => ?_)) (fun φ' v s' _ k' hv => itr_list hC.hh k' hv) (.inl (.tail _ (.head _)))
            (fun k => (((l1'.take i).flatMap fun one => l2'.flatMap fun two => (mixedF 6 one two).map (· ++ [root])).map VS ++ ((l2'.take j).flatMap fun two => (mixedF 6 one two).map (· ++ [root])).map VS) ++ (((mixedF 6 one two).take k).map (· ++ [root])).map VS) (by
              show CS _ _ _ _ _ _ _ _ (_ ++ []) _
              rw [List.append_nil]; exact hCS1) ?_ ?_
          · subst e
            exact cl_mixed 5 (hCS1.1.tp.keeps (ka.trans kb)) hC.hh (by omega) lsum (Nat.le_refl _) e1 e2
          · intro I2 k φ₃ s₃ hk k₃
            rw [List.length_map] at hk
            rw [getD_VS hk]
            have ml := mixed_len 6 one two _ (List.getElem_mem hk)
            have mf := mixed_few2 6 one two
            intro hCS2
            refine wpAny_tests_nil (iteT rfl fun K Q hK => ?_)
            refine comp_emit (q := VS ((mixedF 6 one two)[k] ++ [root])) rfl hCS2 (.inl (.tail _ (.head _))) ?_
              ((Ev.addT (hCS2.1.nS hC (l := (mixedF 6 one two)[k]) rfl rfl) (Ev.cell (p := VS [root]) hC.k (hC.of rfl) ⟨a1, w1, by rw [hcl]; rfl, i1.keeps ((((((q₃.trans q₄).trans q₅).trans h5.kp).trans k₁).trans k₂).trans k₃), q1⟩ hCS2.1.kp) (by rw [ml, List.length_singleton]; omega)).mono (Keep.refl _) fun _ _ _ _ _ q _ => q) fun s' h' => hK φ₃ s' (Keep.refl _) ⟨h'.1.weak (.cons rfl (.cons rfl .nil)), by
                have h2 := h'.2
                rw [List.append_assoc, ← map_succ (f := (· ++ [root])) hk] at h2
                exact h2⟩
            have A1 := flat_few (l1'.take i) _ _ fun one h => F1l one (List.mem_of_mem_take h)
            have A2 := flat_few (l2'.take j) _ _ fun two h => F2l one m1 two (List.mem_of_mem_take h)
            rw [b1 one m1, b2 two m2] at mf
            have A3 : ((mixedF 6 one two).take k).length ≤ 2 ^ (La + Ra) := by rw [List.length_take]; exact Nat.le_trans (Nat.min_le_right _ _) mf
            have := big _ _ _ (nn1 i) (nn2 j) A3
            rw [List.length_append, List.length_append, List.length_map, List.length_map, List.length_map, List.length_map]
            omega
          · intro φ₃ s₃ k₃ h3
            refine hK φ₃ s₃ k₃ ⟨h3.1.weak (.cons rfl .nil), ?_⟩
            have h32 := h3.2
            rw [List.length_map, List.take_length, List.append_assoc] at h32
            rw [flat_succ hj, ho2]
            exact h32
        · intro φ₃ s₃ k₃ h3
          refine hK φ₃ s₃ k₃ ⟨h3.1.weak .nil, ?_⟩
          have h32 := h3.2
          rw [List.length_map, List.take_length] at h32
          rw [flat_succ hi, ho1]
          exact h32
    · have h6 := h5.step k₆ r₆
      exact hQ v s₆ h6.keepE h6.rest (by rw [ew]; exact nw_mono h5.keepE hv)
theorem cl_words (kinds : List Nat) (hkz : kinds.length ≤ 100) : ∀ n, WordsC w kinds n
  | 0 => words_step kinds hkz 0 fun _ e => by cases e
  | n + 1 => words_step kinds hkz (n + 1) fun m e => by cases e; exact cl_words kinds hkz n
end
end Mine
namespace Mine
open Sem (wp)

section
variable {w : World} {A : Around} {env : Env} {S : Scope} {s₀ s : Shared} {Z B : List Addr} {φ : Heap} {vs : List (Str × Vp)} {ow : List (Str × Addr × List Vp)} {L : Addr}

theorem Ev.geI {H : Heap} {l r : Expr} {p : Pos} {x y : Int} (hl : Ev w A env H l (IsI x)) (hr : Ev w A env H r (IsI y)) (hm : behindInMarks .GtE r = false := by with_unfolding_all rfl) : Ev w A env H (.Compare l [.GtE] [r] p) (IsB (decide (y ≤ x))) :=
  Ev.cmp hl hr (fun _ _ _ _ _ s ⟨t, ha⟩ ⟨u, hb⟩ _ => by subst ha hb; exact PyProof.Rows.ge_int ⟨Keep.refl _, Rest.refl _, fun _ => rfl⟩) hm

theorem cl_iseof {H : Heap} {x : Int} {vx : Value} (T : TopOk w H) (hh : A.handled = none) (hroom : A.depth + 10 < recursionLimit) (hvx : (VI x).p H vx) : Cl w A H (.ref 86) [vx] (IsB (x == 0)) := by
  refine enterS (vs := [("x", VI x)]) T hh rfl (by kernel_rfl) (Nat.lt_of_le_of_lt (Nat.le_add_right _ _) hroom) rfl (binds := [("x", vx)]) (fun s X => BindsTo.of_eq rfl) (locs rfl) (.cons hvx .nil) (by decide) rfl rfl rfl ?_ fun _ _ _ _ _ q => q
  intro A' env s₀ s Q k hd C h hQ
  refine seq (rets (Ev.eqI (h.nI C rfl rfl) (name_int (h.gl (v := .int 0 282) C rfl (by kernel_rfl)))) fun v s₁ k₁ r₁ hv => ?_)
  have h1 := h.step k₁ r₁
  exact hQ v s₁ h1.keepE h1.rest hv
theorem cl_isnt {H : Heap} {x : Int} {vx : Value} (T : TopOk w H) (hh : A.handled = none) (hroom : A.depth + 10 < recursionLimit) (hvx : (VI x).p H vx) : Cl w A H (.ref 79) [vx] (IsB (decide (256 ≤ x))) := by
  refine enterS (vs := [("x", VI x)]) T hh rfl (by kernel_rfl) (Nat.lt_of_le_of_lt (Nat.le_add_right _ _) hroom) rfl (binds := [("x", vx)]) (fun s X => BindsTo.of_eq rfl) (locs rfl) (.cons hvx .nil) (by decide) rfl rfl rfl ?_ fun _ _ _ _ _ q => q
  intro A' env s₀ s Q k hd C h hQ
  refine seq (rets (Ev.geI (h.nI C rfl rfl) (name_int (h.gl (v := .int 256 380) C rfl (by kernel_rfl)))) fun v s₁ k₁ r₁ hv => ?_)
  have h1 := h.step k₁ r₁
  exact hQ v s₁ h1.keepE h1.rest hv

/-! ranges -/
noncomputable def VR (n : Nat) : Vp := ⟨fun h v => ∃ (r : Addr) (t u x : Tok), v = .ref r ∧ IsRange h r 0 n 1 t u x, fun k ⟨r, t, u, x, e, i⟩ => ⟨r, t, u, x, e, k r _ i⟩⟩
theorem itr_range {n : Nat} {v : Value} (hh : A.handled = none) (k : Keep φ s.heap) (hn : n ≤ 1000000) (hv : (VR n).p φ v) : Itr w A φ s v n (fun i => VI (i : Nat)) := by
  obtain ⟨r, t, u, x, rfl, hr⟩ := hv
  intro Q hq
  have hz : Builtin.Range.rangeSize 0 (n : Int) 1 = n := by
    unfold Builtin.Range.rangeSize
    simp
    try omega
  have hsm : Builtin.Range.small 0 (n : Int) 1 = true := by
    unfold Builtin.Range.small Builtin.Range.rangeFitsLong
    rw [hz]
    simp
    omega
  refine wpAny_pyIter_range (k r _ hr) hsm ?_
  rw [hz]
  have W := Walks.range (prog := prg) (w := w) hh s.heap.objs.size 0 1 n
  refine hq _ _ _ _ W (fun b hb => .inl (List.mem_singleton.mp hb)) (fun i u ⟨t, e⟩ => ⟨t, by rw [e]; simp⟩) ?_ fun i h e => ⟨_, e, plainIt rfl (by decide)⟩
  show IsRangeIter _ _ _ _ _
  have e1 : (0 : Int) + ((0 : Nat) : Int) * 1 = 0 := by simp
  have e2 : (n : Int) - ((0 : Nat) : Int) = n := by simp
  rw [e1, e2]
  exact Heap.get?_push_size _ rfl
end
end Mine
namespace Mine
open Sem (wp)

section
variable {α : Type} [DecidableEq α]
/-- the test of a place -/
noncomputable def rootPG (bs q lp rp k0 k1 k2 k3 : α) (inner : List α) (k : Nat) : Bool := (inner[k]?.elim false fun c => decide (c ∈ [k0, k1, k2, k3])) && checkG (dressG bs q lp rp k0 k1 k2 k3 (inner.take k)) bs q lp rp
/-- the places of the signs whose front holds no open bracket -/
noncomputable def rootsG (bs q lp rp k0 k1 k2 k3 : α) (inner : List α) : List Nat := (List.range inner.length).filter (rootPG bs q lp rp k0 k1 k2 k3 inner)
noncomputable def symF (bs q lp rp k0 k1 k2 k3 : α) (tok : α → Int) (row : List Int) : Nat → List α → List Int
  | 0, _ => [0]
  | n + 1, text =>
    let inner := (text.drop 1).dropLast
    match rootsG bs q lp rp k0 k1 k2 k3 inner with
    | [r] => (((256 : Int) + ((bisL row (inner[r]?.elim 0 tok) : Nat) : Int)) :: symF bs q lp rp k0 k1 k2 k3 tok row n (inner.take r)) ++ symF bs q lp rp k0 k1 k2 k3 tok row n (inner.drop (r + 1))
    | _ => [0]
end

section
variable {w : World} {A : Around} {env : Env} {S : Scope} {s₀ s : Shared} {Z B : List Addr} {φ : Heap} {vs : List (Str × Vp)} {ow : List (Str × Addr × List Vp)} {L : Addr}

theorem Ev.rangeN {H : Heap} {p pos : Pos} {e : Expr} {n : Nat} (hf : Ev w A env H (.Name "range" p) (IsV (.type "range"))) (he : Ev w A env H e (IsI (n : Int))) (hs : starEach [e] env = (false, eval e env) :: starEach [] env := by rfl) :
    Ev w A env H (.Call (.Name "range" p) [e] [] pos) (Nw (VR n)) := fun s k =>
  wpAny_Call_ofName (hf.use k fun v s₁ k₁ r₁ h₁ => by
    cases h₁
    exact PyProof.Rows.callWith_type1 ((as1 he hs).use (k.trans k₁) fun us s₂ k₂ r₂ h₂ => by
      obtain ⟨v, rfl, t, rfl⟩ := h₂
      have kk := k₁.trans k₂
      exact call_range_1 ⟨fun b o e => Heap.get?_push_of_some _ (kk b o e), ((r₁.trans r₂).ht : Rest s _), fun φ' nn => ⟨_, _, _, _, rfl, nn _ _ (none_back kk (size_none _)) (Heap.get?_push_size _ rfl)⟩⟩) hs rfl)

theorem Ts.and2 {H : Heap} {e₁ e₂ : Expr} {p : Pos} {a b : Bool} (h₁ : Ts w A env H e₁ a) (h₂ : a = true → Ts w A env H e₂ b) : Ts w A env H (.BoolOp .And [e₁, e₂] p) (a && b) := fun s k =>
  wpAny_isTrue_BoolOp (wpAny_allTrue_And_cons (h₁.use k fun c s₁ k₁ r₁ e => by
    subst e
    cases c with
    | false => exact ⟨k₁, r₁, rfl⟩
    | true => exact wpAny_allTrue_And_cons ((h₂ rfl).use (k.trans k₁) fun c s₂ k₂ r₂ e => by
        subst e
        cases c with
        | false => exact ⟨k₁.trans k₂, r₁.trans r₂, rfl⟩
        | true => exact wpAny_allTrue_And_nil ⟨k₁.trans k₂, r₁.trans r₂, rfl⟩)))

theorem dress_len (k0 k1 k2 k3 : Nat) (x : List Nat) : (dressG 92 34 40 41 k0 k1 k2 k3 x).length ≤ 24 * x.length := by
  have l0 := repl_one_len k0 [92, 40] x 2 (Nat.le_refl _) (by omega)
  have l1 := repl_one_len k1 [92, 41] (replG [k0] [92, 40] x) 2 (Nat.le_refl _) (by omega)
  have l2 := repl_one_len k2 [92, 92] (replG [k1] [92, 41] (replG [k0] [92, 40] x)) 2 (Nat.le_refl _) (by omega)
  have l3 := repl_one_len k3 [34, 40, 34] (replG [k2] [92, 92] (replG [k1] [92, 41] (replG [k0] [92, 40] x))) 3 (Nat.le_refl _) (by omega)
  unfold dressG
  omega

/-- [i], an int -/
theorem Ev.listI1 {H : Heap} {e : Expr} {p : Pos} {i : Int} (he : Ev w A env H e (IsI i)) (hs : starEach [e] env = (false, eval e env) :: starEach [] env := by rfl) : Ev w A env H (.List [e] p) (Nw (VL ([i].map VI))) := fun s k =>
  wpAny_List (wpAny_items_cons (he.use k fun v s₁ k₁ r₁ ⟨t, hv⟩ => wpAny_items_nil ⟨by rw [sizeLine_eq]; show 1 ≤ 16777216; decide, fun b o e => Heap.get?_push_of_some _ (k₁ b o e), r₁.ht, nw_push k₁ fun φ => .cons ⟨t, hv⟩ .nil⟩) hs)
theorem Ev.addLI {H : Heap} {l r : Expr} {p : Pos} {xs ys : List Int} (hl : Ev w A env H l (fun _ v h₁ => (VL (xs.map VI)).p h₁ v)) (hr : Ev w A env H r (fun _ v h₁ => (VL (ys.map VI)).p h₁ v)) (hz : xs.length + ys.length ≤ 1000000) : Ev w A env H (.BinOp l .Add r p) (Nw (VL ((xs ++ ys).map VI))) := fun s k =>
  wpAny_BinOp (hl.use k fun v s₁ k₁ r₁ h₁ => hr.use (k.trans k₁) fun u s₂ k₂ r₂ h₂ => by
    obtain ⟨a, us, rfl, la, hA⟩ := h₁
    obtain ⟨b, zs, rfl, lb, hB⟩ := h₂
    have la' : Heap.IsList _ a us.toArray := la.mono k₂
    have lb' : Heap.IsList _ b zs.toArray := lb
    have e1 : us.length = xs.length := by rw [hA.length, List.length_map]
    have e2 : zs.length = ys.length := by rw [hB.length, List.length_map]
    obtain ⟨⟨cls, dd, data, sl⟩, ho, hc, n, hd⟩ := id la'
    obtain ⟨⟨cls2, dd2, data2, sl2⟩, ho2, hc2, n2, hd2⟩ := id lb'
    simp only at hc hd hc2 hd2
    subst hc hd hc2 hd2
    have e : us.toArray ++ zs.toArray = (us ++ zs).toArray := by simp
    have hz' : us.toArray.size + zs.toArray.size ≤ sizeLine := by rw [List.size_toArray, List.size_toArray, e1, e2, sizeLine_eq]; omega
    refine concat_meets ⟨_, ho, rfl⟩ ⟨_, ho2, rfl⟩ noFill_list_add seq_list_add PySem.F.slot_list_add PySem.F.entry_list_add (PySem.F.args_list_add_2 _ _) (list_addW a b us.toArray zs.toArray n n2 dd dd2 sl sl2 hz') ⟨ho, ho2, ?_⟩
    rw [e]
    refine ⟨fun b o e => Heap.get?_push_of_some _ ((k₁.trans k₂) b o e), ((r₁.trans r₂).ht : Rest s _), nw_push (k₁.trans k₂) fun φ => ?_⟩
    rw [List.map_append]
    exact hA.ints.append hB.ints)
end
end Mine
namespace Mine
open Sem (wp)

section
variable {α : Type} [DecidableEq α]
theorem sym_len (bs q lp rp k0 k1 k2 k3 : α) (tok : α → Int) (row : List Int) : ∀ (n : Nat) (text : List α), (symF bs q lp rp k0 k1 k2 k3 tok row n text).length ≤ 2 * text.length + 1
  | 0, text => by show 1 ≤ _; omega
  | n + 1, text => by
    unfold symF
    dsimp only
    split
    · rename_i r hr
      have h1 := sym_len bs q lp rp k0 k1 k2 k3 tok row n (((text.drop 1).dropLast).take r)
      have h2 := sym_len bs q lp rp k0 k1 k2 k3 tok row n (((text.drop 1).dropLast).drop (r + 1))
      have hm : r ∈ rootsG bs q lp rp k0 k1 k2 k3 ((text.drop 1).dropLast) := by rw [hr]; exact .head _
      have hlt := List.mem_range.mp (List.mem_filter.mp hm).1
      rw [List.length_append, List.length_cons]
      rw [List.length_take] at h1
      rw [List.length_drop] at h2
      have : ((text.drop 1).dropLast).length ≤ text.length := by rw [List.length_dropLast, List.length_drop]; omega
      omega
    · show 1 ≤ _; omega
end

section
variable {w : World} {A : Around} {env : Env} {S : Scope}

/-- x[1:-1] -/
theorem Ev.midS {H : Heap} {value e₁ e₂ : Expr} {p pos : Pos} {l : List Nat} (hv : Ev w A env H value (IsS (st l))) (h1 : Ev w A env H e₁ (IsI 1)) (he : Ev w A env H e₂ (IsI (-1))) (hz : l.length ≤ 1000) (ht : ∀ o r, letTemporaryGo value o r = pure () := by intro _ _; rfl) :
    Ev w A env H (.Subscript value (.Slice (some e₁) (some e₂) none p) pos) (IsS (st ((l.drop 1).dropLast))) := by
  have := Ev.sliceS (p := p) (pos := pos) hv (pt_some h1) (pt_some he) (by rw [sizeLine_eq]; omega) ht
  have e : sliceG l (loN (some 1) l.length) (hiN (some (-1)) l.length) = (l.drop 1).dropLast := by
    have a : hiN (some (-1)) l.length = l.length - 1 := by
      show clipN _ _ = _
      unfold clipN
      rw [if_pos (by decide)]
      omega
    have b : loN (some 1) l.length = min 1 l.length := clip_nat _ 1
    rw [a, b]
    unfold sliceG
    cases l with
    | nil => rfl
    | cons c l =>
      have e1 : min 1 (c :: l).length = 1 := by rw [List.length_cons]; omega
      rw [e1, List.dropLast_eq_take]
      show (l.drop 0).take ((c :: l).length - 1 - 1) = l.take (l.length - 1)
      rw [List.drop_zero, List.length_cons, Nat.add_sub_cancel]
  rw [e] at this
  exact this
/-- x[:k] -/
theorem Ev.takeS {H : Heap} {value e : Expr} {p pos : Pos} {l : List Nat} {k : Nat} (hv : Ev w A env H value (IsS (st l))) (he : Ev w A env H e (IsI (k : Int))) (hz : l.length ≤ 1000) (ht : ∀ o r, letTemporaryGo value o r = pure () := by intro _ _; rfl) :
    Ev w A env H (.Subscript value (.Slice none (some e) none p) pos) (IsS (st (l.take k))) := by
  have := Ev.sliceS (p := p) (pos := pos) hv pt_none (pt_some he) (by rw [sizeLine_eq]; omega) ht
  have e : sliceG l (loN none l.length) (hiN (some (k : Int)) l.length) = l.take k := by
    have a : hiN (some (k : Int)) l.length = min k l.length := clip_nat _ k
    rw [a]
    show (l.drop 0).take (min k l.length - 0) = _
    rw [List.drop_zero, Nat.sub_zero]
    by_cases h : k ≤ l.length
    · rw [Nat.min_eq_left h]
    · rw [Nat.min_eq_right (by omega), List.take_length, List.take_of_length_le (by omega)]
  rw [e] at this
  exact this
/-- x[k:] -/
theorem Ev.dropS {H : Heap} {value e : Expr} {p pos : Pos} {l : List Nat} {k : Nat} (hv : Ev w A env H value (IsS (st l))) (he : Ev w A env H e (IsI (k : Int))) (hz : l.length ≤ 1000) (ht : ∀ o r, letTemporaryGo value o r = pure () := by intro _ _; rfl) :
    Ev w A env H (.Subscript value (.Slice (some e) none none p) pos) (IsS (st (l.drop k))) := by
  have := Ev.sliceS (p := p) (pos := pos) hv (pt_some he) pt_none (by rw [sizeLine_eq]; omega) ht
  have e : sliceG l (loN (some (k : Int)) l.length) (hiN none l.length) = l.drop k := by
    have a : loN (some (k : Int)) l.length = min k l.length := clip_nat _ k
    rw [a]
    unfold sliceG
    show (l.drop (min k l.length)).take (l.length - min k l.length) = _
    rw [List.take_of_length_le (by rw [List.length_drop]; exact Nat.le_refl _)]
    by_cases h : k ≤ l.length
    · rw [Nat.min_eq_left h]
    · rw [Nat.min_eq_right (by omega), List.drop_length, List.drop_of_length_le (by omega)]
  rw [e] at this
  exact this
end
end Mine
namespace Mine
open Sem (wp)

section
variable {w : World}
noncomputable def SymC (w : World) (k0 k1 k2 k3 : Nat) (row : List Int) (n : Nat) : Prop := ∀ {A : Around} {H : Heap} {x : List Nat} {v1 v2 v3 : Value}, TopOk w H → A.handled = none → A.depth + 10 * n + 80 < recursionLimit → x.length ≤ n → n ≤ 80 → (VS x).p H v1 → (VL (row.map VI)).p H v2 → (VS [k0, k1, k2, k3]).p H v3 →
    Cl w A H (.ref 107) [v1, v2, v3] (Nw (VL ((symF 92 34 40 41 k0 k1 k2 k3 tokOf row (n + 1) x).map VI)))

theorem as3V {A : Around} {env : Env} {H : Heap} {pos : Pos} {e₁ e₂ e₃ : Expr} {p₁ p₂ p₃ : Vp} (h₁ : Ev w A env H e₁ (fun _ v h => p₁.p h v)) (h₂ : Ev w A env H e₂ (fun _ v h => p₂.p h v)) (h₃ : Ev w A env H e₃ (fun _ v h => p₃.p h v))
    (hs : starEach [e₁, e₂, e₃] env = (false, eval e₁ env) :: starEach [e₂, e₃] env := by rfl) (hs2 : starEach [e₂, e₃] env = (false, eval e₂ env) :: starEach [e₃] env := by rfl) (hs3 : starEach [e₃] env = (false, eval e₃ env) :: starEach [] env := by rfl) :
    As w A env H pos [e₁, e₂, e₃] (fun _ vs h => ∃ a b c, vs = [a, b, c] ∧ p₁.p h a ∧ p₂.p h b ∧ p₃.p h c) := fun s k =>
  wpAny_items_cons (h₁.use k fun a s₁ k₁ r₁ q₁ => wpAny_items_cons (h₂.use (k.trans k₁) fun b s₂ k₂ r₂ q₂ => wpAny_items_cons (h₃.use ((k.trans k₁).trans k₂) fun c s₃ k₃ r₃ q₃ =>
    wpAny_items_nil ⟨(k₁.trans k₂).trans k₃, (r₁.trans r₂).trans r₃, a, b, c, rfl, p₁.mono (k₂.trans k₃) q₁, p₂.mono k₃ q₂, q₃⟩) hs3) hs2) hs

theorem sym_one {k0 k1 k2 k3 : Nat} {row : List Int} {n : Nat} {x inner : List Nat} {r : Nat} (hin : (x.drop 1).dropLast = inner) (h : rootsG 92 34 40 41 k0 k1 k2 k3 inner = [r]) : symF 92 34 40 41 k0 k1 k2 k3 tokOf row (n + 1) x =
    (((256 : Int) + ((bisL row (inner[r]?.elim 0 tokOf) : Nat) : Int)) :: symF 92 34 40 41 k0 k1 k2 k3 tokOf row n (inner.take r)) ++ symF 92 34 40 41 k0 k1 k2 k3 tokOf row n (inner.drop (r + 1)) := by
  subst hin
  conv => lhs; unfold symF
  dsimp only
  rw [h]
theorem sym_else {k0 k1 k2 k3 : Nat} {row : List Int} {n : Nat} {x inner : List Nat} (hin : (x.drop 1).dropLast = inner) (h : (rootsG 92 34 40 41 k0 k1 k2 k3 inner).length ≠ 1) : symF 92 34 40 41 k0 k1 k2 k3 tokOf row (n + 1) x = [0] := by
  subst hin
  unfold symF
  dsimp only
  split
  · rename_i r hr
    rw [hr] at h
    exact absurd rfl h
  · rfl
noncomputable abbrev rootP (k0 k1 k2 k3 : Nat) (inner : List Nat) (k : Nat) : Bool := rootPG 92 34 40 41 k0 k1 k2 k3 inner k

set_option maxHeartbeats 1000000 in
theorem sym_step (k0 k1 k2 k3 : Nat) (hk : ∀ c ∈ [k0, k1, k2, k3], c ∈ order21) (row : List Int) (hr : row.length ≤ 100) (n : Nat) (ih : ∀ m, n = m + 1 → SymC w k0 k1 k2 k3 row m) : SymC w k0 k1 k2 k3 row n := by
  intro A H x v1 v2 v3 T hh hroom hlen hn h1 h2 h3
  refine enterS (vs := [("kinds", VS [k0, k1, k2, k3]), ("row", VL (row.map VI)), ("text", VS x)]) T hh rfl (by kernel_rfl) (by omega) rfl (binds := [("text", v1), ("row", v2), ("kinds", v3)]) (fun s X => BindsTo.of_eq rfl) (locs rfl) (.cons h3 (.cons h2 (.cons h1 .nil))) (by decide) rfl rfl rfl ?_ fun _ _ _ _ k q => nw_mono k q
  intro A' env s₀ s Q k hd C h hQ
  have hkz : ([k0, k1, k2, k3] : List Nat).length ≤ 1000 := by show 4 ≤ 1000; decide
  refine seq (h.asg C (p := VS ((x.drop 1).dropLast)) (fzS (Ev.midS (h.nS C rfl rfl) Ev.cint (Ev.neg Ev.cint) (by omega))) rfl rfl fun φ₁ s₁ q₁ h1 => ?_)
  have hil : ((x.drop 1).dropLast).length ≤ 80 := by rw [List.length_dropLast, List.length_drop]; omega
  have hil2 : ((x.drop 1).dropLast).length + 2 ≤ n ∨ ((x.drop 1).dropLast).length = 0 := by rw [List.length_dropLast, List.length_drop]; omega
  generalize hin : (x.drop 1).dropLast = inner at *
  have hR : rootsG 92 34 40 41 k0 k1 k2 k3 inner = (List.range inner.length).filter (rootP k0 k1 k2 k3 inner) := rfl
  have lenI : ∀ {s : Shared} {φ : Heap} {vs : List (Str × Vp)} {ow : List (Str × Addr × List Vp)} {Z B : List Addr} {s₀ : Shared} {p pos p2 : Pos}, St w s₀ Z B φ env.locals vs ow s → vs.lookup ("inner" : Str) = some (VS inner) → Ev w A' env s.heap (.Call (.Name "len" p) [.Name "inner" p2] [] pos) (IsI (inner.length : Int)) := fun h e =>
    (Ev.lenS (h.len C rfl) (h.nS C e rfl) (by rw [st_len, sizeLine_eq]; omega)).mono (Keep.refl _) fun _ _ _ _ _ q => by rw [st_len] at q; exact q
  refine seq (h1.newL C (ps := []) (Ev.nilL.mono (Keep.refl _) fun _ _ _ _ _ ⟨a, us, e, hn, hl, hs⟩ => ⟨a, us, e, hn, hl, A2.strs (xs := []) hs⟩) rfl rfl rfl fun a s₂ h2 => ?_)
  refine seq (h2.for (p := VR inner.length) (n := inner.length) (pI := fun i => VI (i : Nat)) (nw_fz (Ev.rangeN (Ev.builtin h2.tp C.k (C.of rfl) C.gl C.bl (by kernel_rfl) boot_range (by decide)) (lenI h2 rfl))) (fun φ' v s' _ k' hv => itr_range C.hh k' (by omega) hv)
    (fun i => [("inner", VS inner), ("kinds", VS [k0, k1, k2, k3]), ("row", VL (row.map VI))]) (fun i => [("k", VI (i : Nat)), ("inner", VS inner), ("kinds", VS [k0, k1, k2, k3]), ("row", VL (row.map VI))])
    (fun i => [("roots", a, (((List.range i).filter (rootP k0 k1 k2 k3 inner)).map fun k => VI (k : Nat)))]) (.cons rfl (.cons rfl (.cons rfl .nil))) rfl (fun i => tgt_name C rfl rfl) ?_ ?_)
  · intro i I φ₃ s₃ hi k₃ h3 back
    have hc : inner[i]? = some inner[i] := List.getElem?_eq_getElem hi
    have hdl := dress_len k0 k1 k2 k3 (inner.take i)
    have htl : (inner.take i).length ≤ 80 := by rw [List.length_take]; omega
    have eP : rootP k0 k1 k2 k3 inner i = (decide (inner[i] ∈ [k0, k1, k2, k3]) && checkG (dressG 92 34 40 41 k0 k1 k2 k3 (inner.take i)) 92 34 40 41) := by unfold rootP rootPG; rw [hc]; rfl
    refine seq (ifs (Ts.and2 (Ts.inG (Ev.idxS (h3.nS C rfl rfl) (h3.nI C (i := (i : Nat)) rfl rfl) hi (by omega)) (h3.nS C rfl rfl)) (fun _ => Ts.bval (b := checkG (dressG 92 34 40 41 k0 k1 k2 k3 (inner.take i)) 92 34 40 41) ((Ev.dcall h3.tp (h3.gl (v := .ref 69) C rfl (by kernel_rfl)) (by kernel_rfl)
      (as1 (Ev.dcall (V := IsS (st (dressG 92 34 40 41 k0 k1 k2 k3 (inner.take i)))) h3.tp (h3.gl (v := .ref 100) C rfl (by kernel_rfl)) (by kernel_rfl) (as2 (Ev.takeS (h3.nS C rfl rfl) (h3.nI C (i := (i : Nat)) rfl rfl) (by omega)) (h3.nS C (l := [k0, k1, k2, k3]) rfl rfl)) fun vs h₁ h₃ ⟨va, vb, g, e, ⟨t1, e1⟩, ⟨t2, e2⟩, k4⟩ ka kb => ?_))
      fun vs h₁ h₃ ⟨va, e, t1, e1⟩ ka kb => ?_)))) fun s₄ k₄ r₄ => ?_)
    · subst e e1 e2
      exact cl_dress (h3.tp.keeps (ka.trans kb)) (by rw [hd]; omega) htl
    · subst e e1
      exact cl_check (h3.tp.keeps (ka.trans kb)) C.hh (by rw [hd]; omega) (by omega)
    rw [← eP]
    have h4 := h3.step k₄ r₄
    have hs : (((List.range (i + 1)).filter (rootP k0 k1 k2 k3 inner)).map fun k => VI (k : Nat)) = (((List.range i).filter (rootP k0 k1 k2 k3 inner)).map fun k => VI (k : Nat)) ++ (if rootP k0 k1 k2 k3 inner i then [VI (i : Nat)] else []) := by
      rw [List.range_succ, List.filter_append, List.map_append]
      congr 1
      by_cases hp : rootP k0 k1 k2 k3 inner i = true
      · rw [if_pos hp, List.filter_cons_of_pos hp]; rfl
      · rw [if_neg hp, List.filter_cons_of_neg hp]; rfl
    have hz : (((List.range i).filter (rootP k0 k1 k2 k3 inner)).map fun k => VI (k : Nat)).length ≤ 1000000 := by
      rw [List.length_map]
      have := List.length_filter_le (rootP k0 k1 k2 k3 inner) (List.range i)
      rw [List.length_range] at this
      omega
    by_cases hp : rootP k0 k1 k2 k3 inner i = true
    · rw [if_pos hp] at hs
      refine iteT hp (seq (h4.append (p := VI (i : Nat)) C rfl rfl hz (fzI (h4.nI C (i := (i : Nat)) rfl rfl)) fun φ₅ s₅ q₅ h5 => ?_))
      rw [setO_one, ← hs] at h5
      exact sq0 (sq0 ⟨φ₅, q₅, h5.weak (.cons rfl (.cons rfl (.cons rfl .nil)))⟩)
    · rw [if_neg hp, List.append_nil] at hs
      refine iteF (by simpa using hp) (sq0 (sq0 ⟨φ₃, Keep.refl _, ?_⟩))
      rw [hs]
      exact h4.weak (.cons rfl (.cons rfl (.cons rfl .nil)))
  · intro φ₃ s₃ k₃ h3
    rw [← hR] at h3
    have hrl : (rootsG 92 34 40 41 k0 k1 k2 k3 inner).length ≤ 80 := by
      rw [hR]
      have := List.length_filter_le (rootP k0 k1 k2 k3 inner) (List.range inner.length)
      rw [List.length_range] at this
      omega
    refine seq (ifs (Ts.neI (Ev.lenL (h3.len C rfl) (h3.nOL C rfl rfl) (by rw [List.length_map]; omega)) Ev.cint) fun s₄ k₄ r₄ => ?_)
    rw [List.length_map]
    have h4 := h3.step k₄ r₄
    by_cases hone : (rootsG 92 34 40 41 k0 k1 k2 k3 inner).length = 1
    · refine iteF (by rw [hone]; rfl) (sq0 ?_)
      obtain ⟨r, hr1⟩ := List.length_eq_one_iff.mp hone
      have hm : r ∈ rootsG 92 34 40 41 k0 k1 k2 k3 inner := by rw [hr1]; exact .head _
      rw [hR] at hm
      obtain ⟨hm1, hm2⟩ := List.mem_filter.mp hm
      have hlt := List.mem_range.mp hm1
      have hcr : inner[r]? = some inner[r] := List.getElem?_eq_getElem hlt
      have hck : inner[r] ∈ order21 := by
        unfold rootP rootPG at hm2
        rw [hcr, Bool.and_eq_true] at hm2
        exact hk _ (of_decide_eq_true hm2.1)
      rw [sym_one hin hr1, hcr] at hQ
      rw [hr1] at h4
      obtain ⟨m, rfl⟩ : ∃ m, n = m + 1 := ⟨n - 1, by omega⟩
      have IH : SymC w k0 k1 k2 k3 row m := ih m rfl
      refine seq (h4.asg C (p := VI (r : Nat)) (fzI ((Ev.idxL (h4.nOL C rfl rfl) Ev.cint (i := 0) rfl (by decide)).mono (Keep.refl _) fun _ _ _ _ _ q => q)) rfl rfl fun φ₅ s₅ q₅ h5 => ?_)
      have hbl := bisL_le row (tokOf inner[r])
      refine seq (h5.asg C (p := VI (bisL row (tokOf inner[r]) : Nat)) (fzI (Ev.dcall h5.tp (h5.gl (v := .ref 48) C rfl (by kernel_rfl)) (by kernel_rfl) (as2 (h5.nF C rfl rfl) (Ev.tok h5.tp (h5.gl (v := .ref 70) C rfl (by kernel_rfl)) (Ev.idxS (h5.nS C rfl rfl) (h5.nI C (i := (r : Nat)) rfl rfl) hlt (by omega)) hck))
        fun vs h₁ h₄ ⟨va, vb, g, e, e1, e2, k4⟩ ka kb => ?_)) rfl rfl fun φ₆ s₆ q₆ h6 => ?_)
      · subst e
        exact cl_bisL (h5.tp.keeps (ka.trans kb)) C.hh (by rw [hd]; omega) ((VL _).mono k4 e1) e2 (by omega)
      have len1 := sym_len 92 34 40 41 k0 k1 k2 k3 tokOf row (m + 1) (inner.take r)
      have len2 := sym_len 92 34 40 41 k0 k1 k2 k3 tokOf row (m + 1) (inner.drop (r + 1))
      have t1 : (inner.take r).length ≤ 80 ∧ (inner.take r).length ≤ m := by rw [List.length_take]; omega
      have t2 : (inner.drop (r + 1)).length ≤ 80 ∧ (inner.drop (r + 1)).length ≤ m := by rw [List.length_drop]; omega
      refine seq (rets (Ev.addLI (xs := [256 + ((bisL row (tokOf inner[r]) : Nat) : Int)] ++ symF 92 34 40 41 k0 k1 k2 k3 tokOf row (m + 1) (inner.take r)) (ys := symF 92 34 40 41 k0 k1 k2 k3 tokOf row (m + 1) (inner.drop (r + 1)))
        (nw_full (Ev.addLI (nw_full (Ev.listI1 (Ev.addI Ev.cint (h6.nI C (i := (bisL row (tokOf inner[r]) : Nat)) rfl rfl))))
          (nw_full (Ev.dcall h6.tp (h6.gl (v := .ref 107) C rfl (by kernel_rfl)) (by kernel_rfl) (as3V (p₁ := VS (inner.take r)) (p₂ := VL (row.map VI)) (p₃ := VS [k0, k1, k2, k3]) (Ev.takeS (h6.nS C rfl rfl) (h6.nI C (i := (r : Nat)) rfl rfl) (by omega)) (h6.nF C rfl rfl) (h6.nF C rfl rfl)) fun vs h₁ h₄ ⟨va, vb, vc, e, e1, e2, e3⟩ ka kb => ?_)) (by simp only [List.length_cons, List.length_nil]; omega)))
        (nw_full (Ev.dcall h6.tp (h6.gl (v := .ref 107) C rfl (by kernel_rfl)) (by kernel_rfl) (as3V (p₁ := VS (inner.drop (r + 1))) (p₂ := VL (row.map VI)) (p₃ := VS [k0, k1, k2, k3]) (Ev.dropS (h6.nS C rfl rfl) (Ev.succ (h6.nI C (i := (r : Nat)) rfl rfl) Ev.cint) (by omega)) (h6.nF C rfl rfl) (h6.nF C rfl rfl)) fun vs h₁ h₄ ⟨va, vb, vc, e, e1, e2, e3⟩ ka kb => ?_)) (by simp only [List.length_cons, List.length_nil, List.length_append]; omega)) fun v s₇ k₇ r₇ hv => ?_)
      · subst e
        exact IH (h6.tp.keeps (ka.trans kb)) C.hh (by rw [hd]; omega) t1.2 (by omega) e1 e2 e3
      · subst e
        exact IH (h6.tp.keeps (ka.trans kb)) C.hh (by rw [hd]; omega) t2.2 (by omega) e1 e2 e3
      · have h7 := h6.step k₇ r₇
        exact hQ v s₇ h7.keepE h7.rest (nw_mono h6.keepE hv)
    · refine iteT (by rw [bne_iff_ne]; exact fun q => hone (by exact_mod_cast q)) (seq (rets (Ev.listI1 Ev.cint) fun v s₅ k₅ r₅ hv => ?_))
      have h5 := h4.step k₅ r₅
      exact hQ v s₅ h5.keepE h5.rest (by rw [sym_else hin hone]; exact nw_mono h4.keepE hv)
theorem cl_symbols (k0 k1 k2 k3 : Nat) (hk : ∀ c ∈ [k0, k1, k2, k3], c ∈ order21) (row : List Int) (hr : row.length ≤ 100) : ∀ n, SymC w k0 k1 k2 k3 row n
  | 0 => sym_step k0 k1 k2 k3 hk row hr 0 fun _ e => by cases e
  | n + 1 => sym_step k0 k1 k2 k3 hk row hr (n + 1) fun m e => by cases e; exact cl_symbols k0 k1 k2 k3 hk row hr n
end
end Mine
namespace Mine
open Sem (wp)

section
variable {w : World} {A : Around} {env : Env} {S : Scope} {s₀ s : Shared} {Z B : List Addr} {φ : Heap} {vs : List (Str × Vp)} {ow : List (Str × Addr × List Vp)} {L : Addr}

/-- x = name.pop() -/
theorem St.pop {x y : Str} {p0 p1 p2 p3 p4 : Pos} {a : Addr} {ps : List Vp} {p : Vp} {Q : Flow → Shared → Prop} (h : St w s₀ Z B φ env.locals vs ow s) (C : Cx A env S) (hg : getO ow y = some (a, ps ++ [p])) (hl : S.names.lookup y = some .local) (hlx : S.names.lookup x = some .local) (hz : ps.length ≤ 1000000)
    (ox : getO (setO ow y ps) x = none) (hq : ∀ s', St w s₀ Z B φ env.locals ((x, p) :: vs) (setO ow y ps) s' → Q .next s')
    {pl : Sem Bool} (hev : eval (.Call (.Attribute (.Name y p1) "pop" p2) [] [] p3) env = (do
      let ov ← eval (.Name y p1) env
      standAt p2.atName
      let (f, first) ← holding [ov] (getMethod ov "pop" pl)
      callWith p3 f first [] []) := by rfl) (hs : swapsWith (.Call (.Attribute (.Name y p1) "pop" p2) [] [] p3) (some (.Name x p0)) p4.line env = pure false := by rfl) (hd : (y == ("__debug__" : Str)) = false := by decide) :
    wpAny (model prg w) A (exec (.Assign [.Name x p0] (.Call (.Attribute (.Name y p1) "pop" p2) [] [] p3) p4) env) Q noE s := by
  have mem := getO_mem hg
  obtain ⟨⟨us, hp, hA⟩, hφ, haL, haZ⟩ := h.own _ mem
  refine wpAny_Assign_Name (MethodCall_ ((h.nO C hg hl hd).use (Keep.refl _) fun v s₁ k₁ r₁ e => ?_) hev) hs
  cases e
  obtain ⟨n, ho⟩ := plain_keeps hp k₁
  have hlen : us.length = ps.length + 1 := by rw [hA.length, List.length_append, List.length_singleton]
  obtain ⟨v, hv, hpv⟩ := hA.get (i := ps.length) (p := p) (by rw [List.getElem?_append_right (Nat.le_refl _), Nat.sub_self]; rfl)
  have ez : us.toArray.size = ps.length + 1 := by rw [List.size_toArray]; exact hlen
  refine gm_list ⟨n, ho⟩ PySem.F.slot_list_pop PySem.F.type_list_pop (PySem.P.pop_list ho (y := v) (by rw [ez, Nat.add_sub_cancel]; simpa using hv) ?_ (by rw [ez, sizeLine_eq]; omega))
  obtain ⟨n', e⟩ := map_ob (fun xs => xs.eraseIdxIfInBounds (us.toArray.size - 1)) us.toArray n
  have hx : us.toArray.eraseIdxIfInBounds (us.toArray.size - 1) = (us.take ps.length).toArray := by
    rw [ez, Nat.add_sub_cancel]
    unfold Array.eraseIdxIfInBounds
    rw [dif_pos (by rw [ez]; exact Nat.lt_succ_self _)]
    apply Array.toList_inj.mp
    rw [Array.toList_eraseIdx]
    show us.eraseIdx ps.length = us.take ps.length
    rw [List.eraseIdx_eq_take_drop_succ, List.drop_of_length_le (by omega), List.append_nil]
  have hp' : (s₁.heap.update a (Obj.mapSeq fun xs => xs.eraseIdxIfInBounds (us.toArray.size - 1))).PlainList a (us.take ps.length).toArray := by
    refine ⟨n', ?_⟩
    rw [Heap.get?_update_self _ ho (by rw [e]; rfl), e]
    exact congrArg (fun z => some ({ cls := .type "list", data := .seq z n' } : Obj)) hx
  have hA' : A2 φ (us.take ps.length) ps := by
    have := hA.take ps.length
    rw [List.take_left'] at this
    · exact this
    · rfl
  have h2 := (h.step k₁ r₁).turn hg (s' := { s₁ with heap := s₁.heap.update a (Obj.mapSeq fun xs => xs.eraseIdxIfInBounds (us.toArray.size - 1)) }) (Xt.of_same (Heap.SameBut.update ..) (List.mem_singleton.mpr rfl)) rht hp' hA'
  obtain ⟨m, hn, hm⟩ := h2.ns
  exact wpAny_storeName_local (C.of hlx) hn (fun h' hn' hs' => hq _ (h2.put ox hpv hm hn' hs')) (by rw [C.k]; rfl)
end
end Mine
namespace Mine
open Sem (wp)

section
variable {α : Type} [DecidableEq α]
noncomputable def readStep (signs : List α) (pile : Option (List (List α × List α))) (y : Int) : Option (List (List α × List α)) := pile.bind fun p =>
  if y = 0 then some (p ++ [([], [])])
  else if 256 ≤ y then (match p.reverse with
    | l :: r :: rest => (signs[(y - 256).toNat]?).map fun c => rest.reverse ++ [(l.1 ++ r.1 ++ [c], r.2 ++ l.2 ++ [c])]
    | _ => none)
  else some p
noncomputable def readG (signs : List α) (syms : List Int) : Option (List (List α × List α)) := syms.reverse.foldl (readStep signs) (some [])
theorem read_none (signs : List α) : ∀ l : List Int, l.foldl (readStep signs) none = none
  | [] => rfl
  | _ :: r => read_none signs r
theorem read_pre {signs : List α} {l : List Int} {R : List (List α × List α)} (h : l.foldl (readStep signs) (some []) = some R) (i : Nat) : ∃ p, (l.take i).foldl (readStep signs) (some []) = some p := by
  rw [← List.take_append_drop i l, List.foldl_append] at h
  cases hq : (l.take i).foldl (readStep signs) (some []) with
  | some p => exact ⟨p, rfl⟩
  | none => rw [hq, read_none] at h; cases h
noncomputable def pileLen (p : List (List α × List α)) : Nat := (p.map fun e => e.1.length + e.2.length).sum
theorem pileLen_append (p q : List (List α × List α)) : pileLen (p ++ q) = pileLen p + pileLen q := by unfold pileLen; rw [List.map_append, List.sum_append]
theorem pileLen_rev (p : List (List α × List α)) : pileLen p.reverse = pileLen p := by
  induction p with
  | nil => rfl
  | cons a p ih => rw [List.reverse_cons, pileLen_append, ih]; unfold pileLen; simp; omega
theorem read_len {signs : List α} {p q : List (List α × List α)} {y : Int} (h : readStep signs (some p) y = some q) : pileLen q ≤ pileLen p + 2 ∧ q.length ≤ p.length + 1 := by
  unfold readStep at h
  rw [Option.bind_some] at h
  split at h
  · cases h
    rw [pileLen_append, List.length_append]
    exact ⟨Nat.le_add_right _ _, Nat.le_refl _⟩
  · split at h
    · split at h
      · rename_i l r rest hr
        obtain ⟨c, _, rfl⟩ := Option.map_eq_some_iff.mp h
        have e := pileLen_rev p
        have e2 := congrArg List.length hr
        rw [hr] at e
        rw [List.length_reverse] at e2
        rw [pileLen_append, pileLen_rev, List.length_append, List.length_reverse]
        simp only [pileLen, List.map_cons, List.sum_cons, List.map_nil, List.sum_nil, List.length_append, List.length_cons, List.length_nil] at e e2 ⊢
        omega
      · cases h
    · cases h
      exact ⟨Nat.le_add_right _ _, Nat.le_succ _⟩
end

section
variable {w : World} {A : Around} {env : Env} {S : Scope} {s₀ s : Shared} {Z B : List Addr} {φ : Heap} {vs : List (Str × Vp)} {ow : List (Str × Addr × List Vp)} {L : Addr}

/-- a tuple that h₀ does not hold -/
noncomputable def VX (h₀ : Heap) (ps : List Vp) : Vp := ⟨fun h v => ∃ (a : Addr) (vs : List Value), v = .ref a ∧ h₀.get? a = none ∧ IsTup h a vs ∧ A2 h vs ps, fun k ⟨a, vs, e, n, l, x⟩ => ⟨a, vs, e, n, k a _ l, x.mono k⟩⟩

/-- t[i], a text of a pair that a name holds -/
theorem Ev.idxP {H : Heap} {value slice : Expr} {pos : Pos} {h₀ : Heap} {xs : List (List Nat)} {x : List Nat} {i : Nat} (hv : Ev w A env H value (fun _ v h₁ => (VX h₀ (xs.map VS)).p h₁ v)) (hi : Ev w A env H slice (IsI (i : Int))) (h : xs[i]? = some x) (hsz : i < 1000)
    (hs : ∀ o k u, subscripted slice false o (.int k u) = operate [o, .int k u] (getItem o (.int k u)) := by intro _ _ _; with_unfolding_all rfl)
    (ht : ∀ o r, letTemporaryGo value o r = pure () := by intro _ _; with_unfolding_all rfl) : Ev w A env H (.Subscript value slice pos) (IsS (st x)) := fun s k =>
  Subscript_ (hv.use k fun v s₁ k₁ r₁ h₁ => hi.use (k.trans k₁) fun u s₂ k₂ r₂ h₂ => by
    obtain ⟨a, us, rfl, _, hl, hA⟩ := h₁
    obtain ⟨t2, rfl⟩ := h₂
    obtain ⟨v, hx, t, rfl⟩ := hA.get (as_VS h)
    have hlt : i < us.length := (List.getElem?_eq_some_iff.mp hx).1
    have hl' : PyProof.Rows.IsTup s₂.heap a us.toArray := ⟨_, k₂ _ _ hl, rfl, _, rfl⟩
    exact item_tuple hl' (by omega) (by omega) (seqIndex_of (by omega) (by rw [List.size_toArray]; omega)) (x := .str (st x) t) (by simpa using hx) ⟨k₁.trans k₂, r₁.trans r₂, t, rfl⟩ (hs _ _ _) (ht _))
end
end Mine
namespace Mine

/-! quick forms over small numbers -/
section
variable {α : Type} [DecidableEq α]
noncomputable def fstG (y : List α) : Nat → List α → Option Nat
  | i, [] => if y = [] then some i else none
  | i, c :: r => if (c :: r).take y.length = y then some i else fstG y (i + 1) r
theorem occ_fst (y : List α) (a : Nat) : ∀ (r : List α) (i : Nat), a ≤ i → (occG y 1 0 a i r).head? = fstG y i r
  | [], i, h => by
    unfold occG fstG
    by_cases hy : y = []
    · subst hy; simp [h]
    · rw [if_neg hy, if_neg]
      · rfl
      · rintro ⟨_, _, e⟩; simp at e; exact hy e
  | c :: r, i, h => by
    unfold occG fstG
    by_cases hy : (c :: r).take y.length = y
    · rw [if_pos hy, if_pos ⟨Nat.zero_lt_one, h, hy⟩]; rfl
    · rw [if_neg hy, if_neg fun q => hy q.2.2]; exact occ_fst y a r (i + 1) (Nat.le_succ_of_le h)
theorem find_fst (x y : List α) (a : Nat) : findG x y a = fstG y a (x.drop a) := occ_fst y a _ a (Nat.le_refl _)
theorem fst_nil (i : Nat) (r : List α) : fstG [] i r = some i := by cases r <;> simp [fstG]
theorem fst_ge (y : List α) : ∀ (r : List α) (i j : Nat), fstG y i r = some j → i ≤ j
  | [], i, j, h => by unfold fstG at h; split at h <;> cases h; exact Nat.le_refl _
  | c :: r, i, j, h => by
    unfold fstG at h
    split at h
    · cases h; exact Nat.le_refl _
    · exact Nat.le_of_succ_le (fst_ge y r (i + 1) j h)
theorem fst_one (c : α) : ∀ (r : List α) (i : Nat), (fstG [c] i r).isSome = decide (c ∈ r)
  | [], i => by simp [fstG]
  | b :: r, i => by
    unfold fstG
    by_cases h : b = c
    · subst h; simp
    · rw [if_neg (by simpa using h), fst_one c r (i + 1)]
      simp [Ne.symm h]
theorem occ_full (y : List α) (k : Nat) : ∀ (r : List α) (n free i : Nat), ¬ n < k → occG y k n free i r = []
  | [], n, free, i, h => by unfold occG; rw [if_neg fun q => h q.1]
  | c :: r, n, free, i, h => by unfold occG; rw [if_neg fun q => h q.1]; exact occ_full y k r n free (i + 1) h
end

noncomputable section
noncomputable def hdB (b : Nat) (r : List Nat) : Bool := List.rec (motive := fun _ => Bool) false (fun y _ _ => Nat.beq y b) r
noncomputable def elB (c : Nat) (r : List Nat) : Bool := List.rec (motive := fun _ => Bool) false (fun y _ ih => bif Nat.beq y c then true else ih) r
noncomputable def tlB (r : List Nat) : List Nat := List.rec (motive := fun _ => List Nat) [] (fun _ r _ => r) r
noncomputable def matB (a b c : Nat) (r : List Nat) : Bool := List.rec (motive := fun _ => Bool) false (fun x r ih => bif (bif Nat.beq x a then hdB b r else false) then elB c (tlB r) else ih) r
noncomputable def chB (a b : Nat) (r : List Nat) : List Nat := List.rec (motive := fun _ => List Nat) [] (fun x r ih => bif (bif Nat.beq x a then hdB b r else false) then b :: a :: tlB r else x :: ih) r
theorem beqF {a b : Nat} (h : ¬ a = b) : Nat.beq a b = false := by
  cases e : Nat.beq a b with
  | false => rfl
  | true => exact absurd (Nat.eq_of_beq_eq_true e) h
theorem beqT (a : Nat) : Nat.beq a a = true := Nat.beq_refl a
theorem el_eq (c : Nat) : ∀ r, elB c r = decide (c ∈ r)
  | [] => rfl
  | y :: r => by
    show (bif Nat.beq y c then true else elB c r) = _
    rw [el_eq c r]
    by_cases h : y = c
    · subst h; simp
    · rw [beqF (a := y) (b := c) h]; simp [Ne.symm h]
theorem two_eq (a b x : Nat) (r : List Nat) : (bif Nat.beq x a then hdB b r else false) = decide ((x :: r).take [a, b].length = [a, b]) := by
  cases r with
  | nil => cases h : Nat.beq x a <;> simp [hdB]
  | cons y r =>
    show (bif Nat.beq x a then Nat.beq y b else false) = _
    by_cases hx : x = a
    · subst hx
      by_cases hy : y = b
      · subst hy; simp
      · rw [beqF (a := y) (b := b) hy]; simp [hy]
    · rw [beqF (a := x) (b := a) hx]; simp [hx]
theorem match_go (a b c : Nat) : ∀ (r : List Nat) (i : Nat), (match fstG [a, b] i r with | some j => (fstG [c] (j + 2) (r.drop (j + 2 - i))).isSome | none => false) = matB a b c r
  | [], i => rfl
  | x :: r, i => by
    have ih := match_go a b c r (i + 1)
    have e : matB a b c (x :: r) = bif (bif Nat.beq x a then hdB b r else false) then elB c (tlB r) else matB a b c r := rfl
    have ef : fstG [a, b] i (x :: r) = if (x :: r).take [a, b].length = [a, b] then some i else fstG [a, b] (i + 1) r := rfl
    rw [e, two_eq, ef]
    by_cases h : (x :: r).take [a, b].length = [a, b]
    · rw [if_pos h, decide_eq_true h]
      show (fstG [c] (i + 2) _).isSome = elB c (tlB r)
      have e2 : i + 2 - i = 2 := by omega
      rw [e2, fst_one, el_eq]
      cases r <;> rfl
    · rw [if_neg h, decide_eq_false h, ← ih]
      cases hf : fstG [a, b] (i + 1) r with
      | none => rfl
      | some j =>
        have := fst_ge _ _ _ _ hf
        have e3 : j + 2 - i = (j + 2 - (i + 1)) + 1 := by omega
        show (fstG [c] (j + 2) ((x :: r).drop (j + 2 - i))).isSome = (fstG [c] (j + 2) (r.drop (j + 2 - (i + 1)))).isSome
        rw [e3, List.drop_succ_cons]
theorem match_eq (one : List Nat) (a b c : Nat) : matchG one a b c = matB a b c one := by
  rw [← match_go a b c one 0]
  unfold matchG ellGo
  rw [find_fst, fst_nil]
  unfold ellGo
  show (match findG one [a, b] 0 with | some i => ellGo one [[c], []] (i + 2) | none => false) = _
  rw [find_fst]
  show (match fstG [a, b] 0 one with | some i => ellGo one [[c], []] (i + 2) | none => false) = _
  cases fstG [a, b] 0 one with
  | none => rfl
  | some i =>
    show ellGo one [[c], []] (i + 2) = (fstG [c] (i + 2) (one.drop (i + 2 - 0))).isSome
    unfold ellGo
    rw [find_fst, Nat.sub_zero]
    cases fstG [c] (i + 2) (one.drop (i + 2)) with
    | none => rfl
    | some j =>
      show ellGo one [[]] (j + 1) = true
      unfold ellGo
      rw [find_fst, fst_nil]
      rfl
theorem ch_go (a b : Nat) (x : List Nat) : ∀ (r pre : List Nat) (i : Nat), x = pre ++ r → pre.length = i → joinG [b, a] (partsG x 2 0 (occG [a, b] 1 0 0 i r)) = pre ++ chB a b r
  | [], pre, i, hx, hi => by
    unfold occG
    rw [if_neg (by simp)]
    show x.drop 0 = pre ++ []
    rw [List.drop_zero, hx]
  | c :: r, pre, i, hx, hi => by
    have e : chB a b (c :: r) = bif (bif Nat.beq c a then hdB b r else false) then b :: a :: tlB r else c :: chB a b r := rfl
    rw [e, two_eq]
    unfold occG
    by_cases h : (c :: r).take [a, b].length = [a, b]
    · rw [if_pos ⟨Nat.zero_lt_one, Nat.zero_le _, h⟩, occ_full _ _ _ _ _ _ (by decide), decide_eq_true h]
      show (x.drop 0).take (i - 0) ++ [b, a] ++ x.drop (i + 2) = pre ++ b :: a :: tlB r
      have e2 : x.drop (i + 2) = tlB r := by
        rw [hx, ← hi, ← List.drop_drop, List.drop_left']
        · cases r <;> rfl
        · rfl
      rw [e2, List.drop_zero, Nat.sub_zero, hx, List.take_left' hi]
      simp
    · rw [if_neg fun q => h q.2.2, decide_eq_false h, ch_go a b x r (pre ++ [c]) (i + 1) (by rw [hx]; simp) (by simp [hi])]
      simp
theorem changed_eq (x : List Nat) (a b : Nat) : changedG x a b = chB a b x := ch_go a b x x [] 0 rfl rfl

noncomputable def eqB : List Nat → List Nat → Bool
  | [], [] => true
  | a :: l, b :: r => bif Nat.beq a b then eqB l r else false
  | _, _ => false
theorem eqB_iff : ∀ l r : List Nat, eqB l r = decide (l = r)
  | [], [] => rfl
  | [], _ :: _ => rfl
  | _ :: _, [] => rfl
  | a :: l, b :: r => by
    show (bif Nat.beq a b then eqB l r else false) = _
    rw [eqB_iff l r]
    by_cases h : a = b
    · subst h; simp
    · rw [beqF (a := a) (b := b) h]; simp [h]
noncomputable def inB (x : List Nat) (l : List (List Nat)) : Bool := List.rec (motive := fun _ => Bool) false (fun y _ ih => bif eqB x y then true else ih) l
theorem inB_iff (x : List Nat) : ∀ l, inB x l = decide (x ∈ l)
  | [] => rfl
  | y :: l => by
    show (bif eqB x y then true else inB x l) = _
    rw [eqB_iff, inB_iff x l]
    by_cases h : x = y
    · subst h; simp
    · rw [decide_eq_false h]; simp [h]
noncomputable def addB (found : List (List Nat)) (x : List Nat) : List (List Nat) := bif inB x found then found else found ++ [x]
theorem add_eq (f : List (List Nat)) (x : List Nat) : addG f x = addB f x := by
  unfold addG addB
  rw [inB_iff]
  by_cases h : x ∈ f
  · rw [if_pos h, decide_eq_true h]; rfl
  · rw [if_neg h, decide_eq_false h]; rfl
noncomputable def stepB (one : List Nat) (s : List (List Nat) × Bool × Bool) (t : Nat × Nat × Nat) : List (List Nat) × Bool × Bool :=
  (fun s : List (List Nat) × Bool × Bool => bif matB t.2.1 t.1 t.2.2 one then (addB s.1 (chB t.2.1 t.1 one), s.2.1, true) else s) (bif matB t.1 t.2.1 t.2.2 one then (addB s.1 (chB t.1 t.2.1 one), true, s.2.2) else s)
theorem step_eq (one : List Nat) : wantStep one = stepB one := by
  funext s t
  unfold wantStep wantDn wantUp stepB
  rw [match_eq, match_eq, changed_eq, changed_eq]
  cases matB t.1 t.2.1 t.2.2 one <;> cases matB t.2.1 t.1 t.2.2 one <;> simp [add_eq]
noncomputable def classB (ws : List (Nat × Nat × Nat)) : Nat → List (List Nat) → List (List Nat) → List (List Nat) → Nat → Option (List (List Nat) × List (List Nat) × List (List Nat))
  | 0, _, _, _, _ => none
  | n + 1, found, lows, highs, at' => match found[at']? with
    | none => some (found, lows, highs)
    | some one => (fun r : List (List Nat) × Bool × Bool => classB ws n r.1 (bif r.2.2 then lows else lows ++ [one]) (bif r.2.1 then highs else highs ++ [one]) (at' + 1)) (ws.foldl (stepB one) (found, false, false))
theorem class_eq (ws : List (Nat × Nat × Nat)) : ∀ (n : Nat) (f l h : List (List Nat)) (a : Nat), classF ws n f l h a = classB ws n f l h a
  | 0, _, _, _, _ => rfl
  | n + 1, f, l, h, a => by
    unfold classF classB
    cases f[a]? with
    | none => rfl
    | some one =>
      dsimp only
      rw [step_eq, class_eq ws n]
      congr 1 <;> cases (List.foldl (stepB one) (f, false, false) ws).2.2 <;> cases (List.foldl (stepB one) (f, false, false) ws).2.1 <;> rfl

/-- a text dressed -/
noncomputable def drB (x : List Nat) : List Nat := List.rec (motive := fun _ => List Nat) [] (fun c _ ih => bif Nat.beq c 0 then 6 :: 4 :: ih else bif Nat.beq c 1 then 6 :: 5 :: ih else bif Nat.beq c 2 then 6 :: 6 :: ih else bif Nat.beq c 3 then 7 :: 4 :: 7 :: ih else c :: ih) x
theorem dress_eq (x : List Nat) : dressG 6 7 4 5 0 1 2 3 x = drB x := by
  unfold dressG
  rw [repl_one, repl_one, repl_one, repl_one]
  induction x with
  | nil => rfl
  | cons c x ih =>
    have e : drB (c :: x) = bif Nat.beq c 0 then 6 :: 4 :: drB x else bif Nat.beq c 1 then 6 :: 5 :: drB x else bif Nat.beq c 2 then 6 :: 6 :: drB x else bif Nat.beq c 3 then 7 :: 4 :: 7 :: drB x else c :: drB x := rfl
    rw [e, ← ih]
    match c with
    | 0 => rfl
    | 1 => rfl
    | 2 => rfl
    | 3 => rfl
    | c + 4 =>
      rw [beqF (show ¬ c + 4 = 0 by omega), beqF (show ¬ c + 4 = 1 by omega), beqF (show ¬ c + 4 = 2 by omega), beqF (show ¬ c + 4 = 3 by omega)]
      simp [List.flatMap_cons]
end
end Mine
namespace Mine
noncomputable section
noncomputable def tkN (c : Nat) : Int := (c : Int)
inductive BT where
  | leaf : BT
  | node (l : BT) (x : Nat) (r : BT) : BT
noncomputable def render : BT → List Nat
  | .leaf => [4, 5]
  | .node l x r => 4 :: (render l ++ (x :: (render r ++ [5])))
noncomputable def inord : BT → List Nat
  | .leaf => []
  | .node l x r => inord l ++ (x :: inord r)
noncomputable def post : BT → List Nat
  | .leaf => []
  | .node l x r => post l ++ (post r ++ [x])
noncomputable def insB (x : Nat) : BT → BT
  | .leaf => .node .leaf x .leaf
  | .node l y r => bif Nat.ble x y then .node (insB x l) y r else .node l y (insB x r)
noncomputable def bst (w : List Nat) : BT := w.foldr insB .leaf
noncomputable def rowT (t : BT) : List Int := (inord t).map tkN
noncomputable def symT (row : List Int) : BT → List Int
  | .leaf => [0]
  | .node l x r => ((256 + ((bisL row (tkN x) : Nat) : Int)) :: symT row l) ++ symT row r
noncomputable def okW (w : List Nat) : Bool := Nat.beq w.length 5 && w.all fun c => Nat.ble c 3
noncomputable def ws4 : List (Nat × Nat × Nat) := [(0, 1, 0), (0, 2, 0), (0, 2, 1), (1, 2, 1), (0, 3, 0), (0, 3, 1), (1, 3, 1), (0, 3, 2), (1, 3, 2), (2, 3, 2)]
end
theorem okW_iff (w : List Nat) : okW w = true ↔ w.length = 5 ∧ ∀ c ∈ w, c ≤ 3 := by
  unfold okW
  rw [Bool.and_eq_true, List.all_eq_true]
  constructor
  · rintro ⟨h1, h2⟩; exact ⟨Nat.eq_of_beq_eq_true h1, fun c hc => Nat.le_of_ble_eq_true (h2 c hc)⟩
  · rintro ⟨h1, h2⟩; exact ⟨by rw [h1]; rfl, fun c hc => Nat.ble_eq_true_of_le (h2 c hc)⟩
theorem ws4_eq : wantsG [0, 1, 2, 3] = ws4 := by decide +kernel
noncomputable def leT : BT → Prop
  | .leaf => True
  | .node l x r => leT l ∧ x ≤ 3 ∧ leT r
theorem leT_ins {x : Nat} (hx : x ≤ 3) : ∀ t : BT, leT t → leT (insB x t)
  | .leaf, _ => ⟨trivial, hx, trivial⟩
  | .node l y r, ⟨a, b, c⟩ => by
    unfold insB
    cases Nat.ble x y
    · exact ⟨a, b, leT_ins hx r c⟩
    · exact ⟨leT_ins hx l a, b, c⟩
theorem leT_bst : ∀ w : List Nat, (∀ c ∈ w, c ≤ 3) → leT (bst w)
  | [], _ => trivial
  | c :: w, h => leT_ins (h c (.head _)) _ (leT_bst w fun d hd => h d (.tail _ hd))
theorem render_le : ∀ t : BT, leT t → ∀ c ∈ render t, c ≤ 5
  | .leaf, _, c, hc => by simp [render] at hc; omega
  | .node l x r, ⟨a, b, d⟩, c, hc => by
    unfold render at hc
    rcases List.mem_cons.mp hc with rfl | hc
    · decide
    · rcases List.mem_append.mp hc with hc | hc
      · exact render_le l a c hc
      · rcases List.mem_cons.mp hc with rfl | hc
        · omega
        · rcases List.mem_append.mp hc with hc | hc
          · exact render_le r d c hc
          · rw [List.mem_singleton.mp hc]; decide
theorem getD_at {l : List Nat} {i d : Nat} (h : i < l.length) : l.getD i d = l[i] := by rw [List.getD_eq_getElem?_getD, List.getElem?_eq_getElem h]; rfl
end Mine
namespace Mine
/-- brackets at the depth o -/
noncomputable def bal : Nat → List Nat → Bool
  | o, [] => Nat.beq o 0
  | o, c :: r => if c = 4 then bal (o + 1) r else if c = 5 then (match o with | 0 => false | p + 1 => bal p r) else bal o r
theorem bal_letter {c : Nat} (h : c ≤ 3) (o : Nat) (r : List Nat) : bal o (c :: r) = bal o r := by
  conv => lhs; unfold bal
  rw [if_neg (by omega), if_neg (by omega)]
theorem bal_render : ∀ (t : BT), leT t → ∀ (o : Nat) (r : List Nat), bal o (render t ++ r) = bal o r
  | .leaf, _, o, r => rfl
  | .node l x u, ⟨hl, hx, hu⟩, o, r => by
    show bal o (4 :: (render l ++ (x :: (render u ++ [5]))) ++ r) = _
    rw [show (4 :: (render l ++ (x :: (render u ++ [5])))) ++ r = 4 :: (render l ++ (x :: (render u ++ 5 :: r))) by simp]
    show bal (o + 1) _ = _
    rw [bal_render l hl, bal_letter hx, bal_render u hu]
    rfl
theorem bal_front : ∀ (t : BT), leT t → ∀ (o k c : Nat), (render t)[k]? = some c → c ≤ 3 → bal o ((render t).take k) = false
  | .leaf, _, o, k, c, h, hc => by
    have := List.mem_of_getElem? h
    simp [render] at this
    omega
  | .node l x u, ⟨hl, hx, hu⟩, o, k, c, h, hc => by
    have e : render (.node l x u) = 4 :: (render l ++ (x :: (render u ++ [5]))) := rfl
    rw [e] at h ⊢
    cases k with
    | zero => simp at h; omega
    | succ k =>
      rw [List.getElem?_cons_succ] at h
      rw [List.take_succ_cons]
      show bal (o + 1) _ = false
      rcases Nat.lt_trichotomy k (render l).length with q | q | q
      · rw [List.getElem?_append_left q] at h
        rw [List.take_append_of_le_length (Nat.le_of_lt q)]
        exact bal_front l hl (o + 1) k c h hc
      · subst q
        rw [List.take_left]
        have := bal_render l hl (o + 1) []
        rw [List.append_nil] at this
        rw [this]
        rfl
      · obtain ⟨j, rfl⟩ : ∃ j, k = (render l).length + (j + 1) := ⟨k - (render l).length - 1, by omega⟩
        rw [List.getElem?_append_right (by omega), Nat.add_sub_cancel_left, List.getElem?_cons_succ] at h
        rw [List.take_length_add_append, List.take_succ_cons, bal_render l hl, bal_letter hx]
        by_cases q2 : j < (render u).length
        · rw [List.getElem?_append_left q2] at h
          rw [List.take_append_of_le_length (Nat.le_of_lt q2)]
          exact bal_front u hu (o + 1) j c h hc
        · rw [List.getElem?_append_right (by omega)] at h
          have := List.mem_of_getElem? h
          simp at this
          omega
theorem filt_one (p : Nat → Bool) (m : Nat) : ∀ n, m < n → (∀ k, k < n → p k = decide (k = m)) → (List.range n).filter p = [m]
  | 0, h, _ => absurd h (Nat.not_lt_zero _)
  | n + 1, h, hp => by
    rw [List.range_succ, List.filter_append]
    have hn := hp n (Nat.lt_succ_self n)
    by_cases q : m < n
    · rw [filt_one p m n q fun k hk => hp k (Nat.lt_succ_of_lt hk)]
      rw [decide_eq_false (by omega)] at hn
      rw [List.filter_cons_of_neg (by simp [hn])]
      rfl
    · have e : m = n := by omega
      subst e
      rw [decide_eq_true rfl] at hn
      rw [List.filter_cons_of_pos hn, List.filter_eq_nil_iff.mpr fun k hk => ?_]
      · rfl
      · have hk' := List.mem_range.mp hk
        rw [hp k (Nat.lt_succ_of_lt hk'), decide_eq_false (by omega)]
        simp

/-- what the strip leaves of a dressed text -/
noncomputable def drC (x : List Nat) : List Nat := List.rec (motive := fun _ => List Nat) [] (fun c _ ih => bif Nat.beq c 0 then 6 :: 4 :: ih else bif Nat.beq c 1 then 6 :: 5 :: ih else bif Nat.beq c 2 then 6 :: 6 :: ih else bif Nat.beq c 3 then ih else c :: ih) x
theorem cases6 {c : Nat} (h : c ≤ 5) : c = 0 ∨ c = 1 ∨ c = 2 ∨ c = 3 ∨ c = 4 ∨ c = 5 := by omega
theorem drC_bal : ∀ (y : List Nat), (∀ c ∈ y, c ≤ 5) → ∀ (i o : Nat), opensG 4 5 (o : Int) (escG 6 i false (drC y)) = bal o y
  | [], _, i, o => by
    show ((o : Int) == 0) = Nat.beq o 0
    cases o with
    | zero => rfl
    | succ o => rfl
  | c :: y, h, i, o => by
    have ih := drC_bal y fun d hd => h d (.tail _ hd)
    rcases cases6 (h c (.head _)) with rfl | rfl | rfl | rfl | rfl | rfl
    · exact ih (i + 1 + 1) o
    · exact ih (i + 1 + 1) o
    · exact ih (i + 1 + 1) o
    · exact ih i o
    · have := ih (i + 1) (o + 1)
      exact this
    · cases o with
      | zero => rfl
      | succ o =>
        show opensG 4 5 (((o + 1 : Nat) : Int)) (((i : Int), [5]) :: escG 6 (i + 1) false (drC y)) = bal o y
        rw [← ih (i + 1) o]
        show (if ([5] : List Nat) = [4] then _ else if ([5] : List Nat) = [5] then (if ((o + 1 : Nat) : Int) - 1 < 0 then false else opensG 4 5 (((o + 1 : Nat) : Int) - 1) (escG 6 (i + 1) false (drC y))) else _) = _
        rw [if_neg (by decide), if_pos rfl, if_neg (by omega)]
        congr 1
        omega
theorem drB_noq : ∀ (y : List Nat), (∀ c ∈ y, c ≤ 5) → 7 ∉ drB y → drC y = drB y
  | [], _, _ => rfl
  | c :: y, h, hq => by
    have ih := drB_noq y fun d hd => h d (.tail _ hd)
    rcases cases6 (h c (.head _)) with rfl | rfl | rfl | rfl | rfl | rfl
    · have e : drB (0 :: y) = 6 :: 4 :: drB y := rfl
      rw [e] at hq ⊢
      show 6 :: 4 :: drC y = _
      rw [ih fun q => hq (.tail _ (.tail _ q))]
    · have e : drB (1 :: y) = 6 :: 5 :: drB y := rfl
      rw [e] at hq ⊢
      show 6 :: 5 :: drC y = _
      rw [ih fun q => hq (.tail _ (.tail _ q))]
    · have e : drB (2 :: y) = 6 :: 6 :: drB y := rfl
      rw [e] at hq ⊢
      show 6 :: 6 :: drC y = _
      rw [ih fun q => hq (.tail _ (.tail _ q))]
    · exact absurd (.head _) hq
    · have e : drB (4 :: y) = 4 :: drB y := rfl
      rw [e] at hq ⊢
      show 4 :: drC y = _
      rw [ih fun q => hq (.tail _ q)]
    · have e : drB (5 :: y) = 5 :: drB y := rfl
      rw [e] at hq ⊢
      show 5 :: drC y = _
      rw [ih fun q => hq (.tail _ q)]
theorem join_nil {α : Type} : ∀ L : List (List α), joinG [] L = L.flatten
  | [] => rfl
  | [p] => by simp [joinG]
  | p :: q :: r => by
    show p ++ [] ++ joinG [] (q :: r) = _
    rw [join_nil (q :: r), List.append_nil]
    rfl
/-- the strip, from the place i on -/
theorem strip_go (x : List Nat) : ∀ (y : List Nat), (∀ c ∈ y, c ≤ 5) → ∀ (i s : Nat) (R : List (List Nat)), x.drop i = drB y → i ≤ x.length → s ≤ i →
    stripEndG x ((escG 6 i false (drB y)).foldl (stripStepG x 7) ((s : Int), none, R)) = R.flatten ++ sliceG x s i ++ drC y
  | [], _, i, s, R, hx, hi, hs => by
    have hl : i = x.length := by
      have := congrArg List.length hx
      rw [List.length_drop] at this
      have e : (drB []).length = 0 := rfl
      omega
    show joinG [] (if (s : Int) < (x.length : Int) then R ++ [sliceG x s x.length] else R) = R.flatten ++ sliceG x s i ++ []
    rw [join_nil, List.append_nil]
    by_cases q : (s : Int) < (x.length : Int)
    · rw [if_pos q, hl]; simp
    · rw [if_neg q]
      have e : s = i := by omega
      subst e
      unfold sliceG
      simp
  | c :: y, h, i, s, R, hx, hi, hs => by
    have ih := strip_go x y fun d hd => h d (.tail _ hd)
    have step : ∀ (m : Nat), (drB (c :: y)).drop m = drB y → m ≤ (drB (c :: y)).length → x.drop (i + m) = drB y ∧ i + m ≤ x.length ∧ (s ≤ i + m) := fun m hm hm2 => by
      refine ⟨by rw [← List.drop_drop, hx, hm], ?_, by omega⟩
      have := congrArg List.length hx
      rw [List.length_drop] at this
      omega
    have sl : ∀ (m : Nat), s ≤ i → sliceG x s (i + m) = sliceG x s i ++ (drB (c :: y)).take m := fun m _ => by
      unfold sliceG
      rw [← hx, show i + m - s = (i - s) + m by omega, List.take_add, List.drop_drop, show s + (i - s) = i by omega]
    rcases cases6 (h c (.head _)) with rfl | rfl | rfl | rfl | rfl | rfl
    · obtain ⟨a, b, d⟩ := step 2 rfl (by show 2 ≤ (drB y).length + 1 + 1; omega)
      have := ih (i + 2) s R a b d
      rw [sl 2 hs] at this
      refine Eq.trans this ?_
      show R.flatten ++ (sliceG x s i ++ [6, 4]) ++ drC y = R.flatten ++ sliceG x s i ++ 6 :: 4 :: drC y
      simp
    · obtain ⟨a, b, d⟩ := step 2 rfl (by show 2 ≤ (drB y).length + 1 + 1; omega)
      have := ih (i + 2) s R a b d
      rw [sl 2 hs] at this
      refine Eq.trans this ?_
      show R.flatten ++ (sliceG x s i ++ [6, 5]) ++ drC y = R.flatten ++ sliceG x s i ++ 6 :: 5 :: drC y
      simp
    · obtain ⟨a, b, d⟩ := step 2 rfl (by show 2 ≤ (drB y).length + 1 + 1; omega)
      have := ih (i + 2) s R a b d
      rw [sl 2 hs] at this
      refine Eq.trans this ?_
      show R.flatten ++ (sliceG x s i ++ [6, 6]) ++ drC y = R.flatten ++ sliceG x s i ++ 6 :: 6 :: drC y
      simp
    · obtain ⟨a, b, d⟩ := step 3 rfl (by show 3 ≤ (drB y).length + 1 + 1 + 1; omega)
      have := ih (i + 3) (i + 3) (if (s : Int) = (i : Int) then R else R ++ [sliceG x s i]) a b (Nat.le_refl _)
      refine Eq.trans this ?_
      have e0 : sliceG x (i + 3) (i + 3) = [] := by unfold sliceG; simp
      rw [e0, List.append_nil]
      show _ = R.flatten ++ sliceG x s i ++ drC y
      by_cases q : (s : Int) = (i : Int)
      · rw [if_pos q]
        have e : s = i := by omega
        subst e
        unfold sliceG
        simp
      · rw [if_neg q]; simp
    · obtain ⟨a, b, d⟩ := step 1 rfl (by show 1 ≤ (drB y).length + 1; omega)
      have := ih (i + 1) s R a b d
      rw [sl 1 hs] at this
      refine Eq.trans this ?_
      show R.flatten ++ (sliceG x s i ++ [4]) ++ drC y = R.flatten ++ sliceG x s i ++ 4 :: drC y
      simp
    · obtain ⟨a, b, d⟩ := step 1 rfl (by show 1 ≤ (drB y).length + 1; omega)
      have := ih (i + 1) s R a b d
      rw [sl 1 hs] at this
      refine Eq.trans this ?_
      show R.flatten ++ (sliceG x s i ++ [5]) ++ drC y = R.flatten ++ sliceG x s i ++ 5 :: drC y
      simp
/-- the test of a dressed front: its brackets alone -/
theorem check_bal (y : List Nat) (h : ∀ c ∈ y, c ≤ 5) : checkG (drB y) 6 7 4 5 = bal 0 y := by
  unfold checkG stripG
  rw [← drC_bal y h 0 0]
  by_cases q : 7 ∈ drB y
  · rw [if_pos q]
    have := strip_go (drB y) y h 0 0 [] rfl (Nat.zero_le _) (Nat.le_refl _)
    have e : sliceG (drB y) 0 0 = [] := by unfold sliceG; simp
    rw [e] at this
    have this : stripEndG (drB y) ((escG 6 0 false (drB y)).foldl (stripStepG (drB y) 7) (0, none, [])) = drC y := this
    rw [this]
    rfl
  · rw [if_neg q, drB_noq y h q]
    rfl
/-- the signs of a tree's text -/
theorem sym_tree (row : List Int) : ∀ (n : Nat) (t : BT), leT t → (render t).length < n → symF 6 7 4 5 0 1 2 3 tkN row n (render t) = symT row t
  | 0, t, _, h => absurd h (Nat.not_lt_zero _)
  | n + 1, .leaf, _, _ => rfl
  | n + 1, .node l x u, ⟨hl, hx, hu⟩, h => by
    have e : render (.node l x u) = 4 :: (render l ++ (x :: (render u ++ [5]))) := rfl
    rw [e] at h ⊢
    simp only [List.length_cons, List.length_append, List.length_nil] at h
    unfold symF
    have ei : (List.drop 1 (4 :: (render l ++ (x :: (render u ++ [5]))))).dropLast = render l ++ (x :: render u) := by
      rw [List.drop_succ_cons, List.drop_zero, show render l ++ (x :: (render u ++ [5])) = (render l ++ (x :: render u)) ++ [5] by simp, List.dropLast_concat]
    dsimp only
    rw [ei]
    have er : rootsG 6 7 4 5 0 1 2 3 (render l ++ (x :: render u)) = [(render l).length] := by
      unfold rootsG
      refine filt_one _ _ _ (by simp) fun k hk => ?_
      have low : ∀ c ∈ (render l ++ (x :: render u)).take k, c ≤ 5 := fun c hc => by
        rcases List.mem_append.mp (List.mem_of_mem_take hc) with hc | hc
        · exact render_le l hl c hc
        · rcases List.mem_cons.mp hc with rfl | hc
          · omega
          · exact render_le u hu c hc
      unfold rootPG
      rw [dress_eq, check_bal _ low]
      have mem4 : ∀ c : Nat, decide (c ∈ [0, 1, 2, 3]) = decide (c ≤ 3) := fun c => by
        congr 1
        simp only [List.mem_cons, List.not_mem_nil, or_false, eq_iff_iff]
        omega
      rcases Nat.lt_trichotomy k (render l).length with q | q | q
      · rw [decide_eq_false (by omega), List.getElem?_append_left q, List.getElem?_eq_getElem q, List.take_append_of_le_length (Nat.le_of_lt q)]
        show (decide ((render l)[k] ∈ [0, 1, 2, 3]) && _) = false
        rw [mem4]
        by_cases q2 : (render l)[k] ≤ 3
        · rw [bal_front l hl 0 k _ (List.getElem?_eq_getElem q) q2, Bool.and_false]
        · rw [decide_eq_false q2, Bool.false_and]
      · subst q
        rw [decide_eq_true rfl, List.take_left, List.getElem?_append_right (Nat.le_refl _), Nat.sub_self]
        have := bal_render l hl 0 []
        rw [List.append_nil] at this
        rw [this]
        show (decide (x ∈ [0, 1, 2, 3]) && true) = true
        rw [mem4, decide_eq_true hx]
        rfl
      · obtain ⟨j, rfl⟩ : ∃ j, k = (render l).length + (j + 1) := ⟨k - (render l).length - 1, by omega⟩
        have hj : j < (render u).length := by
          simp only [List.length_append, List.length_cons] at hk
          omega
        rw [decide_eq_false (by omega), List.getElem?_append_right (by omega), Nat.add_sub_cancel_left, List.getElem?_cons_succ, List.getElem?_eq_getElem hj, List.take_length_add_append, List.take_succ_cons, bal_render l hl, bal_letter hx]
        show (decide ((render u)[j] ∈ [0, 1, 2, 3]) && _) = false
        rw [mem4]
        by_cases q2 : (render u)[j] ≤ 3
        · rw [bal_front u hu 0 j _ (List.getElem?_eq_getElem hj) q2, Bool.and_false]
        · rw [decide_eq_false q2, Bool.false_and]
    rw [er]
    dsimp only
    have eg : (render l ++ (x :: render u))[(render l).length]? = some x := by rw [List.getElem?_append_right (Nat.le_refl _), Nat.sub_self]; rfl
    have ed : (render l ++ (x :: render u)).drop ((render l).length + 1) = render u := by rw [List.drop_length_add_append]; rfl
    rw [eg, List.take_left, ed, sym_tree row n l hl (by omega), sym_tree row n u hu (by omega)]
    rfl
end Mine
namespace Mine
noncomputable section
/-- a word told out sign by sign, then k -/
noncomputable def fW (w : List Nat) (k : List Nat → Bool) : Bool := List.rec (motive := fun _ => (List Nat → Bool) → Bool) (fun k => k []) (fun x _ ih k => ih fun r => k (x :: r)) w k
theorem fW_eq : ∀ (w : List Nat) (k : List Nat → Bool), fW w k = k w
  | [], k => rfl
  | x :: w, k => fW_eq w fun r => k (x :: r)
noncomputable def snocK (f : List (List Nat)) (x : List Nat) (k : List (List Nat) → Bool) : Bool := List.rec (motive := fun _ => (List (List Nat) → Bool) → Bool) (fun k => k [x]) (fun y _ ih k => ih fun r => k (y :: r)) f k
theorem snocK_eq (x : List Nat) : ∀ (f : List (List Nat)) (k : List (List Nat) → Bool), snocK f x k = k (f ++ [x])
  | [], k => rfl
  | y :: f, k => snocK_eq x f fun r => k (y :: r)
noncomputable def addK (f : List (List Nat)) (x : List Nat) (k : List (List Nat) → Bool) : Bool := bif inB x f then k f else snocK f x k
theorem addK_eq (f : List (List Nat)) (x : List Nat) (k : List (List Nat) → Bool) : addK f x k = k (addB f x) := by
  unfold addK addB
  rw [snocK_eq]
  cases inB x f <;> rfl
noncomputable def stK (one : List Nat) (a b c : Nat) (f : List (List Nat)) (u d : Bool) (k : List (List Nat) → Bool → Bool → Bool) : Bool :=
  bif matB a b c one then fW (chB a b one) fun y => addK f y fun g => bif matB b a c one then fW (chB b a one) fun z => addK g z fun h => k h true true else k g true d
  else bif matB b a c one then fW (chB b a one) fun z => addK f z fun h => k h u true else k f u d
theorem stK_eq (one : List Nat) (a b c : Nat) (f : List (List Nat)) (u d : Bool) (k : List (List Nat) → Bool → Bool → Bool) : stK one a b c f u d k = k (stepB one (f, u, d) (a, b, c)).1 (stepB one (f, u, d) (a, b, c)).2.1 (stepB one (f, u, d) (a, b, c)).2.2 := by
  unfold stK stepB
  simp only [fW_eq, addK_eq]
  cases matB a b c one <;> cases matB b a c one <;> rfl
noncomputable def foldK (one : List Nat) (k : List (List Nat) → Bool → Bool → Bool) (ws : List (Nat × Nat × Nat)) : List (List Nat) → Bool → Bool → Bool :=
  List.rec (motive := fun _ => List (List Nat) → Bool → Bool → Bool) k (fun t _ ih f u d => Prod.rec (motive := fun _ => Bool) (fun a bc => Prod.rec (motive := fun _ => Bool) (fun b c => stK one a b c f u d ih) bc) t) ws
theorem foldK_eq (one : List Nat) (k : List (List Nat) → Bool → Bool → Bool) : ∀ (ws : List (Nat × Nat × Nat)) (f : List (List Nat)) (u d : Bool), foldK one k ws f u d = k (ws.foldl (stepB one) (f, u, d)).1 (ws.foldl (stepB one) (f, u, d)).2.1 (ws.foldl (stepB one) (f, u, d)).2.2
  | [], f, u, d => rfl
  | (a, b, c) :: ws, f, u, d => by
    show stK one a b c f u d (foldK one k ws) = _
    rw [stK_eq, foldK_eq one k ws]
    rfl
noncomputable def nthB (f : List (List Nat)) : Nat → Option (List Nat) := List.rec (motive := fun _ => Nat → Option (List Nat)) (fun _ => none) (fun y _ ih i => Nat.rec (motive := fun _ => Option (List Nat)) (some y) (fun j _ => ih j) i) f
theorem nthB_eq : ∀ (f : List (List Nat)) (i : Nat), nthB f i = f[i]?
  | [], i => rfl
  | y :: f, 0 => rfl
  | y :: f, i + 1 => by
    rw [List.getElem?_cons_succ, ← nthB_eq f i]
    rfl
noncomputable def orK (b : Bool) (l : List (List Nat)) (one : List Nat) (k : List (List Nat) → Bool) : Bool := bif b then k l else snocK l one k
theorem orK_eq (b : Bool) (l : List (List Nat)) (one : List Nat) (k : List (List Nat) → Bool) : orK b l one k = k (bif b then l else l ++ [one]) := by
  unfold orK
  rw [snocK_eq]
  cases b <;> rfl
noncomputable def classK (ws : List (Nat × Nat × Nat)) (k : List (List Nat) → List (List Nat) → List (List Nat) → Bool) (n : Nat) : List (List Nat) → List (List Nat) → List (List Nat) → Nat → Bool :=
  Nat.rec (motive := fun _ => List (List Nat) → List (List Nat) → List (List Nat) → Nat → Bool) (fun _ _ _ _ => false)
    (fun _ ih f l h i => Option.rec (motive := fun _ => Bool) (k f l h) (fun one => foldK one (fun g u d => orK d l one fun l' => orK u h one fun h' => ih g l' h' (i + 1)) ws f false false) (nthB f i)) n
theorem classK_eq (ws : List (Nat × Nat × Nat)) (k : List (List Nat) → List (List Nat) → List (List Nat) → Bool) : ∀ (n : Nat) (f l h : List (List Nat)) (i : Nat), classK ws k n f l h i = (match classB ws n f l h i with | some r => k r.1 r.2.1 r.2.2 | none => false)
  | 0, _, _, _, _ => rfl
  | n + 1, f, l, h, i => by
    show Option.rec (motive := fun _ => Bool) (k f l h) (fun one => foldK one (fun g u d => orK d l one fun l' => orK u h one fun h' => classK ws k n g l' h' (i + 1)) ws f false false) (nthB f i) = _
    unfold classB
    rw [nthB_eq]
    cases f[i]? with
    | none => rfl
    | some one =>
      dsimp only
      rw [foldK_eq, orK_eq, orK_eq, classK_eq ws k n]

noncomputable def lastB (x : List Nat) : Option Nat := List.rec (motive := fun _ => Option Nat) none (fun c r ih => List.rec (motive := fun _ => Option Nat) (some c) (fun _ _ _ => ih) r) x
noncomputable def initB (x : List Nat) : List Nat := List.rec (motive := fun _ => List Nat) [] (fun c r ih => List.rec (motive := fun _ => List Nat) [] (fun _ _ _ => c :: ih) r) x
noncomputable def leB (y : Nat) (x : List Nat) : List Nat := List.rec (motive := fun _ => List Nat) [] (fun c _ ih => bif Nat.ble c y then c :: ih else ih) x
noncomputable def gtB (y : Nat) (x : List Nat) : List Nat := List.rec (motive := fun _ => List Nat) [] (fun c _ ih => bif Nat.ble c y then ih else c :: ih) x
/-- mixed, each ended by z, then told to k -/
noncomputable def mixK (z : Nat) (n : Nat) : List Nat → List Nat → (List Nat → List Nat) → List (List Nat) → List (List Nat) :=
  Nat.rec (motive := fun _ => List Nat → List Nat → (List Nat → List Nat) → List (List Nat) → List (List Nat)) (fun xs ys p r => p (xs ++ ys ++ [z]) :: r)
    (fun _ ih xs ys p r => List.rec (motive := fun _ => List (List Nat)) (p (ys ++ [z]) :: r) (fun x xs' _ => List.rec (motive := fun _ => List (List Nat)) (p (x :: xs' ++ [z]) :: r) (fun y ys' _ => ih xs' (y :: ys') (fun q => p (x :: q)) (ih (x :: xs') ys' (fun q => p (y :: q)) r)) ys) xs) n
theorem mixK_eq (z : Nat) : ∀ (n : Nat) (xs ys : List Nat) (p : List Nat → List Nat) (r : List (List Nat)), mixK z n xs ys p r = (mixedF n xs ys).map (fun q => p (q ++ [z])) ++ r
  | 0, xs, ys, p, r => rfl
  | n + 1, [], ys, p, r => rfl
  | n + 1, x :: xs, [], p, r => rfl
  | n + 1, x :: xs, y :: ys, p, r => by
    show mixK z n xs (y :: ys) (fun q => p (x :: q)) (mixK z n (x :: xs) ys (fun q => p (y :: q)) r) = _
    rw [mixK_eq z n, mixK_eq z n, mixedF, List.map_append, List.map_map, List.map_map, List.append_assoc]
    rfl
end
end Mine
namespace Mine

theorem ins_perm (x : Nat) : ∀ t : BT, (inord (insB x t)).Perm (x :: inord t)
  | .leaf => .refl _
  | .node l y r => by
    unfold insB
    cases Nat.ble x y with
    | true => exact (ins_perm x l).append_right (y :: inord r)
    | false =>
      show (inord l ++ y :: inord (insB x r)).Perm (x :: (inord l ++ y :: inord r))
      refine (((ins_perm x r).cons y).append_left (inord l)).trans ?_
      refine (List.Perm.append_left _ (.swap x y _)).trans ?_
      exact List.perm_middle
theorem bst_perm : ∀ w : List Nat, (inord (bst w)).Perm w
  | [] => .refl _
  | c :: w => (ins_perm c (bst w)).trans ((bst_perm w).cons c)
theorem ins_sorted (x : Nat) : ∀ t : BT, (inord t).Pairwise (· ≤ ·) → (inord (insB x t)).Pairwise (· ≤ ·)
  | .leaf, _ => List.pairwise_singleton _ _
  | .node l y r, h => by
    obtain ⟨h1, h2, h3⟩ := List.pairwise_append.mp h
    obtain ⟨h4, h5⟩ := List.pairwise_cons.mp h2
    unfold insB
    cases e : Nat.ble x y with
    | true =>
      have hxy := Nat.le_of_ble_eq_true e
      refine List.pairwise_append.mpr ⟨ins_sorted x l h1, h2, fun a ha b hb => ?_⟩
      rcases List.mem_cons.mp ((ins_perm x l).subset ha) with rfl | ha
      · rcases List.mem_cons.mp hb with rfl | hb
        · exact hxy
        · exact Nat.le_trans hxy (h4 b hb)
      · exact h3 a ha b hb
    | false =>
      have hxy : y ≤ x := by
        have : ¬ x ≤ y := fun q => by rw [Nat.ble_eq_true_of_le q] at e; cases e
        omega
      refine List.pairwise_append.mpr ⟨h1, List.pairwise_cons.mpr ⟨fun b hb => ?_, ins_sorted x r h5⟩, fun a ha b hb => ?_⟩
      · rcases List.mem_cons.mp ((ins_perm x r).subset hb) with rfl | hb
        · exact hxy
        · exact h4 b hb
      · rcases List.mem_cons.mp hb with rfl | hb
        · exact h3 a ha b (.head _)
        · rcases List.mem_cons.mp ((ins_perm x r).subset hb) with rfl | hb
          · exact Nat.le_trans (h3 a ha y (.head _)) hxy
          · exact h3 a ha b (.tail _ hb)
theorem bst_sorted : ∀ w : List Nat, (inord (bst w)).Pairwise (· ≤ ·)
  | [] => .nil
  | c :: w => ins_sorted c _ (bst_sorted w)
theorem render_len : ∀ t : BT, (render t).length = 5 * (inord t).length + 2
  | .leaf => rfl
  | .node l x r => by
    have h1 := render_len l
    have h2 := render_len r
    simp only [render, inord, List.length_cons, List.length_append, List.length_nil]
    omega
/-- a root's tree: the letters not above it left, the others right -/
theorem fold_root (z : Nat) : ∀ (p : List Nat) (l r : BT), p.foldr insB (.node l z r) = .node ((p.filter fun c => Nat.ble c z).foldr insB l) z ((p.filter fun c => !Nat.ble c z).foldr insB r)
  | [], l, r => rfl
  | c :: p, l, r => by
    rw [List.foldr_cons, fold_root z p]
    unfold insB
    cases e : Nat.ble c z with
    | true => rw [List.filter_cons_of_pos (p := fun c => Nat.ble c z) e, List.filter_cons_of_neg (p := fun c => !Nat.ble c z) (by simp [e])]; rfl
    | false => rw [List.filter_cons_of_neg (p := fun c => Nat.ble c z) (by simp [e]), List.filter_cons_of_pos (p := fun c => !Nat.ble c z) (by simp [e])]; rfl
theorem bst_root (p : List Nat) (z : Nat) : bst (p ++ [z]) = .node (bst (p.filter fun c => Nat.ble c z)) z (bst (p.filter fun c => !Nat.ble c z)) := by
  unfold bst
  rw [List.foldr_append]
  exact fold_root z p .leaf .leaf
theorem mixed_filt (q : Nat → Bool) : ∀ (n : Nat) (xs ys : List Nat), (∀ c ∈ xs, q c = true) → (∀ c ∈ ys, q c = false) → ∀ m ∈ mixedF n xs ys, m.filter q = xs ∧ m.filter (fun c => !q c) = ys
  | 0, xs, ys, hx, hy, m, hm => by
    rw [List.mem_singleton.mp hm, List.filter_append, List.filter_append, List.filter_eq_self.mpr hx, List.filter_eq_nil_iff.mpr fun c hc => by simp [hy c hc], List.filter_eq_nil_iff.mpr fun c hc => by simp [hx c hc], List.filter_eq_self.mpr fun c hc => by simp [hy c hc]]
    simp
  | n + 1, [], ys, hx, hy, m, hm => by
    rw [List.mem_singleton.mp hm, List.filter_eq_nil_iff.mpr fun c hc => by simp [hy c hc], List.filter_eq_self.mpr fun c hc => by simp [hy c hc]]
    exact ⟨rfl, rfl⟩
  | n + 1, x :: xs, [], hx, hy, m, hm => by
    rw [List.mem_singleton.mp hm, List.filter_eq_self.mpr hx, List.filter_eq_nil_iff.mpr fun c hc => by simp [hx c hc]]
    exact ⟨rfl, rfl⟩
  | n + 1, x :: xs, y :: ys, hx, hy, m, hm => by
    rw [mixedF] at hm
    rcases List.mem_append.mp hm with hm | hm
    · obtain ⟨m', h', rfl⟩ := List.mem_map.mp hm
      obtain ⟨e1, e2⟩ := mixed_filt q n xs (y :: ys) (fun c hc => hx c (.tail _ hc)) hy m' h'
      have := hx x (.head _)
      rw [List.filter_cons_of_pos this, List.filter_cons_of_neg (by simp [this]), e1, e2]
      exact ⟨rfl, rfl⟩
    · obtain ⟨m', h', rfl⟩ := List.mem_map.mp hm
      obtain ⟨e1, e2⟩ := mixed_filt q n (x :: xs) ys hx (fun c hc => hy c (.tail _ hc)) m' h'
      have := hy y (.head _)
      rw [List.filter_cons_of_neg (by simp [this]), List.filter_cons_of_pos (by simp [this]), e1, e2]
      exact ⟨rfl, rfl⟩
theorem below4 {c z : Nat} (hc : c ≤ 3) (hz : z ≤ 3) : decide (c ∈ belowG [0, 1, 2, 3] z) = Nat.ble c z := by
  have : ∀ c < 4, ∀ z < 4, decide (c ∈ belowG [0, 1, 2, 3] z) = Nat.ble c z := by decide
  exact this c (by omega) z (by omega)
theorem last_cut {x : List Nat} {z : Nat} (h : x.getLast? = some z) : x = x.dropLast ++ [z] := by
  have hn : x ≠ [] := fun e => by rw [e] at h; cases h
  rw [List.getLast?_eq_some_getLast hn] at h
  cases h
  exact (List.dropLast_concat_getLast hn).symm
theorem words_root {n : Nat} {x : List Nat} {z : Nat} (hx : ∀ c ∈ x, c ≤ 3) (h : x.getLast? = some z) : wordsF [0, 1, 2, 3] (n + 1) x = (wordsF [0, 1, 2, 3] n (x.dropLast.filter fun c => Nat.ble c z)).flatMap fun one => (wordsF [0, 1, 2, 3] n (x.dropLast.filter fun c => !Nat.ble c z)).flatMap fun two => (mixedF 6 one two).map (· ++ [z]) := by
  have e := last_cut h
  have hz : z ≤ 3 := hx z (by rw [e]; simp)
  have hp : ∀ c ∈ x.dropLast, c ≤ 3 := fun c hc => hx c (by rw [e]; simp [hc])
  conv => lhs; unfold wordsF
  rw [h]
  dsimp only
  rw [List.filter_congr fun c hc => below4 (hp c hc) hz, List.filter_congr (l := x.dropLast) (q := fun c => !Nat.ble c z) fun c hc => by rw [below4 (hp c hc) hz]]
theorem cut_len {x : List Nat} {z : Nat} (h : x.getLast? = some z) (q : Nat → Bool) : (x.dropLast.filter q).length + 1 ≤ x.length := by
  have e := congrArg List.length (last_cut h)
  rw [List.length_append, List.length_singleton] at e
  have := List.length_filter_le q x.dropLast
  omega
/-- the plain rule's words have the drawn word's tree -/
theorem words_bst : ∀ (n : Nat) (x : List Nat), x.length ≤ n → (∀ c ∈ x, c ≤ 3) → ∀ z ∈ wordsF [0, 1, 2, 3] n x, bst z = bst x
  | 0, x, h, _, z, hz => by rw [List.mem_singleton.mp hz, List.eq_nil_of_length_eq_zero (Nat.le_zero.mp h)]
  | n + 1, x, h, hx, z, hz => by
    cases e : x.getLast? with
    | none =>
      unfold wordsF at hz
      rw [e] at hz
      rw [List.mem_singleton.mp hz, List.getLast?_eq_none_iff.mp e]
    | some r =>
      rw [words_root hx e] at hz
      have hp : ∀ c ∈ x.dropLast, c ≤ 3 := fun c hc => hx c (by rw [last_cut e]; simp [hc])
      obtain ⟨one, h1, hz⟩ := List.mem_flatMap.mp hz
      obtain ⟨two, h2, hz⟩ := List.mem_flatMap.mp hz
      obtain ⟨m, hm, rfl⟩ := List.mem_map.mp hz
      have b1 := words_bst n _ (by have := cut_len e (fun c => Nat.ble c r); omega) (fun c hc => hp c (List.mem_filter.mp hc).1) one h1
      have b2 := words_bst n _ (by have := cut_len e (fun c => !Nat.ble c r); omega) (fun c hc => hp c (List.mem_filter.mp hc).1) two h2
      have p1 : ∀ c ∈ one, Nat.ble c r = true := fun c hc => by
        have := (bst_perm one).symm.subset hc
        rw [b1] at this
        exact (List.mem_filter.mp ((bst_perm _).subset this)).2
      have p2 : ∀ c ∈ two, Nat.ble c r = false := fun c hc => by
        have := (bst_perm two).symm.subset hc
        rw [b2] at this
        have := (List.mem_filter.mp ((bst_perm _).subset this)).2
        simpa using this
      obtain ⟨f1, f2⟩ := mixed_filt (fun c => Nat.ble c r) 6 one two p1 p2 m hm
      rw [bst_root, f1, f2, b1, b2]
      conv => rhs; rw [last_cut e]
      rw [bst_root]
theorem ok_bst {z w : List Nat} (hw : okW w = true) (h : bst z = bst w) : okW z = true := by
  have p : z.Perm w := ((bst_perm z).symm.trans (by rw [h])).trans (bst_perm w)
  obtain ⟨h1, h2⟩ := (okW_iff w).mp hw
  exact (okW_iff z).mpr ⟨by rw [p.length_eq, h1], fun c hc => h2 c (p.subset hc)⟩

/-- left to right turned -/
noncomputable def mir : BT → List Nat
  | .leaf => []
  | .node l x r => mir r ++ (mir l ++ [x])
theorem post_perm : ∀ t : BT, (post t).Perm (inord t)
  | .leaf => .refl _
  | .node l x r => by
    show (post l ++ (post r ++ [x])).Perm (inord l ++ x :: inord r)
    refine (post_perm l).append ?_
    exact ((post_perm r).append_right [x]).trans (List.perm_append_singleton x _)
theorem mir_perm : ∀ t : BT, (mir t).Perm (inord t)
  | .leaf => .refl _
  | .node l x r => by
    show (mir r ++ (mir l ++ [x])).Perm (inord l ++ x :: inord r)
    refine (List.perm_append_comm (l₁ := mir r) (l₂ := mir l ++ [x])).trans ?_
    rw [List.append_assoc]
    refine (mir_perm l).append ?_
    exact (mir_perm r).cons x

/-- the search finds the first that is not below -/
theorem bis_find (p : Int → Bool) (a : List Int) (hm : ∀ i j, i ≤ j → j < a.length → p (a.getD j 0) = true → p (a.getD i 0) = true) : ∀ (n lo hi : Nat), hi ≤ lo + n → hi ≤ a.length → lo ≤ hi →
    (∀ i, i < lo → p (a.getD i 0) = true) → (∀ i, hi ≤ i → i < a.length → p (a.getD i 0) = false) →
    (∀ i, i < bisG p a n lo hi → p (a.getD i 0) = true) ∧ (∀ i, bisG p a n lo hi ≤ i → i < a.length → p (a.getD i 0) = false)
  | 0, lo, hi, hn, hl, hle, h1, h2 => by
    have e : hi = lo := by omega
    subst e
    exact ⟨h1, h2⟩
  | n + 1, lo, hi, hn, hl, hle, h1, h2 => by
    unfold bisG
    by_cases q : lo < hi
    · rw [if_pos q]
      by_cases c : p (a.getD ((lo + hi) / 2) 0) = true
      · rw [if_pos c]
        exact bis_find p a hm n _ hi (by omega) hl (by omega) (fun i hi' => hm i ((lo + hi) / 2) (by omega) (by omega) c) h2
      · rw [if_neg c]
        refine bis_find p a hm n lo _ (by omega) (by omega) (by omega) h1 fun i hi' hil => ?_
        cases e : p (a.getD i 0) with
        | false => rfl
        | true => exact absurd (hm ((lo + hi) / 2) i hi' hil e) c
    · rw [if_neg q]
      have e : hi = lo := by omega
      subst e
      exact ⟨h1, h2⟩
theorem getD_map (l : List Nat) (i : Nat) : (l.map tkN).getD i 0 = ((l.getD i 0 : Nat) : Int) := by
  rw [List.getD_eq_getElem?_getD, List.getD_eq_getElem?_getD, List.getElem?_map]
  cases l[i]? <;> rfl
theorem sorted_at {l : List Nat} (h : l.Pairwise (· ≤ ·)) {i j : Nat} (hij : i ≤ j) (hj : j < l.length) : l.getD i 0 ≤ l.getD j 0 := by
  rw [getD_at hj, getD_at (Nat.lt_of_le_of_lt hij hj)]
  rcases Nat.lt_or_eq_of_le hij with q | q
  · exact List.pairwise_iff_getElem.mp h i j (by omega) hj q
  · subst q; exact Nat.le_refl _
theorem bisL_at {l : List Nat} (h : l.Pairwise (· ≤ ·)) {x : Nat} (hx : x ∈ l) : l[bisL (l.map tkN) (tkN x)]? = some x := by
  have hh : (∀ i, i < bisL (l.map tkN) (tkN x) → decide ((l.map tkN).getD i 0 < tkN x) = true) ∧ (∀ i, bisL (l.map tkN) (tkN x) ≤ i → i < (l.map tkN).length → decide ((l.map tkN).getD i 0 < tkN x) = false) :=
    bis_find (fun y => decide (y < tkN x)) (l.map tkN) (fun i j hij hj hp => by
      rw [List.length_map] at hj
      have := sorted_at h hij hj
      have hp := of_decide_eq_true hp
      rw [getD_map] at hp ⊢
      unfold tkN at hp ⊢
      exact decide_eq_true (by omega)) (l.map tkN).length 0 (l.map tkN).length (by omega) (Nat.le_refl _) (Nat.zero_le _) (fun i hi => absurd hi (Nat.not_lt_zero _)) (fun i h1 h2 => by omega)
  generalize bisL (l.map tkN) (tkN x) = b at hh ⊢
  obtain ⟨h1, h2⟩ := hh
  obtain ⟨j, hj, e⟩ := List.getElem_of_mem hx
  have hbj : b ≤ j := by
    by_cases q : j < b
    · have := of_decide_eq_true (h1 j q)
      rw [getD_map, getD_at hj, e] at this
      unfold tkN at this
      omega
    · omega
  have hb : b < l.length := by omega
  have h3 := of_decide_eq_false (h2 b (Nat.le_refl _) (by rw [List.length_map]; exact hb))
  have h4 := sorted_at h hbj hj
  rw [getD_map] at h3
  rw [getD_at hj, e] at h4
  unfold tkN at h3
  have h5 : l.getD b 0 = x := by omega
  rw [getD_at hb] at h5
  rw [List.getElem?_eq_getElem hb, h5]
/-- the signs read: the word and its counterpart -/
theorem read_tree {S : List Nat} {row : List Int} : ∀ (t : BT) (p : List (List Nat × List Nat)), (∀ x ∈ inord t, S[bisL row (tkN x)]? = some x) → (symT row t).reverse.foldl (readStep S) (some p) = some (p ++ [(post t, mir t)])
  | .leaf, p, _ => rfl
  | .node l x r, p, h => by
    unfold symT
    rw [List.reverse_append, List.reverse_cons, List.foldl_append, List.foldl_append, read_tree r p fun y hy => h y (by unfold inord; simp [hy]), read_tree l _ fun y hy => h y (by unfold inord; simp [hy])]
    show readStep S (some _) ((256 : Int) + _) = _
    unfold readStep
    rw [Option.bind_some, if_neg (by omega), if_pos (by omega)]
    have e : ((256 : Int) + ((bisL row (tkN x) : Nat) : Int) - 256).toNat = bisL row (tkN x) := by omega
    rw [e, h x (by unfold inord; simp)]
    simp [post, mir]
theorem read_bst (w : List Nat) : readG (inord (bst w)) (symT (rowT (bst w)) (bst w)) = some [(post (bst w), mir (bst w))] := by
  unfold readG
  have := read_tree (S := inord (bst w)) (row := rowT (bst w)) (bst w) [] fun x hx => bisL_at (bst_sorted w) hx
  exact this
end Mine
namespace Mine
noncomputable section
noncomputable def eqC (l : List Nat) : List Nat → Bool := List.rec (motive := fun _ => List Nat → Bool) (fun r => List.rec (motive := fun _ => Bool) true (fun _ _ _ => false) r) (fun a _ ih r => List.rec (motive := fun _ => Bool) false (fun b r' _ => bif Nat.beq a b then ih r' else false) r) l
theorem eqC_true : ∀ l r : List Nat, eqC l r = true → l = r
  | [], [], _ => rfl
  | [], _ :: _, h => by cases h
  | _ :: _, [], h => by cases h
  | a :: l, b :: r, h => by
    have h : (bif Nat.beq a b then eqC l r else false) = true := h
    cases e : Nat.beq a b with
    | false => rw [e] at h; cases h
    | true => rw [e] at h; rw [Nat.eq_of_beq_eq_true e, eqC_true l r h]
noncomputable def wB (n : Nat) : List Nat → List (List Nat) := Nat.rec (motive := fun _ => List Nat → List (List Nat)) (fun _ => [[]])
  (fun _ ih x => Option.rec (motive := fun _ => List (List Nat)) [[]] (fun z => List.rec (motive := fun _ => List (List Nat)) [] (fun one _ acc => List.rec (motive := fun _ => List (List Nat)) acc (fun two _ acc => mixK z (nat_lit 6) one two (fun q => q) acc) (ih (gtB z (initB x)))) (ih (leB z (initB x)))) (lastB x)) n
theorem lastB_eq : ∀ x, lastB x = x.getLast?
  | [] => rfl
  | [c] => rfl
  | c :: d :: x => by
    have := lastB_eq (d :: x)
    rw [List.getLast?_cons_cons, ← this]
    rfl
theorem initB_eq : ∀ x, initB x = x.dropLast
  | [] => rfl
  | [c] => rfl
  | c :: d :: x => by
    have := initB_eq (d :: x)
    rw [List.dropLast_cons_cons, ← this]
    rfl
theorem leB_eq (z : Nat) : ∀ x, leB z x = x.filter fun c => Nat.ble c z
  | [] => rfl
  | c :: x => by
    rw [List.filter_cons, ← leB_eq z x]
    show (bif Nat.ble c z then c :: leB z x else leB z x) = _
    cases Nat.ble c z <;> rfl
theorem gtB_eq (z : Nat) : ∀ x, gtB z x = x.filter fun c => !Nat.ble c z
  | [] => rfl
  | c :: x => by
    rw [List.filter_cons, ← gtB_eq z x]
    show (bif Nat.ble c z then gtB z x else c :: gtB z x) = _
    cases Nat.ble c z <;> rfl
theorem inner_eq (z : Nat) (one : List Nat) (acc : List (List Nat)) : ∀ L2 : List (List Nat), (List.rec (motive := fun _ => List (List Nat)) acc (fun two _ acc => mixK z (nat_lit 6) one two (fun q => q) acc) L2 : List (List Nat)) = (L2.flatMap fun two => (mixedF 6 one two).map (· ++ [z])) ++ acc
  | [] => rfl
  | two :: L2 => by
    show mixK z 6 one two (fun q => q) _ = _
    rw [mixK_eq, inner_eq z one acc L2, List.flatMap_cons, List.append_assoc]
theorem outer_eq (z : Nat) (L2 : List (List Nat)) : ∀ L1 : List (List Nat), (List.rec (motive := fun _ => List (List Nat)) [] (fun one _ acc => List.rec (motive := fun _ => List (List Nat)) acc (fun two _ acc => mixK z (nat_lit 6) one two (fun q => q) acc) L2) L1 : List (List Nat)) = L1.flatMap fun one => L2.flatMap fun two => (mixedF 6 one two).map (· ++ [z])
  | [] => rfl
  | one :: L1 => by
    rw [List.flatMap_cons, ← outer_eq z L2 L1]
    exact inner_eq z one _ L2
theorem wB_eq : ∀ (n : Nat) (x : List Nat), (∀ c ∈ x, c ≤ 3) → wB n x = wordsF [0, 1, 2, 3] n x
  | 0, _, _ => rfl
  | n + 1, x, hx => by
    have e0 : wB (n + 1) x = Option.rec (motive := fun _ => List (List Nat)) [[]] (fun z => List.rec (motive := fun _ => List (List Nat)) [] (fun one _ acc => List.rec (motive := fun _ => List (List Nat)) acc (fun two _ acc => mixK z (nat_lit 6) one two (fun q => q) acc) (wB n (gtB z (initB x)))) (wB n (leB z (initB x)))) (lastB x) := rfl
    rw [e0, lastB_eq]
    cases e : x.getLast? with
    | none =>
      unfold wordsF
      rw [e]
    | some z =>
      have hp : ∀ c ∈ x.dropLast, c ≤ 3 := fun c hc => hx c (by rw [last_cut e]; simp [hc])
      rw [words_root hx e]
      dsimp only
      rw [outer_eq, leB_eq, gtB_eq, initB_eq, wB_eq n _ fun c hc => hp c (List.mem_filter.mp hc).1, wB_eq n _ fun c hc => hp c (List.mem_filter.mp hc).1]
noncomputable def remK (z : List Nat) (f : List (List Nat)) : (List (List Nat) → Bool) → Bool := List.rec (motive := fun _ => (List (List Nat) → Bool) → Bool) (fun _ => false) (fun y r ih k => bif eqC z y then k r else ih fun r => k (y :: r)) f
theorem remK_sound (z : List Nat) : ∀ (f : List (List Nat)) (k : List (List Nat) → Bool), remK z f k = true → ∃ r, f.Perm (z :: r) ∧ k r = true
  | [], _, h => by cases h
  | y :: f, k, h => by
    have h : (bif eqC z y then k f else remK z f fun r => k (y :: r)) = true := h
    cases e : eqC z y with
    | true =>
      rw [e] at h
      exact ⟨f, by rw [eqC_true _ _ e], h⟩
    | false =>
      rw [e] at h
      obtain ⟨r, h1, h2⟩ := remK_sound z f _ h
      exact ⟨y :: r, (h1.cons y).trans (.swap z y r), h2⟩
noncomputable def permK (l : List (List Nat)) : List (List Nat) → Bool := List.rec (motive := fun _ => List (List Nat) → Bool) (fun f => List.rec (motive := fun _ => Bool) true (fun _ _ _ => false) f) (fun z _ ih f => fW z fun z => remK z f ih) l
theorem permK_sound : ∀ (l f : List (List Nat)), permK l f = true → f.Perm l
  | [], [], _ => .refl _
  | [], _ :: _, h => by cases h
  | z :: l, f, h => by
    have h : fW z (fun z => remK z f (permK l)) = true := h
    rw [fW_eq] at h
    obtain ⟨r, h1, h2⟩ := remK_sound z f _ h
    exact h1.trans ((permK_sound l r h2).cons z)
noncomputable def one1 (l : List (List Nat)) (k : List Nat → Bool) : Bool := List.rec (motive := fun _ => Bool) false (fun x r _ => List.rec (motive := fun _ => Bool) (k x) (fun _ _ _ => false) r) l
theorem one1_sound {l : List (List Nat)} {k : List Nat → Bool} (h : one1 l k = true) : ∃ x, l = [x] ∧ k x = true := by
  match l, h with
  | [x], h => exact ⟨x, rfl, h⟩
/-- a word's tree, its signs from the end on; turned -/
noncomputable def poB (n : Nat) : List Nat → List Nat := Nat.rec (motive := fun _ => List Nat → List Nat) (fun _ => []) (fun _ ih x => Option.rec (motive := fun _ => List Nat) [] (fun z => ih (leB z (initB x)) ++ (ih (gtB z (initB x)) ++ [z])) (lastB x)) n
noncomputable def miB (n : Nat) : List Nat → List Nat := Nat.rec (motive := fun _ => List Nat → List Nat) (fun _ => []) (fun _ ih x => Option.rec (motive := fun _ => List Nat) [] (fun z => ih (gtB z (initB x)) ++ (ih (leB z (initB x)) ++ [z])) (lastB x)) n
theorem poB_eq : ∀ (n : Nat) (x : List Nat), x.length ≤ n → poB n x = post (bst x) ∧ miB n x = mir (bst x)
  | 0, x, h => by rw [List.eq_nil_of_length_eq_zero (Nat.le_zero.mp h)]; exact ⟨rfl, rfl⟩
  | n + 1, x, h => by
    have e1 : poB (n + 1) x = Option.rec (motive := fun _ => List Nat) [] (fun z => poB n (leB z (initB x)) ++ (poB n (gtB z (initB x)) ++ [z])) (lastB x) := rfl
    have e2 : miB (n + 1) x = Option.rec (motive := fun _ => List Nat) [] (fun z => miB n (gtB z (initB x)) ++ (miB n (leB z (initB x)) ++ [z])) (lastB x) := rfl
    rw [e1, e2, lastB_eq]
    cases e : x.getLast? with
    | none => rw [List.getLast?_eq_none_iff.mp e]; exact ⟨rfl, rfl⟩
    | some z =>
      have a := poB_eq n _ (show (x.dropLast.filter fun c => Nat.ble c z).length ≤ n by have := cut_len e (fun c => Nat.ble c z); omega)
      have b := poB_eq n _ (show (x.dropLast.filter fun c => !Nat.ble c z).length ≤ n by have := cut_len e (fun c => !Nat.ble c z); omega)
      dsimp only
      rw [leB_eq, gtB_eq, initB_eq, a.1, a.2, b.1, b.2]
      have eb : bst x = .node (bst (x.dropLast.filter fun c => Nat.ble c z)) z (bst (x.dropLast.filter fun c => !Nat.ble c z)) := by
        conv => lhs; rw [last_cut e]
        exact bst_root _ _
      rw [eb]
      exact ⟨rfl, rfl⟩
noncomputable abbrev ws5 : List (Nat × Nat × Nat) := [(nat_lit 0, nat_lit 1, nat_lit 0), (nat_lit 0, nat_lit 2, nat_lit 0), (nat_lit 0, nat_lit 2, nat_lit 1), (nat_lit 1, nat_lit 2, nat_lit 1), (nat_lit 0, nat_lit 3, nat_lit 0), (nat_lit 0, nat_lit 3, nat_lit 1), (nat_lit 1, nat_lit 3, nat_lit 1), (nat_lit 0, nat_lit 3, nat_lit 2), (nat_lit 1, nat_lit 3, nat_lit 2), (nat_lit 2, nat_lit 3, nat_lit 2)]
noncomputable def endK (w : List Nat) (F l h : List (List Nat)) : Bool := one1 l fun lo => one1 h fun hi => bif eqC lo (poB (nat_lit 5) w) then bif eqC hi (miB (nat_lit 5) w) then bif Nat.ble F.length (nat_lit 60) then permK (wB (nat_lit 6) w) F else false else false else false
noncomputable def chkK (w : List Nat) : Bool := classK ws5 (endK w) (nat_lit 60) [w] [] [] (nat_lit 0)
noncomputable def allV (n : Nat) : (List Nat → Bool) → Bool := Nat.rec (motive := fun _ => (List Nat → Bool) → Bool) (fun p => p []) (fun _ ih p => bif ih (fun w => p (nat_lit 0 :: w)) then bif ih (fun w => p (nat_lit 1 :: w)) then bif ih (fun w => p (nat_lit 2 :: w)) then ih (fun w => p (nat_lit 3 :: w)) else false else false else false) n
end
theorem bif3 {a b : Bool} (h : (bif a then b else false) = true) : a = true ∧ b = true := by
  cases a with
  | true => exact ⟨rfl, h⟩
  | false => cases h
theorem allV_sound : ∀ (n : Nat) (p : List Nat → Bool), allV n p = true → ∀ w : List Nat, w.length = n → (∀ c ∈ w, c ≤ 3) → p w = true
  | 0, p, h, w, hw, _ => by cases w with | nil => exact h | cons c w => cases hw
  | n + 1, p, h, w, hw, hc => by
    cases w with
    | nil => cases hw
    | cons c w =>
      obtain ⟨a, h⟩ := bif3 h
      obtain ⟨b, h⟩ := bif3 h
      obtain ⟨d, h⟩ := bif3 h
      have hl : w.length = n := Nat.succ.inj hw
      clear hw
      have hc' : ∀ d ∈ w, d ≤ 3 := fun d hd => hc d (.tail _ hd)
      have := hc c (.head _)
      match c, this with
      | 0, _ => exact allV_sound n _ a w hl hc'
      | 1, _ => exact allV_sound n _ b w hl hc'
      | 2, _ => exact allV_sound n _ d w hl hc'
      | 3, _ => exact allV_sound n _ h w hl hc'
theorem chkK_sound {w : List Nat} (hw : okW w = true) (h : chkK w = true) : ∃ F, classB ws4 60 [w] [] [] 0 = some (F, [post (bst w)], [mir (bst w)]) ∧ F.length ≤ 60 ∧ F.Perm (wordsF [0, 1, 2, 3] 6 w) := by
  obtain ⟨h1, h2⟩ := (okW_iff w).mp hw
  have h : classK ws4 (endK w) 60 [w] [] [] 0 = true := h
  rw [classK_eq] at h
  generalize classB ws4 60 [w] [] [] 0 = R at h ⊢
  match R, h with
  | some (F, l, hh), h =>
    obtain ⟨lo, rfl, h⟩ := one1_sound h
    obtain ⟨hi, rfl, h⟩ := one1_sound h
    obtain ⟨a, h⟩ := bif3 h
    obtain ⟨b, h⟩ := bif3 h
    obtain ⟨c, h⟩ := bif3 h
    have e := poB_eq 5 w (Nat.le_of_eq h1)
    have a : lo = poB 5 w := eqC_true _ _ a
    have b : hi = miB 5 w := eqC_true _ _ b
    have p := permK_sound _ _ h
    have e6 := wB_eq 6 w h2
    refine ⟨F, ?_, Nat.le_of_ble_eq_true c, ?_⟩
    · rw [a, b, e.1, e.2]
    · rw [← e6]; exact p
end Mine
namespace Mine
theorem k0 : allV (nat_lit 4) (fun w => chkK (nat_lit 0 :: w)) = true := by decide +kernel
theorem k1 : allV (nat_lit 4) (fun w => chkK (nat_lit 1 :: w)) = true := by decide +kernel
theorem k2 : allV (nat_lit 4) (fun w => chkK (nat_lit 2 :: w)) = true := by decide +kernel
theorem k3 : allV (nat_lit 4) (fun w => chkK (nat_lit 3 :: w)) = true := by decide +kernel
end Mine
namespace Mine
/-- a letter's new node in place of the gap number p -/
noncomputable def gapN (c : Nat) : Nat → List Nat → List Nat
  | _, [] => [4, 4, 5, c, 4, 5, 5]
  | _, [a] => [a, 4, 4, 5, c, 4, 5, 5]
  | p, a :: b :: r => if a = 4 ∧ b = 5 then (match p with | 0 => [4, 4, 5, c, 4, 5, 5] ++ r | q + 1 => 4 :: 5 :: gapN c q r) else a :: gapN c p (b :: r)
theorem gap_skip (c p a : Nat) (r : List Nat) (h : ¬ (a :: r).take 2 = [4, 5]) : gapN c p (a :: r) = a :: gapN c p r := by
  cases r with
  | nil => rfl
  | cons b r =>
    conv => lhs; unfold gapN
    rw [if_neg fun q => h (by rw [q.1, q.2]; rfl)]
theorem parts_ne (x : List Nat) (w a : Nat) (C : List Nat) : ∃ h t, partsG x w a C = h :: t := by
  cases C with
  | nil => exact ⟨_, _, rfl⟩
  | cons c C => exact ⟨_, _, rfl⟩
theorem join_cons (sep h : List Nat) {L : List (List Nat)} (hL : L ≠ []) : joinG sep (h :: L) = h ++ sep ++ joinG sep L := by
  cases L with
  | nil => exact absurd rfl hL
  | cons a L => rfl
theorem occ_two (x : List Nat) (lim n free i : Nat) {r : List Nat} (h : free ≤ i) (hn : n < lim) : occG [4, 5] lim n free i (4 :: 5 :: r) = i :: occG [4, 5] lim (n + 1) (i + 2) (i + 2) r := by
  conv => lhs; unfold occG
  rw [if_pos ⟨hn, h, rfl⟩]
  congr 1
  show occG [4, 5] lim (n + 1) (i + 2) (i + 1) (5 :: r) = _
  conv => lhs; unfold occG
  rw [if_neg fun q => absurd q.2.1 (by omega)]
theorem occ_skip (lim n free i a : Nat) {r : List Nat} (h : ¬ (a :: r).take 2 = [4, 5]) : occG [4, 5] lim n free i (a :: r) = occG [4, 5] lim n free (i + 1) r := by
  conv => lhs; unfold occG
  rw [if_neg fun q => h q.2.2]
theorem occ_nil (lim n free i : Nat) : occG [4, 5] lim n free i ([] : List Nat) = [] := by
  unfold occG
  rw [if_neg fun q => by simp at q]
theorem seg_step {x r : List Nat} {a i c : Nat} (hx : x.drop i = c :: r) (ha : a ≤ i) : (x.drop a).take (i + 1 - a) = (x.drop a).take (i - a) ++ [c] := by
  rw [show i + 1 - a = (i - a) + 1 by omega, List.take_add, List.drop_drop, show a + (i - a) = i by omega, hx]
  rfl
theorem seg_end {x r : List Nat} {a i : Nat} (hx : x.drop i = r) (ha : a ≤ i) : (x.drop a).take (i - a) ++ r = x.drop a := by
  rw [← hx]
  have := List.take_append_drop (i - a) (x.drop a)
  rw [List.drop_drop, show a + (i - a) = i by omega] at this
  exact this
theorem drop_one {x r : List Nat} {i c : Nat} (h : x.drop i = c :: r) : x.drop (i + 1) = r := by
  rw [← List.drop_drop, h]; rfl
theorem two_of {a : Nat} {r : List Nat} (h : (a :: r).take 2 = [4, 5]) : ∃ r2, a :: r = 4 :: 5 :: r2 := by
  match r, h with
  | b :: r2, h =>
    have e : [a, b] = [4, 5] := h
    injection e with e1 e2
    injection e2 with e2 _
    exact ⟨r2, by rw [e1, e2]⟩
theorem join_parts (x : List Nat) (lim : Nat) : ∀ (k : Nat) (r : List Nat) (i n free a : Nat), r.length ≤ k → x.drop i = r → a ≤ i → free ≤ i → n + r.length < lim → joinG [4, 5] (partsG x 2 a (occG [4, 5] lim n free i r)) = x.drop a
  | _, [], i, n, free, a, _, hx, ha, hf, hn => by rw [occ_nil]; rfl
  | 0, _ :: _, _, _, _, _, hk, _, _, _, _ => absurd hk (Nat.not_succ_le_zero _)
  | k + 1, c :: r, i, n, free, a, hk, hx, ha, hf, hn => by
    rw [List.length_cons] at hk hn
    by_cases h : (c :: r).take 2 = [4, 5]
    · obtain ⟨r2, e⟩ := two_of h
      rw [e] at hx ⊢
      have el := congrArg List.length e
      simp only [List.length_cons] at el
      rw [occ_two x _ _ _ _ hf (by omega)]
      show joinG [4, 5] ((x.drop a).take (i - a) :: partsG x 2 (i + 2) _) = _
      obtain ⟨hh, tt, ep⟩ := parts_ne x 2 (i + 2) (occG [4, 5] lim (n + 1) (i + 2) (i + 2) r2)
      rw [join_cons _ _ (by rw [ep]; exact List.cons_ne_nil _ _), join_parts x lim k r2 (i + 2) (n + 1) (i + 2) (i + 2) (by omega) (by rw [← List.drop_drop, hx]; rfl) (Nat.le_refl _) (Nat.le_refl _) (by omega)]
      have h2 : x.drop (i + 2) = r2 := by rw [← List.drop_drop, hx]; rfl
      rw [h2]
      refine Eq.trans ?_ (seg_end hx ha)
      simp
    · rw [occ_skip _ _ _ _ _ h]
      exact join_parts x lim k r (i + 1) n free a (by omega) (drop_one hx) (by omega) (by omega) (by omega)
theorem gap_go (x : List Nat) (c lim : Nat) : ∀ (k : Nat) (r : List Nat) (i n free a p : Nat), r.length ≤ k → x.drop i = r → a ≤ i → free ≤ i → n + r.length < lim →
    joinG [4, 5] ((partsG x 2 a (occG [4, 5] lim n free i r)).take (p + 1)) ++ [4, 4, 5, c, 4, 5, 5] ++ joinG [4, 5] ((partsG x 2 a (occG [4, 5] lim n free i r)).drop (p + 1)) = (x.drop a).take (i - a) ++ gapN c p r
  | _, [], i, n, free, a, p, _, hx, ha, hf, hn => by
    rw [occ_nil, ← List.append_nil ((x.drop a).take (i - a)), seg_end hx ha]
    show joinG [4, 5] ([x.drop a].take (p + 1)) ++ _ ++ joinG [4, 5] ([x.drop a].drop (p + 1)) = x.drop a ++ [4, 4, 5, c, 4, 5, 5]
    simp [joinG]
  | 0, _ :: _, _, _, _, _, _, hk, _, _, _, _ => absurd hk (Nat.not_succ_le_zero _)
  | k + 1, d :: r, i, n, free, a, p, hk, hx, ha, hf, hn => by
    rw [List.length_cons] at hk hn
    by_cases h : (d :: r).take 2 = [4, 5]
    · obtain ⟨r2, e⟩ := two_of h
      rw [e] at hx ⊢
      have el := congrArg List.length e
      simp only [List.length_cons] at el
      have h2 : x.drop (i + 2) = r2 := by rw [← List.drop_drop, hx]; rfl
      rw [occ_two x _ _ _ _ hf (by omega)]
      show joinG [4, 5] (((x.drop a).take (i - a) :: partsG x 2 (i + 2) _).take (p + 1)) ++ _ ++ joinG [4, 5] (((x.drop a).take (i - a) :: partsG x 2 (i + 2) _).drop (p + 1)) = _
      rw [List.take_succ_cons, List.drop_succ_cons]
      cases p with
      | zero =>
        rw [List.take_zero, List.drop_zero, join_parts x lim k r2 (i + 2) (n + 1) (i + 2) (i + 2) (by omega) h2 (Nat.le_refl _) (Nat.le_refl _) (by omega), h2]
        have eg : gapN c 0 (4 :: 5 :: r2) = [4, 4, 5, c, 4, 5, 5] ++ r2 := rfl
        rw [eg, ← List.append_assoc]
        rfl
      | succ p =>
        have ih := gap_go x c lim k r2 (i + 2) (n + 1) (i + 2) (i + 2) p (by omega) h2 (Nat.le_refl _) (Nat.le_refl _) (by omega)
        rw [Nat.sub_self, List.take_zero, List.nil_append] at ih
        have eg : gapN c (p + 1) (4 :: 5 :: r2) = 4 :: 5 :: gapN c p r2 := rfl
        obtain ⟨hh, tt, ep⟩ := parts_ne x 2 (i + 2) (occG [4, 5] lim (n + 1) (i + 2) (i + 2) r2)
        rw [eg, ← ih, join_cons _ _ (by rw [ep, List.take_succ_cons]; exact List.cons_ne_nil _ _)]
        simp [List.append_assoc]
    · rw [occ_skip _ _ _ _ _ h, gap_go x c lim k r (i + 1) n free a p (by omega) (drop_one hx) (by omega) (by omega) (by omega), seg_step hx ha, gap_skip _ _ _ _ h, List.append_assoc]
      rfl
theorem step_gap (x : List Nat) (c p : Nat) : joinG [4, 5] ((splitG x [4, 5] (x.length + 1)).take (p + 1)) ++ [4, 4, 5, c, 4, 5, 5] ++ joinG [4, 5] ((splitG x [4, 5] (x.length + 1)).drop (p + 1)) = gapN c p x := by
  have := gap_go x c (x.length + 1) x.length x 0 0 0 0 p (Nat.le_refl _) rfl (Nat.le_refl _) (Nat.le_refl _) (by omega)
  rw [Nat.sub_self, List.take_zero, List.nil_append] at this
  exact this
theorem render_head (t : BT) : ∃ r, render t = 4 :: r := by cases t <;> exact ⟨_, rfl⟩
theorem gap_pass (c : Nat) : ∀ (t : BT), leT t → ∀ (p : Nat) (r : List Nat), gapN c (p + ((inord t).length + 1)) (render t ++ r) = render t ++ gapN c p r
  | .leaf, _, p, r => rfl
  | .node l y u, ⟨hl, hy, hu⟩, p, r => by
    have e : render (.node l y u) ++ r = 4 :: (render l ++ (y :: (render u ++ 5 :: r))) := by simp [render]
    rw [e]
    obtain ⟨rl, el⟩ := render_head l
    rw [gap_skip _ _ _ _ (by rw [el]; simp)]
    have en : p + ((inord (.node l y u)).length + 1) = (p + ((inord u).length + 1)) + ((inord l).length + 1) := by
      simp only [inord, List.length_append, List.length_cons]; omega
    rw [en, gap_pass c l hl]
    obtain ⟨ru, eu⟩ := render_head u
    rw [gap_skip _ _ _ _ (by rw [eu]; simp), gap_pass c u hu, gap_skip _ _ _ _ (by simp)]
    simp [render]
noncomputable def cnt (c : Nat) (l : List Nat) : Nat := l.countP fun y => decide (y < c)
theorem gap_tree (c : Nat) : ∀ (t : BT), leT t → (inord t).Pairwise (· ≤ ·) → ∀ (r : List Nat), gapN c (cnt c (inord t)) (render t ++ r) = render (insB c t) ++ r
  | .leaf, _, _, r => rfl
  | .node l y u, ⟨hl, hy, hu⟩, hs, r => by
    obtain ⟨h1, h2, h3⟩ := List.pairwise_append.mp hs
    obtain ⟨h4, h5⟩ := List.pairwise_cons.mp h2
    have e : render (.node l y u) ++ r = 4 :: (render l ++ (y :: (render u ++ 5 :: r))) := by simp [render]
    rw [e]
    obtain ⟨rl, el⟩ := render_head l
    rw [gap_skip _ _ _ _ (by rw [el]; simp)]
    have ec : cnt c (inord (.node l y u)) = cnt c (inord l) + ((if y < c then 1 else 0) + cnt c (inord u)) := by
      unfold cnt
      rw [show inord (.node l y u) = inord l ++ y :: inord u from rfl, List.countP_append, List.countP_cons]
      simp only [decide_eq_true_eq]
      omega
    rw [ec]
    unfold insB
    by_cases q : c ≤ y
    · rw [Nat.ble_eq_true_of_le q, if_neg (by omega)]
      have e0 : cnt c (inord u) = 0 := List.countP_eq_zero.mpr fun z hz => by
        have := h4 z hz
        simp only [decide_eq_true_eq]
        omega
      rw [e0, show cnt c (inord l) + (0 + 0) = cnt c (inord l) from rfl, gap_tree c l hl h1]
      simp [render]
    · have qf : Nat.ble c y = false := by
        cases e : Nat.ble c y with
        | false => rfl
        | true => exact absurd (Nat.le_of_ble_eq_true e) q
      rw [qf, if_pos (by omega)]
      have e0 : cnt c (inord l) = (inord l).length := List.countP_eq_length.mpr fun z hz => by
        have := h3 z hz y (.head _)
        simp only [decide_eq_true_eq]
        omega
      rw [e0, show (inord l).length + (1 + cnt c (inord u)) = cnt c (inord u) + ((inord l).length + 1) by omega, gap_pass c l hl]
      obtain ⟨ru, eu⟩ := render_head u
      rw [gap_skip _ _ _ _ (by rw [eu]; simp), gap_tree c u hu h5]
      simp [render]
theorem cnt_at (c : Nat) : ∀ (l : List Nat) (b : Nat), b ≤ l.length → (∀ i, i < b → l.getD i 0 < c) → (∀ i, b ≤ i → i < l.length → ¬ l.getD i 0 < c) → cnt c l = b
  | [], b, h, _, _ => (Nat.le_zero.mp h).symm
  | y :: l, 0, h, _, h2 => by
    refine List.countP_eq_zero.mpr fun z hz => ?_
    obtain ⟨i, hi, e⟩ := List.getElem_of_mem hz
    have := h2 i (Nat.zero_le _) hi
    rw [getD_at hi, e] at this
    simpa using this
  | y :: l, b + 1, h, h1, h2 => by
    have h0 := h1 0 (Nat.succ_pos _)
    have h0 : y < c := h0
    have ih := cnt_at c l b (Nat.le_of_succ_le_succ h) (fun i hi => h1 (i + 1) (Nat.succ_lt_succ hi)) fun i hb hi => h2 (i + 1) (Nat.succ_le_succ hb) (Nat.succ_lt_succ hi)
    unfold cnt at ih ⊢
    rw [List.countP_cons_of_pos (by simpa using h0), ih]
theorem bisL_cnt {l : List Nat} (h : l.Pairwise (· ≤ ·)) (x : Nat) : bisL (l.map tkN) (tkN x) = cnt x l := by
  have hh : (∀ i, i < bisL (l.map tkN) (tkN x) → decide ((l.map tkN).getD i 0 < tkN x) = true) ∧ (∀ i, bisL (l.map tkN) (tkN x) ≤ i → i < (l.map tkN).length → decide ((l.map tkN).getD i 0 < tkN x) = false) :=
    bis_find (fun y => decide (y < tkN x)) (l.map tkN) (fun i j hij hj hp => by
      rw [List.length_map] at hj
      have := sorted_at h hij hj
      have hp := of_decide_eq_true hp
      rw [getD_map] at hp ⊢
      unfold tkN at hp ⊢
      exact decide_eq_true (by omega)) (l.map tkN).length 0 (l.map tkN).length (by omega) (Nat.le_refl _) (Nat.zero_le _) (fun i hi => absurd hi (Nat.not_lt_zero _)) (fun i h1 h2 => by omega)
  have hle : bisL (l.map tkN) (tkN x) ≤ l.length := by
    have := bis_le (fun y => decide (y < tkN x)) (l.map tkN) (l.map tkN).length 0 (l.map tkN).length (Nat.zero_le _)
    rw [List.length_map] at this
    unfold bisL
    rw [List.length_map]
    exact this
  generalize bisL (l.map tkN) (tkN x) = b at hh hle ⊢
  refine (cnt_at x l b hle (fun i hi => ?_) fun i hb hi => ?_).symm
  · have := of_decide_eq_true (hh.1 i hi)
    rw [getD_map] at this
    unfold tkN at this
    omega
  · have := of_decide_eq_false (hh.2 i hb (by rw [List.length_map]; exact hi))
    rw [getD_map] at this
    unfold tkN at this
    omega
theorem insG_row {t : BT} (h : (inord t).Pairwise (· ≤ ·)) (x : Nat) : insG (rowT t) (tkN x) = rowT (insB x t) := by
  have hle := bisR_le (rowT t) (tkN x)
  have hh : (∀ i, i < bisR (rowT t) (tkN x) → (!decide (tkN x < (rowT t).getD i 0)) = true) ∧ (∀ i, bisR (rowT t) (tkN x) ≤ i → i < (rowT t).length → (!decide (tkN x < (rowT t).getD i 0)) = false) :=
    bis_find (fun y => !decide (tkN x < y)) (rowT t) (fun i j hij hj hp => by
      unfold rowT at hj hp ⊢
      rw [List.length_map] at hj
      have := sorted_at h hij hj
      rw [getD_map] at hp ⊢
      unfold tkN at hp ⊢
      simp only [Bool.not_eq_true', decide_eq_false_iff_not] at hp ⊢
      omega) (rowT t).length 0 (rowT t).length (by omega) (Nat.le_refl _) (Nat.zero_le _) (fun i hi => absurd hi (Nat.not_lt_zero _)) (fun i h1 h2 => by omega)
  unfold insG
  generalize bisR (rowT t) (tkN x) = b at hle hh ⊢
  unfold rowT at hle hh ⊢
  rw [List.length_map] at hle hh
  rw [← List.map_take, ← List.map_drop, ← List.map_cons, ← List.map_append]
  congr 1
  have hp : ((inord t).take b ++ x :: (inord t).drop b).Perm (inord (insB x t)) := by
    refine List.Perm.trans ?_ (ins_perm x t).symm
    refine List.perm_middle.trans ?_
    rw [List.take_append_drop]
  refine hp.eq_of_pairwise (fun a b _ _ h1 h2 => Nat.le_antisymm h1 h2) ?_ (ins_sorted x t h)
  have ht : ∀ a ∈ (inord t).take b, a ≤ x := fun a ha => by
    obtain ⟨i, hi, e⟩ := List.getElem_of_mem ha
    rw [List.length_take] at hi
    have := hh.1 i (by omega)
    rw [getD_map, getD_at (show i < (inord t).length by omega)] at this
    rw [List.getElem_take] at e
    rw [e] at this
    unfold tkN at this
    simp only [Bool.not_eq_true', decide_eq_false_iff_not] at this
    omega
  have hd : ∀ a ∈ (inord t).drop b, x ≤ a := fun a ha => by
    obtain ⟨i, hi, e⟩ := List.getElem_of_mem ha
    rw [List.length_drop] at hi
    have := hh.2 (b + i) (Nat.le_add_right _ _) (by omega)
    rw [getD_map, getD_at (show b + i < (inord t).length by omega)] at this
    rw [List.getElem_drop] at e
    rw [e] at this
    unfold tkN at this
    simp only [Bool.not_eq_false', decide_eq_true_eq] at this
    omega
  refine List.pairwise_append.mpr ⟨h.sublist (List.take_sublist _ _), List.pairwise_cons.mpr ⟨hd, h.sublist (List.drop_sublist _ _)⟩, fun a ha c hc => ?_⟩
  rcases List.mem_cons.mp hc with rfl | hc
  · exact ht a ha
  · exact Nat.le_trans (ht a ha) (hd c hc)
theorem step_tree {t : BT} (ht : leT t) (h : (inord t).Pairwise (· ≤ ·)) (c : Nat) : treeStep 4 5 tkN (render t, rowT t) c = (render (insB c t), rowT (insB c t)) := by
  have e1 : (treeStep 4 5 tkN (render t, rowT t) c).1 = gapN c (bisL (rowT t) (tkN c)) (render t) := by
    rw [← step_gap]
    unfold treeStep
    simp
  have e2 : (treeStep 4 5 tkN (render t, rowT t) c).2 = rowT (insB c t) := insG_row h c
  have eb : bisL (rowT t) (tkN c) = cnt c (inord t) := bisL_cnt h c
  have eg := gap_tree c t ht h []
  rw [List.append_nil, List.append_nil] at eg
  rw [eb, eg] at e1
  exact Prod.ext e1 e2
theorem tree_bst : ∀ (w : List Nat), (∀ c ∈ w, c ≤ 3) → w.foldr (fun c s => treeStep 4 5 tkN s c) (render .leaf, rowT .leaf) = (render (bst w), rowT (bst w))
  | [], _ => rfl
  | c :: w, h => by
    have h' : ∀ d ∈ w, d ≤ 3 := fun d hd => h d (.tail _ hd)
    rw [List.foldr_cons, tree_bst w h', step_tree (leT_bst w h') (bst_sorted w)]
    rfl
end Mine
namespace Mine

/-! names of signs do not matter -/
section
variable {f : Nat → Nat}
noncomputable abbrev Inj (f : Nat → Nat) : Prop := ∀ a b, f a = f b → a = b
theorem map_inj' (hf : Inj f) {l m : List Nat} : l.map f = m.map f ↔ l = m := List.map_inj_right fun a b => hf a b
theorem mem_inj (hf : Inj f) {a : Nat} {l : List Nat} : f a ∈ l.map f ↔ a ∈ l := by
  rw [List.mem_map]
  exact ⟨fun ⟨b, hb, e⟩ => hf b a e ▸ hb, fun h => ⟨a, h, rfl⟩⟩
theorem mem_inj2 (hf : Inj f) {a : List Nat} {l : List (List Nat)} : a.map f ∈ l.map (·.map f) ↔ a ∈ l := by
  rw [List.mem_map]
  exact ⟨fun ⟨b, hb, e⟩ => (map_inj' hf).mp e ▸ hb, fun h => ⟨a, h, rfl⟩⟩
theorem take_inj (hf : Inj f) (y r : List Nat) : (r.map f).take (y.map f).length = y.map f ↔ r.take y.length = y := by
  rw [← List.map_take, map_inj' hf, List.length_map]
theorem n_occ (hf : Inj f) (y : List Nat) (k : Nat) : ∀ (r : List Nat) (n free i : Nat), occG (y.map f) k n free i (r.map f) = occG y k n free i r
  | [], n, free, i => by
    have h := take_inj hf y []
    rw [List.map_nil] at h ⊢
    unfold occG
    simp only [h]
  | c :: r, n, free, i => by
    have h := take_inj hf y (c :: r)
    rw [List.length_map, List.map_cons] at h
    rw [List.map_cons]
    unfold occG
    simp only [List.length_map, h, n_occ hf y k r]
theorem n_parts (x : List Nat) (w : Nat) : ∀ (l : List Nat) (a : Nat), partsG (x.map f) w a l = (partsG x w a l).map (·.map f)
  | [], a => by rw [partsG, partsG, ← List.map_drop]; rfl
  | c :: r, a => by rw [partsG, partsG, n_parts x w r, ← List.map_drop, ← List.map_take]; rfl
theorem n_split (hf : Inj f) (x y : List Nat) (k : Nat) : splitG (x.map f) (y.map f) k = (splitG x y k).map (·.map f) := by
  unfold splitG
  rw [n_occ hf, n_parts, List.length_map]
theorem n_join (sep : List Nat) : ∀ ps : List (List Nat), joinG (sep.map f) (ps.map (·.map f)) = (joinG sep ps).map f
  | [] => rfl
  | [p] => rfl
  | p :: q :: r => by
    have ih := n_join sep (q :: r)
    show p.map f ++ sep.map f ++ joinG (sep.map f) ((q :: r).map (·.map f)) = (p ++ sep ++ joinG sep (q :: r)).map f
    rw [ih, List.map_append, List.map_append]
theorem n_find (hf : Inj f) (x w : List Nat) (a : Nat) : findG (x.map f) (w.map f) a = findG x w a := by
  unfold findG
  rw [← List.map_drop, n_occ hf]
theorem n_ell (hf : Inj f) (x : List Nat) : ∀ (ws : List (List Nat)) (p : Nat), ellGo (x.map f) (ws.map (·.map f)) p = ellGo x ws p
  | [], p => rfl
  | w :: r, p => by
    show (match findG (x.map f) (w.map f) p with | some i => ellGo (x.map f) (r.map (·.map f)) (i + (w.map f).length) | none => false) = (match findG x w p with | some i => ellGo x r (i + w.length) | none => false)
    rw [n_find hf, List.length_map]
    cases findG x w p with
    | none => rfl
    | some i => exact n_ell hf x r _
theorem n_match (hf : Inj f) (one : List Nat) (a b c : Nat) : matchG (one.map f) (f a) (f b) (f c) = matchG one a b c := n_ell hf one [[], [a, b], [c], []] 0
theorem n_changed (hf : Inj f) (x : List Nat) (a b : Nat) : changedG (x.map f) (f a) (f b) = (changedG x a b).map f := by
  show joinG ([b, a].map f) (splitG (x.map f) ([a, b].map f) 1) = (joinG [b, a] (splitG x [a, b] 1)).map f
  rw [n_split hf, n_join]
theorem n_add (hf : Inj f) (l : List (List Nat)) (x : List Nat) : addG (l.map (·.map f)) (x.map f) = (addG l x).map (·.map f) := by
  unfold addG
  simp only [mem_inj2 hf]
  split
  · rfl
  · rw [List.map_append]; rfl
noncomputable abbrev m3 (f : Nat → Nat) (t : Nat × Nat × Nat) : Nat × Nat × Nat := (f t.1, f t.2.1, f t.2.2)
noncomputable abbrev mS (f : Nat → Nat) (s : List (List Nat) × Bool × Bool) : List (List Nat) × Bool × Bool := (s.1.map (·.map f), s.2)
theorem n_step (hf : Inj f) (one : List Nat) (s : List (List Nat) × Bool × Bool) (t : Nat × Nat × Nat) : wantStep (one.map f) (mS f s) (m3 f t) = mS f (wantStep one s t) := by
  have up : ∀ s, wantUp (one.map f) (mS f s) (m3 f t) = mS f (wantUp one s t) := fun s => by
    unfold wantUp
    rw [n_match hf]
    split
    · rw [n_changed hf, n_add hf]
    · rfl
  have dn : ∀ s, wantDn (one.map f) (mS f s) (m3 f t) = mS f (wantDn one s t) := fun s => by
    unfold wantDn
    rw [n_match hf]
    split
    · rw [n_changed hf, n_add hf]
    · rfl
  unfold wantStep
  rw [up, dn]
theorem n_fold (hf : Inj f) (one : List Nat) : ∀ (l : List (Nat × Nat × Nat)) (s : List (List Nat) × Bool × Bool), (l.map (m3 f)).foldl (wantStep (one.map f)) (mS f s) = mS f (l.foldl (wantStep one) s)
  | [], s => rfl
  | t :: l, s => by rw [List.map_cons, List.foldl_cons, List.foldl_cons, n_step hf, n_fold hf one l]
theorem n_class (hf : Inj f) (ws : List (Nat × Nat × Nat)) : ∀ (n : Nat) (found lows highs : List (List Nat)) (a : Nat), classF (ws.map (m3 f)) n (found.map (·.map f)) (lows.map (·.map f)) (highs.map (·.map f)) a = (classF ws n found lows highs a).map fun r => (r.1.map (·.map f), r.2.1.map (·.map f), r.2.2.map (·.map f))
  | 0, _, _, _, _ => rfl
  | n + 1, found, lows, highs, a => by
    unfold classF
    rw [List.getElem?_map]
    cases found[a]? with
    | none => rfl
    | some one =>
      show classF _ n _ _ _ _ = _
      have e := n_fold hf one ws (found, false, false)
      have e' : (ws.map (m3 f)).foldl (wantStep (one.map f)) (found.map (·.map f), false, false) = mS f (ws.foldl (wantStep one) (found, false, false)) := e
      dsimp only [Option.map_some]
      rw [e']
      have l1 : ∀ (b : Bool) (l : List (List Nat)), (if b = true then l.map (·.map f) else l.map (·.map f) ++ [one.map f]) = (if b = true then l else l ++ [one]).map (·.map f) := fun b l => by
        cases b
        · simp
        · rfl
      rw [l1, l1]
      exact n_class hf ws n _ _ _ _
theorem n_mixed : ∀ (n : Nat) (xs ys : List Nat), mixedF n (xs.map f) (ys.map f) = (mixedF n xs ys).map (·.map f)
  | 0, xs, ys => by show [xs.map f ++ ys.map f] = [(xs ++ ys).map f]; rw [List.map_append]
  | n + 1, [], ys => rfl
  | n + 1, x :: xs, [] => rfl
  | n + 1, x :: xs, y :: ys => by
    have h1 := n_mixed n xs (y :: ys)
    have h2 := n_mixed n (x :: xs) ys
    rw [List.map_cons] at h1 h2
    rw [List.map_cons, List.map_cons, mixedF, mixedF, h1, h2, List.map_append, List.map_map, List.map_map, List.map_map, List.map_map]
    rfl
theorem n_below (hf : Inj f) (kinds : List Nat) (root : Nat) : belowG (kinds.map f) (f root) = (belowG kinds root).map f := by
  unfold belowG
  have e := n_split hf kinds [root] (kinds.length + 1)
  rw [List.length_map]
  rw [show [f root] = [root].map f from rfl, e, List.map_append]
  congr 1
  cases splitG kinds [root] (kinds.length + 1) <;> rfl
theorem n_filter (hf : Inj f) (b : List Nat) (p : Bool → Bool) : ∀ l : List Nat, (l.map f).filter (fun c => p (decide (c ∈ b.map f))) = (l.filter fun c => p (decide (c ∈ b))).map f
  | [] => rfl
  | c :: l => by
    rw [List.map_cons, List.filter_cons, List.filter_cons, n_filter hf b p l]
    simp only [mem_inj hf]
    split <;> rfl
theorem n_filT (hf : Inj f) (b l : List Nat) : (l.map f).filter (fun c => decide (c ∈ b.map f)) = (l.filter fun c => decide (c ∈ b)).map f := n_filter hf b id l
theorem n_filF (hf : Inj f) (b l : List Nat) : (l.map f).filter (fun c => !decide (c ∈ b.map f)) = (l.filter fun c => !decide (c ∈ b)).map f := n_filter hf b (fun b => !b) l
theorem n_flat {g h : List Nat → List (List Nat)} (l : List (List Nat)) (e : ∀ x, g (x.map f) = (h x).map (·.map f)) : (l.map (·.map f)).flatMap g = (l.flatMap h).map (·.map f) := by
  induction l with
  | nil => rfl
  | cons a l ih => rw [List.map_cons, List.flatMap_cons, List.flatMap_cons, ih, e, List.map_append]
theorem n_words (hf : Inj f) (kinds : List Nat) : ∀ (n : Nat) (x : List Nat), wordsF (kinds.map f) n (x.map f) = (wordsF kinds n x).map (·.map f)
  | 0, x => rfl
  | n + 1, x => by
    unfold wordsF
    rw [List.getLast?_map]
    cases hx : x.getLast? with
    | none => rfl
    | some root =>
      show List.flatMap _ _ = (List.flatMap _ _).map _
      rw [n_below hf, ← List.map_dropLast, n_filT hf, n_filF hf, n_words hf kinds n, n_words hf kinds n]
      refine n_flat _ fun one => n_flat _ fun two => ?_
      rw [n_mixed, List.map_map, List.map_map]
      refine List.map_congr_left fun m _ => ?_
      show m.map f ++ [f root] = (m ++ [root]).map f
      rw [List.map_append]; rfl
end
end Mine
namespace Mine

section
variable {f : Nat → Nat} {g : Int → Int}
noncomputable abbrev Mon (g : Int → Int) : Prop := ∀ a b, g a < g b ↔ a < b
theorem n_bis {t t' : Int → Bool} (ht : ∀ y, t' (g y) = t y) (a : List Int) : ∀ (n lo hi : Nat), hi ≤ a.length → bisG t' (a.map g) n lo hi = bisG t a n lo hi
  | 0, _, _, _ => rfl
  | n + 1, lo, hi, h => by
    unfold bisG
    by_cases hl : lo < hi
    · rw [if_pos hl, if_pos hl]
      have hm : (lo + hi) / 2 < a.length := by omega
      have e : (a.map g).getD ((lo + hi) / 2) 0 = g (a.getD ((lo + hi) / 2) 0) := by
        rw [List.getD_eq_getElem?_getD, List.getD_eq_getElem?_getD, List.getElem?_map, List.getElem?_eq_getElem hm]; rfl
      rw [e, ht, n_bis ht a n _ hi h, n_bis ht a n lo _ (Nat.le_of_lt hm)]
    · rw [if_neg hl, if_neg hl]
theorem n_bisL (hg : Mon g) (a : List Int) (x : Int) : bisL (a.map g) (g x) = bisL a x := by
  unfold bisL
  rw [List.length_map]
  exact n_bis (fun y => by rw [decide_eq_decide]; exact hg y x) a _ _ _ (Nat.le_refl _)
theorem n_bisR (hg : Mon g) (a : List Int) (x : Int) : bisR (a.map g) (g x) = bisR a x := by
  unfold bisR
  rw [List.length_map]
  exact n_bis (fun y => congrArg (!·) (by rw [decide_eq_decide]; exact hg x y)) a _ _ _ (Nat.le_refl _)
theorem n_ins (hg : Mon g) (a : List Int) (x : Int) : insG (a.map g) (g x) = (insG a x).map g := by
  unfold insG
  rw [n_bisR hg, List.map_append, List.map_cons, List.map_take, List.map_drop]
theorem n_tstep (hf : Inj f) (hg : Mon g) {lp rp c : Nat} {tok tok' : Nat → Int} (ht : tok' (f c) = g (tok c)) (s : List Nat × List Int) : treeStep (f lp) (f rp) tok' (s.1.map f, s.2.map g) (f c) = ((treeStep lp rp tok s c).1.map f, (treeStep lp rp tok s c).2.map g) := by
  unfold treeStep
  dsimp only
  rw [ht, n_bisL hg, n_ins hg, List.length_map, show [f lp, f rp] = [lp, rp].map f from rfl, n_split hf, ← List.map_take, ← List.map_drop, n_join, n_join]
  simp only [List.map_append, List.map_cons, List.map_nil]
theorem n_tfold (hf : Inj f) (hg : Mon g) {lp rp : Nat} {tok tok' : Nat → Int} : ∀ (l : List Nat) (s : List Nat × List Int), (∀ c ∈ l, tok' (f c) = g (tok c)) → (l.map f).foldl (treeStep (f lp) (f rp) tok') (s.1.map f, s.2.map g) = ((l.foldl (treeStep lp rp tok) s).1.map f, (l.foldl (treeStep lp rp tok) s).2.map g)
  | [], s, _ => rfl
  | c :: l, s, h => by
    rw [List.map_cons, List.foldl_cons, List.foldl_cons, n_tstep hf hg (h c (.head _)), n_tfold hf hg l _ fun x hx => h x (.tail _ hx)]
theorem n_tree (hf : Inj f) (hg : Mon g) {lp rp : Nat} {tok tok' : Nat → Int} (l : List Nat) (h : ∀ c ∈ l, tok' (f c) = g (tok c)) : treeG (f lp) (f rp) tok' (l.map f) = ((treeG lp rp tok l).1.map f, (treeG lp rp tok l).2.map g) := by
  unfold treeG
  rw [← List.map_reverse]
  exact n_tfold hf hg l.reverse ([lp, rp], []) fun c hc => h c (List.mem_reverse.mp hc)
theorem n_repl (hf : Inj f) (y z x : List Nat) : replG (y.map f) (z.map f) (x.map f) = (replG y z x).map f := by
  unfold replG
  rw [List.length_map, n_split hf, n_join]
theorem n_dress (hf : Inj f) (bs q lp rp k0 k1 k2 k3 : Nat) (x : List Nat) : dressG (f bs) (f q) (f lp) (f rp) (f k0) (f k1) (f k2) (f k3) (x.map f) = (dressG bs q lp rp k0 k1 k2 k3 x).map f := by
  unfold dressG
  rw [← n_repl hf, ← n_repl hf, ← n_repl hf, ← n_repl hf]
  rfl
noncomputable abbrev mI (f : Nat → Nat) (it : Int × List Nat) : Int × List Nat := (it.1, it.2.map f)
theorem n_esc (hf : Inj f) (bs : Nat) : ∀ (l : List Nat) (i : Nat) (e : Bool), escG (f bs) i e (l.map f) = (escG bs i e l).map (mI f)
  | [], i, true => rfl
  | [], i, false => rfl
  | c :: l, i, true => by
    show ((i : Int), [f bs, f c]) :: escG (f bs) (i + 1) false (l.map f) = _
    rw [n_esc hf bs l]; rfl
  | c :: l, i, false => by
    show (if f c = f bs then escG (f bs) (i + 1) true (l.map f) else ((i : Int), [f c]) :: escG (f bs) (i + 1) false (l.map f)) = ((if c = bs then escG bs (i + 1) true l else ((i : Int), [c]) :: escG bs (i + 1) false l) : List (Int × List Nat)).map (mI f)
    by_cases h : c = bs
    · rw [if_pos h, if_pos (congrArg f h), n_esc hf bs l]
    · rw [if_neg h, if_neg fun q => h (hf _ _ q), n_esc hf bs l]; rfl
theorem one_inj (hf : Inj f) {l : List Nat} {q : Nat} : l.map f = [f q] ↔ l = [q] := map_inj' hf (m := [q])
theorem n_slice (x : List Nat) (a b : Nat) : sliceG (x.map f) a b = (sliceG x a b).map f := by
  unfold sliceG
  rw [← List.map_drop, ← List.map_take]
noncomputable abbrev mA (f : Nat → Nat) (a : Int × Option Int × List (List Nat)) : Int × Option Int × List (List Nat) := (a.1, a.2.1, a.2.2.map (·.map f))
theorem n_sstep (hf : Inj f) (x : List Nat) (q : Nat) (a : Int × Option Int × List (List Nat)) (it : Int × List Nat) : stripStepG (x.map f) (f q) (mA f a) (mI f it) = mA f (stripStepG x q a it) := by
  obtain ⟨s, o, r⟩ := a
  unfold stripStepG
  simp only [one_inj hf]
  split
  · cases o with
    | none => rfl
    | some o =>
      show (it.1 + 1, none, if s = o then r.map (·.map f) else r.map (·.map f) ++ [sliceG (x.map f) s.toNat o.toNat]) = _
      rw [n_slice]
      show _ = (it.1 + 1, none, (if s = o then r else r ++ [sliceG x s.toNat o.toNat]).map (·.map f))
      split
      · rfl
      · rw [List.map_append]; rfl
  · rfl
theorem n_sfold (hf : Inj f) (x : List Nat) (q : Nat) : ∀ (l : List (Int × List Nat)) (a : Int × Option Int × List (List Nat)), (l.map (mI f)).foldl (stripStepG (x.map f) (f q)) (mA f a) = mA f (l.foldl (stripStepG x q) a)
  | [], a => rfl
  | it :: l, a => by rw [List.map_cons, List.foldl_cons, List.foldl_cons, n_sstep hf, n_sfold hf x q l]
theorem n_strip (hf : Inj f) (x : List Nat) (bs q : Nat) : stripG (x.map f) (f bs) (f q) = (stripG x bs q).map f := by
  unfold stripG
  simp only [mem_inj hf]
  split
  · rw [n_esc hf]
    have e : ((escG bs 0 false x).map (mI f)).foldl (stripStepG (x.map f) (f q)) (0, none, []) = mA f ((escG bs 0 false x).foldl (stripStepG x q) (0, none, [])) := n_sfold hf x q _ (0, none, [])
    rw [e]
    unfold stripEndG
    dsimp only
    rw [List.length_map, n_slice]
    have e2 : ∀ (l : List (List Nat)) (c : Prop) [Decidable c] (z : List Nat), (if c then l.map (·.map f) ++ [z.map f] else l.map (·.map f)) = (if c then l ++ [z] else l).map (·.map f) := fun l c _ z => by
      split
      · rw [List.map_append]; rfl
      · rfl
    rw [e2]
    exact n_join [] _
  · rfl
theorem n_opens (hf : Inj f) (lp rp : Nat) : ∀ (l : List (Int × List Nat)) (o : Int), opensG (f lp) (f rp) o (l.map (mI f)) = opensG lp rp o l
  | [], o => rfl
  | it :: l, o => by
    rw [List.map_cons]
    unfold opensG
    simp only [one_inj hf, n_opens hf lp rp l]
theorem n_check (hf : Inj f) (x : List Nat) (bs q lp rp : Nat) : checkG (x.map f) (f bs) (f q) (f lp) (f rp) = checkG x bs q lp rp := by
  unfold checkG
  rw [n_strip hf, n_esc hf, n_opens hf]
theorem n_rootP (hf : Inj f) (bs q lp rp k0 k1 k2 k3 : Nat) (inner : List Nat) (k : Nat) : rootPG (f bs) (f q) (f lp) (f rp) (f k0) (f k1) (f k2) (f k3) (inner.map f) k = rootPG bs q lp rp k0 k1 k2 k3 inner k := by
  unfold rootPG
  rw [← List.map_take, n_dress hf, n_check hf, List.getElem?_map]
  congr 1
  cases inner[k]? with
  | none => rfl
  | some c =>
    show decide (f c ∈ [k0, k1, k2, k3].map f) = decide (c ∈ [k0, k1, k2, k3])
    rw [decide_eq_decide]
    exact mem_inj hf
theorem n_roots (hf : Inj f) (bs q lp rp k0 k1 k2 k3 : Nat) (inner : List Nat) : rootsG (f bs) (f q) (f lp) (f rp) (f k0) (f k1) (f k2) (f k3) (inner.map f) = rootsG bs q lp rp k0 k1 k2 k3 inner := by
  unfold rootsG
  rw [List.length_map]
  exact List.filter_congr fun k _ => n_rootP hf bs q lp rp k0 k1 k2 k3 inner k
theorem n_sym (hf : Inj f) (hg : Mon g) (bs q lp rp k0 k1 k2 k3 : Nat) {tok tok' : Nat → Int} (ht : ∀ c ∈ [k0, k1, k2, k3], tok' (f c) = g (tok c)) (row : List Int) : ∀ (n : Nat) (text : List Nat), symF (f bs) (f q) (f lp) (f rp) (f k0) (f k1) (f k2) (f k3) tok' (row.map g) n (text.map f) = symF bs q lp rp k0 k1 k2 k3 tok row n text
  | 0, _ => rfl
  | n + 1, text => by
    unfold symF
    dsimp only
    rw [← List.map_drop, ← List.map_dropLast, n_roots hf]
    generalize hin : (text.drop 1).dropLast = inner
    cases hR : rootsG bs q lp rp k0 k1 k2 k3 inner with
    | nil => rfl
    | cons r R =>
      cases R with
      | cons _ _ => rfl
      | nil =>
        dsimp only
        have hm : r ∈ rootsG bs q lp rp k0 k1 k2 k3 inner := by rw [hR]; exact .head _
        have h2 := (List.mem_filter.mp hm).2
        unfold rootPG at h2
        rw [Bool.and_eq_true] at h2
        rw [← List.map_take, ← List.map_drop, n_sym hf hg bs q lp rp k0 k1 k2 k3 ht row n, n_sym hf hg bs q lp rp k0 k1 k2 k3 ht row n, List.getElem?_map]
        cases hc : inner[r]? with
        | none => rw [hc] at h2; exact absurd h2.1 (by simp)
        | some c =>
          rw [hc] at h2
          have e : tok' (f c) = g (tok c) := ht c (of_decide_eq_true h2.1)
          show (256 + ((bisL (row.map g) (tok' (f c)) : Nat) : Int)) :: _ ++ _ = (256 + ((bisL row (tok c) : Nat) : Int)) :: _ ++ _
          rw [e, n_bisL hg]
noncomputable abbrev mP (f : Nat → Nat) (e : List Nat × List Nat) : List Nat × List Nat := (e.1.map f, e.2.map f)
theorem n_rstep (signs : List Nat) (p : Option (List (List Nat × List Nat))) (y : Int) : readStep (signs.map f) (p.map (·.map (mP f))) y = (readStep signs p y).map (·.map (mP f)) := by
  cases p with
  | none => rfl
  | some p =>
    show readStep (signs.map f) (some (p.map (mP f))) y = _
    unfold readStep
    rw [Option.bind_some, Option.bind_some]
    split
    · rw [Option.map_some, List.map_append]; rfl
    · split
      · rw [← List.map_reverse]
        match p.reverse with
        | [] => rfl
        | [_] => rfl
        | l :: r :: rest =>
          show ((signs.map f)[(y - 256).toNat]?).map _ = _
          rw [List.getElem?_map]
          cases signs[(y - 256).toNat]? with
          | none => rfl
          | some c =>
            simp only [Option.map_some, List.map_append, List.map_cons, List.map_nil, List.map_reverse, mP]
      · rfl
theorem n_read (signs : List Nat) (syms : List Int) : readG (signs.map f) syms = (readG signs syms).map (·.map (mP f)) := by
  unfold readG
  have : ∀ (l : List Int) (p : Option (List (List Nat × List Nat))), l.foldl (readStep (signs.map f)) (p.map (·.map (mP f))) = (l.foldl (readStep signs) p).map (·.map (mP f)) := by
    intro l
    induction l with
    | nil => intro p; rfl
    | cons y l ih => intro p; rw [List.foldl_cons, List.foldl_cons, n_rstep, ih]
  exact this syms.reverse (some [])
end
end Mine
namespace Mine
open Sem (wp)

section
variable {w : World} {A : Around} {env : Env} {S : Scope} {s₀ s : Shared} {Z B : List Addr} {φ : Heap} {vs : List (Str × Vp)} {ow : List (Str × Addr × List Vp)} {L : Addr}

/-- ns[::-1], ints -/
theorem Ev.revLI {H : Heap} {value stp : Expr} {p pos : Pos} {ns : List Int} (hv : Ev w A env H value (fun _ v h₁ => (VL (ns.map VI)).p h₁ v)) (hs : Ev w A env H stp (IsI (-1))) (hx : ns.length ≤ 100000) (ht : ∀ o r, letTemporaryGo value o r = pure () := by intro _ _; rfl) :
    Ev w A env H (.Subscript value (.Slice none none (some stp) p) pos) (Nw (VL (ns.reverse.map VI))) := fun s k => by
  refine wpAny_Subscript_Slice_step (T := "list") list_getitem_lookup (hv.use k fun v s₁ k₁ r₁ h₁ => wpAny_Slice (wpAny_pure (wpAny_pure (hs.use (k.trans k₁) fun u s₂ k₂ r₂ h₂ => ?_)))) ht
  obtain ⟨a, us, rfl, hl, hA⟩ := h₁
  obtain ⟨t2, rfl⟩ := h₂
  have hl' : Heap.IsList s₂.heap a us.toArray := hl.mono k₂
  have ez : us.toArray.size = ns.length := by rw [List.size_toArray, hA.length, List.length_map]
  have kk := k₁.trans k₂
  refine ⟨(hl'.push _).typeIs, wpAny_getItem_list_slice (hl'.push _) (Heap.IsSliceOf.new ..) .none .none (.int _ _) (by simp) ?_ (by rw [ez, sizeLine_eq]; omega)⟩
  have hrev : slicePick us.toArray none none (some (-1)) = us.reverse.toArray := by rw [krv_pick]
  have k3 : Keep s₂.heap (s₂.heap.push { cls := .type "slice", data := .fields #[.none, .none, .int (-1) t2] }) := fun b o e => Heap.get?_push_of_some _ e
  have hAr : ∀ φ : Heap, A2 φ us.reverse (ns.reverse.map VI) := fun φ => by
    have : ∀ {ns : List Int} {us : List Value}, A2 φ us (ns.map VI) → A2 φ us.reverse (ns.reverse.map VI) := by
      intro ns
      induction ns with
      | nil => intro us x; cases x; exact .nil
      | cons n ns ih =>
        intro us x
        cases x with
        | cons e x =>
          rw [List.reverse_cons, List.reverse_cons, List.map_append]
          exact (ih x).append (.cons e .nil)
    exact this hA.ints
  refine ⟨fun b o e => Heap.get?_push_of_some _ (k3 _ _ (kk b o e)), ((r₁.trans r₂).ht : Rest s _), fun φ' nn => ?_⟩
  have := nw_push (us := us.reverse) (ps := ns.reverse.map VI) (n := 0) (kk.trans k3) hAr φ'
  refine this ?_
  intro b o e e'
  refine nn b o e ?_
  rw [← e', hrev]
end
end Mine
namespace Mine
open Sem (wp)

section
variable {w : World} {A : Around}

noncomputable abbrev pv (h₀ : Heap) (e : List Nat × List Nat) : Vp := VX h₀ ([e.1, e.2].map VS)

/-- a pair of texts, new -/
theorem Ev.pairX {env : Env} {H h₀ : Heap} {φ : Heap} {e₁ e₂ : Expr} {c : Nat} {p : Pos} {x y : List Nat} (k₀ : Keep h₀ H) (h₁ : Ev w A env H e₁ (IsS (st x))) (h₂ : Ev w A env H e₂ (IsS (st y)))
    (hs : starEach [e₁, e₂] env = (false, eval e₁ env) :: starEach [e₂] env := by rfl) (hs2 : starEach [e₂] env = (false, eval e₂ env) :: starEach [] env := by rfl) : Ev w A env H (.Tuple [e₁, e₂] c p) (Fz φ (pv h₀ (x, y))) :=
  (ev_tup2 h₁ h₂ hs hs2).mono (Keep.refl _) fun h v h' k _ ⟨T, a, b, g₁, g₂, e, hT, hT2, ⟨t1, e1⟩, ⟨t2, e2⟩, _⟩ φ' _ nn => by
    subst e e1 e2
    exact ⟨T, _, rfl, none_back (k₀.trans k) hT, nn _ _ hT hT2, .cons ⟨t1, rfl⟩ (.cons ⟨t2, rfl⟩ .nil)⟩

theorem read_bnd {signs : List Nat} {ys : List Int} (hpre : ∀ i, ∃ p, (ys.take i).foldl (readStep signs) (some []) = some p) : ∀ i, i ≤ ys.length → ∀ p, (ys.take i).foldl (readStep signs) (some []) = some p → pileLen p ≤ 2 * i ∧ p.length ≤ i
  | 0, _, p, h => by cases h; exact ⟨Nat.le_refl _, Nat.le_refl _⟩
  | i + 1, hi, p, h => by
    obtain ⟨q, hq⟩ := hpre i
    obtain ⟨b1, b2⟩ := read_bnd hpre i (Nat.le_of_succ_le hi) q hq
    rw [fold_take _ _ ys (List.getElem?_eq_getElem hi), hq] at h
    obtain ⟨c1, c2⟩ := read_len h
    omega
theorem pile_mem {p : List (List Nat × List Nat)} {e : List Nat × List Nat} (h : e ∈ p) : e.1.length + e.2.length ≤ pileLen p := by
  induction p with
  | nil => cases h
  | cons a p ih =>
    unfold pileLen
    rw [List.map_cons, List.sum_cons]
    rcases List.mem_cons.mp h with rfl | h
    · exact Nat.le_add_right _ _
    · exact Nat.le_trans (ih h) (Nat.le_add_left _ _)

set_option maxHeartbeats 1000000 in
theorem cl_read {H : Heap} {syms : List Int} {signs : List Nat} {R : List (List Nat × List Nat)} {v1 v2 : Value} (T : TopOk w H) (hh : A.handled = none) (hroom : A.depth + 40 < recursionLimit) (h1 : (VL (syms.map VI)).p H v1) (h2 : (VS signs).p H v2)
    (hR : readG signs syms = some R) (hz : syms.length ≤ 200) (hg : signs.length ≤ 1000) :
    Cl w A H (.ref 114) [v1, v2] (Nw (VL (R.map fun e => VT [VS e.1, VS e.2]))) := by
  refine enterS (vs := [("signs", VS signs), ("symbols", VL (syms.map VI))]) T hh rfl (by kernel_rfl) (Nat.lt_of_le_of_lt (Nat.le_add_right _ _) hroom) rfl (binds := [("symbols", v1), ("signs", v2)]) (fun s X => BindsTo.of_eq rfl) (locs rfl) (.cons h2 (.cons h1 .nil)) (by decide) rfl rfl rfl ?_ fun _ _ _ _ k q => nw_mono k q
  intro A' env s₀ s Q k hd C h hQ
  refine seq (h.newL C (ps := []) (Ev.nilL.mono (Keep.refl _) fun _ _ _ _ _ ⟨a, us, e, hn, hl, hs⟩ => ⟨a, us, e, hn, hl, A2.strs (xs := []) hs⟩) rfl rfl rfl fun a s₁ h1 => ?_)
  unfold readG at hR
  have hzr : syms.reverse.length ≤ 200 := by rw [List.length_reverse]; exact hz
  have s0 : PySem.Str.ofString "" = st [] := by decide
  have hrv : ∀ {p p2 p3 p4 p5 : Pos} {c : Nat}, Ev w A' env s₁.heap (.Subscript (.Name "symbols" p) (.Slice none none (some (.UnaryOp .USub (.Constant (.int 1) c p2) p3)) p4) p5) (Nw (VL (syms.reverse.map VI))) := Ev.revLI (h1.nF C rfl rfl) (Ev.neg Ev.cint) (by omega)
  generalize syms.reverse = ys at hR hzr hrv
  have hpre := read_pre hR
  have bnd := read_bnd hpre
  refine seq (h1.for (p := VL (ys.map VI)) (n := (ys.map VI).length) (pI := fun i => (ys.map VI).getD i VN) (nw_fz hrv) (fun φ' v s' _ k' hv => itr_list C.hh k' hv)
    (fun i => [("signs", VS signs)]) (fun i => [("symbol", (ys.map VI).getD i VN), ("signs", VS signs)]) (fun i => [("pile", a, (((ys.take i).foldl (readStep signs) (some [])).getD []).map (pv s₀.heap))]) (.cons rfl .nil) rfl (fun i => tgt_name C rfl rfl) ?_ ?_)
  · intro i I φ₂ s₂ hi k₂ hS back
    rw [List.length_map] at hi
    obtain ⟨p, hp⟩ := hpre i
    obtain ⟨p', hp'⟩ := hpre (i + 1)
    obtain ⟨b1, b2⟩ := bnd i (Nat.le_of_lt hi) p hp
    have e1 : (ys.map VI).getD i VN = VI ys[i] := by rw [List.getD_eq_getElem?_getD, List.getElem?_map, List.getElem?_eq_getElem hi]; rfl
    have hstep : readStep signs (some p) ys[i] = some p' := by
      have := fold_take (readStep signs) (some []) ys (List.getElem?_eq_getElem hi)
      rw [hp', hp] at this
      exact this.symm
    rw [e1] at hS
    generalize ys[i] = y at hS hstep
    simp only [hp, hp', Option.getD_some] at hS back ⊢
    have ks : Keep s₀.heap s₂.heap := (back _ _ _ _ hS).keepE
    have hpz : (p.map (pv s₀.heap)).length ≤ 1000000 := by rw [List.length_map]; omega
    unfold readStep at hstep
    rw [Option.bind_some] at hstep
    refine seq (ifs (Ts.bval (Ev.dcall (V := IsB (y == 0)) hS.tp (hS.gl (v := .ref 86) C rfl (by kernel_rfl)) (by kernel_rfl) (as1 (hS.nI C rfl rfl)) fun vs h₁ h₃ ⟨va, e, e1⟩ ka kb => ?_)) fun s₃ k₃ r₃ => ?_)
    · subst e
      exact cl_iseof (hS.tp.keeps (ka.trans kb)) C.hh (by rw [hd]; omega) e1
    have h3 := hS.step k₃ r₃
    by_cases hy : y = 0
    · rw [if_pos hy] at hstep
      cases hstep
      refine iteT (by simp [hy]) (seq (h3.append (p := pv s₀.heap ([], [])) C rfl rfl hpz (Ev.pairX (ks.trans k₃) (Ev.cS s0) (Ev.cS s0)) fun φ₄ s₄ q₄ h4 => ?_))
      rw [setO_one] at h4
      refine sq0 (sq0 ⟨φ₄, q₄, ?_⟩)
      rw [List.map_append]
      exact h4.weak (.cons rfl .nil)
    · rw [if_neg hy] at hstep
      refine iteF (by simp [hy]) (seq (ifs (Ts.bval (Ev.dcall (V := IsB (decide (256 ≤ y))) h3.tp (h3.gl (v := .ref 79) C rfl (by kernel_rfl)) (by kernel_rfl) (as1 (h3.nI C rfl rfl)) fun vs h₁ h₃ ⟨va, e, e1⟩ ka kb => ?_)) fun s₄ k₄ r₄ => ?_))
      · subst e
        exact cl_isnt (h3.tp.keeps (ka.trans kb)) C.hh (by rw [hd]; omega) e1
      have h4 := h3.step k₄ r₄
      by_cases hy2 : 256 ≤ y
      · rw [if_pos hy2] at hstep
        refine iteT (dT hy2) ?_
        split at hstep
        · rename_i l r rest hpr
          obtain ⟨c, hc, rfl⟩ := Option.map_eq_some_iff.mp hstep
          have ep : p = (rest.reverse ++ [r]) ++ [l] := by
            have := congrArg List.reverse hpr
            rw [List.reverse_reverse] at this
            rw [this]; simp
          have ml : l.1.length + l.2.length ≤ 400 := Nat.le_trans (pile_mem (p := p) (by rw [ep]; simp)) (by omega)
          have mr : r.1.length + r.2.length ≤ 400 := Nat.le_trans (pile_mem (p := p) (by rw [ep]; simp)) (by omega)
          rw [ep, List.map_append, List.map_append] at h4
          rw [ep, List.length_map, List.length_append, List.length_append] at hpz
          obtain ⟨hlt, rfl⟩ := List.getElem?_eq_some_iff.mp hc
          refine seq (h4.pop (ps := rest.reverse.map (pv s₀.heap) ++ [r].map (pv s₀.heap)) (p := pv s₀.heap l) C rfl rfl rfl (by rw [List.length_append, List.length_map, List.length_map]; omega) rfl fun s₅ h5 => ?_)
          rw [setO_one] at h5
          refine seq (h5.pop (ps := rest.reverse.map (pv s₀.heap)) (p := pv s₀.heap r) C rfl rfl rfl (by rw [List.length_map]; omega) rfl fun s₆ h6 => ?_)
          rw [setO_one] at h6
          have eidx : y - 256 = (((y - 256).toNat : Nat) : Int) := by omega
          refine seq (h6.asg C (p := VS [signs[(y - 256).toNat]]) (fzS (Ev.idxS (h6.nS C rfl rfl) (by rw [← eidx]; exact Ev.subI (h6.nI C rfl rfl) Ev.cint) hlt (by omega))) rfl rfl fun φ₇ s₇ q₇ h7 => ?_)
          refine seq (h7.append (p := pv s₀.heap (l.1 ++ r.1 ++ [signs[(y - 256).toNat]], r.2 ++ l.2 ++ [signs[(y - 256).toNat]])) C rfl rfl (by rw [List.length_map]; omega) (Ev.pairX ((back _ _ _ _ h7).keepE)
            (Ev.addT (Ev.addT (Ev.idxP (xs := [l.1, l.2]) (i := 0) (h7.nF C rfl rfl) Ev.cint rfl (by decide)) (Ev.idxP (xs := [r.1, r.2]) (i := 0) (h7.nF C rfl rfl) Ev.cint rfl (by decide)) (by omega)) (h7.nS C rfl rfl) (by rw [List.length_append, List.length_singleton]; omega))
            (Ev.addT (Ev.addT (Ev.idxP (xs := [r.1, r.2]) (i := 1) (h7.nF C rfl rfl) Ev.cint rfl (by decide)) (Ev.idxP (xs := [l.1, l.2]) (i := 1) (h7.nF C rfl rfl) Ev.cint rfl (by decide)) (by omega)) (h7.nS C rfl rfl) (by rw [List.length_append, List.length_singleton]; omega))) fun φ₈ s₈ q₈ h8 => ?_)
          rw [setO_one] at h8
          refine sq0 (sq0 (sq0 ⟨φ₈, q₇.trans q₈, ?_⟩))
          rw [List.map_append]
          exact h8.weak (.cons rfl .nil)
        · cases hstep
      · rw [if_neg hy2] at hstep
        cases hstep
        exact iteF (dF hy2) (sq0 (sq0 (sq0 ⟨φ₂, Keep.refl _, h4.weak (.cons rfl .nil)⟩)))
  · intro φ₂ s₂ k₂ h2
    simp only [List.length_map, List.take_length, hR, Option.getD_some] at h2
    obtain ⟨⟨us, hp, hA⟩, _, _, hn⟩ := h2.own _ (.head _)
    refine seq (rets (h2.nO C rfl rfl) fun v s₃ k₃ r₃ hv => ?_)
    have h3 := h2.step k₃ r₃
    subst hv
    have hna : s₀.heap.get? a = none := hn.elim (fun q => by cases q) id
    refine hQ _ _ h3.keepE h3.rest fun φ' nn => ?_
    obtain ⟨n, l⟩ := plain_keeps hp k₃
    refine ⟨a, us, rfl, ⟨_, nn _ _ hna l, rfl, n, rfl⟩, ?_⟩
    have conv : ∀ {R : List (List Nat × List Nat)} {us : List Value}, A2 φ₂ us (R.map (pv s₀.heap)) → A2 φ' us (R.map fun e => VT [VS e.1, VS e.2]) := by
      intro R
      induction R with
      | nil => intro us x; cases x; exact .nil
      | cons e R ih =>
        intro us x
        cases x with
        | cons q x =>
          refine .cons ?_ (ih x)
          obtain ⟨T, vs, rfl, hT, hT2, hv⟩ := q
          exact ⟨T, vs, rfl, nn _ _ hT (k₃ _ _ (h2.kp _ _ hT2)), A2.strs (A2.toSL (xs := [e.1, e.2]) hv)⟩
    exact conv hA
end
end Mine
namespace Mine
open Sem (wp)

section
variable {w : World} {A : Around} {env : Env}

/-- a text not in a list of texts -/
theorem Ts.notInL {H : Heap} {l r : Expr} {p : Pos} {x : List Nat} {xs : List (List Nat)} (hl : Ev w A env H l (IsS (st x))) (hr : Ev w A env H r (fun _ v h₁ => (VL (xs.map VS)).p h₁ v)) (hm : behindInMarks .NotIn r = false := by with_unfolding_all rfl) :
    Ts w A env H (.Compare l [.NotIn] [r] p) (!decide (x ∈ xs)) := by
  refine Ts.cmp hl hr (fun _ _ _ _ _ s ⟨t, ha⟩ ⟨a, us, hb, hl', hA⟩ k => ?_) hm
  subst ha hb
  refine notin_list_strs (ys := xs.map st) (hl'.mono k) hA.toSL ⟨Keep.refl _, Rest.refl _, ?_⟩
  have : ((xs.map st).any (· == st x)) = decide (x ∈ xs) := by
    rw [Bool.eq_iff_iff, List.any_eq_true, decide_eq_true_eq]
    constructor
    · rintro ⟨y, hy, e⟩
      obtain ⟨z, hz, rfl⟩ := List.mem_map.mp hy
      rw [st_inj (beq_iff_eq.mp e)] at hz
      exact hz
    · intro h
      exact ⟨st x, List.mem_map.mpr ⟨x, h, rfl⟩, beq_self_eq_true _⟩
  rw [this]
end
end Mine
namespace Mine
open Sem (wp)

section
variable {w : World} {A : Around} {env : Env} {S : Scope} {s₀ s : Shared} {Z B : List Addr} {φ : Heap} {vs : List (Str × Vp)} {ow : List (Str × Addr × List Vp)} {L : Addr}

theorem ev_tup3 {H : Heap} {e₁ e₂ e₃ : Expr} {c : Nat} {p : Pos} {V₁ V₂ V₃ : Heap → Value → Heap → Prop} (h₁ : Ev w A env H e₁ V₁) (h₂ : Ev w A env H e₂ V₂) (h₃ : Ev w A env H e₃ V₃)
    (hs : starEach [e₁, e₂, e₃] env = (false, eval e₁ env) :: starEach [e₂, e₃] env := by rfl) (hs2 : starEach [e₂, e₃] env = (false, eval e₂ env) :: starEach [e₃] env := by rfl) (hs3 : starEach [e₃] env = (false, eval e₃ env) :: starEach [] env := by rfl) :
    Ev w A env H (.Tuple [e₁, e₂, e₃] c p) (fun h₀ v h₄ => ∃ T a b c g₁ g₂ g₃, v = .ref T ∧ h₀.get? T = none ∧ IsTup h₄ T [a, b, c] ∧ V₁ h₀ a g₁ ∧ V₂ g₁ b g₂ ∧ V₃ g₂ c g₃) := fun s k =>
  wpAny_Tuple ((as3 h₁ h₂ h₃ (pos := p) hs hs2 hs3).use k fun vs s₁ k₁ r₁ q => by
    obtain ⟨a, b, c, g₁, g₂, rfl, q1, q2, q3, _⟩ := q
    exact ⟨by rw [sizeLine_eq]; show 3 ≤ 16777216; decide, fun b o e => Heap.get?_push_of_some _ (k₁ b o e), r₁.ht, _, a, b, c, g₁, g₂, _, rfl, none_back k₁ (size_none _), Heap.get?_push_size _ rfl, q1, q2, q3⟩)

/-- an own list that is turned no more -/
theorem St.freeze {x : Str} {a : Addr} {ps : List Vp} (h : St w s₀ Z B φ L vs ((x, a, ps) :: ow) s) : ∃ φ', Keep φ φ' ∧ St w s₀ Z B φ' L ((x, VL ps) :: vs) ow s := by
  obtain ⟨⟨us, hp, hA⟩, hφ, haL, haZ⟩ := h.own _ (.head _)
  have dom : ∀ b, b ∈ L :: (B ++ ow.map (·.2.1)) → φ.get? b = none := fun b hb => by
    rcases List.mem_cons.mp hb with rfl | hb
    · exact h.L0
    · rcases List.mem_append.mp hb with hb | hb
      · exact (h.bz b hb).1
      · obtain ⟨e, he, rfl⟩ := List.mem_map.mp hb
        exact (h.own e (.tail _ he)).2.1
  have ha : a ∉ L :: (B ++ ow.map (·.2.1)) := fun hb => by
    rcases List.mem_cons.mp hb with hb | hb
    · exact haL hb
    · rcases List.mem_append.mp hb with hb | hb
      · exact (h.bz a hb).2.1.2 _ (.head _) rfl
      · obtain ⟨e, he, q⟩ := List.mem_map.mp hb
        exact (List.pairwise_cons.mp h.dis).1 e he q.symm
  have k1 : Keep φ (clr (L :: (B ++ ow.map (·.2.1))) s.heap) := fun b o e => by
    rw [clr_get, if_neg fun q => by rw [dom b q] at e; cases e]
    exact h.kp b o e
  refine ⟨clr (L :: (B ++ ow.map (·.2.1))) s.heap, k1, h.top.keeps k1, fun b o e => ?_, h.xt, h.rest, by rw [clr_get, if_pos (.head _)], h.LZ, ?_, fun e he => ?_, (List.pairwise_cons.mp h.dis).2, fun b hb => ?_⟩
  · rw [clr_get] at e
    split at e
    · cases e
    · exact e
  · obtain ⟨m, n, hm, ho⟩ := h.ns
    refine ⟨m, n, fun y p e => ?_, fun e he => ho e (.tail _ he)⟩
    rw [List.lookup_cons] at e
    split at e
    · rename_i hy
      cases e
      rw [beq_iff_eq.mp hy]
      obtain ⟨n, l⟩ := hp
      exact ⟨_, ho _ (.head _), a, us, rfl, ⟨_, by rw [clr_get, if_neg ha]; exact l, rfl, n, rfl⟩, hA.mono k1⟩
    · obtain ⟨v, hv, q⟩ := hm y p e
      exact ⟨v, hv, p.mono k1 q⟩
  · obtain ⟨⟨us, l, x⟩, _, c⟩ := h.own e (.tail _ he)
    exact ⟨⟨us, l, x.mono k1⟩, by rw [clr_get, if_pos (List.mem_cons_of_mem _ (List.mem_append_right _ (List.mem_map.mpr ⟨e, he, rfl⟩)))], c⟩
  · obtain ⟨_, ⟨y, z⟩, o⟩ := h.bz b hb
    exact ⟨by rw [clr_get, if_pos (List.mem_cons_of_mem _ (List.mem_append_left _ hb))], ⟨y, fun e he => z e (.tail _ he)⟩, o⟩

theorem Ts.not {H : Heap} {e : Expr} {p : Pos} {b : Bool} (h : Ts w A env H e b) : Ts w A env H (.UnaryOp .Not e p) (!b) := fun s k =>
  isTrue_not (wpAny_mono (h s k) (fun c s' x => ⟨x.1, x.2.1, congrArg _ x.2.2⟩) fun _ _ x => x)

/-- for x, y, z in .. -/
theorem tgt_tup3 {x y z : Str} {px py pz pos : Pos} {c : Nat} {p q r : Vp} (C : Cx A env S) (hx : S.names.lookup x = some .local) (hy : S.names.lookup y = some .local) (hz : S.names.lookup z = some .local) (ox : getO ow x = none) (oy : getO ow y = none) (oz : getO ow z = none) :
    Tgt w A env (.Tuple [.Name x px, .Name y py, .Name z pz] c pos) (VT [p, q, r]) vs ((z, r) :: (y, q) :: (x, p) :: vs) ow := by
  intro s₀ s Z B φ I v Q h hI ⟨o, ho, hpl⟩ hv hq
  obtain ⟨T, us, rfl, hT, hA⟩ := hv
  cases hA with
  | cons e1 hA => cases hA with
    | cons e2 hA => cases hA with
      | cons e3 hA =>
        cases hA
        rename_i a b d
        have go : ∀ (Q' : Unit → Shared → Prop), Q' () s → wpAny (model prg w) A (letOwnedTupleGo (.Tuple [.Name x px, .Name y py, .Name z pz] c pos) (.ref I) (.ref T)) Q' noE s := fun Q' hq => by
          show wpAny (model prg w) A (load I >>= _) Q' noE s
          refine wpAny_bind (wpAny_load ho ?_)
          split
          · rename_i n us hc hd
            rw [hpl n hc, Bool.false_and]
            exact wpAny_pure hq
          · exact wpAny_pure hq
        refine go _ (wpAny_assign_Tuple (items := #[a, b, d]) C.hh ⟨_, h.kp _ _ hT, rfl, _, rfl⟩ rfl rfl fun h₁ he => ?_)
        have k1 : Keep s.heap h₁ := fun b o e => he b o (Nat.ne_of_lt (Heap.lt_size e)) e
        have h1 := h.step (s' := { s with heap := h₁ }) k1 rht
        have hp : (env.scope.kind == .class || (env.scope.kind == .module && env.locals != env.globals)) = false := by rw [C.k]; rfl
        show wpAny _ A (do holding [b, d] (assign (.Name x px) env a); do holding [d] (assign (.Name y py) env b); do holding [] (assign (.Name z pz) env d); pure ()) _ _ _
        obtain ⟨m, hn, hm⟩ := h1.ns
        refine wpAny_bind (wpAny_holding (wpAny_assign_Name (wpAny_storeName_local (C.of hx) hn (fun h₂ hn₂ hs₂ => ?_) hp)))
        have h2 := h1.put (t := s.toks + 1) ox e1 hm hn₂ hs₂
        obtain ⟨m2, hn2, hm2⟩ := h2.ns
        refine wpAny_bind (wpAny_holding (wpAny_assign_Name (wpAny_storeName_local (C.of hy) hn2 (fun h₃ hn₃ hs₃ => ?_) hp)))
        have h3 := h2.put (t := s.toks + 1 + 1) oy e2 hm2 hn₃ hs₃
        obtain ⟨m3, hn3, hm3⟩ := h3.ns
        refine wpAny_bind (wpAny_holding (wpAny_assign_Name (wpAny_storeName_local (C.of hz) hn3 (fun h₄ hn₄ hs₄ => wpAny_pure ?_) hp)))
        exact hq _ (h3.put oz e3 hm3 hn₄ hs₄) ((((Xt.of_keep k1).trans (Xt.of_same hs₂ (List.mem_singleton.mpr rfl))).trans (Xt.of_same hs₃ (List.mem_singleton.mpr rfl))).trans (Xt.of_same hs₄ (List.mem_singleton.mpr rfl)))

/-- [e], a text: a list of one's own -/
theorem Ev.listN1 {H : Heap} {e : Expr} {p : Pos} {x : List Nat} (he : Ev w A env H e (IsS (st x))) (hs : starEach [e] env = (false, eval e env) :: starEach [] env := by rfl) :
    Ev w A env H (.List [e] p) (fun h₀ v h₁ => ∃ a us, v = .ref a ∧ h₀.get? a = none ∧ h₁.PlainList a us.toArray ∧ A2 φ us ([x].map VS)) := fun s k =>
  wpAny_List (wpAny_items_cons (he.use k fun v s₁ k₁ r₁ ⟨t, hv⟩ => wpAny_items_nil ⟨by rw [sizeLine_eq]; show 1 ≤ 16777216; decide, fun b o e => Heap.get?_push_of_some _ (k₁ b o e), r₁.ht, _, _, rfl, none_back k₁ (size_none _), ⟨_, Heap.get?_push_size _ rfl⟩, .cons ⟨t, hv⟩ .nil⟩) hs)
theorem Ev.nilO {H : Heap} {p : Pos} : Ev w A env H (.List [] p) (fun h₀ v h₁ => ∃ a us, v = .ref a ∧ h₀.get? a = none ∧ h₁.PlainList a us.toArray ∧ A2 φ us []) :=
  Ev.nilL.mono (Keep.refl _) fun _ _ _ _ _ ⟨a, us, e, hn, hl, hs⟩ => ⟨a, us, e, hn, hl, A2.strs (xs := []) hs⟩

theorem range_flat {β : Type} (f : Nat → List β) (i : Nat) : (List.range (i + 1)).flatMap f = (List.range i).flatMap f ++ f i := by
  rw [List.range_succ, List.flatMap_append]
  simp

theorem own_outS {a : Addr} {us : List Value} {xs : List (List Nat)} {h₀ h₁ : Heap} (hn : h₀.get? a = none) (hl : h₁.PlainList a us.toArray) (hA : A2 φ us (xs.map VS)) {φ' : Heap} (nn : ∀ b o, h₀.get? b = none → h₁.get? b = some o → φ'.get? b = some o) : (VL (xs.map VS)).p φ' (.ref a) := by
  obtain ⟨n, e⟩ := hl
  exact ⟨a, us, rfl, ⟨_, nn _ _ hn e, rfl, n, rfl⟩, A2.strs hA.toSL⟩
end
end Mine
namespace Mine
open Sem (wp)

section
variable {w : World} {A : Around} {env : Env} {S : Scope} {s₀ s : Shared} {Z B : List Addr} {φ : Heap} {vs : List (Str × Vp)} {ow : List (Str × Addr × List Vp)} {L : Addr}

theorem setO_same {x : Str} {a : Addr} {ps : List Vp} : ∀ {ow : List (Str × Addr × List Vp)}, getO ow x = some (a, ps) → setO ow x ps = ow
  | e :: r, h => by
    unfold getO at h
    unfold setO
    cases hb : e.1 == x with
    | true => rw [hb] at h; have h' : e.2 = (a, ps) := Option.some.inj h; obtain ⟨e1, e2⟩ := e; cases h'; rfl
    | false => rw [hb] at h; exact congrArg (e :: ·) (setO_same h)
theorem fzB {H : Heap} {e : Expr} {b : Bool} (h : Ev w A env H e (IsB b)) : Ev w A env H e (Fz φ (VB b)) := h.mono (Keep.refl _) fun _ _ _ _ _ x _ _ _ => x
theorem low21 {c : Nat} (h : c ∈ order21) : c < 256 ∧ c ≠ 46 := by
  have : ∀ c ∈ order21, c < 256 ∧ c ≠ 46 := by decide
  exact this c h
theorem lk_ne {x y : Str} {p : Vp} (h : (x == y) = false) : ((y, p) :: vs).lookup x = vs.lookup x := by rw [List.lookup_cons, h]

/-- if _ellipsis_match(..): .. -/
theorem want_if {fl un : Str} {one : List Nat} {found : List (List Nat)} {u v c : Nat} {old : Bool} {a : Addr} {p1 p2 p3 p4 p5 p6 p7 p8 p9 p10 p11 p12 p13 p14 p15 p16 p17 p18 p19 p20 p21 p22 p23 p24 p25 p26 p27 : Pos} {c1 c2 : Nat}
    (h : St w s₀ Z B φ env.locals vs ow s) (C : Cx A env S) (hroom : A.depth + 20 < recursionLimit) (hfl : vs.lookup fl = some (VB old)) (hl : S.names.lookup fl = some .local) (ofl : getO ow fl = none) (hun : vs.lookup un = some (VS [u, v])) (hlun : S.names.lookup un = some .local)
    (hone : vs.lookup ("one" : Str) = some (VS one)) (hlone : S.names.lookup ("one" : Str) = some .local) (hrest : vs.lookup ("rest" : Str) = some (VS ([46, 46, 46] ++ [c] ++ [46, 46, 46]))) (hlrest : S.names.lookup ("rest" : Str) = some .local)
    (hfo : getO ow ("found" : Str) = some (a, found.map VS)) (hlfo : S.names.lookup ("found" : Str) = some .local) (hel : S.names.lookup ("_ellipsis_match" : Str) = some .globalImplicit) (hch : S.names.lookup ("_law_changed" : Str) = some .globalImplicit)
    (hd : (un == ("__debug__" : Str)) = false) (hne : (un == fl) = false) (hne2 : ((("one" : Str)) == fl) = false) (hu : u ∈ order21) (hv : v ∈ order21) (hc : c ∈ order21) (hz : one.length ≤ 100) (hfz : found.length ≤ 1000)
    {pl : Sem Bool} (hev : eval (.Call (.Attribute (.Name "found" p18) "append" p19) [.Call (.Name "_law_changed" p20) [.Name "one" p21, .Name un p22] [] p23] [] p24) env = (do
      let ov ← eval (.Name "found" p18) env
      standAt p19.atName
      let (f, first) ← holding [ov] (getMethod ov "append" pl)
      callWith p24 f first (backTo p24 (starEach [.Call (.Name "_law_changed" p20) [.Name "one" p21, .Name un p22] [] p23] env)) [])) :
    wpAny (model prg w) A (exec (.If (.Call (.Name "_ellipsis_match" p1) [.BinOp (.BinOp (.Constant (.str (PySem.Str.ofString "...")) c1 p2) .Add (.Name un p3) p4) .Add (.Name "rest" p5) p6, .Name "one" p7] [] p8)
      [.Assign [.Name fl p9] (.Constant (.bool true) c2 p10) p11, .If (.Compare (.Call (.Name "_law_changed" p12) [.Name "one" p13, .Name un p14] [] p15) [.NotIn] [.Name "found" p16] p17)
        [.Expr (.Call (.Attribute (.Name "found" p18) "append" p19) [.Call (.Name "_law_changed" p20) [.Name "one" p21, .Name un p22] [] p23] [] p24) p25] [] p26] [] p27) env)
      (fun f s' => f = .next ∧ ∃ φ', Keep φ φ' ∧ St w s₀ Z B φ' env.locals ((fl, VB (matchG one u v c || old)) :: vs) (setO ow "found" ((if matchG one u v c = true then addG found (changedG one u v) else found).map VS)) s') noE s := by
  have dots : PySem.Str.ofString "..." = st [46, 46, 46] := by decide
  have hu' := low21 hu
  have hv' := low21 hv
  have hc' := low21 hc
  refine ifs (Ts.bval (b := matchG one u v c) (Ev.dcall h.tp (h.gl (v := .ref 21) C hel (by kernel_rfl)) (by kernel_rfl) (as2 (Ev.addT (x := [46, 46, 46] ++ [u, v]) (Ev.addT (Ev.cS dots) (h.nS C hun hlun hd) (by show 3 + 2 ≤ 16000000; decide)) (h.nS C hrest hlrest) (by simp)) (h.nS C hone hlone))
    fun vs h₁ h₃ ⟨va, vb, g, e, ⟨t1, e1⟩, ⟨t2, e2⟩, k4⟩ ka kb => ?_)) fun s₁ k₁ r₁ => ?_
  · subst e e1 e2
    exact cl_ellipsis (h.tp.keeps (ka.trans kb)) C.hh (by omega) ⟨_, rfl⟩ ⟨_, rfl⟩ (by simp) (by omega) (want_split hu'.2 hv'.2 hc'.2) want_occ
  have h1 := h.step k₁ r₁
  cases hm : matchG one u v c with
  | false =>
    refine iteF rfl (sq0 ⟨rfl, φ, Keep.refl _, ?_⟩)
    rw [if_neg Bool.false_ne_true, setO_same hfo]
    exact h1.weak (.cons hfl .refl)
  | true =>
    refine iteT rfl (seq (h1.asg C (p := VB true) (fzB Ev.cbool) hl ofl fun φ₂ s₂ q₂ h2 => ?_))
    rw [if_pos rfl]
    have chg : ∀ {s : Shared} {φ : Heap} {ow : List (Str × Addr × List Vp)} {pa pb pc pd : Pos}, St w s₀ Z B φ env.locals ((fl, VB true) :: vs) ow s → Ev w A env s.heap (.Call (.Name "_law_changed" pa) [.Name "one" pb, .Name un pc] [] pd) (IsS (st (changedG one u v))) := fun h => by
      refine Ev.dcall h.tp (h.gl (v := .ref 121) C hch (by kernel_rfl)) (by kernel_rfl) (as2 (h.nS C ((lk_ne hne2).trans hone) hlone) (h.nS C ((lk_ne hne).trans hun) hlun hd)) fun vs h₁ h₃ ⟨va, vb, g, e, ⟨t1, e1⟩, ⟨t2, e2⟩, k4⟩ ka kb => ?_
      subst e e1 e2
      exact cl_changed (h.tp.keeps (ka.trans kb)) C.hh (by omega) ⟨_, rfl⟩ ⟨_, rfl⟩ (by omega) hu'.1 hv'.1
    refine seq (wpAny_mono (Q := fun f s' => f = .next ∧ ∃ φ', Keep φ φ' ∧ St w s₀ Z B φ' env.locals ((fl, VB true) :: vs) (setO ow "found" ((addG found (changedG one u v)).map VS)) s') (ifs (Ts.notInL (chg h2) (h2.nOL C hfo hlfo)) fun s₃ k₃ r₃ => ?_) (fun f s' x => ?_) fun _ _ x => x)
    · have h3 := h2.step k₃ r₃
      unfold addG
      by_cases hin : changedG one u v ∈ found
      · rw [if_pos hin]
        refine iteF (by rw [decide_eq_true hin]; rfl) (sq0 ⟨rfl, φ₂, q₂, ?_⟩)
        rw [setO_same hfo]
        exact h3
      · rw [if_neg hin]
        refine iteT (by rw [decide_eq_false hin]; rfl) (seq (h3.append (p := VS (changedG one u v)) C hfo hlfo (by rw [List.length_map]; omega) (fzS (chg h3)) (fun φ₄ s₄ q₄ h4 => sq0 ⟨rfl, φ₄, q₂.trans q₄, ?_⟩) (hev := hev)))
        rw [List.map_append]
        exact h4
    · obtain ⟨rfl, y⟩ := x
      exact sq0 ⟨rfl, y⟩

/-- a list whose items a function tells -/
theorem itr_listF {β : Type} {f : β → Vp} {d : β} {l : List β} {v : Value} (hh : A.handled = none) (k : Keep φ s.heap) (hv : (VL (l.map f)).p φ v) : Itr w A φ s v l.length (fun i => f (l.getD i d)) := by
  obtain ⟨a, us, rfl, hl, hA⟩ := hv
  intro Q hq
  have hl' : s.heap.IsList a us.toArray := hl.mono k
  refine wpAny_pyIter_list hl' ?_
  obtain ⟨o, ho, _⟩ := id hl'
  have hne : a ≠ s.heap.objs.size := fun q => by have := Heap.lt_size ho; rw [q] at this; exact absurd this (Nat.lt_irrefl _)
  have W := Walks.list (prog := prg) (w := w) hh s.heap.objs.size a hne us.toArray
  have ez : us.toArray.size = l.length := by rw [List.size_toArray, hA.length, List.length_map]
  rw [ez] at W
  refine hq _ _ _ _ W (fun b hb => ?_) (fun i u e => ?_) ⟨⟨_, Heap.get?_push_size _ rfl, rfl, rfl⟩, hl'.push _⟩ fun i h ⟨⟨o, ho, hc, _⟩, _⟩ => ⟨o, ho, plainIt hc (by decide)⟩
  · rcases List.mem_cons.mp hb with hb | hb
    · exact .inl hb
    · rw [List.mem_singleton.mp hb]
      obtain ⟨o, ho, _⟩ := hl
      exact .inr ⟨_, ho⟩
  · have hu : us[i]? = some u := by simpa using e
    have hi : i < l.length := by rw [← ez]; simpa using (List.getElem?_eq_some_iff.mp hu).1
    obtain ⟨v, hv, hp⟩ := hA.get (i := i) (p := f l[i]) (by rw [List.getElem?_map, List.getElem?_eq_getElem hi]; rfl)
    rw [hu] at hv
    cases hv
    show (f (l.getD i d)).p φ u
    rw [List.getD_eq_getElem?_getD, List.getElem?_eq_getElem hi]
    exact hp

noncomputable def tv (t : Nat × Nat × Nat) : Vp := VT [VS [t.1, t.2.1], VS [t.2.1, t.1], VS ([46, 46, 46] ++ [t.2.2] ++ [46, 46, 46])]
end
end Mine
namespace Mine
open Sem (wp)

section
variable {w : World} {A : Around}

theorem want_fz {env : Env} {H φ : Heap} {e₁ e₂ e₃ : Expr} {c : Nat} {p : Pos} {t : Nat × Nat × Nat} (h₁ : Ev w A env H e₁ (IsS (st [t.1, t.2.1]))) (h₂ : Ev w A env H e₂ (IsS (st [t.2.1, t.1]))) (h₃ : Ev w A env H e₃ (IsS (st ([46, 46, 46] ++ [t.2.2] ++ [46, 46, 46]))))
    (hs : starEach [e₁, e₂, e₃] env = (false, eval e₁ env) :: starEach [e₂, e₃] env := by rfl) (hs2 : starEach [e₂, e₃] env = (false, eval e₂ env) :: starEach [e₃] env := by rfl) (hs3 : starEach [e₃] env = (false, eval e₃ env) :: starEach [] env := by rfl) : Ev w A env H (.Tuple [e₁, e₂, e₃] c p) (Fz φ (tv t)) :=
  (ev_tup3 h₁ h₂ h₃ hs hs2 hs3).mono (Keep.refl _) fun h v h' _ _ ⟨T, a, b, d, g₁, g₂, g₃, e, hT, hT2, ⟨t1, e1⟩, ⟨t2, e2⟩, ⟨t3, e3⟩⟩ φ' _ nn => by
    subst e e1 e2 e3
    exact ⟨T, _, rfl, nn _ _ hT hT2, .cons ⟨t1, rfl⟩ (.cons ⟨t2, rfl⟩ (.cons ⟨t3, rfl⟩ .nil))⟩

set_option maxHeartbeats 2000000 in
theorem cl_class {H : Heap} {x ks : List Nat} {F Lo Hg : List (List Nat)} {n : Nat} {vx vk : Value} (T : TopOk w H) (hh : A.handled = none) (hroom : A.depth + 40 < recursionLimit) (hvx : (VS x).p H vx) (hvk : (VS ks).p H vk) (hk4 : ks.length = 4) (hk : ∀ c ∈ ks, c ∈ order21)
    (hF : classF (wantsG ks) n [x] [] [] 0 = some (F, Lo, Hg)) (hb : ∀ y ∈ F, y.length ≤ 100) (hFn : F.length ≤ 1000) (hLn : Lo.length ≤ 1000) (hHn : Hg.length ≤ 1000) :
    Cl w A H (.ref 128) [vx, vk] (Nw (VT [VL (F.map VS), VL (Lo.map VS), VL (Hg.map VS)])) := by
  refine enterS (vs := [("kinds", VS ks), ("word", VS x)]) T hh rfl (by kernel_rfl) (Nat.lt_of_le_of_lt (Nat.le_add_right _ _) hroom) rfl
    (binds := [("word", vx), ("kinds", vk)]) (fun s X => BindsTo.of_eq rfl) (locs rfl) (.cons hvk (.cons hvx .nil)) (by decide) rfl rfl rfl ?_ fun _ _ _ _ k q => nw_mono k q
  intro A' env s₀ s Q k hd C h hQ
  have dots : PySem.Str.ofString "..." = st [46, 46, 46] := by decide
  have rng : ∀ {s₀ s : Shared} {Z B : List Addr} {φ : Heap} {vs : List (Str × Vp)} {ow : List (Str × Addr × List Vp)} {p : Pos}, St w s₀ Z B φ env.locals vs ow s → Ev w A' env s.heap (.Name "range" p) (IsV (.type "range")) := fun h => Ev.builtin h.tp C.k (C.of rfl) C.gl C.bl (by kernel_rfl) boot_range (by decide)
  refine seq (h.newL C (ps := []) Ev.nilO rfl rfl rfl fun a s₁ h1 => ?_)
  refine seq (h1.for (p := VR 4) (n := 4) (pI := fun i => VI (i : Nat)) (nw_fz (Ev.rangeN (rng h1) Ev.cint)) (fun φ' v s' _ k' hv => itr_range C.hh k' (by decide) hv)
    (fun _ => [("kinds", VS ks), ("word", VS x)]) (fun i => [("k", VI (i : Nat)), ("kinds", VS ks), ("word", VS x)])
    (fun i => [("wants", a, ((List.range i).flatMap (wantK ks)).map tv)]) (.cons rfl (.cons rfl .nil)) rfl (fun i => tgt_name C rfl rfl) ?_ ?_)
  · intro i I φ₂ s₂ hi k₂ h2 back
    have L1 := flatK_len ks i (by omega)
    refine seq (h2.for (p := VR i) (n := i) (pI := fun i => VI (i : Nat)) (nw_fz (Ev.rangeN (rng h2) (h2.nI C (i := (i : Nat)) rfl rfl))) (fun φ' v s' _ k' hv => itr_range C.hh k' (by omega) hv)
      (fun _ => [("k", VI (i : Nat)), ("kinds", VS ks), ("word", VS x)]) (fun j => [("j", VI (j : Nat)), ("k", VI (i : Nat)), ("kinds", VS ks), ("word", VS x)])
      (fun j => [("wants", a, ((List.range i).flatMap (wantK ks) ++ (List.range j).flatMap (wantJ ks i)).map tv)]) (.cons rfl (.cons rfl (.cons rfl .nil))) (by rw [List.range_zero, List.flatMap_nil, List.append_nil]) (fun i => tgt_name C rfl rfl) ?_ ?_)
    · intro j I2 φ₃ s₃ hj k₃ h3 back3
      have L2 := flatJ_len ks i j (by omega)
      refine seq (h3.for (p := VR (j + 1)) (n := j + 1) (pI := fun i => VI (i : Nat)) (nw_fz (Ev.rangeN (rng h3) (Ev.succ (h3.nI C (i := (j : Nat)) rfl rfl) Ev.cint))) (fun φ' v s' _ k' hv => itr_range C.hh k' (by omega) hv)
        (fun _ => [("j", VI (j : Nat)), ("k", VI (i : Nat)), ("kinds", VS ks), ("word", VS x)]) (fun m => [("i", VI (m : Nat)), ("j", VI (j : Nat)), ("k", VI (i : Nat)), ("kinds", VS ks), ("word", VS x)])
        (fun m => [("wants", a, ((List.range i).flatMap (wantK ks) ++ (List.range j).flatMap (wantJ ks i) ++ (List.range m).flatMap (wants3 ks i j)).map tv)]) (.cons rfl (.cons rfl (.cons rfl (.cons rfl .nil)))) (by rw [List.range_zero, List.flatMap_nil, List.append_nil]) (fun i => tgt_name C rfl rfl) ?_ ?_)
      · intro m I3 φ₄ s₄ hm k₄ h4 back4
        have L3 := flat3_len ks i j m
        have b1 : m < ks.length := by omega
        have b2 : i < ks.length := by omega
        have b3 : j < ks.length := by omega
        refine seq (h4.append (p := tv (ks[m], ks[i], ks[j])) C rfl rfl (by rw [List.length_map, List.length_append, List.length_append]; omega) (want_fz
          (Ev.addT (x := [ks[m]]) (y := [ks[i]]) (Ev.idxS (h4.nS C rfl rfl) (h4.nI C (i := (m : Nat)) rfl rfl) b1 (by omega)) (Ev.idxS (h4.nS C rfl rfl) (h4.nI C (i := (i : Nat)) rfl rfl) b2 (by omega)) (by simp))
          (Ev.addT (x := [ks[i]]) (y := [ks[m]]) (Ev.idxS (h4.nS C rfl rfl) (h4.nI C (i := (i : Nat)) rfl rfl) b2 (by omega)) (Ev.idxS (h4.nS C rfl rfl) (h4.nI C (i := (m : Nat)) rfl rfl) b1 (by omega)) (by simp))
          (Ev.addT (Ev.addT (y := [ks[j]]) (Ev.cS dots) (Ev.idxS (h4.nS C rfl rfl) (h4.nI C (i := (j : Nat)) rfl rfl) b3 (by omega)) (by simp)) (Ev.cS dots) (by simp))) fun φ₅ s₅ q₅ h5 => ?_)
        rw [setO_one] at h5
        refine sq0 ⟨φ₅, q₅, ?_⟩
        rw [range_flat, wants3_eq b1 b2 b3, ← List.append_assoc, List.map_append (l₂ := [_])]
        exact h5.weak (.cons rfl (.cons rfl (.cons rfl (.cons rfl .nil))))
      · intro φ₄ s₄ k₄ h4
        refine sq0 ⟨φ₄, k₄, ?_⟩
        rw [range_flat, ← List.append_assoc]
        exact h4.weak (.cons rfl (.cons rfl (.cons rfl .nil)))
    · intro φ₃ s₃ k₃ h3
      refine sq0 ⟨φ₃, k₃, ?_⟩
      rw [range_flat]
      exact h3.weak (.cons rfl (.cons rfl .nil))
  intro φ₂ s₂ k₂ h2
  obtain ⟨φ₃, k₃, h3⟩ := h2.freeze
  have hW : (List.range 4).flatMap (wantK ks) = wantsG ks := rfl
  rw [hW] at h3
  generalize hws : wantsG ks = ws at h3 hF
  have wm : ∀ t ∈ ws, t.1 ∈ order21 ∧ t.2.1 ∈ order21 ∧ t.2.2 ∈ order21 := fun t ht => by
    rw [← hws] at ht
    obtain ⟨x1, x2, x3⟩ := wants_mem ht
    exact ⟨hk _ x1, hk _ x2, hk _ x3⟩
  refine seq (h3.newL C (ps := [x].map VS) (Ev.listN1 (h3.nS C rfl rfl)) rfl rfl rfl fun b s₄ h4 => ?_)
  refine seq (h4.newL C (ps := []) Ev.nilO rfl rfl rfl fun c s₅ h5 => ?_)
  refine seq (h5.newL C (ps := []) Ev.nilO rfl rfl rfl fun d s₆ h6 => ?_)
  refine seq (h6.asg C (p := VI (0 : Nat)) (fzI Ev.cint) rfl rfl fun φ₇ s₇ q₇ h7 => ?_)
  refine seq (while' (fun n s' => ∃ φ f l g at', classF ws n f l g at' = some (F, Lo, Hg) ∧ St w s₀ [] [] φ env.locals [("at", VI (at' : Nat)), ("wants", VL (ws.map tv))] [("highs", d, g.map VS), ("lows", c, l.map VS), ("found", b, f.map VS)] s') n
    ⟨φ₇, [x], [], [], 0, hF, h7.weak (.cons rfl (.cons rfl .nil))⟩ ?_)
  rintro n s₈ ⟨φ, f, l, g, at', hc, h8⟩
  obtain ⟨p1, p2, p3⟩ := class_pre ws _ _ _ _ _ hc
  have z1 := p1.length_le
  have z2 := p2.length_le
  have z3 := p3.length_le
  refine ⟨_, Ts.ltI (h8.nI C rfl rfl) (Ev.lenL (h8.len C rfl) (h8.nOL C rfl rfl) (by rw [List.length_map]; omega)), fun s₉ k₉ r₉ => ?_⟩
  rw [List.length_map, lt_nat]
  have h9 := h8.step k₉ r₉
  cases n with
  | zero => cases hc
  | succ n =>
  by_cases hlt : at' < f.length
  · refine iteT (dT hlt) ?_
    unfold classF at hc
    rw [List.getElem?_eq_getElem hlt] at hc
    have hmem : f[at'] ∈ F := p1.subset (List.getElem_mem hlt)
    have hgf : f[at']? = some f[at'] := List.getElem?_eq_getElem hlt
    generalize f[at'] = one at hc hmem hgf
    have hz := hb one hmem
    dsimp only at hc
    refine seq (h9.asg C (p := VS one) (fzS ((Ev.idxL (h9.nOL C rfl rfl) (h9.nI C (i := (at' : Nat)) rfl rfl) (as_VS hgf) (by omega)).mono (Keep.refl _) fun _ _ _ _ _ q => q)) rfl rfl fun φ₁ s₁ q₁ h1 => ?_)
    refine seq (h1.asg C (p := VI ((at' + 1 : Nat) : Int)) (fzI (Ev.succ (h1.nI C rfl rfl) Ev.cint)) rfl rfl fun φ₂ s₂ q₂ h2 => ?_)
    refine seq (h2.asg C (p := VB false) (fzB Ev.cbool) rfl rfl fun φ₃ s₃ q₃ h3 => ?_)
    refine seq (h3.asg C (p := VB false) (fzB Ev.cbool) rfl rfl fun φ₄ s₄ q₄ h4 => ?_)
    have hpre : ∀ i, i ≤ ws.length → ((ws.take i).foldl (wantStep one) (f, false, false)).1 <+: F := fun i _ => by
      refine List.IsPrefix.trans ?_ (class_pre ws _ _ _ _ _ hc).1
      have : ws.foldl (wantStep one) (f, false, false) = (ws.drop i).foldl (wantStep one) ((ws.take i).foldl (wantStep one) (f, false, false)) := by rw [← List.foldl_append, List.take_append_drop]
      rw [this]
      exact fold_pre one _ _
    refine seq (h4.for (p := VL (ws.map tv)) (n := ws.length) (pI := fun i => tv (ws.getD i (0, 0, 0))) (h4.nZ C rfl rfl) (fun φ' v s' _ k' hv => itr_listF C.hh k' hv)
      (fun i => [("falls", VB ((ws.take i).foldl (wantStep one) (f, false, false)).2.2), ("rises", VB ((ws.take i).foldl (wantStep one) (f, false, false)).2.1), ("one", VS one), ("at", VI ((at' + 1 : Nat) : Int)), ("wants", VL (ws.map tv))])
      (fun i => [("rest", VS ([46, 46, 46] ++ [(ws.getD i (0, 0, 0)).2.2] ++ [46, 46, 46])), ("down", VS [(ws.getD i (0, 0, 0)).2.1, (ws.getD i (0, 0, 0)).1]), ("up", VS [(ws.getD i (0, 0, 0)).1, (ws.getD i (0, 0, 0)).2.1]),
        ("falls", VB ((ws.take i).foldl (wantStep one) (f, false, false)).2.2), ("rises", VB ((ws.take i).foldl (wantStep one) (f, false, false)).2.1), ("one", VS one), ("at", VI ((at' + 1 : Nat) : Int)), ("wants", VL (ws.map tv))])
      (fun i => [("highs", d, g.map VS), ("lows", c, l.map VS), ("found", b, ((ws.take i).foldl (wantStep one) (f, false, false)).1.map VS)]) (.cons rfl (.cons rfl (.cons rfl (.cons rfl (.cons rfl .nil))))) rfl (fun i => tgt_tup3 C rfl rfl rfl rfl rfl rfl) ?_ ?_)
    · intro i I φ₅ s₅ hi k₅ h5 back
      have ht : ws[i]? = some ws[i] := List.getElem?_eq_getElem hi
      have m1 : ws[i] ∈ ws := List.getElem_mem hi
      have eg : ws.getD i (0, 0, 0) = ws[i] := by rw [List.getD_eq_getElem?_getD, ht]; rfl
      have hp1 := (hpre i (Nat.le_of_lt hi)).length_le
      have hp2 := (hpre (i + 1) hi).length_le
      rw [fold_take _ _ ws ht] at hp2 ⊢
      rw [eg] at h5
      obtain ⟨t1, t2, t3⟩ := wm _ m1
      generalize ws[i] = t at h5 hp2 t1 t2 t3
      generalize (ws.take i).foldl (wantStep one) (f, false, false) = r at h5 hp1 hp2
      obtain ⟨r1, r2, r3⟩ := r
      obtain ⟨u, v, y⟩ := t
      have hp1' : (wantUp one (r1, r2, r3) (u, v, y)).1.length ≤ F.length := Nat.le_trans (step_pre one (r1, r2, r3) (u, v, y)).2.length_le hp2
      refine seq (wpAny_mono (want_if (fl := "rises") (un := "up") (u := u) (v := v) (c := y) (found := r1) h5 C (by rw [hd]; omega) rfl rfl rfl rfl rfl rfl rfl rfl rfl rfl rfl rfl rfl (by decide) (by decide) (by decide) t1 t2 t3 hz (by simp only at hp1; omega) rfl) (fun fl s₆ x6 => ?_) fun _ _ z => z)
      obtain ⟨rfl, φ₆, k₆, h6⟩ := x6
      have eU : wantUp one (r1, r2, r3) (u, v, y) = ((if matchG one u v y = true then addG r1 (changedG one u v) else r1), (matchG one u v y || r2), r3) := by
        unfold wantUp
        cases matchG one u v y <;> rfl
      unfold wantStep
      rw [eU] at hp1' ⊢
      refine seq (wpAny_mono (want_if (fl := "falls") (un := "down") (u := v) (v := u) (c := y) (found := (if matchG one u v y = true then addG r1 (changedG one u v) else r1)) h6 C (by rw [hd]; omega) rfl rfl rfl rfl rfl rfl rfl rfl rfl rfl rfl rfl rfl (by decide) (by decide) (by decide) t2 t1 t3 hz (by simp only at hp1'; omega) rfl) (fun fl s₇ x7 => ?_) fun _ _ z => z)
      obtain ⟨rfl, φ₇, k₇, h7⟩ := x7
      refine sq0 ⟨φ₇, k₆.trans k₇, ?_⟩
      have eD : ∀ s : List (List Nat) × Bool × Bool, wantDn one s (u, v, y) = ((if matchG one v u y = true then addG s.1 (changedG one v u) else s.1), s.2.1, (matchG one v u y || s.2.2)) := fun s => by
        unfold wantDn
        obtain ⟨s1, s2, s3⟩ := s
        cases matchG one v u y <;> rfl
      rw [eD]
      exact h7.weak (.cons rfl (.cons rfl (.cons rfl (.cons rfl (.cons rfl .nil)))))
    · intro φ₅ s₅ k₅ h5
      simp only [List.take_length] at h5
      generalize ws.foldl (wantStep one) (f, false, false) = r at h5 hc
      obtain ⟨r1, r2, r3⟩ := r
      simp only at h5 hc
      refine seq (wpAny_mono (Q := fun fl s' => fl = .next ∧ ∃ φ', St w s₀ [] [] φ' env.locals [("rises", VB r2), ("one", VS one), ("at", VI ((at' + 1 : Nat) : Int)), ("wants", VL (ws.map tv))] [("highs", d, g.map VS), ("lows", c, (if r3 = true then l else l ++ [one]).map VS), ("found", b, r1.map VS)] s') (ifs (Ts.not (Ts.bval (h5.nm (p := VB r3) C rfl rfl))) fun s₆ k₆ r₆ => ?_) (fun fl s₆ x6 => ?_) fun _ _ z => z)
      · have h6 := h5.step k₆ r₆
        cases r3 with
        | true => exact iteF rfl (sq0 ⟨rfl, φ₅, h6.weak (.cons rfl (.cons rfl (.cons rfl (.cons rfl .nil))))⟩)
        | false =>
          refine iteT rfl (seq (h6.append (p := VS one) C rfl rfl (by rw [List.length_map]; omega) (fzS (h6.nS C rfl rfl)) fun φ₇ s₇ q₇ h7 => sq0 ⟨rfl, φ₇, ?_⟩))
          rw [if_neg Bool.false_ne_true, List.map_append]
          exact h7.weak (.cons rfl (.cons rfl (.cons rfl (.cons rfl .nil))))
      obtain ⟨rfl, φ₆, h6⟩ := x6
      refine seq (wpAny_mono (Q := fun fl s' => fl = .next ∧ ∃ φ', St w s₀ [] [] φ' env.locals [("at", VI ((at' + 1 : Nat) : Int)), ("wants", VL (ws.map tv))] [("highs", d, (if r2 = true then g else g ++ [one]).map VS), ("lows", c, (if r3 = true then l else l ++ [one]).map VS), ("found", b, r1.map VS)] s') (ifs (Ts.not (Ts.bval (h6.nm (p := VB r2) C rfl rfl))) fun s₇ k₇ r₇ => ?_) (fun fl s₇ x7 => ?_) fun _ _ z => z)
      · have h7 := h6.step k₇ r₇
        cases r2 with
        | true => exact iteF rfl (sq0 ⟨rfl, φ₆, h7.weak (.cons rfl (.cons rfl .nil))⟩)
        | false =>
          refine iteT rfl (seq (h7.append (p := VS one) C rfl rfl (by rw [List.length_map]; omega) (fzS (h7.nS C rfl rfl)) fun φ₈ s₈ q₈ h8 => sq0 ⟨rfl, φ₈, ?_⟩))
          rw [if_neg Bool.false_ne_true, List.map_append]
          exact h8.weak (.cons rfl (.cons rfl .nil))
      obtain ⟨rfl, φ₇, h7⟩ := x7
      exact sq0 ⟨n, Nat.lt_succ_self n, φ₇, _, _, _, _, hc, h7⟩
  · refine iteF (dF hlt) ?_
    unfold classF at hc
    rw [List.getElem?_eq_none (Nat.le_of_not_lt hlt)] at hc
    cases hc
    obtain ⟨⟨u1, hp1, hA1⟩, _, _, hn1⟩ := h9.own _ (.head _)
    obtain ⟨⟨u2, hp2, hA2⟩, _, _, hn2⟩ := h9.own _ (.tail _ (.head _))
    obtain ⟨⟨u3, hp3, hA3⟩, _, _, hn3⟩ := h9.own _ (.tail _ (.tail _ (.head _)))
    refine seq (rets (ev_tup3 (h9.nO C (x := "found") rfl rfl) (h9.nO C (x := "lows") rfl rfl) (h9.nO C (x := "highs") rfl rfl)) fun v s₁ k₁ r₁ hv => ?_)
    obtain ⟨T, va, vb, vc, g₁, g₂, g₃, rfl, hT, hT2, e1, e2, e3⟩ := hv
    have h1 := h9.step k₁ r₁
    subst e1 e2 e3
    have hs9 := h9.keepE
    have nn : ∀ {a : Addr}, (a ∈ ([] : List Addr) ∨ s₀.heap.get? a = none) → s₀.heap.get? a = none := fun h => h.elim (fun q => by cases q) id
    refine hQ _ _ h1.keepE h1.rest fun φ' n' => ⟨T, _, rfl, n' _ _ (none_back hs9 hT) hT2, .cons (own_outS (nn hn3) (plain_keeps hp3 k₁) hA3 n') (.cons (own_outS (nn hn2) (plain_keeps hp2 k₁) hA2 n') (.cons (own_outS (nn hn1) (plain_keeps hp1 k₁) hA1 n') .nil))⟩
end
end Mine
namespace Mine
open Sem (wp)

section
variable {w : World} {A : Around} {env : Env} {S : Scope} {s₀ s : Shared} {Z B : List Addr} {φ : Heap} {vs : List (Str × Vp)} {ow : List (Str × Addr × List Vp)} {L : Addr}

/-! cells that are turned -/
theorem St.wide {B' : List Addr} (h : St w s₀ Z B φ L vs ow s) (hB : ∀ b ∈ B', b ∈ B) : ∃ φ', Keep φ φ' ∧ St w s₀ Z B' φ' L vs ow s ∧ ∀ b o, b ∉ L :: (B' ++ ow.map (·.2.1)) → s.heap.get? b = some o → φ'.get? b = some o := by
  have dom : ∀ b, b ∈ L :: (B' ++ ow.map (·.2.1)) → φ.get? b = none := fun b hb => by
    rcases List.mem_cons.mp hb with rfl | hb
    · exact h.L0
    · rcases List.mem_append.mp hb with hb | hb
      · exact (h.bz b (hB b hb)).1
      · obtain ⟨e, he, rfl⟩ := List.mem_map.mp hb
        exact (h.own e he).2.1
  have k1 : Keep φ (clr (L :: (B' ++ ow.map (·.2.1))) s.heap) := fun b o e => by
    rw [clr_get, if_neg fun q => by rw [dom b q] at e; cases e]
    exact h.kp b o e
  have h' : St w s₀ Z B' φ L vs ow s := { h with bz := fun b hb => h.bz b (hB b hb) }
  refine ⟨_, k1, h'.base k1 (fun b o e => ?_) ⟨by rw [clr_get, if_pos (.head _)], fun b hb => by rw [clr_get, if_pos (List.mem_cons_of_mem _ (List.mem_append_left _ hb))], fun e he => by rw [clr_get, if_pos (List.mem_cons_of_mem _ (List.mem_append_right _ (List.mem_map.mpr ⟨e, he, rfl⟩)))]⟩, fun b o hb e => by rw [clr_get, if_neg hb]; exact e⟩
  rw [clr_get] at e
  split at e
  · cases e
  · exact e
/-- what a busy cell holds -/
noncomputable def Cel (φ h : Heap) (c : Addr) (p : Vp) : Prop := ∃ v, h.IsCell c (some v) ∧ p.p φ v
theorem Cel.keeps {φ φ' h h' : Heap} {c : Addr} {p : Vp} (x : Cel φ h c p) (k : Keep φ φ') (k' : Keep h h') : Cel φ' h' c p := let ⟨v, i, q⟩ := x; ⟨v, i.keeps k', p.mono k q⟩
theorem Cel.xt {φ h h' : Heap} {c : Addr} {p : Vp} {Z : List Addr} (x : Cel φ h c p) (k' : Xt Z h h') (hz : c ∉ Z) : Cel φ h' c p := let ⟨v, ⟨o, ho, hd⟩, q⟩ := x; ⟨v, ⟨o, k' c o hz ho, hd⟩, q⟩
theorem St.frzC {x : Str} {p : Vp} {c : Addr} {B' : List Addr} (h : St w s₀ Z B φ L vs ow s) {cells : List (Str × Addr)} (hc : cells.lookup x = some c) (hB : c ∈ B) (hB' : ∀ b ∈ B', b ∈ B ∧ b ≠ c) (hi : Cel φ s.heap c p) :
    ∃ φ', Keep φ φ' ∧ St w s₀ Z B' φ' L vs ow s ∧ CeOk cells φ' x p := by
  obtain ⟨φ', k, h', out⟩ := h.wide (B' := B') fun b hb => (hB' b hb).1
  obtain ⟨v, ⟨o, ho, hd⟩, hp⟩ := hi
  obtain ⟨_, ⟨b1, b2⟩, _⟩ := h.bz c hB
  refine ⟨φ', k, h', c, v, hc, ⟨o, out c o (fun q => ?_) ho, hd⟩, p.mono k hp⟩
  rcases List.mem_cons.mp q with q | q
  · exact b1 q
  · rcases List.mem_append.mp q with q | q
    · exact (hB' c q).2 rfl
    · obtain ⟨e, he, q⟩ := List.mem_map.mp q
      exact b2 e he q
/-- x = e, x a busy cell -/
theorem St.stC {x : Str} {p1 pos : Pos} {e : Expr} {p : Vp} {c : Addr} {old : Option Value} {Q : Flow → Shared → Prop} (h : St w s₀ Z B φ env.locals vs ow s) (C : Cx A env S) (hl : S.names.lookup x = some .cell) (hc : env.cells.lookup x = some c) (hB : c ∈ B) (hZ : c ∈ Z ∨ s₀.heap.get? c = none)
    (hi : s.heap.IsCell c old) (he : Ev w A env s.heap e (Fz φ p)) (hq : ∀ φ' s', Keep φ φ' → St w s₀ Z B φ' env.locals vs ow s' → Cel φ' s'.heap c p → Xt [c] s.heap s'.heap → Q .next s')
    (hs : swapsWith e (some (.Name x p1)) pos.line env = pure false := by rfl) : wpAny (model prg w) A (exec (.Assign [.Name x p1] e pos) env) Q noE s := by
  refine wpAny_Assign_Name (he.use (Keep.refl _) fun v s₂ k r hv => ?_) hs
  refine wpAny_storeName_cell C.k (C.of hl) hc (hi.keeps k) fun h' hc' hs' => ?_
  have x' : Xt [c] s₂.heap h' := Xt.of_same hs' (List.mem_singleton.mpr rfl)
  obtain ⟨φ', k1, k2, hf, k3⟩ := h.grow (s' := { s₂ with heap := h' }) k (x'.mono fun b hb => by rw [List.mem_singleton.mp hb]; exact List.mem_cons_of_mem _ (List.mem_append_left _ hB))
  have hS := ((h.step k r).busyT (s' := { s₂ with heap := h' }) hB hZ x' rht (let ⟨o, ho, _⟩ := hc'; ⟨o, ho⟩)).base k1 k2 hf
  exact hq φ' _ k1 hS ⟨v, hc', hv φ' k1 k3⟩ ((Xt.of_keep k).trans x')
theorem Ev.cellB {x : Str} {pos : Pos} {p : Vp} {c : Addr} {H : Heap} (C : Cx A env S) (hl : S.names.lookup x = some .cell) (hc : env.cells.lookup x = some c) (k : Keep φ H) (hi : Cel φ H c p) (hd : (x == ("__debug__" : Str)) = false := by decide) : Ev w A env H (.Name x pos) (fun _ v _ => p.p H v) :=
  Ev.cell C.k (C.of hl) (φ := H) (p := p) (let ⟨v, i, q⟩ := hi; ⟨c, v, hc, i, p.mono k q⟩) (Keep.refl _) hd

/-! ints -/
noncomputable def vi (n : Nat) : Vp := VI (n : Int)
noncomputable def VAI : Vp := ⟨fun _ v => ∃ i t, v = .int i t, fun _ h => h⟩
theorem St.anyI {x : Str} (h : St w s₀ Z B φ L ((x, VAI) :: vs) ow s) : ∃ i, St w s₀ Z B φ L ((x, VI i) :: vs) ow s := by
  obtain ⟨m, n, a, b⟩ := h.ns
  obtain ⟨v, hv, i, t, rfl⟩ := a x VAI (by rw [List.lookup_cons, beq_self_eq_true])
  refine ⟨i, { h with ns := ⟨m, n, fun y q e => ?_, b⟩ }⟩
  rw [List.lookup_cons] at e
  by_cases hy : y = x
  · subst hy
    rw [beq_self_eq_true] at e
    cases e
    exact ⟨_, hv, t, rfl⟩
  · rw [show (y == x) = false from by simpa using hy] at e
    exact a y q (by rw [List.lookup_cons, show (y == x) = false from by simpa using hy]; exact e)
theorem Ev.powI {H : Heap} {l r : Expr} {p : Pos} {x y : Int} (hl : Ev w A env H l (IsI x)) (hr : Ev w A env H r (IsI y)) (hn : 0 ≤ y) (hn2 : y ≤ 1000000) (ha : x.natAbs < 2 ^ 64) : Ev w A env H (.BinOp l .Pow r p) (IsI (x ^ y.toNat)) :=
  hl.bin hr fun _ _ _ _ _ s ⟨t, ha'⟩ ⟨u, hb⟩ _ => by subst ha' hb; exact pow_int_small hn hn2 ha ⟨Keep.refl _, rht, fun _ => ⟨_, rfl⟩⟩
theorem A2.toInts {h : Heap} : ∀ {ns : List Int} {vs : List Value}, A2 h vs (ns.map VI) → IntsAre vs ns
  | [], _, .nil => IntsAre.nil
  | _ :: _, _, .cons ⟨t, e⟩ x => by subst e; exact .cons _ t x.toInts
theorem A2.ofInts {h : Heap} {vs : List Value} {ns : List Int} (x : IntsAre vs ns) : A2 h vs (ns.map VI) := by
  induction x with
  | nil => exact .nil
  | cons i t _ ih => exact .cons ⟨_, rfl⟩ ih
/-- a list of some ints -/
noncomputable def ILst : Vp := ⟨fun h v => ∃ ms : List Int, (VL (ms.map VI)).p h v, fun k ⟨ms, x⟩ => ⟨ms, (VL _).mono k x⟩⟩
theorem Ev.sumI {H : Heap} {p pos : Pos} {e : Expr} (hh : A.handled = none) (hf : Ev w A env H (.Name "sum" p) (IsV (.builtin "sum"))) (he : Ev w A env H e (fun _ v h₁ => ILst.p h₁ v)) (hs : starEach [e] env = (false, eval e env) :: starEach [] env := by rfl) :
    Ev w A env H (.Call (.Name "sum" p) [e] [] pos) (fun _ v _ => VAI.p H v) :=
  Ev.bcall hf (as1 he hs) (fun vs h₁ h₂ ⟨v, e1, ms, a, us, e2, hl, hA⟩ _ _ s k => by
    subst e1 e2
    obtain ⟨xs, hx⟩ := hA.toInts.allInts.items
    have hl' : s.heap.IsList a us.toArray := hl.mono k
    rw [hx] at hl'
    exact sum_intListG hh hl' fun h' tk t' hk => ⟨hk, rht, fun _ _ => ⟨_, _, rfl⟩⟩) hs
theorem pick_ints {us : List Value} {ns : List Int} {a b c : Option Int} {h : Heap} (hA : A2 h us (ns.map VI)) : ∃ (zs : List Value) (ms : List Int), slicePick us.toArray a b c = zs.toArray ∧ A2 h zs (ms.map VI) := by
  have hI := hA.toInts
  have all : ∀ l : List Nat, ∃ ms : List Int, A2 h (l.filterMap (us[·]?)) (ms.map VI) := fun l => by
    induction l with
    | nil => exact ⟨[], .nil⟩
    | cons i l ih =>
      obtain ⟨ms, ih⟩ := ih
      rw [List.filterMap_cons]
      cases hu : us[i]? with
      | none => exact ⟨ms, ih⟩
      | some v =>
        have hlt : i < ns.length := by have := (List.getElem?_eq_some_iff.mp hu).1; rw [hA.length, List.length_map] at this; exact this
        obtain ⟨v', hv', hp⟩ := hA.get (i := i) (p := VI ns[i]) (asI (List.getElem?_eq_getElem hlt))
        rw [hu] at hv'
        cases hv'
        exact ⟨ns[i] :: ms, .cons hp ih⟩
  unfold slicePick
  obtain ⟨ms, h⟩ := all (sliceRange (sliceBounds a b c us.toArray.size).1 (sliceBounds a b c us.toArray.size).2.1 (sliceBounds a b c us.toArray.size).2.2)
  refine ⟨_, ms, rfl, ?_⟩
  simpa using h
/-- xs[k::5], ints -/
theorem Ev.stepL {H : Heap} {value low stp : Expr} {p pos : Pos} {ns : List Int} {k j : Int} (hv : Ev w A env H value (fun _ v h₁ => (VL (ns.map VI)).p h₁ v)) (hl : Ev w A env H low (IsI k)) (hs : Ev w A env H stp (IsI j)) (hj : j ≠ 0) (hx : ns.length ≤ 100000) (ht : ∀ o r, letTemporaryGo value o r = pure () := by intro _ _; rfl) :
    Ev w A env H (.Subscript value (.Slice (some low) none (some stp) p) pos) (fun _ v h₁ => ILst.p h₁ v) := fun s k => by
  refine wpAny_Subscript_Slice_step (T := "list") list_getitem_lookup (hv.use k fun v s₁ k₁ r₁ h₁ => wpAny_Slice (hl.use (k.trans k₁) fun u s₂ k₂ r₂ h₂ => wpAny_pure (hs.use ((k.trans k₁).trans k₂) fun z s₃ k₃ r₃ h₃ => ?_))) ht
  obtain ⟨a, us, rfl, hl, hA⟩ := h₁
  obtain ⟨t1, rfl⟩ := h₂
  obtain ⟨t2, rfl⟩ := h₃
  have hl' : Heap.IsList s₃.heap a us.toArray := hl.mono (k₂.trans k₃)
  have ez : us.toArray.size = ns.length := by rw [List.size_toArray, hA.length, List.length_map]
  have kk := (k₁.trans k₂).trans k₃
  refine ⟨(hl'.push _).typeIs, wpAny_getItem_list_slice (hl'.push _) (Heap.IsSliceOf.new ..) (.int _ _) .none (.int _ _) (by simpa using hj) ?_ (by rw [ez, sizeLine_eq]; omega)⟩
  obtain ⟨zs, ms, hz, hm⟩ := pick_ints (a := some _) (b := none) (c := some j) hA
  rw [hz]
  refine ⟨fun b o e => Heap.get?_push_of_some _ (Heap.get?_push_of_some _ (kk b o e)), (((r₁.trans r₂).trans r₃).ht : Rest s _), ms, _, zs, rfl, ?_, hm.ints⟩
  exact ⟨_, Heap.get?_push_size _ rfl, rfl, 0, rfl⟩

/-! what a value reads as -/
noncomputable def RdP (p : Vp) (d : PyData) : Prop := ∀ h v, p.p h v → ∃ as, Reads h v d as
inductive Rd2 : List Vp → List PyData → Prop
  | nil : Rd2 [] []
  | cons {p ps d ds} : RdP p d → Rd2 ps ds → Rd2 (p :: ps) (d :: ds)
theorem Rd2.all {h : Heap} {vs : List Value} {ps : List Vp} {ds : List PyData} (x : Rd2 ps ds) (a : A2 h vs ps) : ∃ as, ReadsAll h vs ds as := by
  induction x generalizing vs with
  | nil => cases a; exact ⟨_, .nil⟩
  | cons r _ ih =>
    cases a with
    | cons e a =>
      obtain ⟨as, h1⟩ := r _ _ e
      obtain ⟨bs, h2⟩ := ih a
      exact ⟨_, .cons h1 h2⟩
theorem Rd2.map {β : Type} {f : β → Vp} {g : β → PyData} (h : ∀ x, RdP (f x) (g x)) : ∀ l : List β, Rd2 (l.map f) (l.map g)
  | [] => .nil
  | _ :: l => .cons (h _) (Rd2.map h l)
theorem rdS (x : List Nat) : RdP (VS x) (.str (st x)) := fun _ _ ⟨t, e⟩ => by subst e; exact ⟨_, .str _ _⟩
theorem rdI (i : Int) : RdP (VI i) (.int i) := fun _ _ ⟨t, e⟩ => by subst e; exact ⟨_, .int _ _⟩
theorem rdL {ps : List Vp} {ds : List PyData} (x : Rd2 ps ds) : RdP (VL ps) (.list ds) := fun h v ⟨a, us, e, ⟨o, ho, hc, n, hd⟩, hA⟩ => by
  subst e
  obtain ⟨as, r⟩ := x.all hA
  exact ⟨_, .list ho hc hd r⟩
theorem rdT {ps : List Vp} {ds : List PyData} (x : Rd2 ps ds) : RdP (VT ps) (.tuple ds) := fun h v ⟨a, us, e, ho, hA⟩ => by
  subst e
  obtain ⟨as, r⟩ := x.all hA
  exact ⟨_, .tuple ho rfl rfl r⟩
noncomputable def Shp (n : Nat) (d : PyData) : Prop := d.canLay0 = true ∧ d.depth ≤ n
theorem shpS {x : List Nat} {n : Nat} (h : ∀ c ∈ x, c < 1114112) : Shp n (.str (st x)) := by
  refine ⟨?_, Nat.zero_le _⟩
  rw [PyData.canLay0]
  unfold PyData.strOk
  rw [Array.all_eq_true']
  intro c hc
  simpa using h c (by simpa using hc)
theorem shpI (i : Int) {n : Nat} : Shp n (.int i) := ⟨by rw [PyData.canLay0], Nat.zero_le _⟩
theorem shp_all {n : Nat} : ∀ {ds : List PyData}, (∀ d ∈ ds, Shp n d) → PyData.canLayAll0 ds = true ∧ PyData.depthAll ds ≤ n
  | [], _ => ⟨rfl, Nat.zero_le _⟩
  | d :: ds, h => by
    obtain ⟨a, b⟩ := h d (.head _)
    obtain ⟨x, y⟩ := shp_all fun d hd => h d (.tail _ hd)
    rw [PyData.canLayAll0, PyData.depthAll, a, x]
    exact ⟨rfl, Nat.max_le.mpr ⟨b, y⟩⟩
theorem shpL {n : Nat} {ds : List PyData} (h : ∀ d ∈ ds, Shp n d) : Shp (n + 1) (.list ds) := by
  obtain ⟨a, b⟩ := shp_all h
  exact ⟨by rw [PyData.canLay0]; exact a, by rw [PyData.depth]; exact Nat.succ_le_succ b⟩
theorem shpT {n : Nat} {ds : List PyData} (h : ∀ d ∈ ds, Shp n d) : Shp (n + 1) (.tuple ds) := by
  obtain ⟨a, b⟩ := shp_all h
  exact ⟨by rw [PyData.canLay0]; exact a, by rw [PyData.depth]; exact Nat.succ_le_succ b⟩
theorem Shp.shaped {n : Nat} {d : PyData} (h : Shp n d) (hn : n ≤ 64) : SeqAt.shaped d = true := by
  unfold SeqAt.shaped
  rw [h.1, decide_eq_true (Nat.le_trans h.2 hn)]; rfl

/-- two values of the same data: not unlike -/
theorem Ts.neD {H : Heap} {l r : Expr} {pos : Pos} {p q : Vp} {d : PyData} {n : Nat} (hl : Ev w A env H l (fun _ v h₁ => p.p h₁ v)) (hr : Ev w A env H r (fun _ v h₁ => q.p h₁ v)) (hp : RdP p d) (hq : RdP q d) (hd : Shp n d) (hn : n ≤ 64) (hu : A.units + 64 < cLine)
    (hm : behindInMarks .NotEq r = false := by with_unfolding_all rfl) : Ts w A env H (.Compare l [.NotEq] [r] pos) false := fun s k =>
  wpAny_isTrue_Compare1 (hl.use k fun a s₁ k₁ r₁ h₁ => hr.use (k.trans k₁) fun b s₂ k₂ r₂ h₂ => by
    obtain ⟨as, ra⟩ := hp _ _ (p.mono k₂ h₁)
    obtain ⟨bs, rb⟩ := hq _ _ h₂
    refine ne_dataH ra rb (hd.shaped hn) (hd.shaped hn) hu ?_
    rw [SeqAt.eqv_refl d hd.1]
    exact wpAny_truthy_bool ⟨k₁.trans k₂, r₁.trans r₂, rfl⟩) hm
theorem Ev.eqD {H : Heap} {l r : Expr} {pos : Pos} {p q : Vp} {d : PyData} {n : Nat} (hl : Ev w A env H l (fun _ v h₁ => p.p h₁ v)) (hr : Ev w A env H r (fun _ v h₁ => q.p h₁ v)) (hp : RdP p d) (hq : RdP q d) (hd : Shp n d) (hn : n ≤ 64) (hu : A.units + 64 < cLine)
    (hm : behindInMarks .Eq r = false := by with_unfolding_all rfl) : Ev w A env H (.Compare l [.Eq] [r] pos) (IsB true) := fun s k =>
  wpAny_Compare1 (hl.use k fun a s₁ k₁ r₁ h₁ => hr.use (k.trans k₁) fun b s₂ k₂ r₂ h₂ => by
    obtain ⟨as, ra⟩ := hp _ _ (p.mono k₂ h₁)
    obtain ⟨bs, rb⟩ := hq _ _ h₂
    refine eq_dataH ra rb (hd.shaped hn) (hd.shaped hn) hu ?_
    rw [SeqAt.eqv_refl d hd.1]
    exact ⟨k₁.trans k₂, r₁.trans r₂, rfl⟩) hm
end
end Mine
namespace Mine
open Sem (wp)

/-! sorting -/
noncomputable def sortN (l : List Nat) : List Nat := l.mergeSort fun a b => decide (a ≤ b)
noncomputable def sortS (l : List (List Nat)) : List (List Nat) := l.mergeSort fun a b => decide (a ≤ b)
theorem sortN_sorted (l : List Nat) : (sortN l).Pairwise (· ≤ ·) := by
  have := List.pairwise_mergeSort (le := fun a b : Nat => decide (a ≤ b)) (fun a b c h1 h2 => by simp only [decide_eq_true_eq] at *; omega) (fun a b => by simp only [Bool.or_eq_true, decide_eq_true_eq]; omega) l
  exact this.imp fun h => of_decide_eq_true h
theorem sortN_perm (l : List Nat) : (sortN l).Perm l := List.mergeSort_perm ..
theorem sortN_uniq {l m : List Nat} (h : m.Perm l) (hs : m.Pairwise (· ≤ ·)) : m = sortN l :=
  List.Perm.eq_of_pairwise (fun a b _ _ h1 h2 => Nat.le_antisymm h1 h2) hs (sortN_sorted l) (h.trans (sortN_perm l).symm)
theorem sortS_sorted (l : List (List Nat)) : (sortS l).Pairwise (· ≤ ·) := by
  have := List.pairwise_mergeSort (le := fun a b : List Nat => decide (a ≤ b)) (fun a b c h1 h2 => by simp only [decide_eq_true_eq] at *; exact List.le_trans h1 h2) (fun a b => by simp only [Bool.or_eq_true, decide_eq_true_eq]; exact List.le_total a b) l
  exact this.imp fun h => of_decide_eq_true h
theorem sortS_perm (l : List (List Nat)) : (sortS l).Perm l := List.mergeSort_perm ..
theorem sortS_uniq {l m : List (List Nat)} (h : m.Perm l) (hs : m.Pairwise (· ≤ ·)) : m = sortS l :=
  List.Perm.eq_of_pairwise (fun a b _ _ h1 h2 => List.le_antisymm h1 h2) hs (sortS_sorted l) (h.trans (sortS_perm l).symm)
theorem sortS_congr {l m : List (List Nat)} (h : l.Perm m) : sortS l = sortS m := sortS_uniq ((sortS_perm l).trans h) (sortS_sorted l)
theorem rising_sorted : ∀ (p : Str) (l : List Str), risingS p l = true → ((p :: l).map fun x : Str => x.cps.toList).Pairwise (· ≤ ·)
  | p, [], _ => List.pairwise_singleton _ _
  | p, x :: r, h => by
    have h' : (!Spec.ltCps x.cps.toList p.cps.toList && risingS x r) = true := h
    rw [Bool.and_eq_true, ltCps_eq] at h'
    have ih := rising_sorted x r h'.2
    have hpx : p.cps.toList ≤ x.cps.toList := by
      have := h'.1
      simp only [Bool.not_eq_true', decide_eq_false_iff_not] at this
      exact this
    rw [List.map_cons, List.pairwise_cons]
    refine ⟨fun y hy => ?_, ih⟩
    rw [List.map_cons] at hy
    rcases List.mem_cons.mp hy with rfl | hy
    · exact hpx
    · rw [List.map_cons, List.pairwise_cons] at ih
      exact List.le_trans hpx (ih.1 y hy)

section
variable {w : World} {A : Around} {env : Env} {S : Scope} {s₀ s : Shared} {Z B : List Addr} {φ : Heap} {vs : List (Str × Vp)} {ow : List (Str × Addr × List Vp)} {L : Addr}

theorem vi_map (l : List Nat) : l.map vi = (l.map fun n : Nat => (n : Int)).map VI := by rw [List.map_map]; rfl
theorem sorted_new {h hp : Heap} {us : List Value} {out : Array Value} {ps : List Vp} (k : Keep h hp) (hA : ∀ φ, A2 φ out.toList ps) : Nw (VL ps) h (.ref (hp.objs.size + 1)) (sortedAll hp us out) := fun φ' nn => by
  obtain ⟨e, he⟩ := sortedAll_at hp us out
  have hn : h.get? (hp.objs.size + 1) = none := none_back k (by
    cases hq : hp.get? (hp.objs.size + 1) with
    | none => rfl
    | some o => exact absurd (Heap.lt_size hq) (Nat.not_lt.mpr (Nat.le_succ _)))
  exact ⟨_, out.toList, rfl, ⟨_, nn _ _ hn he, rfl, e, rfl⟩, hA φ'⟩
theorem Ev.sortI {H : Heap} {p pos : Pos} {e : Expr} {ls : List Nat} (hf : Ev w A env H (.Name "sorted" p) (IsV (.builtin "sorted"))) (he : Ev w A env H e (fun _ v h₁ => (VL (ls.map vi)).p h₁ v)) (hz : ls.length < 64) (hs : starEach [e] env = (false, eval e env) :: starEach [] env := by rfl) :
    Ev w A env H (.Call (.Name "sorted" p) [e] [] pos) (Nw (VL ((sortN ls).map vi))) :=
  Ev.bcall hf (as1 he hs) (fun vs h₁ h₂ ⟨v, e1, a, us, e2, hl, hA⟩ _ _ s k => by
    subst e1 e2
    rw [vi_map] at hA
    have hlen : us.length < 64 := by rw [hA.length, List.length_map, List.length_map]; exact hz
    refine sorted_ints (hl.mono k) hA.toInts hlen fun out ns' h1 h2 h3 => ⟨fun b o => sortedAll_old, rht, fun h hk => sorted_new hk fun φ => ?_⟩
    have e : ns' = (sortN ls).map fun n : Nat => (n : Int) := List.Perm.eq_of_pairwise (le := (· ≤ ·)) (fun a b _ _ h1 h2 => Int.le_antisymm h1 h2) h3 ((sortN_sorted ls).map _ fun a b h => by simpa using h) (h2.trans ((sortN_perm ls).symm.map _))
    rw [vi_map, ← e]
    exact A2.ofInts h1) hs
theorem Ev.sortT {H : Heap} {p pos : Pos} {e : Expr} {xs : List (List Nat)} (hf : Ev w A env H (.Name "sorted" p) (IsV (.builtin "sorted"))) (he : Ev w A env H e (fun _ v h₁ => (VL (xs.map VS)).p h₁ v)) (hz : xs.length < 64) (hs : starEach [e] env = (false, eval e env) :: starEach [] env := by rfl) :
    Ev w A env H (.Call (.Name "sorted" p) [e] [] pos) (Nw (VL ((sortS xs).map VS))) :=
  Ev.bcall hf (as1 he hs) (fun vs h₁ h₂ ⟨v, e1, a, us, e2, hl, hA⟩ _ _ s k => by
    subst e1 e2
    have hlen : us.length < 64 := by rw [hA.length, List.length_map]; exact hz
    refine sorted_strs (hl.mono k) hA.toSL hlen fun out ss' h1 h2 h3 => ⟨fun b o => sortedAll_old, rht, fun h hk => sorted_new hk fun φ => ?_⟩
    have e1 : (ss'.map fun x : Str => x.cps.toList) = sortS xs := by
      refine sortS_uniq ?_ ?_
      · have := h2.map fun x : Str => x.cps.toList
        rw [List.map_map] at this
        have e : xs.map ((fun x : Str => x.cps.toList) ∘ st) = xs := by
          conv => rhs; rw [← List.map_id xs]
          exact List.map_congr_left fun x _ => by simp
        rw [e] at this
        exact this
      · cases ss' with
        | nil => exact .nil
        | cons p l => exact rising_sorted p l h3
    refine A2.strs ?_
    unfold SL
    have e2 : (sortS xs).map st = ss' := by
      rw [← e1, List.map_map]
      conv => rhs; rw [← List.map_id ss']
      exact List.map_congr_left fun x _ => st_of x
    rw [e2]
    exact h1) hs

/-- busy objects turned -/
theorem St.busyZ {X : List Addr} {s' : Shared} (h : St w s₀ Z B φ L vs ow s) (hb : ∀ b ∈ X, b ∈ B) (hI : ∀ b ∈ X, b ∈ Z ∨ s₀.heap.get? b = none) (x : Xt X s.heap s'.heap) (r : Rest s s') (e : ∀ b ∈ X, ∃ o, s'.heap.get? b = some o) : St w s₀ Z B φ L vs ow s' := by
  refine ⟨h.top, fun b o e => x b o (fun q => ?_) (h.kp b o e), fun b o hb' e => x b o (fun q => ?_) (h.xt b o hb' e), h.rest.trans r, h.L0, h.LZ, ?_, fun d hd => ?_, h.dis, fun b hb' => ?_⟩
  · rw [(h.bz b (hb b q)).1] at e; cases e
  · rcases hI b q with z | z
    · exact hb' z
    · rw [z] at e; cases e
  · obtain ⟨m, n, a⟩ := h.ns
    exact ⟨m, x.ns n fun q => (h.bz L (hb L q)).2.1.1 rfl, a⟩
  · obtain ⟨⟨us, l, y⟩, c⟩ := h.own d hd
    exact ⟨⟨us, plain_xt l x fun q => (h.bz _ (hb _ q)).2.1.2 d hd rfl, y⟩, c⟩
  · obtain ⟨y, z, o, e'⟩ := h.bz b hb'
    refine ⟨y, z, ?_⟩
    by_cases q : b ∈ X
    · exact e b q
    · exact ⟨o, x b o q e'⟩

/-- x, y, z = e: two names and a cell -/
theorem St.asg3C {x y z : Str} {px py pz tp pos : Pos} {k : Nat} {e : Expr} {p q r : Vp} {c : Addr} {Q : Flow → Shared → Prop} (h : St w s₀ Z B φ env.locals vs [] s) (C : Cx A env S) (hx : S.names.lookup x = some .local) (hy : S.names.lookup y = some .local) (hz : S.names.lookup z = some .cell)
    (hc : env.cells.lookup z = some c) (hB : c ∈ B) (hZ : c ∈ Z ∨ s₀.heap.get? c = none) {old : Option Value} (hi : s.heap.IsCell c old) (he : Ev w A env s.heap e (Fz φ (VT [p, q, r])))
    (hq : ∀ φ' s', Keep φ φ' → St w s₀ Z B φ' env.locals ((y, q) :: (x, p) :: vs) [] s' → Cel φ' s'.heap c r → Q .next s')
    (hs : swapsWithSole [.Tuple [.Name x px, .Name y py, .Name z pz] k tp] e pos.line env = pure false := by rfl) (hw : swappedStores [.Tuple [.Name x px, .Name y py, .Name z pz] k tp] e env = pure none := by rfl) :
    wpAny (model prg w) A (exec (.Assign [.Tuple [.Name x px, .Name y py, .Name z pz] k tp] e pos) env) Q noE s := by
  refine Assign_Tuple (he.use (Keep.refl _) fun v s₁ k₁ r₁ hv => ?_) hs hw
  obtain ⟨φ', kφ, kφ', hf, k3⟩ := h.grow k₁ (Xt.refl _ _)
  have h1 := (h.step k₁ r₁).base kφ kφ' hf
  obtain ⟨T, us, rfl, hT, hA⟩ := hv φ' kφ k3
  cases hA with
  | cons e1 hA => cases hA with
    | cons e2 hA => cases hA with
      | cons e3 hA =>
        cases hA
        rename_i a b d
        refine wpAny_assign_Tuple (items := #[a, b, d]) C.hh ⟨_, kφ' _ _ hT, rfl, _, rfl⟩ rfl rfl fun h₁ hx₁ => ?_
        have k2 : Keep s₁.heap h₁ := fun b o e => hx₁ b o (Nat.ne_of_lt (Heap.lt_size e)) e
        have h2 := h1.step (s' := { s₁ with heap := h₁ }) k2 rht
        have hp : (env.scope.kind == .class || (env.scope.kind == .module && env.locals != env.globals)) = false := by rw [C.k]; rfl
        show wpAny _ A (do holding [b, d] (assign (.Name x px) env a); do holding [d] (assign (.Name y py) env b); do holding [] (assign (.Name z pz) env d); pure ()) _ _ _
        obtain ⟨m, hn, hm⟩ := h2.ns
        refine wpAny_bind (wpAny_holding (wpAny_assign_Name (wpAny_storeName_local (C.of hx) hn (fun h₂ hn₂ hs₂ => ?_) hp)))
        have h3 := h2.put (t := s₁.toks + 1) rfl e1 hm hn₂ hs₂
        obtain ⟨m2, hn2, hm2⟩ := h3.ns
        refine wpAny_bind (wpAny_holding (wpAny_assign_Name (wpAny_storeName_local (C.of hy) hn2 (fun h₃ hn₃ hs₃ => ?_) hp)))
        have h4 := h3.put (t := s₁.toks + 1 + 1) rfl e2 hm2 hn₃ hs₃
        have cL : c ≠ env.locals := (h.bz c hB).2.1.1
        have i2 : h₂.IsCell c old := ((hi.keeps k₁).keeps k2).sameBut hs₂ cL
        have i3 : h₃.IsCell c old := i2.sameBut hs₃ cL
        refine wpAny_bind (wpAny_holding (wpAny_assign_Name (wpAny_storeName_cell C.k (C.of hz) hc i3 fun h₄ hc₄ hs₄ => wpAny_pure ?_)))
        refine hq φ' _ kφ (h4.busyT (s' := { s₁ with heap := h₄, toks := s₁.toks + 1 + 1 }) hB hZ (Xt.of_same hs₄ (List.mem_singleton.mpr rfl)) rht (let ⟨o, ho, _⟩ := hc₄; ⟨o, ho⟩)) ⟨d, hc₄, e3⟩

/-- [kinds[letter] for letter in ..] -/
theorem Ev.pick {H : Heap} {gens : List Comprehension} {scope : Scope} {pos px p1 p2 p3 : Pos} {kn x : Str} {iter : Expr} {ks ls : List Nat} {c : Addr}
    (T : TopOk w H) (C : Cx A env S) (hgens : gens = [⟨.Name x px, iter, [], 0⟩]) (he : Ev w A env H iter (fun _ v h₁ => (VL (ls.map vi)).p h₁ v)) (hc : CeOk env.cells φ kn (VS ks)) (hcl : env.cells.lookup kn = some c) (hk : Keep φ H)
    (hfr : scope.names.filter (fun e => e.2 == .free) = [(kn, .free)]) (hcell : ∀ y ∈ scope.names, y.2 ≠ .cell) (hkind : scope.kind = .function) (hnames : ∀ y ∈ scope.names, y.2 = .local → scope.names.lookup y.1 = some .local)
    (hx : (relab scope S).names.lookup x = some .local) (hkn : (relab scope S).names.lookup kn = some .cell) (hz : ls.length ≤ 1000) (hkz : ks.length ≤ 1000) (hb : ∀ l ∈ ls, l < ks.length)
    (hev : eval (.ListComp (.Subscript (.Name kn p1) (.Name x p2) p3) gens scope pos) env = comprehension (.ListComp (.Subscript (.Name kn p1) (.Name x p2) p3) gens scope pos) scope env (firstIterPos gens pos) (newList []) false (eval iter env) none := by rfl)
    (hs : ∀ x, foldedSetIterable iter env x = pure x := by intro _; rfl) (hd : (x == ("__debug__" : Str)) = false := by decide) (hd2 : (kn == ("__debug__" : Str)) = false := by decide) :
    Ev w A env H (.ListComp (.Subscript (.Name kn p1) (.Name x p2) p3) gens scope pos) (Nw (VL (((ls.map fun l => ks.getD l 0).map ([·])).map VS))) := by
  have e5 : ((ls.map fun l => ks.getD l 0).map ([·])).map VS = (fun i => (((ls.take i).map fun l => ks.getD l 0).map ([·])).map VS) ls.length := by
    show _ = (((ls.take ls.length).map fun l => ks.getD l 0).map ([·])).map VS
    rw [List.take_length]
  rw [e5]
  subst hgens
  refine Ev.comp (p := VL (ls.map vi)) (n := ls.length) (pI := fun i => vi (ls.getD i 0)) (cl := [(kn, c)]) _ T C rfl he (fun h v s' k hv => itr_listF C.hh k hv) (clos_one hcl hfr) hcell hkind hnames (relab_eq C.sc) hx (fun i => (((ls.take i).map fun l => ks.getD l 0).map ([·])).map VS) rfl ?_ hev hs
  intro cenv D I B i φ₁ s₁ hcc hC hi k₁
  have e1 : ls.getD i 0 = ls[i] := by rw [List.getD_eq_getElem?_getD, List.getElem?_eq_getElem hi]; rfl
  have hbi := hb _ (List.getElem_mem hi)
  have e2 : ks.getD ls[i] 0 = ks[ls[i]] := by rw [List.getD_eq_getElem?_getD, List.getElem?_eq_getElem hbi]; rfl
  rw [e1]
  intro hCS
  refine wpAny_tests_nil (iteT rfl fun K Q hK => ?_)
  obtain ⟨c', v, hl', hi', hp'⟩ := hc
  have hc1 : CeOk cenv.cells φ kn (VS ks) := ⟨c, v, by rw [hcc, List.lookup_cons, beq_self_eq_true], (by rw [hcl] at hl'; cases hl'; exact hi'), hp'⟩
  refine comp_emit (q := VS [ks[ls[i]]]) rfl hCS (.inl (List.mem_cons_of_mem _ (.head _))) (by rw [List.length_map, List.length_map, List.length_map, List.length_take]; omega)
    ((Ev.idxS (Ev.cell (p := VS ks) hC.k (hC.of hkn) (hc1.mono (hk.trans k₁)) hCS.1.kp hd2) (hCS.1.nI hC (i := (ls[i] : Nat)) (by rw [List.lookup_cons, beq_self_eq_true]; rfl) hx hd) hbi (by omega)).mono (Keep.refl _) fun _ _ _ _ _ q _ => q) fun s' h' => hK φ₁ s' (Keep.refl _) ⟨h'.1.weak .nil, ?_⟩
  have h2 := h'.2
  have e3 : (((ls.take (i + 1)).map fun l => ks.getD l 0).map ([·])).map VS = (((ls.take i).map fun l => ks.getD l 0).map ([·])).map VS ++ [VS [ks[ls[i]]]] := by
    rw [List.take_add_one, List.getElem?_eq_getElem hi, List.map_append, List.map_append, List.map_append]
    show _ ++ [VS [ks.getD ls[i] 0]] = _
    rw [e2]
  rw [e3]
  exact h2
end
end Mine
namespace Mine
open PySem.AutoSeq1 (wpAny_loadPart')
/-! enumerate over a tuple -/
section
variable {prog : Program} {w : World} {A : Around} {s : Shared}
/-- a turn of a tuple's iterator: a sign of the tuple, or the end -/
theorem turnT {it T : Addr} {i : Nat} {us : Array Value} {Q E : Value → Shared → Prop} (hh : A.handled = none) (hI : s.heap.IsTupleIter it T i) (hT : s.heap.IsTuple T us)
    (more : ∀ x h', us[i]? = some x → h'.IsTupleIter it T (i + 1) → Heap.SameBut it s.heap h' → Q x { s with heap := h' })
    (stop : us[i]? = none → ∀ e h', Heap.ExtBut it s.heap h' → (∃ o, h'.get? e = some o ∧ o.cls = .type "StopIteration") → E (.ref e) { s with heap := h' }) :
    wpAny (model prog w) A (Builtin.SmallTypes.nextOf (.ref it)) Q E s := by
  have hy := hI.typeIs
  obtain ⟨⟨c, dc, dt, sl⟩, lI, rfl, rfl⟩ := hI
  obtain ⟨⟨cT, dT, tT, sT⟩, lT, rfl, nT, rfl⟩ := hT
  unfold Builtin.SmallTypes.nextOf
  refine wpAny_bind (wpAny_callSpecial?_slot (name := "__next__") hy F.slot_tuple_iterator_next (wpAny_call_entry F.slot_tuple_iterator_next hy F.entry_tuple_iterator_next ?_ (F.args_tuple_iterator_next_1 _)))
  cases hx : us[i]? with
  | some x =>
    have hx' : us[((i : Int)).toNat]? = some x := hx
    wp_walk
    rw [hx']
    wp_walk
    exact ⟨x, rfl, wpAny_pure (more x _ hx ⟨_, Heap.get?_update_self _ lI rfl, rfl, rfl⟩ (Heap.SameBut.update ..))⟩
  | none =>
    have hx' : us[((i : Int)).toNat]? = none := hx
    wp_walk
    rw [hx']
    wp_walk
    unfold raiseNew
    refine wpAny_bind (wpAny_handled ?_)
    rw [show A.in1.handled = none from hh]
    wp_walk
    exact stop hx _ _ (fun b o hb e => Heap.get?_push_of_some _ (Heap.get?_push_of_some _ ((Heap.SameBut.update ..).extBut b o hb e))) ⟨_, Heap.get?_push_size _ rfl, rfl⟩

theorem drawsT (hh : A.handled = none) (it T : Addr) (ne : T ≠ it) (us : Array Value) : Draws prog w A it [it, T] us.size (fun i v => us[i]? = some v) fun i h => h.IsTupleIter it T i ∧ h.IsTuple T us where
  live := fun _ _ x => ⟨x.1.choose, x.1.choose_spec.1⟩
  frame := fun _ _ _ x k => ⟨x.1.at (k it (.head _)), let ⟨o, e, r⟩ := x.2; ⟨o, k T (.tail _ (.head _)) o e, r⟩⟩
  item := fun i s Q E lt x q => turnT hh x.1 x.2 (fun v h' hv hI hs => q v h' s.toks hv ⟨hI, x.2.extBut hs.extBut ne⟩ hs) fun hn => absurd hn (by simp [lt])
  done := fun s Q E x q => turnT hh x.1 x.2 (fun v h' hv => absurd hv (by simp)) fun _ e h' k c => q h' e k c

/-- the iterator, the enumeration -/
noncomputable abbrev itO (T : Addr) : Obj := { cls := .type "tuple_iterator", data := .fields #[.ref T, .int 0 0] }
noncomputable abbrev enO (it : Addr) : Obj := { cls := .type "enumerate", data := .fields #[.none, .bool false, .ref it, rawInt 0, .none, .none] }
theorem any_bool {M : Model} {b : Bool} {Q : Bool → Shared → Prop} {E : Value → Shared → Prop} (h : ∀ c, Q c s) : wpAny M A (pure b) Q E s := wpAny_pure (h b)
theorem newEnum (T : Addr) (us : Array Value) (n : Nat) : Meets (Builtin.«enumerate.__new__» ⟨[.type "enumerate", .ref T], []⟩) fun _ R s => s.heap.get? T = some { cls := .type "tuple", data := .seq us n } ∧
    R (.ok (.ret (.ref (s.heap.push (itO T)).objs.size))) { s with heap := (s.heap.push (itO T)).push (enO s.heap.objs.size) } := .of_wp fun _ _ _ _ s ⟨lT, q⟩ => by
  have sub := sub_enumerate
  have tup : s.heap.IsTuple T us := ⟨_, lT, rfl, n, rfl⟩
  wp_walk using wpAny_loadPart' lT
  refine wpAny_stack_any fun _ => any_bool fun short => ?_
  cases short <;> (wp_walk using wpAny_loadPart' lT, wpAny_pyIter_tuple tup; exact ⟨_, rfl, q⟩)
/-- an enumeration is made -/
theorem call_enumT {E Q : Value → Shared → Prop} {T : Addr} {us : Array Value} {n : Nat} (lT : s.heap.get? T = some { cls := .type "tuple", data := .seq us n })
    (q : ∀ h', IsEnum h' (s.heap.objs.size + 1) s.heap.objs.size 0 .none → h'.IsTupleIter s.heap.objs.size T 0 → h'.objs.size = s.heap.objs.size + 2 → (∀ b o, s.heap.get? b = some o → h'.get? b = some o) → Q (.ref (s.heap.objs.size + 1)) { s with heap := h' }) :
    wpAny (model prog w) A (call (.type "enumerate") [.ref T]) Q E s := by
  have z : (s.heap.push (itO T)).objs.size = s.heap.objs.size + 1 := Heap.size_push ..
  have new : IsEnum ((s.heap.push (itO T)).push (enO s.heap.objs.size)) (s.heap.objs.size + 1) s.heap.objs.size 0 .none := z ▸ Heap.get?_push_size (s.heap.push (itO T)) rfl
  refine callType_new F.called_enumerate (by decide) (F.typeCall_enumerate_1 _) (F.newCall_enumerate_1 _) (fun _ => F.args_object_init_2 _ _) F.entry_enumerate_new (newEnum T us n) ⟨lT, ?_⟩
  show Shared.TypeIs _ _ _ ∧ _
  rw [z]
  exact ⟨⟨_, new, rfl⟩, q _ new ⟨_, Heap.get?_push_of_some _ (Heap.get?_push_size _ rfl), rfl, rfl⟩ ((Heap.size_push ..).trans (congrArg (· + 1) z)) fun _ _ x => Heap.get?_push_of_some _ (Heap.get?_push_of_some _ x)⟩
end
end Mine
namespace Mine
open Sem (wp)

section
variable {w : World} {A : Around} {env : Env} {S : Scope} {s₀ s : Shared} {Z B : List Addr} {φ : Heap} {vs : List (Str × Vp)} {ow : List (Str × Addr × List Vp)} {L : Addr}

theorem ev_tup5 {H : Heap} {a b c d e : Int} {k1 k2 k3 k4 k5 kt : Nat} {p1 p2 p3 p4 p5 pt : Pos} : Ev w A env H (.Tuple [.Constant (.int a) k1 p1, .Constant (.int b) k2 p2, .Constant (.int c) k3 p3, .Constant (.int d) k4 p4, .Constant (.int e) k5 p5] kt pt)
    (fun h₀ v h₁ => ∃ (T : Addr) (us : List Value), v = .ref T ∧ h₀.get? T = none ∧ IsTup h₁ T us ∧ ∀ h, A2 h us ([a, b, c, d, e].map VI)) := fun s k =>
  wpAny_Tuple (wpAny_items_cons (wpAny_Constant_int (wpAny_items_cons (wpAny_Constant_int (wpAny_items_cons (wpAny_Constant_int (wpAny_items_cons (wpAny_Constant_int (wpAny_items_cons (wpAny_Constant_int (wpAny_items_nil
    ⟨by rw [sizeLine_eq]; show 5 ≤ 16777216; decide, fun b o e => Heap.get?_push_of_some _ e, rht, _, _, rfl, size_none _, Heap.get?_push_size _ rfl, fun h => .cons ⟨_, rfl⟩ (.cons ⟨_, rfl⟩ (.cons ⟨_, rfl⟩ (.cons ⟨_, rfl⟩ (.cons ⟨_, rfl⟩ .nil))))⟩)))))))))))

/-- an enumeration of a tuple of ints, new -/
noncomputable def EnumT (fs : List Int) : Heap → Value → Heap → Prop := fun h₀ v h₁ => ∃ (e it T : Addr) (us : List Value), v = .ref e ∧ h₀.get? e = none ∧ h₀.get? it = none ∧ h₀.get? T = none ∧ IsEnum h₁ e it 0 .none ∧ h₁.IsTupleIter it T 0 ∧ IsTup h₁ T us ∧ (e ≠ it ∧ T ≠ e ∧ T ≠ it) ∧ ∀ h, A2 h us (fs.map VI)
theorem Ev.enumT {H : Heap} {p pos : Pos} {e : Expr} {fs : List Int} (hf : Ev w A env H (.Name "enumerate" p) (IsV (.type "enumerate"))) (he : Ev w A env H e (fun h₀ v h₁ => ∃ (T : Addr) (us : List Value), v = .ref T ∧ h₀.get? T = none ∧ IsTup h₁ T us ∧ ∀ h, A2 h us (fs.map VI)))
    (hs : starEach [e] env = (false, eval e env) :: starEach [] env := by rfl) : Ev w A env H (.Call (.Name "enumerate" p) [e] [] pos) (EnumT fs) := fun s k =>
  wpAny_Call_ofName (hf.use k fun v s₁ k₁ r₁ h₁ => by
    cases h₁
    exact PyProof.Rows.callWith_type1 ((as1 he hs).use (k.trans k₁) fun us s₂ k₂ r₂ h₂ => by
      obtain ⟨v, rfl, T, us, rfl, hT, hT2, hA⟩ := h₂
      have kk := k₁.trans k₂
      have hlt : T < s₂.heap.objs.size := Heap.lt_size hT2
      refine call_enumT hT2 fun h' he' hi' hz hk => ⟨fun b o e => hk b o (kk b o e), (r₁.trans r₂).ht, _, s₂.heap.objs.size, T, us, rfl, none_back kk ?_, none_back kk (size_none _), none_back k₁ hT, he', hi', hk _ _ hT2, ⟨Nat.succ_ne_self _, Nat.ne_of_lt (Nat.lt_succ_of_lt hlt), Nat.ne_of_lt hlt⟩, hA⟩
      cases hq : s₂.heap.get? (s₂.heap.objs.size + 1) with
      | none => rfl
      | some o => exact absurd (Heap.lt_size hq) (Nat.not_lt.mpr (Nat.le_succ _))) hs rfl)

theorem St.fresh {b : Addr} (h : St w s₀ Z B φ L vs ow s) (hb : s.heap.get? b = none) : φ.get? b = none ∧ (b ≠ L ∧ ∀ e ∈ ow, e.2.1 ≠ b) ∧ b ∉ B ∧ (b ∈ Z ∨ s₀.heap.get? b = none) := by
  refine ⟨none_back h.kp hb, ⟨fun q => ?_, fun e he q => ?_⟩, fun q => ?_, ?_⟩
  · obtain ⟨m, ⟨o, es, ep, ho, _⟩, _⟩ := h.ns
    rw [q, show s.heap.get? L = some o from ho] at hb; cases hb
  · obtain ⟨⟨us, ⟨n, l⟩, _⟩, _⟩ := h.own e he
    rw [q, hb] at l; cases l
  · obtain ⟨_, _, o, e⟩ := h.bz b q
    rw [hb] at e; cases e
  · by_cases hz : b ∈ Z
    · exact .inl hz
    · refine .inr ?_
      cases hq : s₀.heap.get? b with
      | none => rfl
      | some o => rw [h.xt b o hz hq] at hb; cases hb

/-- for xk, xf in enumerate((..)): body; a cell and an own list are turned -/
theorem St.forE {xk xf la : Str} {pk pf pt pos : Pos} {ck : Nat} {iter : Expr} {body : List Stmt} {fs : List Int} {Q : Flow → Shared → Prop} {a c : Addr} {vs0 : List (Str × Vp)} {P : Nat → List Nat → List Nat → Prop} {pool : List Nat} {ls : List Nat}
    (h : St w s₀ Z B φ env.locals vs [(la, a, ls.map vi)] s) (C : Cx A env S) (hB : c ∈ B) (hc0 : c ∈ Z ∨ s₀.heap.get? c = none) (hi : Cel φ s.heap c (VS pool)) (h0 : P 0 pool ls) (hsub : Sub vs0 vs) (he : Ev w A env s.heap iter (EnumT fs))
    (hxk : S.names.lookup xk = some .local) (hxf : S.names.lookup xf = some .local) (nk : (la == xk) = false) (nf : (la == xf) = false)
    (step : ∀ i e it φ₁ s₁ pool ls, i < fs.length → Keep φ φ₁ → P i pool ls → St w s₁ [env.locals, a, c] (e :: it :: B) φ₁ env.locals ((xf, VI (fs.getD i 0)) :: (xk, vi i) :: vs0) [(la, a, ls.map vi)] s₁ → Cel φ₁ s₁.heap c (VS pool) →
      wpAny (model prg w) A (execs body env) (fun f s₂ => f = .next ∧ ∃ φ₂ pool' ls', Keep φ₁ φ₂ ∧ P (i + 1) pool' ls' ∧ St w s₁ [env.locals, a, c] (e :: it :: B) φ₂ env.locals vs0 [(la, a, ls'.map vi)] s₂ ∧ Cel φ₂ s₂.heap c (VS pool')) noE s₁)
    (fin : ∀ φ₁ s₁ pool ls, Keep φ φ₁ → P fs.length pool ls → St w s₀ Z B φ₁ env.locals vs0 [(la, a, ls.map vi)] s₁ → Cel φ₁ s₁.heap c (VS pool) → Q .next s₁)
    (hs : ∀ v, foldedSetIterable iter env v = pure v := by intro _; rfl) :
    wpAny (model prg w) A (exec (.For (.Tuple [.Name xk pk, .Name xf pf] ck pt) iter body [] pos) env) Q noE s := by
  refine wpAny_For (he.use (Keep.refl _) fun v s₁ k₁ r₁ hv => ?_) hs
  obtain ⟨e, it, T, us, rfl, e0, i0, t0, hE, hIt, hT, ⟨nei, nTe, nTi⟩, hA⟩ := hv
  obtain ⟨fe1, fe2, fe3, fe4⟩ := h.fresh e0
  obtain ⟨fi1, fi2, fi3, fi4⟩ := h.fresh i0
  obtain ⟨ft1, ft2, ft3, ft4⟩ := h.fresh t0
  have itO : ∃ o, s₁.heap.get? it = some o := let ⟨o, ho, _⟩ := hIt; ⟨o, ho⟩
  obtain ⟨φ', kφ, hS, out⟩ := (((h.step k₁ r₁).addb fi1 fi2 itO).addb fe1 fe2 ⟨_, hE⟩).wide (B' := e :: it :: B) fun _ hb => hb
  have hTφ : φ'.get? T = some { cls := .type "tuple", data := .seq us.toArray } := out T _ (fun q => by
    rcases List.mem_cons.mp q with q | q
    · exact ft2.1 q
    · rcases List.mem_append.mp q with q | q
      · rcases List.mem_cons.mp q with q | q
        · exact nTe q
        · rcases List.mem_cons.mp q with q | q
          · exact nTi q
          · exact ft3 q
      · obtain ⟨d, hd, q⟩ := List.mem_map.mp q
        exact ft2.2 d hd q) hT
  have W := WalksT.enumerateD (prog := prg) (w := w) (A := A) (drawsT (A := A.in1) C.hh it T nTi us.toArray) e nei (fun q => by
    rcases List.mem_cons.mp q with q | q
    · exact nei q
    · exact nTe (List.mem_singleton.mp q).symm) (.head _)
  have ez : us.toArray.size = fs.length := by rw [List.size_toArray, (hA φ).length, List.length_map]
  rw [ez] at W
  have hce : c ≠ e := fun q => fe3 (q ▸ hB)
  have hci : c ≠ it := fun q => fi3 (q ▸ hB)
  have eiB : ∀ b ∈ [e, it], b ∈ e :: it :: B := fun b hb => by
    rcases List.mem_cons.mp hb with rfl | hb
    · exact .head _
    · rw [List.mem_singleton.mp hb]; exact .tail _ (.head _)
  have eiZ : ∀ b ∈ [e, it], b ∈ Z ∨ s₀.heap.get? b = none := fun b hb => by
    rcases List.mem_cons.mp hb with rfl | hb
    · exact fe4
    · rw [List.mem_singleton.mp hb]; exact fi4
  have cei : c ∉ [e, it] := fun q => by
    rcases List.mem_cons.mp q with q | q
    · exact hce q
    · exact hci (List.mem_singleton.mp q)
  refine W.self 0 s₁ _ _ ⟨⟨_, hE⟩, hIt, ⟨_, hT, rfl, _, rfl⟩⟩ ?_
  refine codeAny_forLoop_any (fun k s' => ∃ i φ₂ pool ls, k = fs.length - i ∧ i ≤ fs.length ∧ Keep φ' φ₂ ∧ P i pool ls ∧ ((∃ old, IsEnum s'.heap e it i old) ∧ (s'.heap.IsTupleIter it T i ∧ s'.heap.IsTuple T us.toArray)) ∧ St w s₀ Z (e :: it :: B) φ₂ env.locals vs0 [(la, a, ls.map vi)] s' ∧ Cel φ₂ s'.heap c (VS pool)) ?_ fs.length
    ⟨0, φ', pool, ls, rfl, Nat.zero_le _, Keep.refl _, h0, ⟨⟨_, hE⟩, hIt, ⟨_, hT, rfl, _, rfl⟩⟩, hS.weak hsub, (hi.keeps kφ k₁)⟩
  rintro k s' ⟨i, φ₂, pool, ls, rfl, hi5, k₂, hP, hWi, hS2, hC2⟩
  rcases Nat.lt_or_ge i fs.length with hlt | hge
  · refine W.item i s' _ _ hlt hWi fun Tt vals h' tk hPt hTs hTup hMid hk => ?_
    obtain ⟨t, x, hx, rfl⟩ := hPt
    have x1 : Xt [e, it] s'.heap h' := fun b o hb e => hk b o hb e
    have hS3 := hS2.busyZ (s' := { s' with heap := h', toks := tk }) eiB eiZ x1 rht fun b hb => by
      obtain ⟨⟨_, ho⟩, ⟨⟨o, ho2, _⟩, _⟩, _⟩ := hMid
      rcases List.mem_cons.mp hb with rfl | hb
      · exact ⟨_, ho⟩
      · rw [List.mem_singleton.mp hb]; exact ⟨o, ho2⟩
    have hC3 := hC2.xt x1 cei
    refine W.go _ ck pt i Tt { s' with heap := h', toks := tk } _ _ hMid fun h₂ hst₂ hk₂ => ?_
    have x2 : Xt [e, it] h' h₂ := fun b o hb e => hk₂ b o hb e
    have hS4 := hS3.busyZ (s' := { s' with heap := h₂, toks := tk }) eiB eiZ x2 rht fun b hb => by
      obtain ⟨⟨_, ho⟩, ⟨o, ho2, _⟩, _⟩ := hst₂
      rcases List.mem_cons.mp hb with rfl | hb
      · exact ⟨_, ho⟩
      · rw [List.mem_singleton.mp hb]; exact ⟨o, ho2⟩
    have hC4 := hC3.xt x2 cei
    have ht₂ : h₂.IsTuple Tt #[.int i t, x] := let ⟨o, ho, r⟩ := hTup; ⟨o, hk₂ Tt o (W.apart i Tt h' hMid) ho, r⟩
    refine wpAny_assign_Tuple (items := #[.int i t, x]) C.hh ht₂ rfl rfl fun h₃ hx₃ => ?_
    have k3 : Keep h₂ h₃ := fun b o e => hx₃ b o (Nat.ne_of_lt (Heap.lt_size e)) e
    have hS5 := hS4.step (s' := { s' with heap := h₃, toks := tk }) k3 rht
    have hC5 := hC4.keeps (Keep.refl _) k3
    have hp : (env.scope.kind == .class || (env.scope.kind == .module && env.locals != env.globals)) = false := by rw [C.k]; rfl
    show wpAny _ A (do holding [x] (assign (.Name xk pk) env (.int i t)); do holding [] (assign (.Name xf pf) env x); pure ()) _ _ _
    have ok : getO [(la, a, ls.map vi)] xk = none := by unfold getO; rw [show ((la, a, ls.map vi).1 == xk) = false from nk]; rfl
    have of : getO [(la, a, ls.map vi)] xf = none := by unfold getO; rw [show ((la, a, ls.map vi).1 == xf) = false from nf]; rfl
    have hxv : (VI (fs.getD i 0)).p φ₂ x := by
      obtain ⟨v, hv, hpv⟩ := (hA φ₂).get (i := i) (p := VI fs[i]) (asI (List.getElem?_eq_getElem hlt))
      have hx' : us[i]? = some x := by simpa using hx
      rw [hx'] at hv
      cases hv
      rw [List.getD_eq_getElem?_getD, List.getElem?_eq_getElem hlt]
      exact hpv
    obtain ⟨m, hn, hm⟩ := hS5.ns
    refine wpAny_bind (wpAny_holding (wpAny_assign_Name (wpAny_storeName_local (C.of hxk) hn (fun h₄ hn₄ hs₄ => ?_) hp)))
    have hS6 := hS5.put (x := xk) (p := vi i) (t := tk + 1) ok ⟨t, rfl⟩ hm hn₄ hs₄
    obtain ⟨m2, hn2, hm2⟩ := hS6.ns
    refine wpAny_bind (wpAny_holding (wpAny_assign_Name (wpAny_storeName_local (C.of hxf) hn2 (fun h₅ hn₅ hs₅ => wpAny_pure ?_) hp)))
    have hS7 := hS6.put (x := xf) (p := VI (fs.getD i 0)) (t := tk + 1 + 1) of hxv hm2 hn₅ hs₅
    have x5 : Xt [env.locals] h₃ h₅ := (Xt.of_same hs₄ (List.mem_singleton.mpr rfl)).trans (Xt.of_same hs₅ (List.mem_singleton.mpr rfl))
    have cL : c ≠ env.locals := (h.bz c hB).2.1.1
    have hC7 : Cel φ₂ h₅ c (VS pool) := hC5.xt x5 fun q => cL (List.mem_singleton.mp q)
    have eL : e ≠ env.locals := fe2.1
    have iL : it ≠ env.locals := fi2.1
    have hz : ∀ b ∈ [env.locals, a, c], b ∈ Z ∨ s₀.heap.get? b = none := fun b hb => by
      rcases List.mem_cons.mp hb with rfl | hb
      · exact h.LZ
      · rcases List.mem_cons.mp hb with rfl | hb
        · exact (h.own _ (.head _)).2.2.2
        · rw [List.mem_singleton.mp hb]; exact hc0
    refine fromNoE (wpAny_mono (step i e it φ₂ _ pool ls hlt (kφ.trans k₂) hP (hS7.markZ [env.locals, a, c] (.head _) fun d hd => by rw [List.mem_singleton.mp hd]; exact .tail _ (.head _)) hC7) (fun f s₆ h6 => ?_) fun _ _ z => z)
    obtain ⟨rfl, φ₃, pool', ls', k₃, hP', h6, hC6⟩ := h6
    refine ⟨fs.length - (i + 1), Nat.sub_lt_sub_left hlt (Nat.lt_succ_self i), i + 1, φ₃, pool', ls', rfl, hlt, k₂.trans k₃, hP', W.frame _ _ _ hst₂ fun b hb o e' => ?_, hS7.backZ hz h6, hC6⟩
    have aeB : ∀ b ∈ [e, it], b ∉ [env.locals, a, c] := fun b hb q => by
      have hbB := (hS7.bz b (eiB b hb)).2.1
      rcases List.mem_cons.mp q with q | q
      · exact hbB.1 q
      · rcases List.mem_cons.mp q with q | q
        · exact hbB.2 _ (.head _) q.symm
        · rw [List.mem_singleton.mp q] at hb; exact cei hb
    have go : b ∈ [e, it] → s₆.heap.get? b = some o := fun hb' => h6.xt b o (aeB b hb') (x5 b o (fun q => (hS7.bz b (eiB b hb')).2.1.1 (List.mem_singleton.mp q)) (k3 b o e'))
    rcases List.mem_cons.mp hb with rfl | hb
    · exact go (.head _)
    · rcases List.mem_cons.mp hb with rfl | hb
      · exact go (.tail _ (.head _))
      · rw [List.mem_singleton.mp hb] at e' ⊢
        have e1 := hS4.kp _ _ (k₂ _ _ hTφ)
        have : o = { cls := .type "tuple", data := .seq us.toArray } := Option.some.inj (e'.symm.trans e1)
        rw [this]
        exact h6.kp _ _ (k₃ _ _ (k₂ _ _ hTφ))
  · obtain rfl : i = fs.length := Nat.le_antisymm hi5 hge
    refine W.done s' _ _ hWi fun h' tk hk => wpAny_execs_nil ?_
    have x1 : Xt [e, it] s'.heap h' := fun b o hb e => hk b o hb e
    have hS4 : St w s₀ Z B φ₂ env.locals vs0 [(la, a, ls.map vi)] { s' with heap := h', toks := tk } := by
      refine ⟨hS2.top, fun b o e' => x1 b o (fun q => ?_) (hS2.kp b o e'), fun b o hb e' => x1 b o (fun q => ?_) (hS2.xt b o hb e'), hS2.rest.trans rht, hS2.L0, hS2.LZ, ?_, fun d hd => ?_, hS2.dis, fun b hb => ?_⟩
      · rw [(hS2.bz b (eiB b q)).1] at e'; cases e'
      · rcases eiZ b q with z | z
        · exact hb z
        · rw [z] at e'; cases e'
      · obtain ⟨m, n, x⟩ := hS2.ns
        exact ⟨m, x1.ns n fun q => (hS2.bz _ (eiB _ q)).2.1.1 rfl, x⟩
      · obtain ⟨⟨zs, l, y⟩, x⟩ := hS2.own d hd
        exact ⟨⟨zs, plain_xt l x1 fun q => (hS2.bz _ (eiB _ q)).2.1.2 d hd rfl, y⟩, x⟩
      · obtain ⟨x, y, o, e'⟩ := hS2.bz b (.tail _ (.tail _ hb))
        refine ⟨x, y, o, x1 b o (fun q => ?_) e'⟩
        rcases List.mem_cons.mp q with q | q
        · exact fe3 (q ▸ hb)
        · exact fi3 (List.mem_singleton.mp q ▸ hb)
    exact fin φ₂ _ pool ls (kφ.trans k₂) hP hS4 (hC2.xt x1 cei)
end
end Mine
namespace Mine
theorem chk_all (w : List Nat) (h : okW w = true) : chkK w = true := by
  obtain ⟨h1, h2⟩ := (okW_iff w).mp h
  cases w with
  | nil => cases h1
  | cons c w =>
    have hl : w.length = 4 := Nat.succ.inj h1
    have ha : ∀ d ∈ w, d ≤ 3 := fun d hd => h2 d (.tail _ hd)
    have := h2 c (.head _)
    clear h h1 h2
    match c, this with
    | 0, _ => exact allV_sound 4 _ k0 w hl ha
    | 1, _ => exact allV_sound 4 _ k1 w hl ha
    | 2, _ => exact allV_sound 4 _ k2 w hl ha
    | 3, _ => exact allV_sound 4 _ k3 w hl ha
theorem tree_N (w : List Nat) (h : okW w = true) : treeG 4 5 tkN w = (render (bst w), rowT (bst w)) := by
  unfold treeG
  rw [List.foldl_reverse]
  exact tree_bst w ((okW_iff w).mp h).2
/-- the law for small numbers -/
theorem plainN (w : List Nat) (h : okW w = true) : ∃ F lo hi, classF (wantsG [0, 1, 2, 3]) 60 [w] [] [] 0 = some (F, [lo], [hi]) ∧ F.Perm (wordsF [0, 1, 2, 3] 6 w) ∧ F.length ≤ 60 ∧
    (∀ one ∈ F, okW one = true ∧ treeG 4 5 tkN one = treeG 4 5 tkN w) ∧ readG (inord (bst w)) (symF 6 7 4 5 0 1 2 3 tkN (treeG 4 5 tkN w).2 41 (treeG 4 5 tkN w).1) = some [(lo, hi)] ∧
    (inord (bst w)).Perm w ∧ (inord (bst w)).Pairwise (· ≤ ·) ∧ (treeG 4 5 tkN w).1.length ≤ 40 ∧ okW lo = true ∧ okW hi = true := by
  obtain ⟨F, he, hF, hp⟩ := chkK_sound h (chk_all w h)
  obtain ⟨h1, h2⟩ := (okW_iff w).mp h
  have hT := tree_N w h
  have hb := bst_perm w
  have hr : (render (bst w)).length = 27 := by rw [render_len, hb.length_eq, h1]
  have ok : ∀ {x : List Nat}, x.Perm (inord (bst w)) → okW x = true := fun {x} q => (okW_iff x).mpr ⟨by rw [(q.trans hb).length_eq, h1], fun c hc => h2 c ((q.trans hb).subset hc)⟩
  refine ⟨F, post (bst w), mir (bst w), by rw [ws4_eq, class_eq, he], hp, hF, fun one ho => ?_, ?_, hb, bst_sorted w, by rw [hT]; show (render (bst w)).length ≤ 40; rw [hr]; decide, ok (post_perm _), ok (mir_perm _)⟩
  · have e := words_bst 6 w (by rw [h1]; decide) h2 one (hp.subset ho)
    have ho' := ok_bst h e
    exact ⟨ho', by rw [tree_N one ho', hT, e]⟩
  · rw [hT]
    show readG _ (symF 6 7 4 5 0 1 2 3 tkN (rowT (bst w)) 41 (render (bst w))) = _
    rw [sym_tree _ 41 _ (leT_bst w h2) (by rw [hr]; decide)]
    exact read_bst w

/-- the signs' own names -/
noncomputable def fK (ks : List Nat) (n : Nat) : Nat := (ks ++ [40, 41, 92, 34]).getD n (n + 1000)
noncomputable def gK (ks : List Nat) (z : Int) : Int := if z < 0 then z else if z ≤ 3 then tokOf (ks.getD z.toNat 0) else z + 1000
theorem fK_low {ks : List Nat} (h4 : ks.length = 4) {n : Nat} (h : n ≤ 3) : fK ks n = ks.getD n 0 := by
  unfold fK
  rw [getD_at (by rw [List.length_append]; omega), getD_at (by omega), List.getElem_append_left (by omega)]
theorem fK_inj {ks : List Nat} (hk : ks.Sublist order21) (h4 : ks.length = 4) : Inj (fK ks) := by
  have hn : (ks ++ [40, 41, 92, 34]).Nodup := by
    rw [List.nodup_append]
    refine ⟨hk.nodup (by decide), by decide, fun a ha b hb => ?_⟩
    have h1 := hk.subset ha
    have : ∀ a ∈ order21, ∀ b ∈ [40, 41, 92, 34], a ≠ b := by decide
    exact this a h1 b hb
  have hl : (ks ++ [40, 41, 92, 34]).length = 8 := by rw [List.length_append, h4]; rfl
  have hs : ∀ c ∈ ks ++ [40, 41, 92, 34], c < 1000 := fun c hc => by
    rcases List.mem_append.mp hc with hc | hc
    · have : ∀ c ∈ order21, c < 1000 := by decide
      exact this c (hk.subset hc)
    · have : ∀ c ∈ [40, 41, 92, 34], c < 1000 := by decide
      exact this c hc
  intro a b e
  unfold fK at e
  by_cases ha : a < (ks ++ [40, 41, 92, 34]).length
  · have h1 := hs _ (List.getElem_mem ha)
    by_cases hb : b < (ks ++ [40, 41, 92, 34]).length
    · rw [getD_at ha, getD_at hb] at e
      exact (List.getElem?_inj ha hn).mp (by rw [List.getElem?_eq_getElem ha, List.getElem?_eq_getElem hb, e])
    · rw [getD_at ha, List.getD_eq_getElem?_getD, List.getElem?_eq_none (Nat.le_of_not_lt hb)] at e
      simp only [Option.getD_none] at e
      omega
  · by_cases hb : b < (ks ++ [40, 41, 92, 34]).length
    · have h1 := hs _ (List.getElem_mem hb)
      rw [getD_at hb, List.getD_eq_getElem?_getD, List.getElem?_eq_none (Nat.le_of_not_lt ha)] at e
      simp only [Option.getD_none] at e
      omega
    · rw [List.getD_eq_getElem?_getD, List.getElem?_eq_none (Nat.le_of_not_lt ha), List.getD_eq_getElem?_getD, List.getElem?_eq_none (Nat.le_of_not_lt hb)] at e
      simp only [Option.getD_none] at e
      omega
theorem gK_mon {ks : List Nat} (hk : ks.Sublist order21) (h4 : ks.length = 4) : Mon (gK ks) := by
  have hp : (ks.map tokOf).Pairwise (· < ·) := List.Pairwise.sublist (hk.map tokOf) (by decide)
  have hb : ∀ i, i ≤ 3 → 9 ≤ tokOf (ks.getD i 0) ∧ tokOf (ks.getD i 0) ≤ 54 := fun i hi => by
    have : ∀ c ∈ order21, 9 ≤ tokOf c ∧ tokOf c ≤ 54 := by decide
    rw [getD_at (by omega)]
    exact this _ (hk.subset (List.getElem_mem _))
  have hm : ∀ i j, i < j → j ≤ 3 → tokOf (ks.getD i 0) < tokOf (ks.getD j 0) := fun i j hij hj => by
    have := List.pairwise_iff_getElem.mp hp i j (by rw [List.length_map]; omega) (by rw [List.length_map]; omega) hij
    rw [getD_at (by omega), getD_at (by omega)]
    simpa using this
  have st : ∀ a b, a < b → gK ks a < gK ks b := fun a b hab => by
    unfold gK
    by_cases ha : a < 0
    · rw [if_pos ha]
      by_cases h0 : b < 0
      · rw [if_pos h0]; exact hab
      · rw [if_neg h0]
        by_cases h3 : b ≤ 3
        · rw [if_pos h3]; have := hb b.toNat (by omega); omega
        · rw [if_neg h3]; omega
    · have hb0 : ¬ b < 0 := by omega
      rw [if_neg ha, if_neg hb0]
      by_cases h3 : a ≤ 3
      · rw [if_pos h3]
        by_cases h3' : b ≤ 3
        · rw [if_pos h3']; exact hm a.toNat b.toNat (by omega) (by omega)
        · rw [if_neg h3']; have := hb a.toNat (by omega); omega
      · have h3' : ¬ b ≤ 3 := by omega
        rw [if_neg h3, if_neg h3']; omega
  intro a b
  constructor
  · intro h
    rcases Int.lt_trichotomy a b with q | q | q
    · exact q
    · rw [q] at h; exact absurd h (Int.lt_irrefl _)
    · exact absurd (Int.lt_trans h (st b a q)) (Int.lt_irrefl _)
  · exact st a b
theorem tok_K {ks : List Nat} (h4 : ks.length = 4) {c : Nat} (h : c ≤ 3) : tokOf (fK ks c) = gK ks (tkN c) := by
  unfold gK tkN
  rw [fK_low h4 h, if_neg (by omega), if_pos (by omega)]
  rfl
theorem plain (ks : List Nat) (hk : ks.Sublist order21) (h4 : ks.length = 4) (ls : List Nat) (h5 : ls.length = 5) (hl : ∀ l ∈ ls, l ≤ 3) :
    ∃ k0 k1 k2 k3 F lo hi, ks = [k0, k1, k2, k3] ∧ classF (wantsG ks) 60 [ls.map fun l => ks.getD l 0] [] [] 0 = some (F, [lo], [hi]) ∧ F.Perm (wordsF ks 6 (ls.map fun l => ks.getD l 0)) ∧ F.length ≤ 60 ∧
      (∀ one ∈ F, one.length = 5 ∧ (∀ c ∈ one, c ∈ ks) ∧ treeG 40 41 tokOf one = treeG 40 41 tokOf (ls.map fun l => ks.getD l 0)) ∧
      readG ((sortN ls).map fun l => ks.getD l 0) (symF 92 34 40 41 k0 k1 k2 k3 tokOf (treeG 40 41 tokOf (ls.map fun l => ks.getD l 0)).2 41 (treeG 40 41 tokOf (ls.map fun l => ks.getD l 0)).1) = some [(lo, hi)] ∧
      (treeG 40 41 tokOf (ls.map fun l => ks.getD l 0)).1.length ≤ 40 ∧ (treeG 40 41 tokOf (ls.map fun l => ks.getD l 0)).2.length ≤ 100 ∧ (∀ c ∈ lo, c ∈ ks) ∧ (∀ c ∈ hi, c ∈ ks) ∧ ∀ c ∈ (treeG 40 41 tokOf (ls.map fun l => ks.getD l 0)).1, c < 1114112 := by
  have hf := fK_inj hk h4
  have hg := gK_mon hk h4
  have hw : okW ls = true := (okW_iff ls).mpr ⟨h5, hl⟩
  have mapf : ∀ l : List Nat, (∀ c ∈ l, c ≤ 3) → (l.map fun l => ks.getD l 0) = l.map (fK ks) := fun l h => List.map_congr_left fun c hc => (fK_low h4 (h c hc)).symm
  have inks : ∀ {c : Nat}, c ≤ 3 → fK ks c ∈ ks := fun {c} h => by
    rw [fK_low h4 h, getD_at (by omega)]; exact List.getElem_mem _
  have tok : ∀ {c : Nat}, c ≤ 3 → tokOf (fK ks c) = gK ks (tkN c) := fun h => tok_K h4 h
  have hlow : ∀ c ∈ order21, c < 1114112 := by decide
  have hlow : ∀ c ∈ ks, c < 1114112 := fun c hc => hlow c (hk.subset hc)
  rw [mapf ls hl]
  obtain ⟨F, lo, hi, e1, e2, e3, e4, e5, e6, e7, e8, e9, e10⟩ := plainN ls hw
  have es : sortN ls = inord (bst ls) := (sortN_uniq e6 e7).symm
  have hs : ∀ c ∈ inord (bst ls), c ≤ 3 := fun c hc => hl c (e6.subset hc)
  rw [es, mapf _ hs]
  have f4 : fK ks 4 = 40 := by unfold fK; rw [getD_at (by rw [List.length_append, h4]; decide), List.getElem_append_right (by omega)]; simp [h4]
  have f5 : fK ks 5 = 41 := by unfold fK; rw [getD_at (by rw [List.length_append, h4]; decide), List.getElem_append_right (by omega)]; simp [h4]
  have f6 : fK ks 6 = 92 := by unfold fK; rw [getD_at (by rw [List.length_append, h4]; decide), List.getElem_append_right (by omega)]; simp [h4]
  have f7 : fK ks 7 = 34 := by unfold fK; rw [getD_at (by rw [List.length_append, h4]; decide), List.getElem_append_right (by omega)]; simp [h4]
  have tree : ∀ l : List Nat, (∀ c ∈ l, c ≤ 3) → treeG 40 41 tokOf (l.map (fK ks)) = ((treeG 4 5 tkN l).1.map (fK ks), (treeG 4 5 tkN l).2.map (gK ks)) := fun l h => by
    have := n_tree hf hg (lp := 4) (rp := 5) (tok := tkN) (tok' := tokOf) l fun c hc => tok (h c hc)
    rw [f4, f5] at this
    exact this
  rw [tree ls hl]
  have hks : ks = [0, 1, 2, 3].map (fK ks) := by
    have h0 : (List.map (fK ks) [0, 1, 2, 3]) = [ks.getD 0 0, ks.getD 1 0, ks.getD 2 0, ks.getD 3 0] := by
      simp only [List.map_cons, List.map_nil, fK_low h4 (show 0 ≤ 3 by decide), fK_low h4 (show 1 ≤ 3 by decide), fK_low h4 (show 2 ≤ 3 by decide), fK_low h4 (show 3 ≤ 3 by decide)]
    rw [h0]
    match ks, h4 with
    | [_, _, _, _], _ => rfl
  have hwt : wantsG ks = (wantsG [0, 1, 2, 3]).map (m3 (fK ks)) := by
    conv => lhs; rw [hks]
    rfl
  have sym := n_sym hf hg 6 7 4 5 0 1 2 3 (tok := tkN) (tok' := tokOf) (fun c hc => tok (by
    have : ∀ c ∈ [0, 1, 2, 3], c ≤ 3 := by decide
    exact this c hc)) (treeG 4 5 tkN ls).2 41 (treeG 4 5 tkN ls).1
  rw [f4, f5, f6, f7] at sym
  have okm : ∀ {x : List Nat}, okW x = true → ∀ c ∈ x.map (fK ks), c ∈ ks := fun hx c hc => by
    obtain ⟨d, hd, rfl⟩ := List.mem_map.mp hc
    exact inks (((okW_iff _).mp hx).2 d hd)
  refine ⟨fK ks 0, fK ks 1, fK ks 2, fK ks 3, F.map (·.map (fK ks)), lo.map (fK ks), hi.map (fK ks), hks, ?_, ?_, by rw [List.length_map]; exact e3, fun one ho => ?_, ?_, by rw [List.length_map]; exact e8, ?_, okm e9, okm e10, fun c hc => ?_⟩
  · have := n_class hf (wantsG [0, 1, 2, 3]) 60 [ls] [] [] 0
    rw [← hwt, e1] at this
    exact this
  · have := n_words hf [0, 1, 2, 3] 6 ls
    rw [← hks] at this
    rw [this]
    exact e2.map _
  · obtain ⟨x, hx, rfl⟩ := List.mem_map.mp ho
    obtain ⟨h1, h2⟩ := e4 x hx
    obtain ⟨h3, h4'⟩ := (okW_iff x).mp h1
    exact ⟨by rw [List.length_map]; exact h3, okm h1, by rw [tree x h4', h2]⟩
  · show readG _ (symF 92 34 40 41 (fK ks 0) (fK ks 1) (fK ks 2) (fK ks 3) tokOf ((treeG 4 5 tkN ls).2.map (gK ks)) 41 ((treeG 4 5 tkN ls).1.map (fK ks))) = _
    rw [sym, n_read, e5]
    rfl
  · show ((treeG 4 5 tkN ls).2.map (gK ks)).length ≤ 100
    rw [List.length_map, tree_N ls hw]
    show (rowT (bst ls)).length ≤ 100
    unfold rowT
    rw [List.length_map, e6.length_eq, h5]
    decide
  · rw [tree_N ls hw] at hc
    obtain ⟨d, hd, rfl⟩ := List.mem_map.mp hc
    have hd5 := render_le _ (leT_bst ls hl) d hd
    by_cases h3 : d ≤ 3
    · exact hlow _ (inks h3)
    · have : d = 4 ∨ d = 5 := by omega
      rcases this with rfl | rfl
      · rw [f4]; decide
      · rw [f5]; decide
end Mine
namespace Mine
open Sem (wp)

section
variable {w : World} {A : Around} {env : Env} {S : Scope} {s₀ s : Shared} {Z B : List Addr} {φ : Heap} {vs : List (Str × Vp)} {ow : List (Str × Addr × List Vp)} {L : Addr}

theorem Ev.addAny {H : Heap} {l r : Expr} {p : Pos} {x : Int} (hl : Ev w A env H l (IsI x)) (hr : Ev w A env H r (fun _ v _ => VAI.p H v)) : Ev w A env H (.BinOp l .Add r p) (fun _ v _ => VAI.p H v) :=
  hl.bin hr fun _ _ _ _ _ s ⟨t, ha⟩ ⟨j, u, hb⟩ _ => by subst ha hb; exact wpAny_add_int ⟨Keep.refl _, rht, fun _ => ⟨_, _, rfl⟩⟩
theorem clos_none {scope : Scope} {env : Env} (h : scope.names.filter (fun e => e.2 == .free) = []) : closureFor scope env = pure [] := by
  refine clos_of (fun _ => 0) (fun n hn => ?_) ?_
  · have : (n, NameKind.free) ∈ scope.names.filter (fun e => e.2 == .free) := List.mem_filter.mpr ⟨hn, rfl⟩
    rw [h] at this
    cases this
  · have key : ∀ (l : List (Str × NameKind)) (acc : List (Str × Addr)), l.filter (fun e => e.2 == .free) = [] → l.foldl (fun cs e => if e.2 == .free then (e.1, 0) :: cs else cs) acc = acc := by
      intro l
      induction l with
      | nil => intro acc _; rfl
      | cons e l ih =>
        intro acc h
        rw [List.filter_cons] at h
        split at h
        · cases h
        · rename_i hn
          rw [List.foldl_cons, if_neg hn]
          exact ih acc h
    exact key _ _ h
theorem cellX {Z : List Addr} {c : Addr} {h h' : Heap} {v : Option Value} (i : h.IsCell c v) (x : Xt Z h h') (hz : c ∉ Z) : h'.IsCell c v := let ⟨o, ho, hd⟩ := i; ⟨o, x _ o hz ho, hd⟩
theorem pick_toI {us : List Value} {ns : List Int} (n : Nat) : ∃ zs : List Value, slicePick us.toArray none (some (n : Int)) none = zs.toArray ∧ ∀ h, A2 h us (ns.map VI) → A2 h zs ((ns.take n).map VI) := by
  rw [List.map_take]; exact pick_to n

/-- what the letters' loop keeps -/
noncomputable def LP (i : Nat) (pool ls : List Nat) : Prop := pool.Sublist order21 ∧ pool.length + min i 4 = 21 ∧ ls.length = i ∧ ∀ l ∈ ls, l ≤ 3

set_option maxHeartbeats 1000000 in
theorem law_body {numbers : List Int} {a c : Addr} {i : Nat} {f : Int} {pool ls : List Nat} {p1 p2 p3 p4 p5 p6 p7 p8 p9 p10 p11 p12 p13 p14 p15 p16 p17 p18 p19 p20 p21 p22 p23 p24 p25 p26 p27 p28 p29 p30 p31 p32 p33 p34 p35 p36 p37 p38 p39 p40 p41 p42 p43 p44 : Pos} {k1 k2 k3 k4 k5 : Nat}
    (h : St w s₀ Z B φ env.locals [("first", VI f), ("k", vi i), ("order", VS order21), ("numbers", VL (numbers.map VI))] [("letters", a, ls.map vi)] s) (C : Cx A env S) (hP : LP i pool ls) (hi : i < 5) (hc : env.cells.lookup ("pool" : Str) = some c) (hB : c ∈ B) (hZ : c ∈ Z ∨ s₀.heap.get? c = none) (hC : Cel φ s.heap c (VS pool)) (hn : numbers.length ≤ 100)
    (e1 : S.names.lookup ("first" : Str) = some .local) (e2 : S.names.lookup ("k" : Str) = some .local) (e3 : S.names.lookup ("numbers" : Str) = some .local) (e4 : S.names.lookup ("letters" : Str) = some .local) (e5 : S.names.lookup ("total" : Str) = some .local) (e6 : S.names.lookup ("place" : Str) = some .local) (e7 : S.names.lookup ("pool" : Str) = some .cell)
    (e8 : S.names.lookup ("sum" : Str) = some .globalImplicit) (e9 : S.names.lookup ("len" : Str) = some .globalImplicit)
    {pl : Sem Bool} (hev : eval (.Call (.Attribute (.Name "letters" p12) "append" p13) [.BinOp (.Name "total" p14) .Mod (.Constant (.int 4) k2 p15) p16] [] p17) env = (do
      let ov ← eval (.Name "letters" p12) env
      standAt p13.atName
      let (f, first) ← holding [ov] (getMethod ov "append" pl)
      callWith p17 f first (backTo p17 (starEach [.BinOp (.Name "total" p14) .Mod (.Constant (.int 4) k2 p15) p16] env)) [])) :
    wpAny (model prg w) A (execs [
      .Assign [.Name "total" p1] (.BinOp (.Name "first" p2) .Add (.Call (.Name "sum" p3) [.Subscript (.Name "numbers" p4) (.Slice (some (.Name "k" p5)) none (some (.Constant (.int 5) k1 p6)) p7) p8] [] p9) p10) p11,
      .Expr (.Call (.Attribute (.Name "letters" p12) "append" p13) [.BinOp (.Name "total" p14) .Mod (.Constant (.int 4) k2 p15) p16] [] p17) p18,
      .If (.Compare (.Name "k" p19) [.Lt] [.Constant (.int 4) k3 p20] p21) [
        .Assign [.Name "place" p22] (.BinOp (.BinOp (.Name "total" p23) .FloorDiv (.Constant (.int 4) k4 p24) p25) .Mod (.Call (.Name "len" p26) [.Name "pool" p27] [] p28) p29) p30,
        .Assign [.Name "pool" p31] (.BinOp (.Subscript (.Name "pool" p32) (.Slice none (some (.Name "place" p33)) none p34) p35) .Add (.Subscript (.Name "pool" p36) (.Slice (some (.BinOp (.Name "place" p37) .Add (.Constant (.int 1) k5 p38) p39)) none none p40) p41) p42) p43] [] p44] env)
      (fun fl s₂ => fl = .next ∧ ∃ φ₂ pool' ls', Keep φ φ₂ ∧ LP (i + 1) pool' ls' ∧ St w s₀ Z B φ₂ env.locals [("order", VS order21), ("numbers", VL (numbers.map VI))] [("letters", a, ls'.map vi)] s₂ ∧ Cel φ₂ s₂.heap c (VS pool')) noE s := by
  obtain ⟨hp1, hp2, hp3, hp4⟩ := hP
  have bl : pool.length ≤ 21 := by omega
  obtain ⟨_, ⟨bL, bo⟩, _⟩ := h.bz c hB
  have ca : c ≠ a := fun q => bo _ (.head _) q.symm
  have hz : ∀ b ∈ [env.locals, a], b ∈ Z ∨ s₀.heap.get? b = none := fun b hb => by
    rcases List.mem_cons.mp hb with rfl | hb
    · exact h.LZ
    · rw [List.mem_singleton.mp hb]; exact (h.own _ (.head _)).2.2.2
  have cz : c ∉ [env.locals, a] := fun q => by
    rcases List.mem_cons.mp q with q | q
    · exact bL q
    · exact ca (List.mem_singleton.mp q)
  have hm := h.markZ [env.locals, a] (.head _) fun d hd => by rw [List.mem_singleton.mp hd]; exact .tail _ (.head _)
  refine seq (hm.asg C (p := VAI) ((Ev.addAny (hm.nI C rfl e1) (Ev.sumI C.hh (Ev.builtin hm.tp C.k (C.of e8) C.gl C.bl (by kernel_rfl) boot_sum (by decide)) (Ev.stepL (ns := numbers) (hm.nF C rfl e3) (hm.nI C (i := (i : Nat)) rfl e2) Ev.cint (by decide) (by omega)))).mono (Keep.refl _) fun _ _ _ _ _ q _ _ _ => q) e5 rfl fun φ₁ s₁ q₁ h1 => ?_)
  obtain ⟨total, h1⟩ := h1.anyI
  have f0 : 0 ≤ total.fmod 4 := Int.fmod_nonneg_of_pos total (by decide)
  have f1 : total.fmod 4 < 4 := Int.fmod_lt_of_pos total (by decide)
  have ef : total.fmod 4 = (((total.fmod 4).toNat : Nat) : Int) := (Int.toNat_of_nonneg f0).symm
  refine seq (h1.append (p := vi (total.fmod 4).toNat) C rfl e4 (by rw [List.length_map]; omega) (fzI (by rw [← ef]; exact Ev.modI (by decide) (h1.nI C rfl e5) Ev.cint)) (fun φ₂ s₂ q₂ h2 => ?_) (hev := hev))
  rw [setO_one] at h2
  have eL : ls.map vi ++ [vi (total.fmod 4).toNat] = (ls ++ [(total.fmod 4).toNat]).map vi := by rw [List.map_append]; rfl
  rw [eL] at h2
  have hls : (ls ++ [(total.fmod 4).toNat]).length = i + 1 ∧ ∀ l ∈ ls ++ [(total.fmod 4).toNat], l ≤ 3 := by
    refine ⟨by rw [List.length_append, hp3]; rfl, fun l hl => ?_⟩
    rcases List.mem_append.mp hl with hl | hl
    · exact hp4 l hl
    · rw [List.mem_singleton.mp hl]; omega
  generalize ls ++ [(total.fmod 4).toNat] = ls' at h2 hls
  refine seq (wpAny_mono (Q := fun fl s₂ => fl = .next ∧ ∃ φ₂ pool', Keep φ φ₂ ∧ LP (i + 1) pool' ls' ∧ St w s₀ Z B φ₂ env.locals [("order", VS order21), ("numbers", VL (numbers.map VI))] [("letters", a, ls'.map vi)] s₂ ∧ Cel φ₂ s₂.heap c (VS pool'))
    (ifs (Ts.ltI (h2.nI C (i := (i : Nat)) rfl e2) Ev.cint) fun s₃ k₃ r₃ => ?_) (fun fl s' x => ?_) fun _ _ x => x)
  · have h3 := h2.step k₃ r₃
    by_cases hi4 : i < 4
    · refine iteT (dT (by omega)) ?_
      have C3 : Cel φ₂ s₃.heap c (VS pool) := (hC.keeps (q₁.trans q₂) (Keep.refl _)).xt h3.xt cz
      have hpos : 0 < pool.length := by omega
      have hpi : (0 : Int) < (pool.length : Int) := by omega
      have g0 : 0 ≤ (total.fdiv 4).fmod (pool.length : Int) := Int.fmod_nonneg_of_pos _ hpi
      have g1 : (total.fdiv 4).fmod (pool.length : Int) < (pool.length : Int) := Int.fmod_lt_of_pos _ hpi
      have eg : (total.fdiv 4).fmod (pool.length : Int) = ((((total.fdiv 4).fmod (pool.length : Int)).toNat : Nat) : Int) := (Int.toNat_of_nonneg g0).symm
      refine seq (h3.asg C (p := vi ((total.fdiv 4).fmod (pool.length : Int)).toNat) (fzI (by
        rw [← eg]
        refine Ev.modI (by omega) (Ev.divI (by decide) (PyProof.noPylong_small (by decide)) (h3.nI C rfl e5) Ev.cint) ((Ev.lenS (x := st pool) (h3.len C e9) (Ev.cellB (p := VS pool) C e7 hc h3.kp C3) (by rw [st_len, sizeLine_eq]; omega)).mono (Keep.refl _) fun _ _ _ _ _ q => by rw [st_len] at q; exact q))) e6 rfl fun φ₄ s₄ q₄ h4 => ?_)
      have C4 : Cel φ₄ s₄.heap c (VS pool) := (hC.keeps ((q₁.trans q₂).trans q₄) (Keep.refl _)).xt h4.xt cz
      have hpl : ((total.fdiv 4).fmod (pool.length : Int)).toNat < pool.length := by omega
      generalize ((total.fdiv 4).fmod (pool.length : Int)).toNat = pl at h4 hpl
      have h5 := h.backZ hz h4
      obtain ⟨v0, i0, _⟩ := C4
      have C4 : Cel φ₄ s₄.heap c (VS pool) := (hC.keeps ((q₁.trans q₂).trans q₄) (Keep.refl _)).xt h4.xt cz
      refine seq (h5.stC (p := VS (pool.take pl ++ pool.drop (pl + 1))) C e7 hc hB hZ i0 (fzS (Ev.addT (Ev.takeS (Ev.cellB (p := VS pool) C e7 hc h5.kp C4) (h5.nI C (i := (pl : Nat)) rfl e6) (by omega)) (Ev.dropS (Ev.cellB (p := VS pool) C e7 hc h5.kp C4) (Ev.succ (h5.nI C (i := (pl : Nat)) rfl e6) Ev.cint) (by omega)) (by rw [List.length_take, List.length_drop]; omega))) fun φ₆ s₆ q₆ h6 C6 x6 => ?_)
      refine sq0 ⟨rfl, φ₆, _, ((q₁.trans q₂).trans q₄).trans q₆, ⟨?_, ?_, hls.1, hls.2⟩, h6.weak (.cons rfl (.cons rfl .nil)), C6⟩
      · rw [← List.eraseIdx_eq_take_drop_succ]
        exact (List.eraseIdx_sublist pool pl).trans hp1
      · rw [List.length_append, List.length_take, List.length_drop]
        omega
    · refine iteF (dF (by omega)) (sq0 ⟨rfl, φ₂, pool, q₁.trans q₂, ⟨hp1, by omega, hls.1, hls.2⟩, (h.backZ hz h3).weak (.cons rfl (.cons rfl .nil)), ?_⟩)
      exact (hC.keeps (q₁.trans q₂) (Keep.refl _)).xt h3.xt cz
  · obtain ⟨rfl, φ', pool', y⟩ := x
    exact sq0 ⟨rfl, φ', pool', ls', y⟩
end
end Mine
namespace Mine
open Sem (wp)

theorem filt_len {p l : List Nat} (h : p.Sublist l) (hn : l.Nodup) : (l.filter fun c => !decide (c ∈ p)).length + p.length = l.length := by
  induction h with
  | slnil => rfl
  | @cons p l a h ih =>
    have hn' := List.nodup_cons.mp hn
    have ha : a ∉ p := fun q => hn'.1 (h.subset q)
    rw [List.filter_cons_of_pos (by simp [ha]), List.length_cons, List.length_cons]
    have := ih hn'.2
    omega
  | @cons_cons p l a h ih =>
    have hn' := List.nodup_cons.mp hn
    rw [List.filter_cons_of_neg (by simp), List.length_cons, List.length_cons]
    have e : (l.filter fun c => !decide (c ∈ a :: p)) = l.filter fun c => !decide (c ∈ p) := List.filter_congr fun x hx => by
      have : x ≠ a := fun q => hn'.1 (q ▸ hx)
      simp [this]
    rw [e]
    have := ih hn'.2
    omega

section
variable {w : World} {A : Around}

/-- t[i] of a tuple, any of its values -/
theorem Ev.idxTup {env : Env} {H : Heap} {value slice : Expr} {pos : Pos} {ps : List Vp} {p : Vp} {i : Nat} (hv : Ev w A env H value (fun _ v h₁ => (VT ps).p h₁ v)) (hi : Ev w A env H slice (IsI (i : Int))) (h : ps[i]? = some p) (hsz : i < 1000)
    (hs : ∀ o k u, subscripted slice false o (.int k u) = operate [o, .int k u] (getItem o (.int k u)) := by intro _ _ _; with_unfolding_all rfl)
    (ht : ∀ o r, letTemporaryGo value o r = pure () := by intro _ _; with_unfolding_all rfl) : Ev w A env H (.Subscript value slice pos) (fun _ v h₁ => p.p h₁ v) := fun s k =>
  Subscript_ (hv.use k fun v s₁ k₁ r₁ h₁ => hi.use (k.trans k₁) fun u s₂ k₂ r₂ h₂ => by
    obtain ⟨a, us, rfl, hl, hA⟩ := h₁
    obtain ⟨t2, rfl⟩ := h₂
    obtain ⟨v, hx, hp⟩ := hA.get h
    have hlt : i < us.length := (List.getElem?_eq_some_iff.mp hx).1
    have hl' : PyProof.Rows.IsTup s₂.heap a us.toArray := ⟨_, k₂ _ _ hl, rfl, _, rfl⟩
    exact item_tuple hl' (by omega) (by omega) (seqIndex_of (by omega) (by rw [List.size_toArray]; omega)) (x := v) (by simpa using hx) ⟨k₁.trans k₂, r₁.trans r₂, p.mono k₂ hp⟩ (hs _ _ _) (ht _))

set_option maxHeartbeats 4000000 in
theorem cl_law {H : Heap} {ns : List Int} {v : Value} (T : TopOk w H) (hh : A.handled = none) (hroom : A.depth + 500 < recursionLimit) (hu : A.units ≤ 100) (hv : (VL (ns.map VI)).p H v) (hn : ns.length ≤ 63) : Cl w A H (.ref 143) [v] (IsB true) := by
  refine enterC (vs := [("script", VL (ns.map VI))]) ["pool", "kinds", "grown", "highs"] (vc := []) T hh rfl (by kernel_rfl) (by omega) (binds := [("script", v)]) (fun s X => BindsTo.of_eq rfl) (by kernel_rfl) (by decide +kernel) (fun x p e => ?_)
    (fun x p e => by cases e) (fun x e => ?_) rfl rfl rfl ?_ fun _ _ _ _ _ q => q
  · cases List.mem_singleton.mp (mem_of_lookup e); exact ⟨v, rfl, hv⟩
  · simp only [List.contains_cons, Bool.or_eq_true, beq_iff_eq, List.contains_nil, Bool.false_eq_true, or_false] at e
    rcases e with rfl | rfl | rfl | rfl <;> rfl
  intro A' env s₀ s φ Q k hd hun' C h kφ hc hun hcells hsz hQ
  have hu' : A'.units + 64 < cLine := by
    have : cLine = 9900 := rfl
    omega
  have s0 : PySem.Str.ofString "" = st [] := by decide
  have so : PySem.Str.ofString "[]:,;+-*/|&<>=%{}~^@!" = st order21 := by decide
  have hB : Bof env.cells ["pool", "kinds", "grown", "highs"] = [env.locals + 1 + 1 + 1 + 1, env.locals + 1 + 1 + 1, env.locals + 1 + 1, env.locals + 1] := by rw [hcells]; rfl
  have l1 : env.cells.lookup ("pool" : Str) = some (env.locals + 1) := by rw [hcells]; rfl
  have l2 : env.cells.lookup ("kinds" : Str) = some (env.locals + 1 + 1) := by rw [hcells]; rfl
  have l3 : env.cells.lookup ("grown" : Str) = some (env.locals + 1 + 1 + 1) := by rw [hcells]; rfl
  have l4 : env.cells.lookup ("highs" : Str) = some (env.locals + 1 + 1 + 1 + 1) := by rw [hcells]; rfl
  rw [hB] at h
  have u1 := hun "pool" _ rfl l1
  have u2 := hun "kinds" _ rfl l2
  have u3 := hun "grown" _ rfl l3
  have u4 := hun "highs" _ rfl l4
  have lt1 : env.locals < env.locals + 1 := Nat.lt_succ_self _
  have lt2 : env.locals + 1 < env.locals + 1 + 1 := Nat.lt_succ_self _
  have lt3 : env.locals + 1 + 1 < env.locals + 1 + 1 + 1 := Nat.lt_succ_self _
  have lt4 : env.locals + 1 + 1 + 1 < env.locals + 1 + 1 + 1 + 1 := Nat.lt_succ_self _
  have fr : ∀ b, env.locals ≤ b → s₀.heap.get? b = none := fun b hb => by
    cases hq : s₀.heap.get? b with
    | none => rfl
    | some o => exact absurd (Heap.lt_size hq) (Nat.not_lt.mpr (Nat.le_trans hsz hb))
  generalize hc1 : env.locals + 1 = c1 at *
  generalize hc2 : c1 + 1 = c2 at *
  generalize hc3 : c2 + 1 = c3 at *
  generalize hc4 : c3 + 1 = c4 at *
  have n12 : c1 ≠ c2 := Nat.ne_of_lt lt2
  have n13 : c1 ≠ c3 := Nat.ne_of_lt (Nat.lt_trans lt2 lt3)
  have n14 : c1 ≠ c4 := Nat.ne_of_lt (Nat.lt_trans lt2 (Nat.lt_trans lt3 lt4))
  have n23 : c2 ≠ c3 := Nat.ne_of_lt lt3
  have n24 : c2 ≠ c4 := Nat.ne_of_lt (Nat.lt_trans lt3 lt4)
  have n34 : c3 ≠ c4 := Nat.ne_of_lt lt4
  have g1 := Nat.le_of_lt lt1
  have g2 := Nat.le_trans g1 (Nat.le_of_lt lt2)
  have g3 := Nat.le_trans g2 (Nat.le_of_lt lt3)
  have g4 := Nat.le_trans g3 (Nat.le_of_lt lt4)
  have m1 : c1 ≠ env.locals := Nat.ne_of_gt lt1
  have m2 : c2 ≠ env.locals := Nat.ne_of_gt (Nat.lt_trans lt1 lt2)
  have m3 : c3 ≠ env.locals := Nat.ne_of_gt (Nat.lt_trans lt1 (Nat.lt_trans lt2 lt3))
  have m4 : c4 ≠ env.locals := Nat.ne_of_gt (Nat.lt_trans lt1 (Nat.lt_trans lt2 (Nat.lt_trans lt3 lt4)))
  have hz : ∀ b ∈ [env.locals, c1], b ∈ ([] : List Addr) ∨ s₀.heap.get? b = none := fun b hb => by
    rcases List.mem_cons.mp hb with rfl | hb
    · exact .inr (fr _ (Nat.le_refl _))
    · rw [List.mem_singleton.mp hb]; exact .inr (fr _ g1)
  have out1 : ∀ {c : Addr}, c ≠ env.locals → c ≠ c1 → c ∉ [env.locals, c1] := fun h1 h2 q => by
    rcases List.mem_cons.mp q with q | q
    · exact h1 q
    · exact h2 (List.mem_singleton.mp q)
  have outL : ∀ {c : Addr}, c ≠ env.locals → c ∉ [env.locals] := fun h1 q => h1 (List.mem_singleton.mp q)
  have hzL : ∀ b ∈ [env.locals], b ∈ ([] : List Addr) ∨ s₀.heap.get? b = none := fun b hb => by rw [List.mem_singleton.mp hb]; exact .inr (fr _ (Nat.le_refl _))
  have out1c : ∀ {c d : Addr}, c ≠ d → c ∉ [d] := fun h1 q => h1 (List.mem_singleton.mp q)
  have hm := h.markZ [env.locals] (.head _) fun _ q => by cases q
  -- the numbers
  refine seq (hm.asgComp (p := VL ((ns.take 60).map VI)) (n := (ns.take 60).length) (pI := fun i => VI ((ns.take 60).getD i 0)) (cl := []) _ C rfl
    (Ev.sliceL (hm.nF C rfl rfl) pt_none (pt_some Ev.cint) (by rw [List.length_map]; omega) (fun us _ => pick_toI 60)) (fun h v s' k hv => itr_listF C.hh k hv) (clos_none rfl) (by decide) rfl (by decide) (relab_eq C.sc) rfl
    (fun i => (((ns.take 60).take i).map fun x => x.fmod (10 ^ (6 : Int).toNat)).map VI) rfl ?_ rfl rfl (fun φ₁ s₁ q₁ h1 => ?_) ?_ (hfree := fun _ _ _ x => x.ints))
  · intro cenv D I B i φ₁ s₁ hcc hC hi k₁
    have e1 : (ns.take 60).getD i 0 = (ns.take 60)[i] := by rw [List.getD_eq_getElem?_getD, List.getElem?_eq_getElem hi]; rfl
    rw [e1]
    intro hCS
    refine wpAny_tests_nil (iteT rfl fun K Q hK => ?_)
    have hz : (ns.take 60).length ≤ 63 := by rw [List.length_take]; omega
    refine comp_emit (q := VI ((ns.take 60)[i].fmod (10 ^ (6 : Int).toNat))) rfl hCS (.inl (.tail _ (.head _))) (by rw [List.length_map, List.length_map, List.length_take]; omega)
      ((Ev.modI (by decide) (hCS.1.nI hC (i := (ns.take 60)[i]) rfl rfl) (Ev.powI Ev.cint Ev.cint (by decide) (by decide) (by decide))).mono (Keep.refl _) fun _ _ _ _ _ q _ => q) fun s' h' => hK φ₁ s' (Keep.refl _) ⟨h'.1.weak .nil, ?_⟩
    have h2 := h'.2
    have e3 : (((ns.take 60).take (i + 1)).map fun x => x.fmod (10 ^ (6 : Int).toNat)).map VI = (((ns.take 60).take i).map fun x => x.fmod (10 ^ (6 : Int).toNat)).map VI ++ [VI ((ns.take 60)[i].fmod (10 ^ (6 : Int).toNat))] := by
      rw [List.take_add_one, List.getElem?_eq_getElem hi, List.map_append, List.map_append]; rfl
    rw [e3]
    exact h2
  · have hnl : (((ns.take 60).take (ns.take 60).length).map fun x => x.fmod (10 ^ (6 : Int).toNat)).length ≤ 100 := by rw [List.length_map, List.length_take, List.length_take]; omega
    generalize (((ns.take 60).take (ns.take 60).length).map fun x => x.fmod (10 ^ (6 : Int).toNat)) = numbers at h1 hnl
    refine seq (h1.asg C (p := VS order21) (fzS (by rw [← so]; exact Ev.cstr)) rfl rfl fun φ₂ s₂ q₂ h2 => ?_)
    -- the pool
    have v1 := cellX u1 h2.xt (outL m1)
    have v2 := cellX u2 h2.xt (outL m2)
    have v3 := cellX u3 h2.xt (outL m3)
    have v4 := cellX u4 h2.xt (outL m4)
    have h3 := (h.backZ hzL h2).weak (vs' := [("order", VS order21), ("numbers", VL (numbers.map VI))]) (.cons rfl (.cons rfl .nil))
    refine seq (h3.stC (p := VS order21) C rfl l1 (.tail _ (.tail _ (.tail _ (.head _)))) (.inr (fr _ g1)) v1 (fzS (h3.nS C rfl rfl)) fun φ₄ s₄ q₄ h4 C4 x4 => ?_)
    have v2 := cellX v2 x4 (out1c n12.symm)
    have v3 := cellX v3 x4 (out1c n13.symm)
    have v4 := cellX v4 x4 (out1c n14.symm)
    refine seq ((h4.markZ [env.locals] (.head _) fun _ q => by cases q).newL C (ps := ([] : List Nat).map vi) Ev.nilO rfl rfl rfl fun a s₅ h5 => ?_)
    have C5 := C4.xt h5.xt (outL m1)
    have v2 := cellX v2 h5.xt (outL m2)
    have v3 := cellX v3 h5.xt (outL m3)
    have v4 := cellX v4 h5.xt (outL m4)
    have h5 := h4.backZ hzL h5
    have hz3 : ∀ b ∈ [env.locals, a, c1], b ∈ ([] : List Addr) ∨ s₀.heap.get? b = none := fun b hb => by
      rcases List.mem_cons.mp hb with rfl | hb
      · exact .inr (fr _ (Nat.le_refl _))
      · rcases List.mem_cons.mp hb with rfl | hb
        · exact (h5.own _ (.head _)).2.2.2
        · rw [List.mem_singleton.mp hb]; exact .inr (fr _ g1)
    have out3 : ∀ {c : Addr}, c ∈ [c4, c3, c2, c1] → c ≠ env.locals → c ≠ c1 → c ∉ [env.locals, a, c1] := fun hb h1 h2 q => by
      rcases List.mem_cons.mp q with q | q
      · exact h1 q
      · rcases List.mem_cons.mp q with q | q
        · exact (h5.bz _ hb).2.1.2 _ (.head _) q.symm
        · exact h2 (List.mem_singleton.mp q)
    have h5m := h5.markZ [env.locals, a, c1] (.head _) fun d hd => by rw [List.mem_singleton.mp hd]; exact .tail _ (.head _)
    refine seq (h5m.forE (fs := [29, 75, 20, 49, 2]) (P := LP) (pool := order21) (ls := []) (vs0 := [("order", VS order21), ("numbers", VL (numbers.map VI))]) C (.tail _ (.tail _ (.tail _ (.head _)))) (.inl (.tail _ (.tail _ (.head _)))) C5 ⟨.refl _, rfl, rfl, fun _ q => by cases q⟩ (.cons rfl (.cons rfl .nil))
      (Ev.enumT (Ev.builtin h5m.tp C.k (C.of rfl) C.gl C.bl (by kernel_rfl) boot_enumerate (by decide)) ev_tup5) rfl rfl (by decide) (by decide) ?_ ?_)
    · intro i e it φ₆ s₆ pool ls hi k₆ hP h6 C6
      exact law_body h6 C hP hi l1 (.tail _ (.tail _ (.tail _ (.tail _ (.tail _ (.head _)))))) (.inl (.tail _ (.tail _ (.head _)))) C6 hnl rfl rfl rfl rfl rfl rfl rfl rfl rfl rfl
    · intro φ₆ s₆ pool ls k₆ hP h6 C6
      have v2 := cellX v2 h6.xt (out3 (.tail _ (.tail _ (.head _))) m2 n12.symm)
      have v3 := cellX v3 h6.xt (out3 (.tail _ (.head _)) m3 n13.symm)
      have v4 := cellX v4 h6.xt (out3 (.head _) m4 n14.symm)
      have h6 := h5.backZ hz3 h6
      obtain ⟨hp1, hp2, hp3, hp4⟩ := hP
      have hp2 : pool.length = 17 := by simp only [List.length_cons, List.length_nil] at hp2; omega
      have hp3 : ls.length = 5 := hp3
      obtain ⟨φ₇, q₇, h7⟩ := h6.freeze
      have C7 : Cel φ₇ s₆.heap c1 (VS pool) := C6.keeps q₇ (Keep.refl _)
      obtain ⟨φ₈, q₈, h8, P8⟩ := h7.frzC (B' := [c4, c3, c2]) l1 (.tail _ (.tail _ (.tail _ (.head _)))) (fun b hb => by
        rcases List.mem_cons.mp hb with rfl | hb
        · exact ⟨.head _, n14.symm⟩
        · rcases List.mem_cons.mp hb with rfl | hb
          · exact ⟨.tail _ (.head _), n13.symm⟩
          · rw [List.mem_singleton.mp hb]; exact ⟨.tail _ (.tail _ (.head _)), n12.symm⟩) C7
      -- the kinds
      have hks : (order21.filter fun c => !decide (c ∈ pool)).Sublist order21 := List.filter_sublist
      have hk4 : (order21.filter fun c => !decide (c ∈ pool)).length = 4 := by
        have := filt_len hp1 (by decide)
        rw [hp2] at this
        have e : order21.length = 21 := rfl
        omega
      obtain ⟨ap, wp, lp, ip, qp⟩ := id P8
      refine seq (h8.stC (p := VS (order21.filter fun c => !decide (c ∈ pool))) C rfl l2 (.tail _ (.tail _ (.head _))) (.inr (fr _ g2)) v2 (fzS (Ev.joinOnes (Ev.filt (pr := fun c => !decide (c ∈ pool)) h8.tp C rfl (h8.nS C rfl rfl) (clos_one lp rfl) (by decide) rfl (by decide) rfl (by decide) fun cenv φ₁ s₁ c Z B hcl hC k' hc hs => ?_) (by omega))) fun φ₉ s₉ q₉ h9 C9 x9 => ?_)
      · exact Ts.notInG (hs.nS hC (l := [c]) rfl rfl) (Ev.cell (p := VS pool) hC.k (hC.of rfl) ⟨ap, wp, by rw [hcl]; rfl, ip.keeps (h8.kp.trans k'), qp⟩ hs.kp)
      have v3 := cellX v3 x9 (out1c n23.symm)
      have v4 := cellX v4 x9 (out1c n24.symm)
      generalize (order21.filter fun c => !decide (c ∈ pool)) = ks at h9 C9 hks hk4
      obtain ⟨φA, qA, hA, PA⟩ := h9.frzC (B' := [c4, c3]) l2 (.tail _ (.tail _ (.head _))) (fun b hb => by
        rcases List.mem_cons.mp hb with rfl | hb
        · exact ⟨.head _, n24.symm⟩
        · rw [List.mem_singleton.mp hb]; exact ⟨.tail _ (.head _), n23.symm⟩) C9
      obtain ⟨k0, k1, k2, k3, F, lo, hi, hke, hF, hperm, hF60, hFa, hread, htz, hrz, hlo, hhi, gtx⟩ := plain ks hks hk4 ls hp3 hp4
      have hk21 : ∀ c ∈ ks, c ∈ order21 := fun c hc => hks.subset hc
      have hbl : ∀ l ∈ ls, l < ks.length := fun l hl => by have := hp4 l hl; omega
      have hbs : ∀ l ∈ sortN ls, l < ks.length := fun l hl => hbl l ((sortN_perm ls).subset hl)
      have hsl : (sortN ls).length = 5 := by rw [(sortN_perm ls).length_eq]; exact hp3
      have hAm := hA.markZ [env.locals] (.head _) fun _ q => by cases q
      refine seq (hAm.asg C (p := VS (ls.map fun l => ks.getD l 0)) (fzS (Ev.joinOnes (Ev.pick (kn := "kinds") (c := c2) hAm.tp C rfl (hAm.nF C rfl rfl) PA l2 hAm.kp rfl (by decide) rfl (by decide) rfl rfl (by omega) (by omega) hbl) (by rw [List.length_map]; omega))) rfl rfl fun φB sB qB hBs => ?_)
      refine seq (hBs.asg C (p := VS ((sortN ls).map fun l => ks.getD l 0)) (fzS (Ev.joinOnes (Ev.pick (kn := "kinds") (c := c2) hBs.tp C rfl (nw_full (Ev.sortI (Ev.builtin hBs.tp C.k (C.of rfl) C.gl C.bl (by kernel_rfl) boot_sorted (by decide)) (hBs.nF C rfl rfl) (by omega))) (PA.mono qB) l2 hBs.kp rfl (by decide) rfl (by decide) rfl rfl (by omega) (by omega) hbs) (by rw [List.length_map]; omega))) rfl rfl fun φC sC qC hCs => ?_)
      have v3 := cellX v3 hCs.xt (outL m3)
      have v4 := cellX v4 hCs.xt (outL m4)
      have hCs := (hA.backZ hzL hCs).weak (vs' := [("signs", VS ((sortN ls).map fun l => ks.getD l 0)), ("word", VS (ls.map fun l => ks.getD l 0))]) (.cons rfl (.cons rfl .nil))
      have PC := PA.mono (qB.trans qC)
      have hw5 : (ls.map fun l => ks.getD l 0).length = 5 := by rw [List.length_map]; exact hp3
      have hwk : ∀ c ∈ (ls.map fun l => ks.getD l 0), c ∈ ks := fun c hc => by
        obtain ⟨l, hl, rfl⟩ := List.mem_map.mp hc
        rw [List.getD_eq_getElem?_getD, List.getElem?_eq_getElem (hbl l hl)]
        exact List.getElem_mem _
      have hsg : ((sortN ls).map fun l => ks.getD l 0).length = 5 := by rw [List.length_map]; exact hsl
      generalize (ls.map fun l => ks.getD l 0) = word at hCs hF hperm hFa hread htz hrz hw5 hwk gtx
      generalize ((sortN ls).map fun l => ks.getD l 0) = signs at hCs hread hsg
      generalize hgt : treeG 40 41 tokOf word = g at hFa hread htz hrz gtx
      have tree : ∀ {A' : Around} {env : Env} {S : Scope} {s₀ s : Shared} {Z B : List Addr} {φ : Heap} {vs : List (Str × Vp)} {ow : List (Str × Addr × List Vp)} {p p2 pos : Pos} {x : Str} {y : List Nat}, St w s₀ Z B φ env.locals vs ow s → Cx A' env S → A'.depth = A.depth + 1 → S.names.lookup ("_law_tree" : Str) = some .globalImplicit → S.names.lookup x = some .local → vs.lookup x = some (VS y) → (x == ("__debug__" : Str)) = false → y.length = 5 → (∀ c ∈ y, c ∈ ks) → treeG 40 41 tokOf y = g →
          (starEach [.Name x p2] env = (false, eval (.Name x p2) env) :: starEach [] env) → Ev w A' env s.heap (.Call (.Name "_law_tree" p) [.Name x p2] [] pos) (Nw (VT [VS g.1, VL (g.2.map VI)])) := fun h C hd e1 e2 e3 e4 e5 e6 e7 e8 => by
        refine Ev.dcall h.tp (h.gl (v := .ref 93) C e1 (by kernel_rfl)) (by kernel_rfl) (as1 (h.nS C e3 e2 e4) e8) (fun vs h₁ h₃ ⟨va, e, t, eq⟩ ka kb => ?_) e8
        subst e eq
        have := cl_tree (x := _) (vx := .str (st _) t) (h.tp.keeps (ka.trans kb)) C.hh (by rw [hd]; omega) ⟨t, rfl⟩ (Nat.le_of_eq e5) fun c hc => hk21 c (e6 c hc)
        rw [e7] at this
        exact this
      refine seq (hCs.stC (p := VT [VS g.1, VL (g.2.map VI)]) C rfl l3 (.tail _ (.head _)) (.inr (fr _ g3)) v3 (nw_fz (tree hCs C hd rfl rfl rfl (by decide) hw5 hwk hgt rfl)) fun φD sD qD hD CD xD => ?_)
      have v4 := cellX v4 xD (out1c n34.symm)
      obtain ⟨φE, qE, hE, PE⟩ := hD.frzC (B' := [c4]) l3 (.tail _ (.head _)) (fun b hb => by rw [List.mem_singleton.mp hb]; exact ⟨.head _, n34.symm⟩) CD
      have KE := PC.mono (qD.trans qE)
      have kin : ∀ {φ H : Heap} {p : Pos}, CeOk env.cells φ "kinds" (VS ks) → Keep φ H → Ev w A' env H (.Name "kinds" p) (IsS (st ks)) := fun P k => Ev.cell (p := VS ks) C.k (C.of rfl) P k
      refine seq (hE.asg3C (p := VL (F.map VS)) (q := VL ([lo].map VS)) (r := VL ([hi].map VS)) C rfl rfl rfl l4 (.head _) (.inr (fr _ g4)) v4 (nw_fz (Ev.dcall hE.tp (hE.gl (v := .ref 128) C rfl (by kernel_rfl)) (by kernel_rfl) (as2 (hE.nS C rfl rfl) (kin KE hE.kp)) fun vs h₁ h₃ ⟨va, vb, g', e, ⟨t1, e1⟩, ⟨t2, e2⟩, k4⟩ ka kb => ?_)) fun φG sG qG hG CG => ?_)
      · subst e e1 e2
        exact cl_class (hE.tp.keeps (ka.trans kb)) C.hh (by rw [hd]; omega) ⟨_, rfl⟩ ⟨_, rfl⟩ hk4 hk21 hF (fun y hy => by have := (hFa y hy).1; omega) (by omega) (by simp) (by simp)
      obtain ⟨φI, qI, hI, PI⟩ := hG.frzC (B' := []) l4 (.head _) (fun b hb => by cases hb) CG
      have KI := KE.mono (qG.trans qI)
      have GI := PE.mono (qG.trans qI)
      have srt : ∀ {s₀ s : Shared} {Z B : List Addr} {φ : Heap} {vs : List (Str × Vp)} {ow : List (Str × Addr × List Vp)} {p : Pos}, St w s₀ Z B φ env.locals vs ow s → Ev w A' env s.heap (.Name "sorted" p) (IsV (.builtin "sorted")) := fun h => Ev.builtin h.tp C.k (C.of rfl) C.gl C.bl (by kernel_rfl) boot_sorted (by decide)
      have low : ∀ c ∈ ks, c < 1114112 := fun c hc => Nat.lt_trans (low21 (hk21 c hc)).1 (by decide)
      -- the class is the words
      refine seq (ifs (Ts.neD (p := VL ((sortS F).map VS)) (q := VL ((sortS F).map VS)) (n := 1) (nw_full (Ev.sortT (srt hI) (hI.nF C rfl rfl) (by omega))) (nw_full (by
          rw [sortS_congr hperm]
          refine Ev.sortT (srt hI) (nw_full (Ev.dcall hI.tp (hI.gl (v := .ref 138) C rfl (by kernel_rfl)) (by kernel_rfl) (as2 (hI.nS C rfl rfl) (kin KI hI.kp)) fun vs h₁ h₃ ⟨va, vb, g', e, ⟨t1, e1⟩, ⟨t2, e2⟩, k4⟩ ka kb => ?_)) (by rw [← hperm.length_eq]; omega)
          subst e e1 e2
          exact cl_words ks (by omega) 5 (hI.tp.keeps (ka.trans kb)) C.hh (by rw [hd]; omega) (by omega) (Nat.le_refl _) (fun c hc => (low21 (hk21 c (hwk c hc))).1) ⟨_, rfl⟩ ⟨_, rfl⟩))
        (rdL (Rd2.map rdS _)) (rdL (Rd2.map rdS _)) (shpL fun d hd => by
          obtain ⟨y, hy, rfl⟩ := List.mem_map.mp hd
          exact shpS fun c hc => low c ((hFa y ((sortS_perm F).subset hy)).2.1 c hc)) (by decide) hu') fun sJ kJ rJ => ?_)
      refine iteF rfl (sq0 ?_)
      have hJ := hI.step kJ rJ
      have rdG : RdP (VT [VS g.1, VL (g.2.map VI)]) (.tuple [.str (st g.1), .list (g.2.map .int)]) := rdT (.cons (rdS _) (.cons (rdL (Rd2.map rdI _)) .nil))
      have shG : Shp 2 (.tuple [.str (st g.1), .list (g.2.map .int)]) := shpT fun d hd => by
        rcases List.mem_cons.mp hd with rfl | hd
        · exact shpS gtx
        · rw [List.mem_singleton.mp hd]
          exact shpL fun d hd => by obtain ⟨i, _, rfl⟩ := List.mem_map.mp hd; exact shpI i
      -- all of them have the tree
      obtain ⟨ag, wg, lg, ig, qg⟩ := id GI
      refine seq (ifs (Ts.neD (p := VL []) (q := VL []) (n := 1) (nw_full ?_) (Ev.nilL.mono (Keep.refl _) fun _ _ _ _ _ ⟨a, us, e, _, hp, hs⟩ => ⟨a, us, e, hp.isList, A2.strs (xs := []) hs⟩) (rdL .nil) (rdL .nil) (shpL fun _ q => by cases q) (by decide) hu') fun sK kK rK => ?_)
      · refine Ev.comp (p := VL (F.map VS)) (n := F.length) (pI := fun i => VS (F.getD i [])) (cl := [("grown", ag)]) _ hJ.tp C rfl (hJ.nF C rfl rfl) (fun h v s' k hv => itr_listF C.hh k hv) (clos_one lg rfl) (by decide) rfl (by decide) (relab_eq C.sc) rfl
          (fun _ => []) rfl ?_ (hfree := fun _ _ _ x => by cases x; exact .nil)
        intro cenv D I B i φ₁ s₁ hcc hC' hi k₁
        have e1 : F.getD i [] = F[i] := by rw [List.getD_eq_getElem?_getD, List.getElem?_eq_getElem hi]; rfl
        rw [e1]
        obtain ⟨f1, f2, f3⟩ := hFa F[i] (List.getElem_mem hi)
        intro hCS
        refine wpAny_tests_one ((Ts.neD (p := VT [VS g.1, VL (g.2.map VI)]) (q := VT [VS g.1, VL (g.2.map VI)]) (n := 2) (nw_full (tree hCS.1 hC' hd rfl rfl rfl (by decide) f1 f2 f3 rfl))
          ((Ev.cell (p := VT [VS g.1, VL (g.2.map VI)]) hC'.k (hC'.of rfl) ⟨ag, wg, by rw [hcc]; rfl, ig.keeps (hJ.kp.trans k₁), (VT _).mono (hJ.kp.trans k₁) qg⟩ hCS.1.kp).mono (Keep.refl _) fun _ _ _ k k' q => (VT _).mono (hCS.1.kp.trans (k.trans k')) q) rdG rdG shG (by decide) hu').use (Keep.refl _) fun b s₂ k₂ r₂ e => ?_)
        subst e
        have h2 := hCS.step k₂ r₂
        exact iteF rfl ⟨φ₁, Keep.refl _, h2.1.weak .nil, h2.2⟩
      refine iteF rfl (sq0 ?_)
      have hK := hJ.step kK rK
      -- what is told
      subst hke
      have gfull : ∀ {p : Pos}, Ev w A' env sK.heap (.Name "grown" p) (fun _ v h₁ => (VT [VS g.1, VL (g.2.map VI)]).p h₁ v) := (Ev.cell (p := VT [VS g.1, VL (g.2.map VI)]) C.k (C.of rfl) GI hK.kp).mono (Keep.refl _) fun _ _ _ k k' q => (VT _).mono (hK.kp.trans (k.trans k')) q
      have hsz := sym_len 92 34 40 41 k0 k1 k2 k3 tokOf g.2 41 g.1
      refine seq (hK.asg C (p := VL ([(lo, hi)].map fun e => VT [VS e.1, VS e.2])) (nw_fz (Ev.dcall hK.tp (hK.gl (v := .ref 114) C rfl (by kernel_rfl)) (by kernel_rfl)
        (as2 (nw_full (p := VL ((symF 92 34 40 41 k0 k1 k2 k3 tokOf g.2 41 g.1).map VI)) (Ev.dcall hK.tp (hK.gl (v := .ref 107) C rfl (by kernel_rfl)) (by kernel_rfl) (as3V (p₁ := VS g.1) (p₂ := VL (g.2.map VI)) (p₃ := VS [k0, k1, k2, k3]) (Ev.idxTup gfull (i := 0) Ev.cint rfl (by decide)) (Ev.idxTup gfull (i := 1) Ev.cint rfl (by decide)) (kin KI hK.kp)) fun vs h₁ h₃ ⟨va, vb, vc, e, e1, e2, e3⟩ ka kb => ?_)) (hK.nS C (l := signs) rfl rfl)) fun vs h₁ h₃ ⟨va, vb, g', e, e1, ⟨t2, e2⟩, k4⟩ ka kb => ?_)) rfl rfl fun φL sL qL hLs => ?_)
      · subst e
        exact cl_symbols k0 k1 k2 k3 hk21 g.2 hrz 40 (hK.tp.keeps (ka.trans kb)) C.hh (by rw [hd]; omega) htz (by decide) e1 e2 e3
      · subst e e2
        exact cl_read (hK.tp.keeps (ka.trans kb)) C.hh (by rw [hd]; omega) ((VL _).mono k4 e1) ⟨_, rfl⟩ hread (by omega) (by omega)
      have rdE : RdP (VL ([(lo, hi)].map fun e => VT [VS e.1, VS e.2])) (.list ([(lo, hi)].map fun e => .tuple [.str (st e.1), .str (st e.2)])) := rdL (Rd2.map (fun e => rdT (.cons (rdS _) (.cons (rdS _) .nil))) _)
      have shE : Shp 2 (.list ([(lo, hi)].map fun e => .tuple [.str (st e.1), .str (st e.2)])) := shpL fun d hd => by
        rw [List.mem_singleton.mp hd]
        exact shpT fun d hd => by
          rcases List.mem_cons.mp hd with rfl | hd
          · exact shpS fun c hc => low c (hlo c hc)
          · rw [List.mem_singleton.mp hd]; exact shpS fun c hc => low c (hhi c hc)
      obtain ⟨ah, wh, lh, ih, qh⟩ := PI.mono qL
      refine seq (rets (Ev.eqD (p := VL ([(lo, hi)].map fun e => VT [VS e.1, VS e.2])) (q := VL ([(lo, hi)].map fun e => VT [VS e.1, VS e.2])) (n := 2) (hLs.nF C rfl rfl) ?_ rdE rdE shE (by decide) hu') fun v sM kM rM hv => ?_)
      · refine Ev.compF (p := VL ([lo].map VS)) (n := [lo].length) (pI := fun i => VS ([lo].getD i [])) (cl := [("highs", ah)]) _ hLs.tp C rfl (hLs.nF C rfl rfl) (fun h v s' k hv => itr_listF C.hh k hv) (clos_one lh rfl) (by decide) rfl (by decide) (relab_eq C.sc) rfl
          (fun i => if i = 0 then [] else [(lo, hi)].map fun e => VT [VS e.1, VS e.2]) rfl ?_
        intro cenv D I B i φ₁ s₁ hcc hC' hi' k₁
        have hi0 : i = 0 := by rw [List.length_singleton] at hi'; omega
        subst hi0
        intro hCS
        refine wpAny_tests_nil (iteT rfl fun K Q hK' => ?_)
        refine comp_next (p := VL ([hi].map VS)) (n := [hi].length) (pI := fun i => VS ([hi].getD i [])) rfl hC' rfl
          ((Ev.cell (p := VL ([hi].map VS)) hC'.k (hC'.of rfl) ⟨ah, wh, by rw [hcc]; rfl, ih.keeps (hLs.kp.trans k₁), (VL _).mono (hLs.kp.trans k₁) qh⟩ hCS.1.kp).mono (Keep.refl _) fun _ _ _ _ _ q _ k _ => (VL _).mono k q) (fun φ' v s' _ k' hv => itr_listF hC'.hh k' hv) (.inl (.tail _ (.head _)))
          (fun i => if i = 0 then [] else [(lo, hi)].map fun e => VT [VS e.1, VS e.2]) hCS ?_ ?_
        · intro I1 j φ₂ s₂ hj k₂
          have hj0 : j = 0 := by rw [List.length_singleton] at hj; omega
          subst hj0
          intro hCS1
          refine wpAny_tests_nil (iteT rfl fun K Q hK'' => ?_)
          refine comp_emitF (q := VT [VS lo, VS hi]) rfl hCS1 (.inl (.tail _ (.head _))) (Nat.zero_le _) ((ev_tup2 (hCS1.1.nS hC' (l := lo) rfl rfl) (hCS1.1.nS hC' (l := hi) rfl rfl)).mono (Keep.refl _) fun h v h' _ _ ⟨T, a, b, g₁, g₂, e, hT, hT2, ⟨t1, e1⟩, ⟨t2, e2⟩, _⟩ φ' _ nn => ?_) fun φ' s' k' h' => hK'' φ' s' k' ⟨h'.1.weak (.cons rfl .nil), h'.2⟩
          subst e e1 e2
          exact ⟨T, _, rfl, nn _ _ hT hT2, .cons ⟨t1, rfl⟩ (.cons ⟨t2, rfl⟩ .nil)⟩
        · intro φ₃ s₃ k₃ h3
          exact hK' φ₃ s₃ k₃ ⟨h3.1.weak .nil, h3.2⟩
      · have hM := hLs.step kM rM
        exact hQ v sM hM.keepE hM.rest hv
  · intro env' e
    obtain ⟨⟩ := env'
    cases e
    rfl
end
end Mine
namespace Mine
theorem wp_end {w : World} {A : Around} {s : Shared} {t : Sem Value} {Q : Value → Shared → Prop} {E : Value → Shared → Prop} (h : wpAny (model prg w) A t (fun r s' => Keep s.heap s'.heap ∧ Rest s s' ∧ ∀ h, Keep h s.heap → IsB true h r s'.heap) noE s)
    (q : ∀ v s', Keep s.heap s'.heap → Rest s s' → v = .bool true → Q v s') : wpAny (model prg w) A t Q E s :=
  wpAny_mono h (fun v s' x => q v s' x.1 x.2.1 (x.2.2 s.heap (Keep.refl _))) fun _ _ x => x.elim
end Mine
theorem PySem.Challenge.cw_us0016_01_holds : PySem.Challenge.rw_us0016_01.Holds := by
  refine holds_law Mine.said fun _ => holds_open (q := Mine.vw) (loose := Mine.loose1) (Xt := Mine.Xt1) (XP := XL Mine.vw []) (Yf := Hook.obs Mine.HH) (Ya := Hook.val Mine.HH) (YP := Hook.says Mine.HH) (N := 4288)
    Mine.left (Hook.of Mine.HH) (Hook.keeps Mine.HH) (fun s e => xl_of s (Bool.and_eq_true_iff.mp e).1) XL.keeps (by rfl) (by rfl) (by rfl) (fun s e => recFacts_of (Bool.and_eq_true_iff.mp e).2) (by rfl) (by first | assumption | decide +kernel) (by decide +kernel) ⟨rfl, rfl, rfl, rfl, rfl, by decide +kernel⟩ (by w_witness2) ?_
  intro w s₀ s₁ mg mb G Y fa o pm cd doc dV kV ho hd hcd hD hmg hg args vals as hpre hlay hrd hwl hlo
  have KX := kIn_of Y
  clear ho hd hcd hD Y
  refine Ground.open G ?_
  intro T B D TE TW
  have M := mg_of KX T.g (n := "law") (v := Value.ref 143) (by kernel_rfl)
  replace hmg : mg "law" = some (.ref fa) := hmg
  rw [M] at hmg
  obtain rfl : 143 = fa := by cases hmg; rfl
  wrow_args hpre hlay hrd hwl hlo
  rename_i ns _ _ _ _ _ _ _ a vs _ hL _ _ _ hI _ hn _
  have hv : (Mine.VL (ns.map Mine.VI)).p s₁.heap (.ref a) := ⟨a, vs, rfl, hL, Mine.A2.ofInts hI⟩
  refine Mine.wp_end (Mine.cl_law (w := w) ⟨KX, _, _, _, _, _, T⟩ rfl (by decide) (by decide) hv (by omega) s₁ (Mine.Keep.refl _)) (fun v s' k r e => ?_)
  subst e
  refine ⟨.inl ⟨_, .bool true, [], rfl, fun cls => ?_, .bool true, ?_, fun _ => ⟨.nil, fun _ ha => nomatch ha⟩⟩, .of_keep k, r.os, r.bare (.of_eq hg)⟩
  · rfl
  · kernel_rfl
