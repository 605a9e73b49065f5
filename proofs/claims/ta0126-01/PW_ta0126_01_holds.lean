import PyProof.Rows.All
import Wide.All
import OpenK.AllK
import Wide.FinOn
import PySem.Challenge.RW_ta0126_01
set_option Elab.async false
set_option linter.unusedVariables false
set_option linter.unusedSimpArgs false

section
open PySem PySem.W PyProof.Rows PySem.Calls
namespace Mine
noncomputable abbrev PW : Program := PySem.Challenge.pw_ta0126_01
noncomputable def vS (x : String) (t : Tok) : Value := .str (Str.ofString x) t
noncomputable def dE (P : Params) (x : String) (t : Tok) (v : Value) : DictEntry := { hash := PyData.keyHash P (Str.ofString x), key := .str (Str.ofString x) t, val := v }
noncomputable def topSt (i : Nat) : Option Stmt := PW.main.body[i]?
noncomputable def inCls (s : Option Stmt) (j : Nat) : Option Stmt := match s with
  | some (.ClassDef _ _ _ b _ _ _ _ _ _ _) => b[j]?
  | _ => none
/-- the function that a def of the text makes -/
noncomputable def fnO (s : Option Stmt) (q : String) (dV pm : Value) (c : Addr) : Obj := match s with
  | some (.FunctionDef n ps b _ _ _ sc _ _ _) => { cls := .type "function", data := .func { name := n, qualname := Str.ofString q, params := ps, body := .stmts b, scope := sc, globals := 3, closure := [], defaults := dV, kwdefaults := .none, pyModule := pm, code := .ref c } }
  | _ => default
/-- what stands of the top, as far as the walks look at it -/
noncomputable def K0 (P : Params) : Frag := [
  (2, { cls := .none, data := .dict #[dE P "\x69mport.loaded._sre" 183 (.bool true), dE P "class._frozen_importlib.BuiltinImporter" 185 (.ref 14), dE P "watched.\x69mport" 206 (.ref 18), dE P "class._frozen_importlib.ModuleSpec" 216 (.ref 22), dE P "sys.modules.booked-epoch" 245 (.int 3 0), dE P "\x69mport.later-laid._sre" 270 (.bool true), dE P "watched.library" 272 (.ref 27), dE P "watched.library-objects" 0 (vS "\x0c" 0), dE P "watched.library-deep._sre" 273 (vS "\x04\x00\x00\x0b\x04\x00\x00\x0b\x04\x00\x00\x03\x04\x00\x00\x0b\x08\x04dict\x02" 0)] 9 }),
  (3, { cls := .type "dict", data := .dict #[dE P "__name__" 165 (vS "law_ta0126_01" 886), dE P "__doc__" 166 (.none), dE P "__package__" 167 (.none), dE P "__loader__" 168 (.builtin "__main__.__loader__#opaque"), dE P "__spec__" 169 (.none), dE P "__annotations__" 170 (.ref 6), dE P "__builtins__" 171 (.ref 4), dE P "__file__" 173 (vS "/claim/cut.py" 172), dE P "__cached__" 174 (.none), dE P "_sre" 275 (.ref 12), dE P "_wall" 288 (.ref 38), dE P "rgb_to_hls" 309 (.ref 45), dE P "rgb_to_hsv" 327 (.ref 52), dE P "_DIV_LIMIT" 331 (.int 4000 330), dE P "_div2n1n" 348 (.ref 59), dE P "_div3n2n" 362 (.ref 66), dE P "_int2digits" 373 (.ref 73), dE P "_digits2int" 384 (.ref 80), dE P "_divmod_pos" 399 (.ref 87), dE P "int_divmod" 409 (.ref 94), dE P "ENDMARKER" 413 (.int 0 412), dE P "LPAR" 415 (.int 7 414), dE P "RPAR" 417 (.int 8 416), dE P "LSQB" 419 (.int 9 418), dE P "RSQB" 421 (.int 10 420), dE P "COLON" 423 (.int 11 422), dE P "COMMA" 425 (.int 12 424), dE P "SEMI" 427 (.int 13 426), dE P "PLUS" 429 (.int 14 428), dE P "MINUS" 431 (.int 15 430), dE P "STAR" 433 (.int 16 432), dE P "SLASH" 435 (.int 17 434), dE P "VBAR" 437 (.int 18 436), dE P "AMPER" 439 (.int 19 438), dE P "LESS" 441 (.int 20 440), dE P "GREATER" 443 (.int 21 442), dE P "EQUAL" 445 (.int 22 444), dE P "DOT" 447 (.int 23 446), dE P "PERCENT" 449 (.int 24 448), dE P "LBRACE" 451 (.int 25 450), dE P "RBRACE" 453 (.int 26 452), dE P "EQEQUAL" 455 (.int 27 454), dE P "NOTEQUAL" 457 (.int 28 456), dE P "LESSEQUAL" 459 (.int 29 458), dE P "GREATEREQUAL" 461 (.int 30 460), dE P "TILDE" 463 (.int 31 462), dE P "CIRCUMFLEX" 465 (.int 32 464), dE P "LEFTSHIFT" 467 (.int 33 466), dE P "RIGHTSHIFT" 469 (.int 34 468), dE P "DOUBLESTAR" 471 (.int 35 470), dE P "PLUSEQUAL" 473 (.int 36 472), dE P "MINEQUAL" 475 (.int 37 474), dE P "STAREQUAL" 477 (.int 38 476), dE P "SLASHEQUAL" 479 (.int 39 478), dE P "PERCENTEQUAL" 481 (.int 40 480), dE P "AMPEREQUAL" 483 (.int 41 482), dE P "VBAREQUAL" 485 (.int 42 484), dE P "CIRCUMFLEXEQUAL" 487 (.int 43 486), dE P "LEFTSHIFTEQUAL" 489 (.int 44 488), dE P "RIGHTSHIFTEQUAL" 491 (.int 45 490), dE P "DOUBLESTAREQUAL" 493 (.int 46 492), dE P "DOUBLESLASH" 495 (.int 47 494), dE P "DOUBLESLASHEQUAL" 497 (.int 48 496), dE P "AT" 499 (.int 49 498), dE P "ATEQUAL" 501 (.int 50 500), dE P "RARROW" 503 (.int 51 502), dE P "ELLIPSIS" 505 (.int 52 504), dE P "COLONEQUAL" 507 (.int 53 506), dE P "EXCLAMATION" 509 (.int 54 508), dE P "NT_OFFSET" 511 (.int 256 510), dE P "EXACT_TOKEN_TYPES" 608 (.ref 95), dE P "ISTERMINAL" 615 (.ref 104), dE P "ISEOF" 622 (.ref 111), dE P "tspecials" 658 (.ref 116), dE P "_name_disallowed_re" 684 (.ref 121), dE P "_value_disallowed_re" 718 (.ref 126), dE P "_formatparam" 728 (.ref 134), dE P "Headers" 885 (.ref 255), dE P "_law_laid" 893 (.ref 264), dE P "_law_count" 899 (.ref 269), dE P "law" 905 (.ref 274)] 81 }),
  (44, { cls := .type "code", data := .fields #[vS "rgb_to_hls" 291, vS "rgb_to_hls" 292, vS "/claim/cut.py" 293, .int 6 0, .int 3 0, .int 0 0, .int 0 0, .int 3 0, .ref 39, .bool true, .int 276 0, .ref 40, .none, .ref 41, .ref 42, .ref 43, .int 307 0, .int 6 0, vS "/claim/cut.py" 308] }),
  (45, fnO (topSt 3) "rgb_to_hls" (.none) (vS "cpy313.colorsys" 289) 44),
  (51, { cls := .type "code", data := .fields #[vS "rgb_to_hsv" 310, vS "rgb_to_hsv" 311, vS "/claim/cut.py" 312, .int 29 0, .int 3 0, .int 0 0, .int 0 0, .int 3 0, .ref 46, .bool true, .int 276 0, .ref 47, .none, .ref 48, .ref 49, .ref 50, .int 325 0, .int 29 0, vS "/claim/cut.py" 326] }),
  (52, fnO (topSt 4) "rgb_to_hsv" (.none) (vS "cpy313.colorsys" 289) 51),
  (58, { cls := .type "code", data := .fields #[vS "_div2n1n" 332, vS "_div2n1n" 333, vS "/claim/cut.py" 334, .int 50 0, .int 3 0, .int 0 0, .int 0 0, .int 3 0, .ref 53, .bool true, .int 276 0, .ref 54, .none, .ref 55, .ref 56, .ref 57, .int 346 0, .int 50 0, vS "/claim/cut.py" 347] }),
  (59, fnO (topSt 7) "_div2n1n" (.none) (vS "cpy313._pylong" 328) 58),
  (72, { cls := .type "code", data := .fields #[vS "_int2digits" 363, vS "_int2digits" 364, vS "/claim/cut.py" 365, .int 76 0, .int 2 0, .int 0 0, .int 0 0, .int 3 0, .ref 67, .bool true, .int 276 0, .ref 68, .none, .ref 69, .ref 70, .ref 71, .int 371 0, .int 76 0, vS "/claim/cut.py" 372] }),
  (73, fnO (topSt 9) "_int2digits" (.none) (vS "cpy313._pylong" 328) 72),
  (79, { cls := .type "code", data := .fields #[vS "_digits2int" 374, vS "_digits2int" 375, vS "/claim/cut.py" 376, .int 92 0, .int 2 0, .int 0 0, .int 0 0, .int 3 0, .ref 74, .bool true, .int 276 0, .ref 75, .none, .ref 76, .ref 77, .ref 78, .int 382 0, .int 92 0, vS "/claim/cut.py" 383] }),
  (80, fnO (topSt 10) "_digits2int" (.none) (vS "cpy313._pylong" 328) 79),
  (86, { cls := .type "code", data := .fields #[vS "_divmod_pos" 385, vS "_divmod_pos" 386, vS "/claim/cut.py" 387, .int 101 0, .int 2 0, .int 0 0, .int 0 0, .int 3 0, .ref 81, .bool true, .int 276 0, .ref 82, .none, .ref 83, .ref 84, .ref 85, .int 397 0, .int 101 0, vS "/claim/cut.py" 398] }),
  (87, fnO (topSt 11) "_divmod_pos" (.none) (vS "cpy313._pylong" 328) 86),
  (93, { cls := .type "code", data := .fields #[vS "int_divmod" 400, vS "int_divmod" 401, vS "/claim/cut.py" 402, .int 112 0, .int 2 0, .int 0 0, .int 0 0, .int 3 0, .ref 88, .bool true, .int 276 0, .ref 89, .none, .ref 90, .ref 91, .ref 92, .int 407 0, .int 112 0, vS "/claim/cut.py" 408] }),
  (94, fnO (topSt 12) "int_divmod" (.none) (vS "cpy313._pylong" 328) 93),
  (95, { cls := .type "dict", data := .dict #[dE P "!" 512 (.int 54 508), dE P "!=" 514 (.int 28 456), dE P "%" 516 (.int 24 448), dE P "%=" 518 (.int 40 480), dE P "&" 520 (.int 19 438), dE P "&=" 522 (.int 41 482), dE P "(" 524 (.int 7 414), dE P ")" 526 (.int 8 416), dE P "*" 528 (.int 16 432), dE P "**" 530 (.int 35 470), dE P "**=" 532 (.int 46 492), dE P "*=" 534 (.int 38 476), dE P "+" 536 (.int 14 428), dE P "+=" 538 (.int 36 472), dE P "," 540 (.int 12 424), dE P "-" 542 (.int 15 430), dE P "-=" 544 (.int 37 474), dE P "->" 546 (.int 51 502), dE P "." 548 (.int 23 446), dE P "..." 550 (.int 52 504), dE P "/" 552 (.int 17 434), dE P "//" 554 (.int 47 494), dE P "//=" 556 (.int 48 496), dE P "/=" 558 (.int 39 478), dE P ":" 560 (.int 11 422), dE P ":=" 562 (.int 53 506), dE P ";" 564 (.int 13 426), dE P "<" 566 (.int 20 440), dE P "<<" 568 (.int 33 466), dE P "<<=" 570 (.int 44 488), dE P "<=" 572 (.int 29 458), dE P "=" 574 (.int 22 444), dE P "==" 576 (.int 27 454), dE P ">" 578 (.int 21 442), dE P ">=" 580 (.int 30 460), dE P ">>" 581 (.int 34 468), dE P ">>=" 582 (.int 45 490), dE P "@" 583 (.int 49 498), dE P "@=" 584 (.int 50 500), dE P "[" 585 (.int 9 418), dE P "]" 586 (.int 10 420), dE P "^" 587 (.int 32 464), dE P "^=" 588 (.int 43 486), dE P "{" 589 (.int 25 450), dE P "|" 590 (.int 18 436), dE P "|=" 591 (.int 42 484), dE P "}" 592 (.int 26 452), dE P "~" 593 (.int 31 462)] 48 }),
  (103, { cls := .type "code", data := .fields #[vS "ISTERMINAL" 609, vS "ISTERMINAL" 610, vS "/claim/cut.py" 611, .int 175 0, .int 1 0, .int 0 0, .int 0 0, .int 3 0, .ref 98, .bool true, .int 276 0, .ref 99, .none, .ref 100, .ref 101, .ref 102, .int 613 0, .int 175 0, vS "/claim/cut.py" 614] }),
  (104, fnO (topSt 65) "ISTERMINAL" (.none) (vS "cpy313.token" 410) 103),
  (110, { cls := .type "code", data := .fields #[vS "ISEOF" 616, vS "ISEOF" 617, vS "/claim/cut.py" 618, .int 177 0, .int 1 0, .int 0 0, .int 0 0, .int 3 0, .ref 105, .bool true, .int 276 0, .ref 106, .none, .ref 107, .ref 108, .ref 109, .int 620 0, .int 177 0, vS "/claim/cut.py" 621] }),
  (111, fnO (topSt 66) "ISEOF" (.none) (vS "cpy313.token" 410) 110),
  (115, { cls := .type "tuple", data := .seq #[.int 14 0, .int 14 0, .int 4 0, .int 1 0, .int 1 0, .int 9 0, .int 0 0, .int 4227896069 0, .int 939524097 0, .int 0 0, .int 0 0, .int 0 0, .int 0 0, .int 0 0, .int 0 0, .int 13 0, .int 11 0, .int 9 0, .int 0 0, .int 4227896069 0, .int 939524097 0, .int 0 0, .int 0 0, .int 0 0, .int 0 0, .int 0 0, .int 0 0, .int 1 0] }),
  (116, { cls := .type "re.Pattern", data := .fields #[vS "[ \\(\\)<>@,;:\\\\\"/\\[\\]\\?=]" 626, .int 32 657, .int 0 0, .none, .none, .ref 115, .int 0 0] }),
  (120, { cls := .type "tuple", data := .seq #[.int 14 0, .int 10 0, .int 4 0, .int 1 0, .int 1 0, .int 22 0, .int 0 0, .int 31 0, .int 16 0, .int 127 0, .int 0 0, .int 13 0, .int 7 0, .int 22 0, .int 0 0, .int 31 0, .int 16 0, .int 127 0, .int 0 0, .int 1 0] }),
  (121, { cls := .type "re.Pattern", data := .fields #[vS "[\\x00-\\x1F\\x7F]" 660, .int 32 683, .int 0 0, .none, .none, .ref 120, .int 0 0] }),
  (125, { cls := .type "tuple", data := .seq #[.int 14 0, .int 14 0, .int 4 0, .int 1 0, .int 1 0, .int 9 0, .int 4294966783 0, .int 0 0, .int 0 0, .int 2147483648 0, .int 0 0, .int 0 0, .int 0 0, .int 0 0, .int 0 0, .int 13 0, .int 11 0, .int 9 0, .int 4294966783 0, .int 0 0, .int 0 0, .int 2147483648 0, .int 0 0, .int 0 0, .int 0 0, .int 0 0, .int 0 0, .int 1 0] }),
  (126, { cls := .type "re.Pattern", data := .fields #[vS "[\\x00-\\x08\\x0A-\\x1F\\x7F]" 686, .int 32 717, .int 0 0, .none, .none, .ref 125, .int 0 0] }),
  (142, { cls := .type "tuple", data := .seq #[.none] }),
  (148, { cls := .type "code", data := .fields #[vS "__init__" 741, vS "Headers.__init__" 742, vS "/claim/cut.py" 743, .int 194 0, .int 2 0, .int 0 0, .int 0 0, .int 3 0, .ref 143, .bool true, .int 276 0, .ref 144, .none, .ref 145, .ref 146, .ref 147, .int 748 0, .int 194 0, vS "/claim/cut.py" 749] }),
  (149, fnO (inCls (topSt 72) 0) "Headers.__init__" (.ref 142) (vS "cpy313.wsgiref.headers" 623) 148),
  (155, { cls := .type "code", data := .fields #[vS "_convert_string_type" 751, vS "Headers._convert_string_type" 752, vS "/claim/cut.py" 753, .int 204 0, .int 2 0, .int 0 0, .int 1 0, .int 3 0, .ref 150, .bool true, .int 276 0, .ref 151, .none, .ref 152, .ref 153, .ref 154, .int 758 0, .int 204 0, vS "/claim/cut.py" 759] }),
  (156, fnO (inCls (topSt 72) 1) "Headers._convert_string_type" (.none) (vS "cpy313.wsgiref.headers" 623) 155),
  (193, { cls := .type "code", data := .fields #[vS "get_all" 799, vS "Headers.get_all" 800, vS "/claim/cut.py" 801, .int 229 0, .int 2 0, .int 0 0, .int 0 0, .int 3 0, .ref 190, .bool true, .int 276 0, .ref 191, .none, .none, .none, .ref 192, .int 802 0, .int 229 0, vS "/claim/cut.py" 803] }),
  (194, fnO (inCls (topSt 72) 7) "Headers.get_all" (.none) (vS "cpy313.wsgiref.headers" 623) 193),
  (251, { cls := .type "code", data := .fields #[vS "add_header" 864, vS "Headers.add_header" 865, vS "/claim/cut.py" 866, .int 261 0, .int 3 0, .int 0 0, .int 0 0, .int 11 0, .ref 246, .bool true, .int 276 0, .ref 247, .none, .ref 248, .ref 249, .ref 250, .int 874 0, .int 261 0, vS "/claim/cut.py" 875] }),
  (252, fnO (inCls (topSt 72) 16) "Headers.add_header" (.none) (vS "cpy313.wsgiref.headers" 623) 251),
  (254, { cls := .type "dict", data := .dict #[dE P "__module__" 736 (vS "cpy313.wsgiref.headers" 623), dE P "__firstlineno__" 740 (.int 192 739), dE P "__init__" 750 (.ref 149), dE P "_convert_string_type" 760 (.ref 156), dE P "__len__" 767 (.ref 163), dE P "__setitem__" 776 (.ref 170), dE P "__delitem__" 782 (.ref 175), dE P "__getitem__" 790 (.ref 182), dE P "__contains__" 798 (.ref 189), dE P "get_all" 804 (.ref 194), dE P "get" 815 (.ref 202), dE P "keys" 821 (.ref 207), dE P "values" 827 (.ref 212), dE P "items" 834 (.ref 219), dE P "__repr__" 841 (.ref 226), dE P "__str__" 847 (.ref 231), dE P "__bytes__" 854 (.ref 238), dE P "setdefault" 863 (.ref 245), dE P "add_header" 876 (.ref 252), dE P "__static_attributes__" 878 (.ref 253), dE P "__dict__" 880 (.ref 256), dE P "__weakref__" 882 (.ref 257), dE P "__doc__" 883 (.none)] 4 }),
  (255, { cls := .type "type", data := .cls { name := Str.ofString "Headers", bases := [.type "object"], mro := [.ref 255, .type "object"], ns := 254, qualname := Str.ofString "Headers" }, slots := #[none, none, some (vS "Headers" 729), some (vS "Headers" 737), some (.builtin "object.__new__"), some (.bool true)] }),
  (263, { cls := .type "code", data := .fields #[vS "_law_laid" 888, vS "_law_laid" 889, vS "/claim/cut.py" 890, .int 275 0, .int 4 0, .int 0 0, .int 0 0, .int 3 0, .ref 260, .bool true, .int 276 0, .ref 261, .none, .none, .none, .ref 262, .int 891 0, .int 275 0, vS "/claim/cut.py" 892] }),
  (264, fnO (topSt 74) "_law_laid" (.none) (vS "law_ta0126_01" 886) 263),
  (268, { cls := .type "code", data := .fields #[vS "_law_count" 894, vS "_law_count" 895, vS "/claim/cut.py" 896, .int 291 0, .int 2 0, .int 0 0, .int 0 0, .int 3 0, .ref 265, .bool true, .int 276 0, .ref 266, .none, .none, .none, .ref 267, .int 897 0, .int 291 0, vS "/claim/cut.py" 898] }),
  (269, fnO (topSt 75) "_law_count" (.none) (vS "law_ta0126_01" 886) 268)]
noncomputable def as0 : List Addr := [2, 3, 44, 45, 51, 52, 58, 59, 72, 73, 79, 80, 86, 87, 93, 94, 95, 103, 104, 110, 111, 115, 116, 120, 121, 125, 126, 142, 148, 149, 155, 156, 193, 194, 251, 252, 254, 255, 263, 264, 268, 269]
end Mine
end

section
open PySem PySem.W PyProof.Rows PySem.Calls
namespace Mine

/-- the address of the class Headers -/
noncomputable abbrev HC : Addr := 255
noncomputable abbrev HK : Params → Frag := K0

/-- plain data -/
inductive PV where
  | none
  | bool (b : Bool)
  | int (i : Int)
  | flt (x : UInt64)
  | str (s : Str)
  | tup (l : List PV)
  | lst (l : List PV)
  | scr (ns : List Int)
  | hdr (a : Addr)
  | hdrL (xs : List PV)
  | obj (o : Obj)
  | raw (v : Value)

/-- the two tables of inner code, whose places may move at any time -/
noncomputable abbrev DD (S : List Addr) : List Addr := 68 :: 75 :: S
noncomputable def TabOk (P line col : Nat) (qual : Str) (h : Heap) : Prop := h.get? P = some (tabObj #[]) ∨ ∃ c, h.get? P = some (tabObj #[rawInt line, rawInt col, .ref c]) ∧ h.CodeRec (.ref c) qual ∧ c ≠ 68 ∧ c ≠ 75
structure Tabs (h : Heap) : Prop where
  a : TabOk 68 79 4 "_int2digits.<locals>.inner" h
  b : TabOk 75 94 4 "_digits2int.<locals>.inner" h
theorem TabOk.data {P l c : Nat} {q : Str} {h : Heap} (t : TabOk P l c q h) : ∃ ps, h.get? P = some (tabObj ps) := by
  rcases t with e | ⟨_, e, _⟩ <;> exact ⟨_, e⟩
/-- grown: what was is there but for the tables -/
structure Gr (h h' : Heap) : Prop where
  k : ∀ b o, b ≠ 68 → b ≠ 75 → h.get? b = some o → h'.get? b = some o
  tab : Tabs h → Tabs h'
theorem TabOk.stays {P l c : Nat} {q : Str} {h h' : Heap} (t : TabOk P l c q h) (k : ∀ b o, h.get? b = some o → h'.get? b = some o) : TabOk P l c q h' := by
  rcases t with e | ⟨d, e, r, n⟩
  · exact .inl (k _ _ e)
  · exact .inr ⟨d, k _ _ e, r.keeps k, n⟩
theorem Tabs.stays {h h' : Heap} (t : Tabs h) (k : ∀ b o, h.get? b = some o → h'.get? b = some o) : Tabs h' := ⟨t.a.stays k, t.b.stays k⟩
/-- a place that is no record and no table is overwritten -/
theorem TabOk.but {P l c a : Nat} {q : Str} {h h' : Heap} (t : TabOk P l c q h) (k : ∀ b o, b ≠ a → h.get? b = some o → h'.get? b = some o) (hd : ∀ o vs, h.get? a = some o → o.data ≠ .fields vs) : TabOk P l c q h' := by
  have hP : P ≠ a := fun e => by obtain ⟨ps, hp⟩ := t.data; exact hd _ _ (e ▸ hp) rfl
  rcases t with e | ⟨d, e, ⟨c₂, o, vs, t, e2, ho, hvs, hv⟩, n⟩
  · exact .inl (k _ _ hP e)
  · cases e2
    exact .inr ⟨d, k _ _ hP e, ⟨_, o, vs, t, rfl, k _ _ (fun q => hd o vs (q ▸ ho) hvs) ho, hvs, hv⟩, n⟩
theorem Tabs.but {a : Nat} {h h' : Heap} (t : Tabs h) (k : ∀ b o, b ≠ a → h.get? b = some o → h'.get? b = some o) (hd : ∀ o vs, h.get? a = some o → o.data ≠ .fields vs) : Tabs h' := ⟨t.a.but k hd, t.b.but k hd⟩
theorem Tabs.ne {h : Heap} {a : Addr} {o : Obj} (t : Tabs h) (e : h.get? a = some o) (hd : ∀ vs, o.data ≠ .fields vs) : a ≠ 68 ∧ a ≠ 75 := by
  constructor <;> intro q <;> subst q
  · obtain ⟨ps, hp⟩ := t.a.data; rw [e] at hp; cases hp; exact hd _ rfl
  · obtain ⟨ps, hp⟩ := t.b.data; rw [e] at hp; cases hp; exact hd _ rfl
theorem Gr.of {h h' : Heap} (k : ∀ b o, h.get? b = some o → h'.get? b = some o) : Gr h h' := ⟨fun b o _ _ e => k b o e, fun t => t.stays k⟩
theorem Gr.rfl {h : Heap} : Gr h h := .of fun _ _ e => e
theorem Gr.trans {h h' h'' : Heap} (a : Gr h h') (b : Gr h' h'') : Gr h h'' := ⟨fun x o n m e => b.k x o n m (a.k x o n m e), fun t => b.tab (a.tab t)⟩
theorem Gr.push {h : Heap} {o : Obj} : Gr h (h.push o) := .of fun _ _ e => Heap.get?_push_of_some _ e

noncomputable def Kp (S : List Addr) (h h' : Heap) : Prop := ∀ b o, b ∉ DD S → h.get? b = some o → h'.get? b = some o

theorem ns_at {h h' : Heap} {a : Addr} {m : Str → Option Value} (x : h.Ns a m) (k : ∀ o, h.get? a = some o → h'.get? a = some o) : h'.Ns a m :=
  let ⟨o, es, ep, ho, r⟩ := x; ⟨o, es, ep, k o ho, r⟩

mutual
inductive Rel (S : List Addr) (h : Heap) : Value → PV → Prop
  | nn : Rel S h .none .none
  | bool (b : Bool) : Rel S h (.bool b) (.bool b)
  | int (i : Int) (t : Tok) : Rel S h (.int i t) (.int i)
  | flt (x : UInt64) (t : Tok) : Rel S h (.float x t) (.flt x)
  | str (x : Str) (t : Tok) : Rel S h (.str x t) (.str x)
  | raw (v : Value) : Rel S h v (.raw v)
  | tup {a : Addr} {vs : List Value} {l : List PV} {n : Nat} : a ∉ DD S → IsT h a vs.toArray n → RelL S h vs l → Rel S h (.ref a) (.tup l)
  | lst {a : Addr} {vs : List Value} {l : List PV} {n : Nat} : a ∉ DD S → IsL h a vs.toArray n → RelL S h vs l → Rel S h (.ref a) (.lst l)
  | scr {a : Addr} {vs : List Value} {ns : List Int} : a ∉ DD S → h.IsList a vs.toArray → IntsAre vs ns → Rel S h (.ref a) (.scr ns)
  | hdr {t d a : Addr} {e : DictEntry} {n : Nat} {tk : Tok} : t ∉ DD S → d ∉ DD S → h.get? t = some (instObj HC d) → h.get? d = some (dictOf [e] n) → e.key = .str "_headers" tk → e.val = .ref a → Rel S h (.ref t) (.hdr a)
  | obj {a : Addr} {o : Obj} : a ∉ DD S → h.get? a = some o → Rel S h (.ref a) (.obj o)
  | hdrL {t d a : Addr} {e : DictEntry} {n m : Nat} {tk : Tok} {vs : List Value} {l : List PV} : t ∉ DD S → d ∉ DD S → a ∉ DD S → h.get? t = some (instObj HC d) → h.get? d = some (dictOf [e] n) → e.key = .str "_headers" tk → e.val = .ref a → IsL h a vs.toArray m → RelL S h vs l → Rel S h (.ref t) (.hdrL l)
inductive RelL (S : List Addr) (h : Heap) : List Value → List PV → Prop
  | nil : RelL S h [] []
  | cons {v : Value} {vs : List Value} {p : PV} {l : List PV} : Rel S h v p → RelL S h vs l → RelL S h (v :: vs) (p :: l)
end

/-- what a value is, told by the data -/
noncomputable def RelC (S : List Addr) (h : Heap) (v : Value) : PV → Prop
  | .none => ∃ _ : Unit, v = .none
  | .bool b => ∃ _ : Unit, v = .bool b
  | .int i => ∃ t, v = .int i t
  | .flt x => ∃ t, v = .float x t
  | .str x => ∃ t, v = .str x t
  | .raw u => ∃ _ : Unit, v = u
  | .tup l => ∃ a vs n, v = .ref a ∧ a ∉ DD S ∧ IsT h a vs.toArray n ∧ RelL S h vs l
  | .lst l => ∃ a vs n, v = .ref a ∧ a ∉ DD S ∧ IsL h a vs.toArray n ∧ RelL S h vs l
  | .scr ns => ∃ a vs, v = .ref a ∧ a ∉ DD S ∧ h.IsList a vs.toArray ∧ IntsAre vs ns
  | .hdr a => ∃ t d e n tk, v = .ref t ∧ t ∉ DD S ∧ d ∉ DD S ∧ h.get? t = some (instObj HC d) ∧ h.get? d = some (dictOf [e] n) ∧ e.key = .str "_headers" tk ∧ e.val = .ref a
  | .obj o => ∃ a, v = .ref a ∧ a ∉ DD S ∧ h.get? a = some o
  | .hdrL l => ∃ t d a e n m tk vs, v = .ref t ∧ t ∉ DD S ∧ d ∉ DD S ∧ a ∉ DD S ∧ h.get? t = some (instObj HC d) ∧ h.get? d = some (dictOf [e] n) ∧ e.key = .str "_headers" tk ∧ e.val = .ref a ∧ IsL h a vs.toArray m ∧ RelL S h vs l
theorem Rel.inv {S : List Addr} {h : Heap} {v : Value} {p : PV} (r : Rel S h v p) : RelC S h v p := by
  cases r with
  | nn => exact ⟨(), rfl⟩
  | bool b => exact ⟨(), rfl⟩
  | int i t => exact ⟨t, rfl⟩
  | flt x t => exact ⟨t, rfl⟩
  | str x t => exact ⟨t, rfl⟩
  | raw v => exact ⟨(), rfl⟩
  | tup a b c => exact ⟨_, _, _, rfl, a, b, c⟩
  | lst a b c => exact ⟨_, _, _, rfl, a, b, c⟩
  | scr a b c => exact ⟨_, _, rfl, a, b, c⟩
  | hdr a b c d e f => exact ⟨_, _, _, _, _, rfl, a, b, c, d, e, f⟩
  | obj a b => exact ⟨_, rfl, a, b⟩
  | hdrL a b c d e f g i j => exact ⟨_, _, _, _, _, _, _, _, rfl, a, b, c, d, e, f, g, i, j⟩
theorem RelL.inv0 {S : List Addr} {h : Heap} {vs : List Value} (r : RelL S h vs []) : vs = [] := by cases r; rfl
theorem RelL.inv {S : List Addr} {h : Heap} {vs : List Value} {p : PV} {l : List PV} (r : RelL S h vs (p :: l)) : ∃ v us, vs = v :: us ∧ Rel S h v p ∧ RelL S h us l := by cases r with | cons a b => exact ⟨_, _, rfl, a, b⟩
theorem RelL.inv1 {S : List Addr} {h : Heap} {vs : List Value} {p : PV} (r : RelL S h vs [p]) : ∃ v, vs = [v] ∧ Rel S h v p := by
  obtain ⟨v, us, rfl, a, b⟩ := r.inv
  obtain rfl := b.inv0
  exact ⟨v, rfl, a⟩
theorem RelL.inv2 {S : List Addr} {h : Heap} {vs : List Value} {p q : PV} (r : RelL S h vs [p, q]) : ∃ v w, vs = [v, w] ∧ Rel S h v p ∧ Rel S h w q := by
  obtain ⟨v, us, rfl, a, b⟩ := r.inv
  obtain ⟨w, rfl, c⟩ := b.inv1
  exact ⟨v, w, rfl, a, c⟩
theorem RelL.inv3 {S : List Addr} {h : Heap} {vs : List Value} {p q r : PV} (x : RelL S h vs [p, q, r]) : ∃ v w u, vs = [v, w, u] ∧ Rel S h v p ∧ Rel S h w q ∧ Rel S h u r := by
  obtain ⟨v, us, rfl, a, b⟩ := x.inv
  obtain ⟨w, u, rfl, c, d⟩ := b.inv2
  exact ⟨v, w, u, rfl, a, c, d⟩

theorem isList_at {h h' : Heap} {a : Addr} {its : Array Value} (x : h.IsList a its) (k : ∀ o, h.get? a = some o → h'.get? a = some o) : h'.IsList a its :=
  let ⟨o, ho, r⟩ := x; ⟨o, k o ho, r⟩
theorem isTup_at {h h' : Heap} {a : Addr} {its : Array Value} (x : IsTup h a its) (k : ∀ o, h.get? a = some o → h'.get? a = some o) : IsTup h' a its :=
  let ⟨o, ho, r⟩ := x; ⟨o, k o ho, r⟩

mutual
theorem Rel.step {S S' : List Addr} {h h' : Heap} {v : Value} {p : PV} (r : Rel S h v p) (k : ∀ b o, b ∉ DD S → h.get? b = some o → h'.get? b = some o ∧ b ∉ DD S') : Rel S' h' v p := by
  cases r with
  | nn => exact .nn
  | bool b => exact .bool b
  | int i t => exact .int i t
  | flt x t => exact .flt x t
  | str x t => exact .str x t
  | raw v => exact .raw v
  | tup hn ht hl =>
    exact .tup (k _ _ hn ht).2 (k _ _ hn ht).1 (RelL.step hl k)
  | lst hn ht hl =>
    exact .lst (k _ _ hn ht).2 (k _ _ hn ht).1 (RelL.step hl k)
  | scr hn ht hl =>
    obtain ⟨o, ho, _⟩ := id ht
    exact .scr (k _ o hn ho).2 (isList_at ht fun o e => (k _ o hn e).1) hl
  | obj h1 h2 => exact .obj (k _ _ h1 h2).2 (k _ _ h1 h2).1
  | hdrL h1 h2 h3 h4 h5 h6 h7 h8 hl => exact .hdrL (k _ _ h1 h4).2 (k _ _ h2 h5).2 (k _ _ h3 h8).2 (k _ _ h1 h4).1 (k _ _ h2 h5).1 h6 h7 (k _ _ h3 h8).1 (RelL.step hl k)
  | hdr h1 h2 h3 h4 h5 h6 => exact .hdr (k _ _ h1 h3).2 (k _ _ h2 h4).2 (k _ _ h1 h3).1 (k _ _ h2 h4).1 h5 h6
theorem RelL.step {S S' : List Addr} {h h' : Heap} {vs : List Value} {l : List PV} (r : RelL S h vs l) (k : ∀ b o, b ∉ DD S → h.get? b = some o → h'.get? b = some o ∧ b ∉ DD S') : RelL S' h' vs l := by
  cases r with
  | nil => exact .nil
  | cons a b => exact .cons (Rel.step a k) (RelL.step b k)
end

theorem Rel.kp {S : List Addr} {h h' : Heap} {v : Value} {p : PV} (r : Rel S h v p) (k : Kp S h h') : Rel S h' v p := r.step fun b o hb e => ⟨k b o hb e, hb⟩
theorem RelL.kp {S : List Addr} {h h' : Heap} {v : List Value} {p : List PV} (r : RelL S h v p) (k : Kp S h h') : RelL S h' v p := r.step fun b o hb e => ⟨k b o hb e, hb⟩
theorem DD.ne {S : List Addr} {b : Addr} (h : b ∉ DD S) : b ≠ 68 ∧ b ≠ 75 ∧ b ∉ S := ⟨fun e => h (e ▸ .head _), fun e => h (e ▸ .tail _ (.head _)), fun e => h (.tail _ (.tail _ e))⟩
theorem DD.of {S : List Addr} {b : Addr} (h : b ≠ 68 ∧ b ≠ 75 ∧ b ∉ S) : b ∉ DD S := fun e => by
  rcases List.mem_cons.mp e with e | e
  · exact h.1 e
  · rcases List.mem_cons.mp e with e | e
    · exact h.2.1 e
    · exact h.2.2 e
theorem Gr.kp {S : List Addr} {h h' : Heap} (g : Gr h h') : Kp S h h' := fun b o hb e => g.k b o (DD.ne hb).1 (DD.ne hb).2.1 e
theorem Rel.gr {S : List Addr} {h h' : Heap} {v : Value} {p : PV} (r : Rel S h v p) (k : Gr h h') : Rel S h' v p := r.kp k.kp
theorem RelL.gr {S : List Addr} {h h' : Heap} {v : List Value} {p : List PV} (r : RelL S h v p) (k : Gr h h') : RelL S h' v p := r.kp k.kp
/-- more volatile places, none of them there yet -/
theorem Rel.more {S S' : List Addr} {h : Heap} {v : Value} {p : PV} (r : Rel S h v p) (k : ∀ a ∈ S', a ∉ S → h.get? a = none) : Rel S' h v p :=
  r.step fun b o hb e => ⟨e, DD.of ⟨(DD.ne hb).1, (DD.ne hb).2.1, fun hm => by rw [k b hm (DD.ne hb).2.2] at e; cases e⟩⟩
theorem RelL.more {S S' : List Addr} {h : Heap} {v : List Value} {p : List PV} (r : RelL S h v p) (k : ∀ a ∈ S', a ∉ S → h.get? a = none) : RelL S' h v p :=
  r.step fun b o hb e => ⟨e, DD.of ⟨(DD.ne hb).1, (DD.ne hb).2.1, fun hm => by rw [k b hm (DD.ne hb).2.2] at e; cases e⟩⟩
theorem Rel.less {S S' : List Addr} {h : Heap} {v : Value} {p : PV} (r : Rel S h v p) (k : ∀ a ∈ S', a ∈ S) : Rel S' h v p :=
  r.step fun b _ hb e => ⟨e, DD.of ⟨(DD.ne hb).1, (DD.ne hb).2.1, fun hm => (DD.ne hb).2.2 (k b hm)⟩⟩
theorem RelL.less {S S' : List Addr} {h : Heap} {v : List Value} {p : List PV} (r : RelL S h v p) (k : ∀ a ∈ S', a ∈ S) : RelL S' h v p :=
  r.step fun b _ hb e => ⟨e, DD.of ⟨(DD.ne hb).1, (DD.ne hb).2.1, fun hm => (DD.ne hb).2.2 (k b hm)⟩⟩

theorem RelL.length {S : List Addr} {h : Heap} : ∀ {vs : List Value} {l : List PV}, RelL S h vs l → vs.length = l.length
  | _, _, .nil => rfl
  | _, _, .cons _ r => by rw [List.length_cons, List.length_cons, RelL.length r]
theorem RelL.get {S : List Addr} {h : Heap} : ∀ {vs : List Value} {l : List PV} {i : Nat} {p : PV}, RelL S h vs l → l[i]? = some p → ∃ v, vs[i]? = some v ∧ Rel S h v p
  | _, _, _, _, .nil, e => by simp at e
  | _, _, 0, _, .cons a _, e => by simp at e; subst e; exact ⟨_, rfl, a⟩
  | _, _, i + 1, _, .cons _ r, e => by
    rw [List.getElem?_cons_succ] at e
    obtain ⟨v, hv, hr⟩ := RelL.get r e
    exact ⟨v, by rw [List.getElem?_cons_succ]; exact hv, hr⟩
theorem RelL.append {S : List Addr} {h : Heap} {vs us : List Value} {l k : List PV} (a : RelL S h vs l) (b : RelL S h us k) : RelL S h (vs ++ us) (l ++ k) := by
  match vs, l, a with
  | _, _, .nil => exact b
  | _, _, .cons x r => exact .cons x (RelL.append r b)
theorem RelL.reverse {S : List Addr} {h : Heap} : ∀ {vs : List Value} {l : List PV}, RelL S h vs l → RelL S h vs.reverse l.reverse
  | _, _, .nil => .nil
  | _, _, .cons x r => by rw [List.reverse_cons, List.reverse_cons]; exact (RelL.reverse r).append (.cons x .nil)
theorem RelL.take {S : List Addr} {h : Heap} : ∀ (n : Nat) {vs : List Value} {l : List PV}, RelL S h vs l → RelL S h (vs.take n) (l.take n)
  | 0, _, _, _ => by simp only [List.take_zero]; exact .nil
  | _ + 1, _, _, .nil => .nil
  | n + 1, _, _, .cons x r => .cons x (RelL.take n r)
theorem RelL.drop {S : List Addr} {h : Heap} : ∀ (n : Nat) {vs : List Value} {l : List PV}, RelL S h vs l → RelL S h (vs.drop n) (l.drop n)
  | 0, _, _, r => r
  | _ + 1, _, _, .nil => .nil
  | n + 1, _, _, .cons _ r => RelL.drop n r

/-- the facts of the top that every walk uses -/
structure Cx where
  w : World
  mg : Str → Option Value
  mb : Str → Option Value
  B₀ : Heap
  X : (HK w.params).In B₀
  g : B₀.Ns mainGlobals mg
  b : B₀.Ns builtinsNs mb
  nl : B₀.NoLimit
  blt : ∀ x : Str, x ≠ "__name__" → mb x = bootBuiltins x
  n68 : B₀.get? 68 = none
  n75 : B₀.get? 75 = none
  c68 : CodeHd B₀ 72 68
  c75 : CodeHd B₀ 79 75
  bmain : ∃ bm ob, mg "__builtins__" = some (.ref bm) ∧ bm ≠ builtinsNs ∧ B₀.get? bm = some ob ∧ ob.cls = .type "module" ∧ ob.dict = some builtinsNs ∧ ob.data = .plain
  nodigits : ∃ mc, B₀.Ns cStatics mc ∧ mc "sys.int_max_str_digits" = none
noncomputable abbrev Cx.K (C : Cx) : Frag := HK C.w.params
theorem Cx.in {C : Cx} {h h' : Heap} (t : C.B₀.StaysIn h) (g : Gr h h') : C.B₀.StaysIn h' := fun b o e =>
  g.k b o (fun q => by rw [q, C.n68] at e; cases e) (fun q => by rw [q, C.n75] at e; cases e) (t b o e)

structure Room (k : Nat) (A : Around) : Prop where
  hh : A.handled = none
  depth : A.depth + k < 1000
  units : A.units + 50 * k < 9900

theorem Room.le {k k' : Nat} {A : Around} (r : Room k A) (h : k' ≤ k) : Room k' A := ⟨r.hh, by have := r.depth; (first | lia | omega), by have := r.units; (first | lia | omega)⟩
theorem Room.deeper {k : Nat} {A : Around} {env : Env} (r : Room (k + 1) A) : Room k (A.deeper env) := ⟨r.hh, by have := r.depth; show A.depth + 1 + k < 1000; (first | lia | omega), by have := r.units; show A.units + 3 + 50 * k < 9900; (first | lia | omega)⟩
theorem Room.in1 {k : Nat} {A : Around} (r : Room (k + 1) A) : Room k A.in1 := ⟨r.hh, by have := r.depth; show A.depth + k < 1000; (first | lia | omega), by have := r.units; show A.units + 1 + 50 * k < 9900; (first | lia | omega)⟩

/-- where a name's value lies -/
inductive NameAt (env : Env) (h : Heap) (x : Str) (v : Value) : Prop
  | loc (m : Str → Option Value) : env.kindOf x = some .local → h.Ns env.locals m → m x = some v → NameAt env h x v
  | cell (c : Addr) : env.kindOf x = some .cell → env.cells.lookup x = some c → h.IsCell c (some v) → NameAt env h x v
  | free (c : Addr) : env.kindOf x = some .free → (x == ("__classdict__" : Str)) = false → env.cells.lookup x = some c → h.IsCell c (some v) → NameAt env h x v

theorem isCell_at {h h' : Heap} {c : Addr} {v : Option Value} (x : h.IsCell c v) (k : ∀ o, h.get? c = some o → h'.get? c = some o) : h'.IsCell c v :=
  let ⟨o, ho, r⟩ := x; ⟨o, k o ho, r⟩
theorem NameAt.gr {env : Env} {h h' : Heap} {x : Str} {v : Value} (n : NameAt env h x v) (t : Tabs h) (k : Gr h h') : NameAt env h' x v := by
  cases n with
  | loc m a b c =>
    obtain ⟨o, es, ep, ho, hd, _⟩ := id b
    have q := t.ne ho fun vs q => by rw [hd] at q; cases q
    exact .loc m a (ns_at b fun o e => k.k _ o q.1 q.2 e) c
  | cell c a b d =>
    obtain ⟨o, ho, hd⟩ := id d
    have q := t.ne ho fun vs q => by rw [hd] at q; cases q
    exact .cell c a b (isCell_at d fun o e => k.k _ o q.1 q.2 e)
  | free c a z b d =>
    obtain ⟨o, ho, hd⟩ := id d
    have q := t.ne ho fun vs q => by rw [hd] at q; cases q
    exact .free c a z b (isCell_at d fun o e => k.k _ o q.1 q.2 e)

theorem NameAt.load {M : Model} {A : Around} {env : Env} {s : Shared} {x : Str} {v : Value} {pos : Pos} {Q : Value → Shared → Prop} {E : Value → Shared → Prop} (hk : env.scope.kind = .function)
    (n : NameAt env s.heap x v) (hd : (x == ("__debug__" : Str)) = false) (h : Q v s) : wpAny M A (eval (.Name x pos) env) Q E s := by
  cases n with
  | loc m a b c => exact wpAny_Name (wpAny_loadName_local hk a b c h) hd
  | cell c a b d => exact wpAny_Name (wpAny_loadName_cell hk a b d h) hd
  | free c a z b d => exact wpAny_Name (wpAny_loadName_free hk a b d h z) hd

/-- the least facts -/
structure Bs (C : Cx) (S : List Addr) (h : Heap) : Prop where
  top : C.B₀.StaysIn h
  off : ∀ a ∈ S, ∃ o, h.get? a = some o
  tabs : Tabs h
theorem Bs.gr {C : Cx} {S : List Addr} {h h' : Heap} (I : Bs C S h) (k : Gr h h') : Bs C S h' := ⟨C.in I.top k, fun a ha => by
  by_cases h1 : a = 68
  · subst h1; obtain ⟨_, e⟩ := (k.tab I.tabs).a.data; exact ⟨_, e⟩
  · by_cases h2 : a = 75
    · subst h2; obtain ⟨_, e⟩ := (k.tab I.tabs).b.data; exact ⟨_, e⟩
    · obtain ⟨o, e⟩ := I.off a ha; exact ⟨o, k.k a o h1 h2 e⟩, k.tab I.tabs⟩
theorem Bs.new {C : Cx} {S : List Addr} {h : Heap} (I : Bs C S h) : h.objs.size ∉ DD S := DD.of ⟨fun q => by
    obtain ⟨_, e⟩ := I.tabs.a.data; rw [← q] at e; exact Nat.lt_irrefl _ (Heap.lt_size e), fun q => by
    obtain ⟨_, e⟩ := I.tabs.b.data; rw [← q] at e; exact Nat.lt_irrefl _ (Heap.lt_size e), fun hm => let ⟨_, e⟩ := I.off _ hm; Nat.lt_irrefl _ (Heap.lt_size e)⟩
/-- what an expression finds -/
structure Inv (C : Cx) (S : List Addr) (env : Env) (nm : List Str) (ρ : List (Option PV)) (h : Heap) : Prop where
  bs : Bs C S h
  names : ∀ (i : Nat) (x : Str) (p : PV), nm[i]? = some x → ρ[i]? = some (some p) → ∃ v, NameAt env h x v ∧ Rel S h v p
theorem Inv.top {C : Cx} {S : List Addr} {env : Env} {nm : List Str} {ρ : List (Option PV)} {h : Heap} (I : Inv C S env nm ρ h) : C.B₀.StaysIn h := I.bs.top
theorem Inv.gr {C : Cx} {S : List Addr} {env : Env} {nm : List Str} {ρ : List (Option PV)} {h h' : Heap} (I : Inv C S env nm ρ h) (k : Gr h h') : Inv C S env nm ρ h' :=
  ⟨I.bs.gr k, fun i x p a b => let ⟨v, n, r⟩ := I.names i x p a b; ⟨v, n.gr I.bs.tabs k, r.gr k⟩⟩

end Mine
end

section
open PySem PySem.W PyProof.Rows PySem.Calls
namespace Mine

noncomputable abbrev Post (S : List Addr) (s : Shared) (p : PV) (Q : Value → Shared → Prop) : Prop := ∀ v h' tk, Gr s.heap h' → Rel S h' v p → Q v { s with heap := h', toks := tk }

theorem Post.gr {S : List Addr} {s : Shared} {p : PV} {Q : Value → Shared → Prop} {h : Heap} {tk : Nat} (H : Post S s p Q) (k : Gr s.heap h) : Post S { s with heap := h, toks := tk } p Q := fun v h' tk' g r => H v h' tk' (k.trans g) r
theorem Post.now {S : List Addr} {s : Shared} {p : PV} {Q : Value → Shared → Prop} {v : Value} (H : Post S s p Q) (r : Rel S s.heap v p) : Q v s := H v s.heap s.toks Gr.rfl r
theorem Post.tok {S : List Addr} {s : Shared} {p : PV} {Q : Value → Shared → Prop} {v : Value} {tk : Nat} (H : Post S s p Q) (r : Rel S s.heap v p) : Q v { s with toks := tk } := H v s.heap tk Gr.rfl r

/-- the expression comes to p -/
structure Ev (C : Cx) (S : List Addr) (env : Env) (nm : List Str) (ρ : List (Option PV)) (k : Nat) (e : PySem.Expr) (p : PV) : Prop where
  run : ∀ (A : Around) (s : Shared) (Q : Value → Shared → Prop) (E : Value → Shared → Prop), Room k A → Inv C S env nm ρ s.heap → Post S s p Q → wpAny (model PW C.w) A (eval e env) Q E s
/-- the test comes to b -/
structure Tr (C : Cx) (S : List Addr) (env : Env) (nm : List Str) (ρ : List (Option PV)) (k : Nat) (e : PySem.Expr) (b : Bool) : Prop where
  run : ∀ (A : Around) (s : Shared) (Q : Bool → Shared → Prop) (E : Value → Shared → Prop), Room k A → Inv C S env nm ρ s.heap → (∀ h' tk, Gr s.heap h' → Q b { s with heap := h', toks := tk }) → wpAny (model PW C.w) A (isTrue e env (eval e env)) Q E s
/-- a row of expressions -/
structure EvL (C : Cx) (S : List Addr) (env : Env) (nm : List Str) (ρ : List (Option PV)) (k : Nat) (pos : Pos) (es : List PySem.Expr) (l : List PV) : Prop where
  run : ∀ (A : Around) (s : Shared) (Q : List Value → Shared → Prop) (E : Value → Shared → Prop), Room k A → Inv C S env nm ρ s.heap → (∀ vs h' tk, Gr s.heap h' → RelL S h' vs l → Q vs { s with heap := h', toks := tk }) → wpAny (model PW C.w) A (spliced (backTo pos (starEach es env))) Q E s

section
variable {C : Cx} {S : List Addr} {env : Env} {nm : List Str} {ρ : List (Option PV)} {k : Nat}

theorem Ev.name {x : Str} {p : PV} {pos : Pos} (i : Nat) (hi : nm[i]? = some x) (hp : ρ[i]? = some (some p)) (hk : env.scope.kind = .function) (hd : (x == ("__debug__" : Str)) = false) : Ev C S env nm ρ k (.Name x pos) p := ⟨
  fun _A s _Q _E _R I H => let ⟨_v, n, r⟩ := I.names i x p hi hp; n.load hk hd (H.now r)⟩
theorem Ev.glob {x : Str} {v : Value} {pos : Pos} (hx : env.kindOf x = some .globalImplicit) (hg : env.globals = mainGlobals) (e : nsIn C.K mainGlobals x = some (some v)) (hk : env.scope.kind = .function) (hd : (x == ("__debug__" : Str)) = false) :
    Ev C S env nm ρ k (.Name x pos) (.raw v) := ⟨
  fun _A s _Q _E _R I H => Name_function_global hk hx (loadGlobal_global (env := env) (hg ▸ C.g.keeps I.top) (mg_of C.X C.g e) (H.now (.raw v))) hd⟩
theorem Ev.blt {x : Str} {v : Value} {pos : Pos} (hx : env.kindOf x = some .globalImplicit) (hg : env.globals = mainGlobals) (hb : env.builtins = builtinsNs) (e : nsIn C.K mainGlobals x = some none) (hv : bootBuiltins x = some v) (hn : x ≠ "__name__") (hk : env.scope.kind = .function) (hd : (x == ("__debug__" : Str)) = false) :
    Ev C S env nm ρ k (.Name x pos) (.raw v) := ⟨
  fun _A s _Q _E _R I H => Name_function_global hk hx (loadGlobal_builtin (env := env) (hg ▸ C.g.keeps I.top) (mg_none_of C.X C.g e) (hb ▸ C.b.keeps I.top) ((C.blt x hn).trans hv) (H.now (.raw v))) hd⟩
theorem Ev.cint {i : Int} {n : Nat} {pos : Pos} : Ev C S env nm ρ k (.Constant (.int i) n pos) (.int i) := ⟨fun _ s _ _ _ _ H => wpAny_Constant_int (H.tok (.int i _))⟩
theorem Ev.cflt {x : UInt64} {n : Nat} {pos : Pos} : Ev C S env nm ρ k (.Constant (.float x) n pos) (.flt x) := ⟨fun _ s _ _ _ _ H => PySem.wpAny_Constant_float (H.tok (.flt x _))⟩
theorem Ev.cstr {x : Str} {n : Nat} {pos : Pos} : Ev C S env nm ρ k (.Constant (.str x) n pos) (.str x) := ⟨fun _ s _ _ _ _ H => wpAny_Constant_str (H.tok (.str x _))⟩
theorem Ev.cbool {b : Bool} {n : Nat} {pos : Pos} : Ev C S env nm ρ k (.Constant (.bool b) n pos) (.bool b) := ⟨fun _ s _ _ _ _ H => wpAny_Constant_bool (H.now (.bool b))⟩
theorem Ev.cnone {n : Nat} {pos : Pos} : Ev C S env nm ρ k (.Constant .none n pos) .none := ⟨fun _ s _ _ _ _ H => wpAny_Constant_none (H.now .nn)⟩
/-- an operation on two values -/
structure BinR (C : Cx) (S : List Addr) (k : Nat) (op : Operator) (a b r : PV) : Prop where
  run : ∀ (A : Around) (s : Shared) (Q : Value → Shared → Prop) (E : Value → Shared → Prop) (va vb : Value), Room k A → Bs C S s.heap → Rel S s.heap va a → Rel S s.heap vb b → Post S s r Q → wpAny (model PW C.w) A (binaryOp op va vb) Q E s
theorem Ev.bin {l r : PySem.Expr} {op : Operator} {pos : Pos} {a b c : PV} (hl : Ev C S env nm ρ k l a) (hr : Ev C S env nm ρ k r b) (ho : BinR C S k op a b c) : Ev C S env nm ρ k (.BinOp l op r pos) c := ⟨
  fun A s Q E R I H => wpAny_BinOp (hl.run A s _ E R I fun va h₁ tk₁ g₁ ra => hr.run A _ _ E R (I.gr g₁) fun vb h₂ tk₂ g₂ rb => ho.run A _ Q E va vb R ((I.gr g₁).gr g₂).bs (ra.gr g₂) rb (H.gr (g₁.trans g₂)))⟩
structure CmpR (C : Cx) (S : List Addr) (k : Nat) (op : CmpOp) (a b : PV) (r : Bool) : Prop where
  run : ∀ (A : Around) (s : Shared) (Q : Value → Shared → Prop) (E : Value → Shared → Prop) (va vb : Value), Room k A → Bs C S s.heap → Rel S s.heap va a → Rel S s.heap vb b → Post S s (.bool r) Q → wpAny (model PW C.w) A (compareOp op va vb) Q E s
theorem Ev.cmp {l r : PySem.Expr} {op : CmpOp} {pos : Pos} {a b : PV} {c : Bool} (hl : Ev C S env nm ρ k l a) (hr : Ev C S env nm ρ k r b) (ho : CmpR C S k op a b c) (hm : behindInMarks op r = false) : Ev C S env nm ρ k (.Compare l [op] [r] pos) (.bool c) := ⟨
  fun A s Q E R I H => wpAny_Compare1 (hl.run A s _ E R I fun va h₁ tk₁ g₁ ra => hr.run A _ _ E R (I.gr g₁) fun vb h₂ tk₂ g₂ rb => ho.run A _ Q E va vb R ((I.gr g₁).gr g₂).bs (ra.gr g₂) rb (H.gr (g₁.trans g₂))) hm⟩
theorem Tr.cmp {l r : PySem.Expr} {op : CmpOp} {pos : Pos} {a b : PV} {c : Bool} (hl : Ev C S env nm ρ k l a) (hr : Ev C S env nm ρ k r b) (ho : CmpR C S k op a b c) (hm : behindInMarks op r = false) : Tr C S env nm ρ k (.Compare l [op] [r] pos) c := ⟨
  fun A s Q E R I H => wpAny_isTrue_Compare1 (hl.run A s _ E R I fun va h₁ tk₁ g₁ ra => hr.run A _ _ E R (I.gr g₁) fun vb h₂ tk₂ g₂ rb => ho.run A _ _ E va vb R ((I.gr g₁).gr g₂).bs (ra.gr g₂) rb fun v h₃ tk₃ g₃ rc => by
    obtain ⟨_, rfl⟩ := rc.inv
    exact wpAny_truthy_bool (H _ _ ((g₁.trans g₂).trans g₃))) hm⟩
theorem Tr.neg {x : PySem.Expr} {pos : Pos} {b : Bool} (h : Tr C S env nm ρ k x b) : Tr C S env nm ρ k (.UnaryOp .Not x pos) (!b) := ⟨
  fun A s Q E R I H => isTrue_not (h.run A s _ E R I fun h' tk g => H h' tk g)⟩
theorem Tr.and {x y : PySem.Expr} {pos : Pos} {b c : Bool} (hx : Tr C S env nm ρ k x b) (hy : b = true → Tr C S env nm ρ k y c) : Tr C S env nm ρ k (.BoolOp .And [x, y] pos) (b && c) := ⟨
  fun A s Q E R I H => isTrue_and (hx.run A s _ E R I fun h₁ tk₁ g₁ => by
    cases b with
    | false => exact H _ _ g₁
    | true => exact isTrue_and ((hy rfl).run A _ _ E R (I.gr g₁) fun h₂ tk₂ g₂ => by
        cases c with
        | false => exact H _ _ (g₁.trans g₂)
        | true => exact isTrue_and_nil (H _ _ (g₁.trans g₂))))⟩
theorem Tr.or {x y : PySem.Expr} {pos : Pos} {b c : Bool} (hx : Tr C S env nm ρ k x b) (hy : b = false → Tr C S env nm ρ k y c) : Tr C S env nm ρ k (.BoolOp .Or [x, y] pos) (b || c) := ⟨
  fun A s Q E R I H => isTrue_or (hx.run A s _ E R I fun h₁ tk₁ g₁ => by
    cases b with
    | true => exact H _ _ g₁
    | false => exact isTrue_or ((hy rfl).run A _ _ E R (I.gr g₁) fun h₂ tk₂ g₂ => by
        cases c with
        | true => exact H _ _ (g₁.trans g₂)
        | false => exact isTrue_or_nil (H _ _ (g₁.trans g₂))))⟩
theorem Ev.and {x y : PySem.Expr} {pos : Pos} {b c : Bool} (hx : Ev C S env nm ρ k x (.bool b)) (hy : b = true → Ev C S env nm ρ k y (.bool c)) : Ev C S env nm ρ k (.BoolOp .And [x, y] pos) (.bool (b && c)) := ⟨
  fun A s Q E R I H => BoolOp_and (hx.run A s _ E R I fun v h₁ tk₁ g₁ r => by
    obtain ⟨_, rfl⟩ := r.inv
    refine wpAny_truthy_bool ?_
    cases b with
    | false => exact H _ _ _ g₁ (.bool false)
    | true => exact BoolOp_one ((hy rfl).run A _ _ E R (I.gr g₁) (H.gr g₁)))⟩
/-- the truth of a value -/
noncomputable def truthF : PV → Option Bool
  | .none => some false
  | .bool b => some b
  | .int i => some (i != 0)
  | _ => none
theorem truthF_sound {C : Cx} {A : Around} {s : Shared} {Q : Bool → Shared → Prop} {E : Value → Shared → Prop} {S : List Addr} {v : Value} {p : PV} {b : Bool} (e : truthF p = some b) (r : Rel S s.heap v p) (h : Q b s) : wpAny (model PW C.w) A (truthy v) Q E s := by
  cases r with
  | nn => cases e; exact truthy_none h
  | bool b => cases e; exact wpAny_truthy_bool h
  | int i t => cases e; exact truthy_int h
  | _ => cases e
theorem Tr.val {x : PySem.Expr} {p : PV} {b : Bool} (hx : Ev C S env nm ρ k x p) (e : truthF p = some b) (he : isTrue x env (eval x env) = (do let v ← eval x env; standAt x.pos; holding [v] (truthy v))) : Tr C S env nm ρ k x b := ⟨
  fun A s Q E R I H => isTrue_plain (hx.run A s _ E R I fun v h₁ tk₁ g₁ r => truthF_sound e r (H _ _ g₁)) he⟩
theorem Ev.ite {t x y : PySem.Expr} {pos : Pos} {b : Bool} {p : PV} (ht : Tr C S env nm ρ k t b) (hx : b = true → Ev C S env nm ρ k x p) (hy : b = false → Ev C S env nm ρ k y p) : Ev C S env nm ρ k (.IfExp t x y pos) p := ⟨
  fun A s Q E R I H => IfExp_ (ht.run A s _ E R I fun h₁ tk₁ g₁ => by
    cases b with
    | true => exact (hx rfl).run A _ Q E R (I.gr g₁) (H.gr g₁)
    | false => exact (hy rfl).run A _ Q E R (I.gr g₁) (H.gr g₁))⟩
theorem EvL.nil {pos : Pos} : EvL C S env nm ρ k pos [] [] := ⟨fun _ s _ _ _ _ H => spliced_none (H [] s.heap s.toks Gr.rfl .nil)⟩
theorem EvL.cons {pos : Pos} {e : PySem.Expr} {es : List PySem.Expr} {p : PV} {l : List PV} (h : Ev C S env nm ρ k e p) (t : EvL C S env nm ρ k pos es l) (he : starEach (e :: es) env = (false, eval e env) :: starEach es env := by rfl) : EvL C S env nm ρ k pos (e :: es) (p :: l) := ⟨
  fun A s Q E R I H => spliced_more (h.run A s _ E R I fun v h₁ tk₁ g₁ r => t.run A _ _ E R (I.gr g₁) fun vs h₂ tk₂ g₂ rl => H _ _ _ (g₁.trans g₂) (.cons (r.gr g₂) rl)) he⟩
theorem Ev.tuple {es : List PySem.Expr} {n : Nat} {pos : Pos} {l : List PV} (h : EvL C S env nm ρ k pos es l) (hl : l.length ≤ sizeLine) : Ev C S env nm ρ k (.Tuple es n pos) (.tup l) := ⟨
  fun A s Q E R I H => Tuple_ (h.run A s _ E R I fun vs h₁ tk₁ g₁ rl => wpAny_newObj_type (H _ _ _ (g₁.trans Gr.push)
    (.tup (I.gr g₁).bs.new (Heap.get?_push_size _ rfl) (rl.gr Gr.push))) (by show vs.toArray.size ≤ sizeLine; rw [List.size_toArray, rl.length]; exact hl))⟩
theorem Ev.list {es : List PySem.Expr} {pos : Pos} {l : List PV} (h : EvL C S env nm ρ k pos es l) (hl : l.length ≤ sizeLine) : Ev C S env nm ρ k (.List es pos) (.lst l) := ⟨
  fun A s Q E R I H => List_ (h.run A s _ E R I fun vs h₁ tk₁ g₁ rl => wpAny_newObj_type (H _ _ _ (g₁.trans Gr.push)
    (.lst (I.gr g₁).bs.new (Heap.get?_push_size _ rfl) (rl.gr Gr.push))) (by show vs.toArray.size ≤ sizeLine; rw [List.size_toArray, rl.length]; exact hl))⟩
end
end Mine
end

section
open PySem PySem.W PyProof.Rows PySem.Calls
namespace Mine
section
variable {C : Cx} {S : List Addr} {k : Nat}

theorem BinR.of_ii {op : Operator} {x : Int} {y : Int} {r : PV} (h : ∀ (A : Around) (s : Shared) (Q : Value → Shared → Prop) (E : Value → Shared → Prop) (t u : Tok), Room k A → Post S s r Q → wpAny (model PW C.w) A (binaryOp op (.int x t) (.int y u)) Q E s) : BinR C S k op (.int x) (.int y) r := ⟨fun A s Q E va vb R B ra rb H => by obtain ⟨t, rfl⟩ := ra.inv; obtain ⟨u, rfl⟩ := rb.inv; with_reducible exact h A s Q E t u R H⟩
theorem BinR.of_ff {op : Operator} {x : UInt64} {y : UInt64} {r : PV} (h : ∀ (A : Around) (s : Shared) (Q : Value → Shared → Prop) (E : Value → Shared → Prop) (t u : Tok), Room k A → Post S s r Q → wpAny (model PW C.w) A (binaryOp op (.float x t) (.float y u)) Q E s) : BinR C S k op (.flt x) (.flt y) r := ⟨fun A s Q E va vb R B ra rb H => by obtain ⟨t, rfl⟩ := ra.inv; obtain ⟨u, rfl⟩ := rb.inv; with_reducible exact h A s Q E t u R H⟩
theorem BinR.of_fi {op : Operator} {x : UInt64} {y : Int} {r : PV} (h : ∀ (A : Around) (s : Shared) (Q : Value → Shared → Prop) (E : Value → Shared → Prop) (t u : Tok), Room k A → Post S s r Q → wpAny (model PW C.w) A (binaryOp op (.float x t) (.int y u)) Q E s) : BinR C S k op (.flt x) (.int y) r := ⟨fun A s Q E va vb R B ra rb H => by obtain ⟨t, rfl⟩ := ra.inv; obtain ⟨u, rfl⟩ := rb.inv; with_reducible exact h A s Q E t u R H⟩
theorem BinR.of_if {op : Operator} {x : Int} {y : UInt64} {r : PV} (h : ∀ (A : Around) (s : Shared) (Q : Value → Shared → Prop) (E : Value → Shared → Prop) (t u : Tok), Room k A → Post S s r Q → wpAny (model PW C.w) A (binaryOp op (.int x t) (.float y u)) Q E s) : BinR C S k op (.int x) (.flt y) r := ⟨fun A s Q E va vb R B ra rb H => by obtain ⟨t, rfl⟩ := ra.inv; obtain ⟨u, rfl⟩ := rb.inv; with_reducible exact h A s Q E t u R H⟩
theorem BinR.of_ss {op : Operator} {x : Str} {y : Str} {r : PV} (h : ∀ (A : Around) (s : Shared) (Q : Value → Shared → Prop) (E : Value → Shared → Prop) (t u : Tok), Room k A → Post S s r Q → wpAny (model PW C.w) A (binaryOp op (.str x t) (.str y u)) Q E s) : BinR C S k op (.str x) (.str y) r := ⟨fun A s Q E va vb R B ra rb H => by obtain ⟨t, rfl⟩ := ra.inv; obtain ⟨u, rfl⟩ := rb.inv; with_reducible exact h A s Q E t u R H⟩
theorem BinR.of_bb {op : Operator} {x : Bool} {y : Bool} {r : PV} (h : ∀ (A : Around) (s : Shared) (Q : Value → Shared → Prop) (E : Value → Shared → Prop) (t u : Tok), Room k A → Post S s r Q → wpAny (model PW C.w) A (binaryOp op (.bool x) (.bool y)) Q E s) : BinR C S k op (.bool x) (.bool y) r := ⟨fun A s Q E va vb R B ra rb H => by obtain ⟨t, rfl⟩ := ra.inv; obtain ⟨u, rfl⟩ := rb.inv; with_reducible exact h A s Q E 0 0 R H⟩
theorem BinR.of_ib {op : Operator} {x : Int} {y : Bool} {r : PV} (h : ∀ (A : Around) (s : Shared) (Q : Value → Shared → Prop) (E : Value → Shared → Prop) (t u : Tok), Room k A → Post S s r Q → wpAny (model PW C.w) A (binaryOp op (.int x t) (.bool y)) Q E s) : BinR C S k op (.int x) (.bool y) r := ⟨fun A s Q E va vb R B ra rb H => by obtain ⟨t, rfl⟩ := ra.inv; obtain ⟨u, rfl⟩ := rb.inv; with_reducible exact h A s Q E t 0 R H⟩
theorem CmpR.of_ii {op : CmpOp} {x : Int} {y : Int} {r : Bool} (h : ∀ (A : Around) (s : Shared) (Q : Value → Shared → Prop) (E : Value → Shared → Prop) (t u : Tok), Room k A → Post S s (.bool r) Q → wpAny (model PW C.w) A (compareOp op (.int x t) (.int y u)) Q E s) : CmpR C S k op (.int x) (.int y) r := ⟨fun A s Q E va vb R B ra rb H => by obtain ⟨t, rfl⟩ := ra.inv; obtain ⟨u, rfl⟩ := rb.inv; with_reducible exact h A s Q E t u R H⟩
theorem CmpR.of_ff {op : CmpOp} {x : UInt64} {y : UInt64} {r : Bool} (h : ∀ (A : Around) (s : Shared) (Q : Value → Shared → Prop) (E : Value → Shared → Prop) (t u : Tok), Room k A → Post S s (.bool r) Q → wpAny (model PW C.w) A (compareOp op (.float x t) (.float y u)) Q E s) : CmpR C S k op (.flt x) (.flt y) r := ⟨fun A s Q E va vb R B ra rb H => by obtain ⟨t, rfl⟩ := ra.inv; obtain ⟨u, rfl⟩ := rb.inv; with_reducible exact h A s Q E t u R H⟩
theorem CmpR.of_fi {op : CmpOp} {x : UInt64} {y : Int} {r : Bool} (h : ∀ (A : Around) (s : Shared) (Q : Value → Shared → Prop) (E : Value → Shared → Prop) (t u : Tok), Room k A → Post S s (.bool r) Q → wpAny (model PW C.w) A (compareOp op (.float x t) (.int y u)) Q E s) : CmpR C S k op (.flt x) (.int y) r := ⟨fun A s Q E va vb R B ra rb H => by obtain ⟨t, rfl⟩ := ra.inv; obtain ⟨u, rfl⟩ := rb.inv; with_reducible exact h A s Q E t u R H⟩
theorem CmpR.of_ss {op : CmpOp} {x : Str} {y : Str} {r : Bool} (h : ∀ (A : Around) (s : Shared) (Q : Value → Shared → Prop) (E : Value → Shared → Prop) (t u : Tok), Room k A → Post S s (.bool r) Q → wpAny (model PW C.w) A (compareOp op (.str x t) (.str y u)) Q E s) : CmpR C S k op (.str x) (.str y) r := ⟨fun A s Q E va vb R B ra rb H => by obtain ⟨t, rfl⟩ := ra.inv; obtain ⟨u, rfl⟩ := rb.inv; with_reducible exact h A s Q E t u R H⟩
theorem CmpR.of_bb {op : CmpOp} {x : Bool} {y : Bool} {r : Bool} (h : ∀ (A : Around) (s : Shared) (Q : Value → Shared → Prop) (E : Value → Shared → Prop) (t u : Tok), Room k A → Post S s (.bool r) Q → wpAny (model PW C.w) A (compareOp op (.bool x) (.bool y)) Q E s) : CmpR C S k op (.bool x) (.bool y) r := ⟨fun A s Q E va vb R B ra rb H => by obtain ⟨t, rfl⟩ := ra.inv; obtain ⟨u, rfl⟩ := rb.inv; with_reducible exact h A s Q E 0 0 R H⟩
theorem BinR.add_ii {x y : Int} : BinR C S k .Add (.int x) (.int y) (.int (x + y)) := .of_ii fun A s Q E t u R H => by with_reducible exact PyProof.Rows.add_int (H.tok (.int _ _))
theorem BinR.sub_ii {x y : Int} : BinR C S k .Sub (.int x) (.int y) (.int (x - y)) := .of_ii fun A s Q E t u R H => by with_reducible exact sub_int' (H.tok (.int _ _))
theorem BinR.mul_ii {x y : Int} (h : IntMulOk x y) : BinR C S k .Mult (.int x) (.int y) (.int (x * y)) := .of_ii fun A s Q E t u R H => by with_reducible exact PyProof.Rows.mul_int (H.tok (.int _ _)) h
theorem BinR.floordiv_ii {x y : Int} (h : y ≠ 0) (hp : Builtin.divisionGoesByPylong x y = false) : BinR C S k .FloorDiv (.int x) (.int y) (.int (x.fdiv y)) := .of_ii fun A s Q E t u R H => by with_reducible exact floordiv_int h (H.tok (.int _ _)) (.inl hp)
theorem BinR.mod_ii {x y : Int} (h : y ≠ 0) : BinR C S k .Mod (.int x) (.int y) (.int (x.fmod y)) := .of_ii fun A s Q E t u R H => by with_reducible exact mod_int' h (H.tok (.int _ _))
theorem BinR.pow_ii {x n : Int} (hn : 0 ≤ n) (hsz : (Builtin.Int.intBits x : Int) * n ≤ 2 ^ 27) : BinR C S k .Pow (.int x) (.int n) (.int (x ^ n.toNat)) := .of_ii fun A s Q E t u R H => by with_reducible exact PyProof.Rows.pow_int hn hsz (H.tok (.int _ _))
theorem BinR.lsh_ii {x n : Int} (hn : 0 ≤ n) (hsz : (Builtin.Int.intBits x : Int) + n ≤ 2 ^ 27) : BinR C S k .LShift (.int x) (.int n) (.int (x * 2 ^ n.toNat)) := .of_ii fun A s Q E t u R H => by with_reducible exact PyProof.Rows.lshift_int hn hsz (H.tok (.int _ _))
theorem BinR.rsh_ii {x n : Int} (hn : 0 ≤ n) : BinR C S k .RShift (.int x) (.int n) (.int (x.fdiv (2 ^ n.toNat))) := .of_ii fun A s Q E t u R H => by with_reducible exact PyProof.Rows.rshift_int hn (H.tok (.int _ _))
theorem BinR.xor_ii {x y : Int} : BinR C S k .BitXor (.int x) (.int y) (.int (Builtin.bitXor x y)) := .of_ii fun A s Q E t u R H => by with_reducible exact PyProof.Rows.xor_int (H.tok (.int _ _))
theorem BinR.or_ii {x y : Int} : BinR C S k .BitOr (.int x) (.int y) (.int (Builtin.bitOr x y)) := .of_ii fun A s Q E t u R H => by with_reducible exact PyProof.Rows.or_int (H.tok (.int _ _))
theorem BinR.and_ii {x y : Int} : BinR C S k .BitAnd (.int x) (.int y) (.int (Builtin.bitAnd x y)) := .of_ii fun A s Q E t u R H => by with_reducible exact PyProof.Rows.and_int (H.tok (.int _ _))
theorem BinR.add_ib {x : Int} {b : Bool} : BinR C S k .Add (.int x) (.bool b) (.int (x + if b = true then 1 else 0)) := .of_ib fun A s Q E t u R H => by with_reducible exact add_int_bool (H.tok (.int _ _))
/-- the quotient of two whole numbers -/
noncomputable def divI (x y : Int) : UInt64 := Float64.ofFrac (decide (x < 0) != decide (y < 0)) x.natAbs y.natAbs
theorem BinR.div_ii {x y : Int} (hy : y ≠ 0) (hx : x.natAbs < 2 ^ 1023) : BinR C S k .Div (.int x) (.int y) (.flt (divI x y)) := .of_ii fun A s Q E t u R H => by with_reducible exact PySem.Flt.div_ii_fits R.hh hx (fun e => absurd e hy) fun _ _ => H.tok (.flt _ _)
theorem BinR.add_ff {x y : UInt64} : BinR C S k .Add (.flt x) (.flt y) (.flt (Float64.add x y)) := .of_ff fun A s Q E t u R H => by with_reducible exact add_float (H.tok (.flt _ _))
theorem BinR.sub_ff {x y : UInt64} : BinR C S k .Sub (.flt x) (.flt y) (.flt (Float64.sub x y)) := .of_ff fun A s Q E t u R H => by with_reducible exact sub_float (H.tok (.flt _ _))
theorem BinR.mul_ff {x y : UInt64} : BinR C S k .Mult (.flt x) (.flt y) (.flt (Float64.mul x y)) := .of_ff fun A s Q E t u R H => by with_reducible exact mul_float (H.tok (.flt _ _))
theorem BinR.div_ff {x y : UInt64} (h : Float64.isZero y = false) : BinR C S k .Div (.flt x) (.flt y) (.flt (Float64.div x y)) := .of_ff fun A s Q E t u R H => by with_reducible exact truediv_float_or R.hh (fun e => by rw [h] at e; cases e) fun _ => H.tok (.flt _ _)
theorem BinR.mod_ff {x y : UInt64} (h : Float64.isZero y = false) : BinR C S k .Mod (.flt x) (.flt y) (.flt (Float64.divmod x y).2) := .of_ff fun A s Q E t u R H => by exact AutoFloatOps.mod_1 (by rw [h]; decide) (H.tok (.flt _ _))
theorem BinR.add_fi {x : UInt64} {n : Int} (h : n.natAbs < 2 ^ 1023) : BinR C S k .Add (.flt x) (.int n) (.flt (Float64.add x (Float64.ofInt n))) := .of_fi fun A s Q E t u R H => by with_reducible exact add_fi_fits h (H.tok (.flt _ _))
theorem BinR.sub_fi {x : UInt64} {n : Int} (h : n.natAbs < 2 ^ 1023) : BinR C S k .Sub (.flt x) (.int n) (.flt (Float64.sub x (Float64.ofInt n))) := .of_fi fun A s Q E t u R H => by with_reducible exact sub_fi_fits h (H.tok (.flt _ _))
theorem BinR.mul_fi {x : UInt64} {n : Int} (h : n.natAbs < 2 ^ 1023) : BinR C S k .Mult (.flt x) (.int n) (.flt (Float64.mul x (Float64.ofInt n))) := .of_fi fun A s Q E t u R H => by with_reducible exact mul_fi_fits h (H.tok (.flt _ _))
theorem BinR.add_if {x : UInt64} {n : Int} (h : n.natAbs < 2 ^ 1023) : BinR C S k .Add (.int n) (.flt x) (.flt (Float64.add (Float64.ofInt n) x)) := .of_if fun A s Q E t u R H => by with_reducible exact add_if_fits h (H.tok (.flt _ _))
theorem BinR.sub_if {x : UInt64} {n : Int} (h : n.natAbs < 2 ^ 1023) : BinR C S k .Sub (.int n) (.flt x) (.flt (Float64.sub (Float64.ofInt n) x)) := .of_if fun A s Q E t u R H => by with_reducible exact sub_if_fits h (H.tok (.flt _ _))
theorem BinR.mul_if {x : UInt64} {n : Int} (h : n.natAbs < 2 ^ 1023) : BinR C S k .Mult (.int n) (.flt x) (.flt (Float64.mul (Float64.ofInt n) x)) := .of_if fun A s Q E t u R H => by with_reducible exact mul_if_fits h (H.tok (.flt _ _))
theorem BinR.add_ss {x y : Str} (h : x.length + y.length ≤ sizeLine) : BinR C S k .Add (.str x) (.str y) (.str (x ++ y)) := .of_ss fun A s Q E t u R H => by with_reducible exact PyProof.Rows.add_str (fun t' tk => H.tok (.str _ _)) h
theorem BinR.add_ll {x y : List PV} (h : x.length + y.length ≤ sizeLine) : BinR C S k .Add (.lst x) (.lst y) (.lst (x ++ y)) := ⟨fun A s Q E va vb R B ra rb H => by
  obtain ⟨a, vs, n, rfl, hn, hl, rl⟩ := ra.inv
  obtain ⟨b, us, n', rfl, hn', hl', rl'⟩ := rb.inv
  refine P.add_list hl hl' (H _ _ _ Gr.push (.lst (vs := vs ++ us) (n := 0) B.new ?_ ((rl.append rl').gr Gr.push))) (by rw [List.size_toArray, List.size_toArray, rl.length, rl'.length]; exact h)
  have e : vs.toArray ++ us.toArray = (vs ++ us).toArray := by simp
  rw [← e]
  exact Heap.get?_push_size _ rfl⟩
theorem foldl_flat (vs : List Value) (c : Nat) : ∀ acc : Array Value, (List.replicate c vs.toArray).foldl (fun a b => a ++ b) acc = (acc.toList ++ (List.replicate c vs).flatten).toArray := by
  induction c with
  | zero => intro acc; simp
  | succ c ih => intro acc; rw [List.replicate_succ, List.foldl_cons, ih]; simp [List.replicate_succ]
theorem RelL.rep {S : List Addr} {h : Heap} {vs : List Value} {l : List PV} (r : RelL S h vs l) : ∀ c : Nat, RelL S h (List.replicate c vs).flatten (List.replicate c l).flatten
  | 0 => .nil
  | c + 1 => by rw [List.replicate_succ, List.replicate_succ, List.flatten_cons, List.flatten_cons]; exact r.append (RelL.rep r c)
theorem BinR.mul_il {x : Int} {y : List PV} (hy : y ≠ []) (h0 : 0 ≤ x) (hx : x < 2 ^ 20) (h : y.length * x.toNat ≤ 2 ^ 24) : BinR C S k .Mult (.int x) (.lst y) (.lst (List.replicate x.toNat y).flatten) := ⟨fun A s Q E va vb R B ra rb H => by
  obtain ⟨_, rfl⟩ := ra.inv
  obtain ⟨b, us, n', rfl, hn', hl', rl'⟩ := rb.inv
  · skip
    have hlen := rl'.length
    have hz : us.toArray.size * x.toNat ≤ 16777216 := by rw [List.size_toArray, hlen]; exact h
    have hne : us.toArray.isEmpty = false := by
      cases us with
      | nil => exact absurd (List.length_eq_zero_iff.mp hlen.symm) hy
      | cons _ _ => rfl
    refine lm_binaryOp_repeat_right (T := "list") (U := "int") (by decide) (fun s' => typeIs_int s' x _) ⟨_, hl', rfl⟩ F.fills_int_mul noFill_list_mul F.slot_int_mul lm_noRepeat_int repeat_list F.slot_int_index.lookup
      (call_meets F.slot_int_mul (typeIs_int s x _) F.entry_int_mul (F.args_int_mul_2 _ _) (int___mul___int_list x _ b us.toArray n')
        ⟨hl', rfl, ⟨_, hl', rfl⟩, call_meets F.slot_list_mul ⟨_, hl', rfl⟩ F.entry_list_mul (F.args_list_mul_2 _ _)
          (AutoListH.list___mul___list_int_3 b us.toArray n' x _ (by simp [Builtin.List.listFitsIndex]; (first | lia | omega)) (by (first | lia | omega)) (by unfold Builtin.List.listTooLong; exact fun q => by have := of_decide_eq_true q; rw [sizeLine_eq] at this; (first | lia | omega)))
          ⟨hl', H _ _ _ Gr.push (.lst (vs := (List.replicate x.toNat us).flatten) (n := 0) B.new ?_ ((rl'.rep _).gr Gr.push))⟩⟩)
    have e := foldl_flat us x.toNat #[]
    rw [hne]
    simp only [Bool.false_eq_true, if_false] 
    rw [e]
    exact Heap.get?_push_size _ rfl⟩
theorem BinR.mul_li {x : Int} {y : List PV} (hy : y ≠ []) (h0 : 0 ≤ x) (hx : x < 2 ^ 20) (h : y.length * x.toNat ≤ 2 ^ 24) : BinR C S k .Mult (.lst y) (.int x) (.lst (List.replicate x.toNat y).flatten) := ⟨fun A s Q E va vb R B ra rb H => by
  obtain ⟨_, rfl⟩ := rb.inv
  obtain ⟨b, us, n', rfl, hn', hl', rl'⟩ := ra.inv
  · skip
    have hlen := rl'.length
    have hz : us.toArray.size * x.toNat ≤ 16777216 := by rw [List.size_toArray, hlen]; exact h
    have hne : us.toArray.isEmpty = false := by
      cases us with
      | nil => exact absurd (List.length_eq_zero_iff.mp hlen.symm) hy
      | cons _ _ => rfl
    refine wpAny_binaryOp_repeat_ref (T := "list") (U := "int") (by decide) ⟨_, hl', rfl⟩ (fun s' => typeIs_int s' x _) noFill_list_mul F.fills_int_mul F.slot_int_rmul repeat_list F.slot_int_index.lookup
      (call_meets F.slot_int_rmul (typeIs_int s x _) F.entry_int_rmul (F.args_int_rmul_2 _ _) (int___rmul___int_list x _ b us.toArray n')
        ⟨hl', rfl, ⟨_, hl', rfl⟩, call_meets F.slot_list_mul ⟨_, hl', rfl⟩ F.entry_list_mul (F.args_list_mul_2 _ _)
          (AutoListH.list___mul___list_int_3 b us.toArray n' x _ (by simp [Builtin.List.listFitsIndex]; (first | lia | omega)) (by (first | lia | omega)) (by unfold Builtin.List.listTooLong; exact fun q => by have := of_decide_eq_true q; rw [sizeLine_eq] at this; (first | lia | omega)))
          ⟨hl', H _ _ _ Gr.push (.lst (vs := (List.replicate x.toNat us).flatten) (n := 0) B.new ?_ ((rl'.rep _).gr Gr.push))⟩⟩)
    have e := foldl_flat us x.toNat #[]
    rw [hne]
    simp only [Bool.false_eq_true, if_false]
    rw [e]
    exact Heap.get?_push_size _ rfl⟩
/-- comparisons -/
theorem CmpR.eq_ii {x y : Int} : CmpR C S k .Eq (.int x) (.int y) (x == y) := .of_ii fun A s Q E t u R H => by with_reducible exact PyProof.Rows.eq_int (H.now (.bool _))
theorem CmpR.ne_ii {x y : Int} : CmpR C S k .NotEq (.int x) (.int y) (x != y) := .of_ii fun A s Q E t u R H => by with_reducible exact PyProof.Rows.ne_int (H.now (.bool _))
theorem CmpR.lt_ii {x y : Int} : CmpR C S k .Lt (.int x) (.int y) (decide (x < y)) := .of_ii fun A s Q E t u R H => by with_reducible exact PyProof.Rows.lt_int (H.now (.bool _))
theorem CmpR.le_ii {x y : Int} : CmpR C S k .LtE (.int x) (.int y) (decide (x ≤ y)) := .of_ii fun A s Q E t u R H => by with_reducible exact PyProof.Rows.le_int (H.now (.bool _))
theorem CmpR.gt_ii {x y : Int} : CmpR C S k .Gt (.int x) (.int y) (decide (y < x)) := .of_ii fun A s Q E t u R H => by with_reducible exact PyProof.Rows.gt_int (H.now (.bool _))
theorem CmpR.ge_ii {x y : Int} : CmpR C S k .GtE (.int x) (.int y) (decide (y ≤ x)) := .of_ii fun A s Q E t u R H => by with_reducible exact PyProof.Rows.ge_int (H.now (.bool _))
theorem CmpR.eq_fi {x : UInt64} {n : Int} : CmpR C S k .Eq (.flt x) (.int n) (Float64.cmpInt x n == some Ordering.eq) := .of_fi fun A s Q E t u R H => by with_reducible exact PyProof.Rows.eq_fi (H.now (.bool _))
theorem CmpR.ne_fi {x : UInt64} {n : Int} : CmpR C S k .NotEq (.flt x) (.int n) (Float64.cmpInt x n != some Ordering.eq) := .of_fi fun A s Q E t u R H => by with_reducible exact PyProof.Rows.ne_fi (H.now (.bool _))
theorem CmpR.eq_ff {x y : UInt64} : CmpR C S k .Eq (.flt x) (.flt y) (Float64.cmp x y == some Ordering.eq) := .of_ff fun A s Q E t u R H => by with_reducible exact AutoFloatOps.eq_0 (H.now (.bool _))
theorem CmpR.le_ff {x y : UInt64} : CmpR C S k .LtE (.flt x) (.flt y) (Float64.cmp x y == some Ordering.lt || Float64.cmp x y == some Ordering.eq) := .of_ff fun A s Q E t u R H => by with_reducible exact AutoFloatOps.le_0 (H.now (.bool _))
theorem CmpR.is_bb {x y : Bool} : CmpR C S k .Is (.bool x) (.bool y) (x == y) := .of_bb fun A s Q E t u R H => by with_reducible exact PyProof.Rows.is_bool (H.now (.bool _))
theorem CmpR.isnot_bb {x y : Bool} : CmpR C S k .IsNot (.bool x) (.bool y) (x != y) := .of_bb fun A s Q E t u R H => by with_reducible exact PyProof.Rows.isnot_bool (H.now (.bool _))
end
end Mine
end

section
open PySem PySem.W PyProof.Rows PySem.Calls
namespace Mine

/-- the statements from here on -/
structure X (C : Cx) (A : Around) (env : Env) (st : List Stmt) (Q : Flow → Shared → Prop) (E : Value → Shared → Prop) (s : Shared) : Prop where
  out : wpAny (model PW C.w) A (execs st env) Q E s

/-- grown but for one place -/
structure GrB (a : Addr) (h h' : Heap) : Prop where
  k : ∀ b o, b ≠ a → b ≠ 68 → b ≠ 75 → h.get? b = some o → h'.get? b = some o
  tab : Tabs h → Tabs h'
theorem GrB.of {a : Addr} {h h' : Heap} (s : Heap.SameBut a h h') (hd : ∀ o vs, h.get? a = some o → o.data ≠ .fields vs) : GrB a h h' :=
  ⟨fun b o n _ _ e => (s.2 b n).trans e, fun t => t.but (fun b o n e => (s.2 b n).trans e) hd⟩
theorem Gr.grb {a : Addr} {h h' : Heap} (g : Gr h h') : GrB a h h' := ⟨fun b o _ n m e => g.k b o n m e, g.tab⟩
theorem GrB.trans {a : Addr} {h h' h'' : Heap} (g : GrB a h h') (g' : GrB a h' h'') : GrB a h h'' := ⟨fun b o n m l e => g'.k b o n m l (g.k b o n m l e), fun t => g'.tab (g.tab t)⟩
/-- a list whose items may turn -/
noncomputable def VL (S : List Addr) (h : Heap) (a : Addr) (l : List PV) : Prop := ∃ vs n, IsL h a vs.toArray n ∧ RelL S h vs l
theorem VL.seq {S : List Addr} {h : Heap} {a : Addr} {l : List PV} (v : VL S h a l) : ∃ o, h.get? a = some o ∧ ∃ its n, o.data = .seq its n := let ⟨_, _, e, _⟩ := v; ⟨_, e, _, _, rfl⟩
theorem VL.ne {S : List Addr} {h : Heap} {a : Addr} {l : List PV} (v : VL S h a l) (t : Tabs h) : a ≠ 68 ∧ a ≠ 75 := let ⟨_, e, _, _, q⟩ := v.seq; t.ne e fun vs p => by rw [q] at p; cases p
theorem VL.grb {S : List Addr} {h h' : Heap} {a b : Addr} {l : List PV} (v : VL S h a l) (t : Tabs h) (g : GrB b h h') (ha : a ≠ b) (k : Kp S h h') : VL S h' a l :=
  let n := v.ne t; let ⟨vs, m, e, r⟩ := v; ⟨vs, m, g.k _ _ ha n.1 n.2 e, r.kp k⟩
theorem VL.gr {S : List Addr} {h h' : Heap} {a : Addr} {l : List PV} (v : VL S h a l) (t : Tabs h) (g : Gr h h') : VL S h' a l :=
  let n := v.ne t; let ⟨vs, m, e, r⟩ := v; ⟨vs, m, g.k _ _ n.1 n.2 e, r.gr g⟩

/-- the frame as it stands: B stays, S may turn, V is what is known of S -/
structure FS (C : Cx) (B : Heap) (S : List Addr) (V : List (Addr × List PV)) (env : Env) (nm : List Str) (ρ : List (Option PV)) (h : Heap) : Prop where
  inv : Inv C S env nm ρ h
  b0 : C.B₀.StaysIn B
  base : Gr B h
  bl : B.get? env.locals = none
  vol : ∀ q ∈ V, q.1 ∈ S ∧ B.get? q.1 = none ∧ VL S h q.1 q.2
  vnd : (V.map (·.1)).Nodup
  ls : env.locals ∈ S
  loc : ∃ m, h.Ns env.locals m
  cls : ∀ x c, env.kindOf x = some .cell → env.cells.lookup x = some c → c ∈ S ∧ B.get? c = none ∧ ∃ v, h.IsCell c v
  inj : ∀ x y c, env.cells.lookup x = some c → env.cells.lookup y = some c → x = y
  frs : ∀ x c, env.kindOf x = some .free → env.cells.lookup x = some c → c ≠ 68 ∧ c ≠ 75 ∧ ∃ o, B.get? c = some o

theorem FS.tabs {C : Cx} {B : Heap} {S : List Addr} {V : List (Addr × List PV)} {env : Env} {nm : List Str} {ρ : List (Option PV)} {h : Heap} (F : FS C B S V env nm ρ h) : Tabs h := F.inv.bs.tabs
theorem FS.bs {C : Cx} {B : Heap} {S : List Addr} {V : List (Addr × List PV)} {env : Env} {nm : List Str} {ρ : List (Option PV)} {h : Heap} (F : FS C B S V env nm ρ h) : Bs C S h := F.inv.bs
theorem ns_gr {h h' : Heap} {a : Addr} {m : Str → Option Value} (t : Tabs h) (g : Gr h h') (x : h.Ns a m) : h'.Ns a m := by
  obtain ⟨o, es, ep, ho, hd, _⟩ := id x
  have q := t.ne ho fun vs q => by rw [hd] at q; cases q
  exact ns_at x fun o e => g.k _ o q.1 q.2 e
theorem cell_gr {h h' : Heap} {c : Addr} {v : Option Value} (t : Tabs h) (g : Gr h h') (x : h.IsCell c v) : h'.IsCell c v := by
  obtain ⟨o, ho, hd⟩ := id x
  have q := t.ne ho fun vs q => by rw [hd] at q; cases q
  exact isCell_at x fun o e => g.k _ o q.1 q.2 e
theorem FS.gr {C : Cx} {B : Heap} {S : List Addr} {V : List (Addr × List PV)} {env : Env} {nm : List Str} {ρ : List (Option PV)} {h h' : Heap} (F : FS C B S V env nm ρ h) (g : Gr h h') : FS C B S V env nm ρ h' :=
  ⟨F.inv.gr g, F.b0, F.base.trans g, F.bl, fun q hq => let ⟨a, b, c⟩ := F.vol q hq; ⟨a, b, c.gr F.tabs g⟩, F.vnd, F.ls, let ⟨m, hm⟩ := F.loc; ⟨m, ns_gr F.tabs g hm⟩,
    fun x c a b => let ⟨d, e, v, f⟩ := F.cls x c a b; ⟨d, e, v, cell_gr F.tabs g f⟩, F.inj, F.frs⟩

/-- a name's place and what lies there -/
inductive GetAt : List Str → List (Option PV) → Str → PV → Prop
  | z {x : Str} {p : PV} {nm : List Str} {ρ : List (Option PV)} : GetAt (x :: nm) (some p :: ρ) x p
  | s {x y : Str} {p : PV} {q : Option PV} {nm : List Str} {ρ : List (Option PV)} : GetAt nm ρ x p → GetAt (y :: nm) (q :: ρ) x p
theorem GetAt.idx {nm : List Str} {ρ : List (Option PV)} {x : Str} {p : PV} (g : GetAt nm ρ x p) : ∃ i : Nat, nm[i]? = some x ∧ ρ[i]? = some (some p) := by
  induction g with
  | z => exact ⟨0, rfl, rfl⟩
  | s _ ih => obtain ⟨i, a, b⟩ := ih; exact ⟨i + 1, by rw [List.getElem?_cons_succ]; exact a, by rw [List.getElem?_cons_succ]; exact b⟩
inductive SetAt : List Str → List (Option PV) → Str → PV → List (Option PV) → Prop
  | z {x : Str} {p : PV} {q : Option PV} {nm : List Str} {ρ : List (Option PV)} : SetAt (x :: nm) (q :: ρ) x p (some p :: ρ)
  | s {x y : Str} {p : PV} {q : Option PV} {nm : List Str} {ρ ρ' : List (Option PV)} : SetAt nm ρ x p ρ' → SetAt (y :: nm) (q :: ρ) x p (q :: ρ')
theorem SetAt.idx {nm : List Str} {ρ ρ' : List (Option PV)} {x : Str} {p : PV} (g : SetAt nm ρ x p ρ') : ∃ i : Nat, nm[i]? = some x ∧ ρ' = ρ.set i (some p) := by
  induction g with
  | z => exact ⟨0, rfl, rfl⟩
  | s _ ih => obtain ⟨i, a, b⟩ := ih; exact ⟨i + 1, by rw [List.getElem?_cons_succ]; exact a, by rw [List.set_cons_succ, b]⟩
/-- a def's frame -/
structure Fm (env : Env) (nm : List Str) : Prop where
  kind : env.scope.kind = .function
  gl : env.globals = mainGlobals
  bl : env.builtins = builtinsNs
  dbg : ∀ x ∈ nm, (x == ("__debug__" : Str)) = false
  loc : ∀ x ∈ nm, env.kindOf x = some .local ∨ (∃ c, env.kindOf x = some .cell ∧ env.cells.lookup x = some c) ∨ env.kindOf x = some .free
  nd : nm.Nodup

theorem Fm.hp {env : Env} {nm : List Str} (M : Fm env nm) : (env.scope.kind == .class || (env.scope.kind == .module && env.locals != env.globals)) = false := by rw [M.kind]; rfl

section
variable {C : Cx} {A : Around} {B : Heap} {S : List Addr} {V : List (Addr × List PV)} {env : Env} {nm : List Str} {ρ : List (Option PV)} {k : Nat} {s : Shared} {Q : Flow → Shared → Prop} {E : Value → Shared → Prop}

theorem Ev.loc {S : List Addr} {x : Str} {p : PV} {pos : Pos} (M : Fm env nm) (g : GetAt nm ρ x p) : Ev C S env nm ρ k (.Name x pos) p := let ⟨i, hi, hp⟩ := g.idx; .name i hi hp M.kind (M.dbg x (List.mem_of_getElem? hi))
/-- a name of the top's -/
structure Glb (C : Cx) (x : Str) (v : Value) : Prop where
  e : nsIn C.K mainGlobals x = some (some v)
  d : (x == ("__debug__" : Str)) = false
structure Blt (C : Cx) (x : Str) (v : Value) : Prop where
  e : nsIn C.K mainGlobals x = some none
  v : bootBuiltins x = some v
  n : x ≠ "__name__"
  d : (x == ("__debug__" : Str)) = false
theorem Ev.gl {S : List Addr} {x : Str} {v : Value} {pos : Pos} (M : Fm env nm) (g : Glb C x v) (hx : env.kindOf x = some .globalImplicit) : Ev C S env nm ρ k (.Name x pos) (.raw v) := .glob hx M.gl g.e M.kind g.d
theorem Ev.bl {S : List Addr} {x : Str} {v : Value} {pos : Pos} (M : Fm env nm) (g : Blt C x v) (hx : env.kindOf x = some .globalImplicit) : Ev C S env nm ρ k (.Name x pos) (.raw v) := .blt hx M.gl M.bl g.e g.v g.n M.kind g.d

theorem FS.core {h h' : Heap} {a : Addr} (F : FS C B S V env nm ρ h) (g : GrB a h h') (ha : a ∈ S) (hB : B.get? a = none) (hx : ∃ o, h'.get? a = some o) : Bs C S h' ∧ Gr B h' ∧ Kp S h h' := by
  have kB : Gr B h' := ⟨fun b o n m e => g.k b o (fun q => by rw [q, hB] at e; cases e) n m (F.base.k b o n m e), fun t => g.tab (F.base.tab t)⟩
  refine ⟨⟨C.in F.b0 kB, fun b hb => ?_, g.tab F.tabs⟩, kB, fun b o hb e => let n := DD.ne hb; g.k b o (fun q => n.2.2 (q ▸ ha)) n.1 n.2.1 e⟩
  by_cases q : b = a
  · exact q ▸ hx
  by_cases h1 : b = 68
  · obtain ⟨ps, e⟩ := (g.tab F.tabs).a.data; exact ⟨_, h1 ▸ e⟩
  by_cases h2 : b = 75
  · obtain ⟨ps, e⟩ := (g.tab F.tabs).b.data; exact ⟨_, h2 ▸ e⟩
  obtain ⟨o, e⟩ := F.bs.off b hb
  exact ⟨o, g.k b o q h1 h2 e⟩

theorem NameAt.grb {h h' : Heap} {x : Str} {v : Value} {a : Addr} (n : NameAt env h x v) (t : Tabs h) (g : GrB a h h') (hl : env.kindOf x = some .local → env.locals ≠ a) (hc : ∀ c w, env.cells.lookup x = some c → h.IsCell c w → c ≠ a) : NameAt env h' x v := by
  cases n with
  | loc m p q r =>
    obtain ⟨o, es, ep, ho, hd, _⟩ := id q
    have u := t.ne ho fun vs q => by rw [hd] at q; cases q
    exact .loc m p (ns_at q fun o e => g.k _ o (hl p) u.1 u.2 e) r
  | cell c p q r =>
    obtain ⟨o, ho, hd⟩ := id r
    have u := t.ne ho fun vs q => by rw [hd] at q; cases q
    exact .cell c p q (isCell_at r fun o e => g.k _ o (hc c _ q r) u.1 u.2 e)
  | free c p z q r =>
    obtain ⟨o, ho, hd⟩ := id r
    have u := t.ne ho fun vs q => by rw [hd] at q; cases q
    exact .free c p z q (isCell_at r fun o e => g.k _ o (hc c _ q r) u.1 u.2 e)

/-- a list's items turn -/
theorem FS.turn {h h' : Heap} {a : Addr} {l l' : List PV} (F : FS C B S ((a, l) :: V) env nm ρ h) (g : GrB a h h') (v : VL S h' a l') : FS C B S ((a, l') :: V) env nm ρ h' := by
  obtain ⟨ha, hB, hv⟩ := F.vol _ (.head _)
  obtain ⟨os, hos, its, n, hds⟩ := hv.seq
  obtain ⟨ox, hox, _⟩ := v.seq
  obtain ⟨bs, gb, kp⟩ := F.core g ha hB ⟨ox, hox⟩
  have hl : env.locals ≠ a := fun q => by obtain ⟨m, o, es, ep, ho, hd, _⟩ := F.loc; rw [q, hos] at ho; cases ho; rw [hds] at hd; cases hd
  have hcell : ∀ c w, h.IsCell c w → c ≠ a := fun c w ⟨o, ho, hd⟩ q => by rw [q, hos] at ho; cases ho; rw [hds] at hd; cases hd
  have nd := F.vnd
  rw [List.map_cons, List.nodup_cons] at nd
  refine ⟨⟨bs, fun i x p hi hp => ?_⟩, F.b0, gb, F.bl, fun q hq => ?_, by rw [List.map_cons, List.nodup_cons]; exact nd, F.ls, ?_, fun x c p q => ?_, F.inj, F.frs⟩
  · obtain ⟨u, m, r⟩ := F.inv.names i x p hi hp
    exact ⟨u, m.grb F.tabs g (fun _ => hl) fun c w _ e => hcell c w e, r.kp kp⟩
  · rcases List.mem_cons.mp hq with rfl | hq
    · exact ⟨ha, hB, v⟩
    · obtain ⟨p, q', r⟩ := F.vol q (.tail _ hq)
      exact ⟨p, q', r.grb F.tabs g (fun e => nd.1 (by rw [← e]; exact List.mem_map_of_mem (f := (·.1)) hq)) kp⟩
  · obtain ⟨m, hm⟩ := F.loc
    obtain ⟨o, es, ep, ho, hd, _⟩ := id hm
    have u := F.tabs.ne ho fun vs q => by rw [hd] at q; cases q
    exact ⟨m, ns_at hm fun o e => g.k _ o hl u.1 u.2 e⟩
  · obtain ⟨d, e, v, f⟩ := F.cls x c p q
    obtain ⟨o, ho, hd⟩ := id f
    have u := F.tabs.ne ho fun vs q => by rw [hd] at q; cases q
    exact ⟨d, e, v, isCell_at f fun o e => g.k _ o (hcell c v f) u.1 u.2 e⟩

theorem FS.perm {h : Heap} {V' : List (Addr × List PV)} (F : FS C B S V env nm ρ h) (p : V.Perm V') : FS C B S V' env nm ρ h :=
  ⟨F.inv, F.b0, F.base, F.bl, fun q hq => F.vol q (p.mem_iff.mpr hq), (p.map _).nodup_iff.mp F.vnd, F.ls, F.loc, F.cls, F.inj, F.frs⟩

theorem set_other {i j : Nat} {x y : Str} {p q : PV} (M : Fm env nm) (hi : nm[i]? = some x) (hj : nm[j]? = some y) (hq : (ρ.set i (some p))[j]? = some (some q)) : (j = i ∧ q = p) ∨ (y ≠ x ∧ ρ[j]? = some (some q)) := by
  by_cases hji : j = i
  · subst hji
    rw [List.getElem?_set] at hq
    simp only [if_true] at hq
    split at hq
    · cases hq; exact .inl ⟨rfl, rfl⟩
    · cases hq
  · rw [List.getElem?_set_ne (fun e => hji e.symm)] at hq
    refine .inr ⟨fun e => ?_, hq⟩
    subst e
    obtain ⟨lj, ej⟩ := List.getElem?_eq_some_iff.mp hj
    obtain ⟨li, ei⟩ := List.getElem?_eq_some_iff.mp hi
    exact hji ((List.getElem_inj M.nd).mp (ej.trans ei.symm))

/-- a local is stored -/
theorem FS.store {h h' : Heap} {m : Str → Option Value} {i : Nat} {x : Str} {v : Value} {p : PV} (F : FS C B S V env nm ρ h) (M : Fm env nm) (hi : nm[i]? = some x) (hk : env.kindOf x = some .local) (hn : h'.Ns env.locals (fun y => if y = x then some v else m y)) (hm : h.Ns env.locals m)
    (hs : Heap.SameBut env.locals h h') (r : Rel S h v p) : FS C B S V env nm (ρ.set i (some p)) h' := by
  obtain ⟨oL, es, ep, hoL, hdL, _, fL⟩ := id hm
  have g : GrB env.locals h h' := .of hs fun o vs e q => by rw [hoL] at e; cases e; rw [hdL] at q; cases q
  obtain ⟨o', _, _, ho', _⟩ := id hn
  obtain ⟨bs, gb, kp⟩ := F.core g F.ls F.bl ⟨o', ho'⟩
  have hcell : ∀ c w, h.IsCell c w → c ≠ env.locals := fun c w ⟨o, ho, hd⟩ q => by rw [q, hoL] at ho; cases ho; rw [hdL] at hd; cases hd
  refine ⟨⟨bs, fun j y q hj hq => ?_⟩, F.b0, gb, F.bl, fun q hq => ?_, F.vnd, F.ls, ⟨_, hn⟩, fun y c a b => ?_, F.inj, F.frs⟩
  · rcases set_other M hi hj hq with ⟨rfl, rfl⟩ | ⟨hne, hq⟩
    · rw [hi] at hj; cases hj
      exact ⟨v, .loc _ hk hn (by simp), r.kp kp⟩
    · obtain ⟨u, n, ru⟩ := F.inv.names j y q hj hq
      by_cases hl : env.kindOf y = some .local
      · refine ⟨u, ?_, ru.kp kp⟩
        cases n with
        | loc m' a b c =>
          refine .loc _ a hn ?_
          have : m' y = m y := by
            obtain ⟨o1, es1, ep1, h1, d1, _, f1⟩ := b
            rw [hoL] at h1; cases h1
            rw [hdL] at d1; cases d1
            rw [← f1, ← fL]
          simp [hne, ← this, c]
        | cell c a _ _ => rw [hl] at a; cases a
        | free c a _ _ _ => rw [hl] at a; cases a
      · exact ⟨u, n.grb F.tabs g (fun e => absurd e hl) fun c w _ e => hcell c w e, ru.kp kp⟩
  · obtain ⟨a, b, c⟩ := F.vol q hq
    obtain ⟨o, ho, its, n, hd⟩ := c.seq
    exact ⟨a, b, c.grb F.tabs g (fun e => by rw [e, hoL] at ho; cases ho; rw [hdL] at hd; cases hd) kp⟩
  · obtain ⟨d, e, w, f⟩ := F.cls y c a b
    obtain ⟨o, ho, hd⟩ := id f
    have u := F.tabs.ne ho fun vs q => by rw [hd] at q; cases q
    exact ⟨d, e, w, isCell_at f fun o e => g.k _ o (hcell c w f) u.1 u.2 e⟩
/-- a cell is stored -/
theorem FS.storeC {h h' : Heap} {i : Nat} {x : Str} {v : Value} {p : PV} {c : Addr} (F : FS C B S V env nm ρ h) (M : Fm env nm) (hi : nm[i]? = some x) (hk : env.kindOf x = some .cell) (hc : env.cells.lookup x = some c) (hn : h'.IsCell c (some v))
    (hs : Heap.SameBut c h h') (r : Rel S h v p) : FS C B S V env nm (ρ.set i (some p)) h' := by
  obtain ⟨hS, hB, w, oL, hoL, hdL⟩ := F.cls x c hk hc
  have g : GrB c h h' := .of hs fun o vs e q => by rw [hoL] at e; cases e; rw [hdL] at q; cases q
  obtain ⟨o', ho', _⟩ := id hn
  obtain ⟨bs, gb, kp⟩ := F.core g hS hB ⟨o', ho'⟩
  have hl : env.locals ≠ c := fun q => by obtain ⟨m, o, es, ep, ho, hd, _⟩ := F.loc; rw [q, hoL] at ho; cases ho; rw [hdL] at hd; cases hd
  refine ⟨⟨bs, fun j y q hj hq => ?_⟩, F.b0, gb, F.bl, fun q hq => ?_, F.vnd, F.ls, ?_, fun y c' a b => ?_, F.inj, F.frs⟩
  · rcases set_other M hi hj hq with ⟨rfl, rfl⟩ | ⟨hne, hq⟩
    · rw [hi] at hj; cases hj
      exact ⟨v, .cell c hk hc hn, r.kp kp⟩
    · obtain ⟨u, n, ru⟩ := F.inv.names j y q hj hq
      exact ⟨u, n.grb F.tabs g (fun _ => hl) fun c' _ e _ q => hne (F.inj y x c (q ▸ e) hc), ru.kp kp⟩
  · obtain ⟨a, b, d⟩ := F.vol q hq
    obtain ⟨o, ho, its, n, hd⟩ := d.seq
    exact ⟨a, b, d.grb F.tabs g (fun e => by rw [e, hoL] at ho; cases ho; rw [hdL] at hd; cases hd) kp⟩
  · obtain ⟨m, hm⟩ := F.loc
    obtain ⟨o, es, ep, ho, hd, _⟩ := id hm
    have u := F.tabs.ne ho fun vs q => by rw [hd] at q; cases q
    exact ⟨m, ns_at hm fun o e => g.k _ o hl u.1 u.2 e⟩
  · obtain ⟨d, e, w', f⟩ := F.cls y c' a b
    by_cases q : c' = c
    · exact ⟨d, e, _, q ▸ hn⟩
    · obtain ⟨o, ho, hd⟩ := id f
      have u := F.tabs.ne ho fun vs q => by rw [hd] at q; cases q
      exact ⟨d, e, w', isCell_at f fun o e => g.k _ o q u.1 u.2 e⟩

theorem wp_store {x : Str} {v : Value} {p : PV} {ρ' : List (Option PV)} {Q' : Unit → Shared → Prop} (F : FS C B S V env nm ρ s.heap) (M : Fm env nm) (st : SetAt nm ρ x p ρ') (r : Rel S s.heap v p) (hf : (env.kindOf x == some .free) = false)
    (K : ∀ h' tk', Kp S s.heap h' → FS C B S V env nm ρ' h' → Q' () { s with heap := h', toks := tk' }) : wpAny (model PW C.w) A (storeName env x v) Q' E s := by
  obtain ⟨i, hi, rfl⟩ := st.idx
  rcases M.loc x (List.mem_of_getElem? hi) with hk | ⟨c, hk, hc⟩ | hk
  · obtain ⟨m, hm⟩ := F.loc
    exact wpAny_storeName_local hk hm (fun h' hn hs => K h' _ (fun b o hb e => (hs.2 b (fun q => (DD.ne hb).2.2 (q ▸ F.ls))).trans e) (F.store M hi hk hn hm hs r)) M.hp
  · obtain ⟨hS, _, w, hw⟩ := F.cls x c hk hc
    exact wpAny_storeName_cell M.kind hk hc hw fun h' hn hs => K h' s.toks (fun b o hb e => (hs.2 b (fun q => (DD.ne hb).2.2 (q ▸ hS))).trans e) (F.storeC M hi hk hc hn hs r)
  · rw [hk] at hf; cases hf

theorem X.nil (h : Q .next s) : X C A env [] Q E s := ⟨wpAny_execs_nil h⟩
theorem X.ret {e : PySem.Expr} {pos : Pos} {rest : List Stmt} {p : PV} (F : FS C B S V env nm ρ s.heap) (R : Room k A) (he : Ev C S env nm ρ k e p)
    (K : ∀ v h' tk', FS C B S V env nm ρ h' → Rel S h' v p → Q (.ret v) { s with heap := h', toks := tk' }) : X C A env (.Return (some e) pos :: rest) Q E s :=
  ⟨wpAny_execs_cons (wpAny_Return_some (he.run A s _ E R F.inv fun v h' tk g r => K v h' tk (F.gr g) r))⟩
theorem X.assign {e : PySem.Expr} {x : Str} {px pos : Pos} {rest : List Stmt} {p : PV} {ρ' : List (Option PV)} (F : FS C B S V env nm ρ s.heap) (M : Fm env nm) (R : Room k A) (he : Ev C S env nm ρ k e p) (st : SetAt nm ρ x p ρ')
    (K : ∀ h' tk', FS C B S V env nm ρ' h' → X C A env rest Q E { s with heap := h', toks := tk' })
    (hs : swapsWith e (some (.Name x px)) pos.line env = pure false := by rfl) (hf : (env.kindOf x == some .free) = false := by kernel_rfl) : X C A env (.Assign [.Name x px] e pos :: rest) Q E s :=
  ⟨wpAny_execs_cons (wpAny_Assign_Name (he.run A s _ E R F.inv fun v h' tk g r => wp_store (s := { s with heap := h', toks := tk }) (F.gr g) M st r hf fun h'' tk'' _ F' => (K h'' tk'' F').out) hs)⟩

/-- targets that are names -/
inductive Tgt (env : Env) (nm : List Str) : List PySem.Expr → List PV → List (Option PV) → List (Option PV) → Prop
  | nil {ρ : List (Option PV)} : Tgt env nm [] [] ρ ρ
  | cons {x : Str} {px : Pos} {es : List PySem.Expr} {p : PV} {ps : List PV} {ρ ρ₁ ρ' : List (Option PV)} : SetAt nm ρ x p ρ₁ → Tgt env nm es ps ρ₁ ρ' → (hf : (env.kindOf x == some .free) = false := by kernel_rfl) → Tgt env nm (.Name x px :: es) (p :: ps) ρ ρ'
theorem Tgt.len {env : Env} {es : List PySem.Expr} {ps : List PV} {ρ ρ' : List (Option PV)} (t : Tgt env nm es ps ρ ρ') : es.length = ps.length := by
  induction t with
  | nil => rfl
  | cons _ _ _ ih => simp [ih]

theorem wp_storeAll {Q' : Unit → Shared → Prop} (M : Fm env nm) : ∀ {es : List PySem.Expr} {vs : List Value} {ps : List PV} {ρ ρ' : List (Option PV)} {s : Shared}, FS C B S V env nm ρ s.heap → Tgt env nm es ps ρ ρ' → RelL S s.heap vs ps →
    (∀ h' tk', FS C B S V env nm ρ' h' → Q' () { s with heap := h', toks := tk' }) → wpAny (model PW C.w) A (assignInOrder ((assignEach es env).map (·.2)) vs) Q' E s
  | _, _, _, _, _, s, F, .nil, .nil, K => assignInOrder_nil (K s.heap s.toks F)
  | .Name x px :: es, _, _, ρ, ρ', s, F, .cons st t hf, .cons r rl, K => by
    show wpAny _ A (assignInOrder (assign (.Name x px) env :: (assignEach es env).map (·.2)) _) Q' E s
    refine assignInOrder_cons (assign_Name (wp_store F M st r hf fun h' tk' kp F' => ?_))
    exact wp_storeAll M (s := { s with heap := h', toks := tk' }) F' t (rl.kp kp) K

theorem tgt_assignEach : ∀ {es : List PySem.Expr} {ps : List PV} {ρ ρ' : List (Option PV)}, Tgt env nm es ps ρ ρ' → (assignEach es env).length = es.length ∧ (assignEach es env).findIdx? (·.1) = none
  | _, _, _, _, .nil => ⟨rfl, rfl⟩
  | .Name x px :: es, _, _, _, .cons _ t _ => by
    obtain ⟨a, b⟩ := tgt_assignEach t
    refine ⟨by show (assignEach es env).length + 1 = _; rw [a]; rfl, ?_⟩
    show List.findIdx? (·.1) ((false, assign (.Name x px) env) :: assignEach es env) = none
    rw [List.findIdx?_cons]
    simp [b]

theorem X.tup {e : PySem.Expr} {elts : List PySem.Expr} {n : Nat} {tpos pos : Pos} {rest : List Stmt} {ps : List PV} {ρ' : List (Option PV)} (F : FS C B S V env nm ρ s.heap) (M : Fm env nm) (R : Room k A) (he : Ev C S env nm ρ k e (.tup ps)) (ht : Tgt env nm elts ps ρ ρ')
    (K : ∀ h' tk', FS C B S V env nm ρ' h' → X C A env rest Q E { s with heap := h', toks := tk' })
    (hs : swapsWithSole [.Tuple elts n tpos] e pos.line env = pure false := by rfl) (hw : swappedStores [.Tuple elts n tpos] e env = pure none := by rfl) : X C A env (.Assign [.Tuple elts n tpos] e pos :: rest) Q E s :=
  ⟨wpAny_execs_cons (Assign_Tuple (he.run A s _ E R F.inv fun v h' tk g r => by
    obtain ⟨_, _, _, rfl, hn, ht', rl⟩ := r.inv
    · skip
      obtain ⟨a, b⟩ := tgt_assignEach (env := env) ht
      refine assign_Tuple_tuple R.hh ⟨_, ht', rfl, _, rfl⟩ (by rw [a, ht.len, List.size_toArray, rl.length]) b fun h'' he' => ?_
      have g' : Gr h' h'' := .of fun b o e => he' b o (Nat.ne_of_lt (Heap.lt_size e)) e
      exact wp_storeAll M (s := { s with heap := h'', toks := tk }) ((F.gr g).gr g') ht (rl.gr g') fun h3 tk3 F3 => (K h3 tk3 F3).out) hs hw)⟩

/-- two or three names, a written tuple: stored from behind -/
inductive SetAll (env : Env) (nm : List Str) : List Str → List PV → List (Option PV) → List (Option PV) → Prop
  | nil {ρ : List (Option PV)} : SetAll env nm [] [] ρ ρ
  | cons {x : Str} {xs : List Str} {p : PV} {ps : List PV} {ρ ρ₁ ρ' : List (Option PV)} : SetAt nm ρ x p ρ₁ → SetAll env nm xs ps ρ₁ ρ' → (hf : (env.kindOf x == some .free) = false := by kernel_rfl) → SetAll env nm (x :: xs) (p :: ps) ρ ρ'
theorem SetAll.len {env : Env} {xs : List Str} {ps : List PV} {ρ ρ' : List (Option PV)} (t : SetAll env nm xs ps ρ ρ') : xs.length = ps.length := by
  induction t with
  | nil => rfl
  | cons _ _ _ ih => simp [ih]
theorem wp_storeRev {Q' : Unit → Shared → Prop} (M : Fm env nm) : ∀ {xs : List Str} {vs : List Value} {ps : List PV} {ρ ρ' : List (Option PV)} {s : Shared}, FS C B S V env nm ρ s.heap → SetAll env nm xs ps ρ ρ' → RelL S s.heap vs ps →
    (∀ h' tk', FS C B S V env nm ρ' h' → Q' () { s with heap := h', toks := tk' }) → wpAny (model PW C.w) A (assignInOrder (xs.map fun n => bindName env n) vs) Q' E s
  | _, _, _, _, _, s, F, .nil, .nil, K => assignInOrder_nil (K s.heap s.toks F)
  | x :: xs, _, _, ρ, ρ', s, F, .cons st t hf, .cons r rl, K => by
    refine assignInOrder_cons (bindName_ (wp_store F M st r hf fun h' tk' kp F' => ?_))
    exact wp_storeRev M (s := { s with heap := h', toks := tk' }) F' t (rl.kp kp) K

theorem X.swp {e : PySem.Expr} {elts : List PySem.Expr} {names : List Str} {n : Nat} {tpos pos : Pos} {rest : List Stmt} {ps : List PV} {ρ' : List (Option PV)} (F : FS C B S V env nm ρ s.heap) (M : Fm env nm) (R : Room k A) (he : Ev C S env nm ρ k e (.tup ps))
    (hw : swappedStores [.Tuple elts n tpos] e env = pure (some names)) (hn : SetAll env nm names.reverse ps.reverse ρ ρ')
    (K : ∀ h' tk', FS C B S V env nm ρ' h' → X C A env rest Q E { s with heap := h', toks := tk' })
    (hs : swapsWithSole [.Tuple elts n tpos] e pos.line env = pure false := by rfl) : X C A env (.Assign [.Tuple elts n tpos] e pos :: rest) Q E s :=
  ⟨wpAny_execs_cons (Assign_Tuple_swapped (he.run A s _ E R F.inv fun v h' tk g r => by
    obtain ⟨a, vs, n', rfl, hn', ht', rl⟩ := r.inv
    · skip
      have hl := hn.len
      rw [List.length_reverse, List.length_reverse] at hl
      have hsz : names.length = vs.toArray.size := by rw [hl, List.size_toArray, rl.length]
      rw [hsz]
      refine unpackItems_tuple R.hh ⟨_, ht', rfl, _, rfl⟩ fun h'' he' => ?_
      have g' : Gr h' h'' := .of fun b o e => he' b o (Nat.ne_of_lt (Heap.lt_size e)) e
      refine wp_storeRev M (s := { s with heap := h'', toks := tk }) ((F.gr g).gr g') hn ?_ fun h3 tk3 F3 => (K h3 tk3 F3).out
      exact (rl.gr g').reverse) hs hw)⟩

/-- what stands behind a statement -/
noncomputable def Then (C : Cx) (A : Around) (env : Env) (rest : List Stmt) (Q : Flow → Shared → Prop) (E : Value → Shared → Prop) (f : Flow) (s : Shared) : Prop := match f with
  | .next => X C A env rest Q E s
  | f => Q f s
theorem X.ifs {test : PySem.Expr} {body orelse rest : List Stmt} {pos : Pos} {b : Bool} (F : FS C B S V env nm ρ s.heap) (R : Room k A) (ht : Tr C S env nm ρ k test b)
    (h1 : b = true → ∀ h' tk', FS C B S V env nm ρ h' → X C A env body (Then C A env rest Q E) E { s with heap := h', toks := tk' })
    (h2 : b = false → ∀ h' tk', FS C B S V env nm ρ h' → X C A env orelse (Then C A env rest Q E) E { s with heap := h', toks := tk' }) : X C A env (.If test body orelse pos :: rest) Q E s := by
  have key : ∀ (f : Flow) (s' : Shared), Then C A env rest Q E f s' → (match f with | .next => wpAny (model PW C.w) A (execs rest env) Q E s' | f => Q f s') := fun f s' h => by
    cases f <;> first | exact h | exact X.out h
  refine ⟨wpAny_execs_cons (wpAny_If (ht.run A s _ E R F.inv fun h' tk g => ?_))⟩
  cases b with
  | true => exact wpAny_mono (h1 rfl h' tk (F.gr g)).out key fun _ _ e => e
  | false => exact wpAny_mono (h2 rfl h' tk (F.gr g)).out key fun _ _ e => e
theorem X.next (h : X C A env rest Q E s) : X C A env [] (Then C A env rest Q E) E s := ⟨wpAny_execs_nil h⟩

end
end Mine
end

section
open PySem PySem.W PyProof.Rows PySem.Calls
namespace Mine

theorem vs1 {P : List Value → Prop} {vs : List Value} (h : vs.length = 1) (k : ∀ a, P [a]) : P vs := by match vs, h with | [a], _ => exact k a
theorem vs2 {P : List Value → Prop} {vs : List Value} (h : vs.length = 2) (k : ∀ a b, P [a, b]) : P vs := by match vs, h with | [a, b], _ => exact k a b
theorem vs3 {P : List Value → Prop} {vs : List Value} (h : vs.length = 3) (k : ∀ a b c, P [a, b, c]) : P vs := by match vs, h with | [a, b, c], _ => exact k a b c
theorem vs4 {P : List Value → Prop} {vs : List Value} (h : vs.length = 4) (k : ∀ a b c d, P [a, b, c, d]) : P vs := by match vs, h with | [a, b, c, d], _ => exact k a b c d
/-- a call of f upon l comes to p, and what was there stays -/
structure CallR (C : Cx) (S : List Addr) (k : Nat) (f : Value) (l : List PV) (p : PV) : Prop where
  run : ∀ (A : Around) (s : Shared) (Q : Value → Shared → Prop) (E : Value → Shared → Prop) (vs : List Value), Room k A → Bs C S s.heap → RelL S s.heap vs l → Post S s p Q → wpAny (model PW C.w) A (call f vs []) Q E s

theorem kIn {C : Cx} {h : Heap} (t : C.B₀.StaysIn h) : C.K.In h := C.X.keeps fun b o e => t b o e

section
variable {C : Cx} {S : List Addr} {env : Env} {nm : List Str} {ρ : List (Option PV)} {k : Nat}


theorem Ev.callD {x : Str} {np pos : Pos} {a : PySem.Expr} {args : List PySem.Expr} {f : Addr} {l : List PV} {p : PV} (hf : Ev C S env nm ρ k (.Name x np) (.raw (.ref f))) (ha : EvL C S env nm ρ k pos (a :: args) l) (hc : CallR C S k (.ref f) l p)
    (hk : keepIn C.K (.ref f) = true) (he : starEach (a :: args) env = (false, eval a env) :: starEach args env := by rfl) (hp : (backTo pos (starEach args env)).any (·.1) = false := by rfl) : Ev C S env nm ρ k (.Call (.Name x np) (a :: args) [] pos) p :=
  ⟨fun A s Q E R I H => wpAny_Call_Name_kw (hf.run A s _ E R I fun v h₁ tk₁ g₁ r => by
    obtain ⟨_, rfl⟩ := r.inv
    exact callWith_K (kIn I.top) hk (ha.run A _ _ E R (I.gr g₁) fun vs h₂ tk₂ g₂ rl => ⟨kIn ((I.gr g₁).gr g₂).top, hc.run A _ Q E vs R ((I.gr g₁).gr g₂).bs rl (H.gr (g₁.trans g₂))⟩) he hp)⟩
theorem Ev.callB {x : Str} {np pos : Pos} {a : PySem.Expr} {args : List PySem.Expr} {f : String} {l : List PV} {p : PV} (hf : Ev C S env nm ρ k (.Name x np) (.raw (.builtin f))) (ha : EvL C S env nm ρ k pos (a :: args) l) (hc : CallR C S k (.builtin f) l p)
    (he : starEach (a :: args) env = (false, eval a env) :: starEach args env := by rfl) (hp : (backTo pos (starEach args env)).any (·.1) = false := by rfl) : Ev C S env nm ρ k (.Call (.Name x np) (a :: args) [] pos) p :=
  ⟨fun A s Q E R I H => wpAny_Call_Name_kw (hf.run A s _ E R I fun v h₁ tk₁ g₁ r => by
    obtain ⟨_, rfl⟩ := r.inv
    exact PyProof.Rows.callWith_builtin1 (ha.run A _ _ E R (I.gr g₁) fun vs h₂ tk₂ g₂ rl => hc.run A _ Q E vs R ((I.gr g₁).gr g₂).bs rl (H.gr (g₁.trans g₂))) he hp)⟩
theorem Ev.callT {x : Str} {np pos : Pos} {a : PySem.Expr} {args : List PySem.Expr} {f : String} {l : List PV} {p : PV} (hf : Ev C S env nm ρ k (.Name x np) (.raw (.type f))) (ha : EvL C S env nm ρ k pos (a :: args) l) (hc : CallR C S k (.type f) l p)
    (he : starEach (a :: args) env = (false, eval a env) :: starEach args env := by rfl) (hp : (backTo pos (starEach args env)).any (·.1) = false := by rfl) : Ev C S env nm ρ k (.Call (.Name x np) (a :: args) [] pos) p :=
  ⟨fun A s Q E R I H => wpAny_Call_Name_kw (hf.run A s _ E R I fun v h₁ tk₁ g₁ r => by
    obtain ⟨_, rfl⟩ := r.inv
    exact PyProof.Rows.callWith_type1 (ha.run A _ _ E R (I.gr g₁) fun vs h₂ tk₂ g₂ rl => hc.run A _ Q E vs R ((I.gr g₁).gr g₂).bs rl (H.gr (g₁.trans g₂))) he hp)⟩
end

theorem lookup_zip_rev : ∀ {ps : List Str} {vs : List Value} {i : Nat} {x : Str} {v : Value}, ps.Nodup → vs.length = ps.length → ps[i]? = some x → vs[i]? = some v → (ps.zip vs).reverse.lookup x = some v := by
  have key : ∀ {l : List (Str × Value)} {x : Str} {v : Value}, (l.map (·.1)).Nodup → (x, v) ∈ l → l.lookup x = some v := by
    intro l
    induction l with
    | nil => intro x v _ h; cases h
    | cons q l ih =>
      intro x v hn h
      rw [List.map_cons, List.nodup_cons] at hn
      rcases List.mem_cons.mp h with rfl | h
      · simp [List.lookup_cons]
      · have : x ≠ q.1 := fun e => hn.1 (e ▸ List.mem_map_of_mem h)
        rw [List.lookup_cons, show (x == q.1) = false from by simpa using this]
        exact ih hn.2 h
  intro ps vs i x v hn hl hi hv
  refine key ?_ ?_
  · rw [List.map_reverse, List.map_fst_zip (by (first | lia | omega))]; rw [List.nodup_iff_pairwise_ne, List.pairwise_reverse]; exact (List.nodup_iff_pairwise_ne.mp hn).imp fun h e => h e.symm
  · rw [List.mem_reverse]
    refine List.mem_of_getElem? (i := i) ?_
    rw [List.getElem?_zip_eq_some]
    exact ⟨hi, hv⟩

/-- what stands at a call: B stays, V of S is known -/
structure Ent (C : Cx) (B : Heap) (S : List Addr) (V : List (Addr × List PV)) (h : Heap) : Prop where
  b0 : C.B₀.StaysIn B
  base : Gr B h
  bs : Bs C S h
  vol : ∀ q ∈ V, q.1 ∈ S ∧ B.get? q.1 = none ∧ VL S h q.1 q.2
  vnd : (V.map (·.1)).Nodup
theorem Ent.pure {C : Cx} {S : List Addr} {h : Heap} (b : Bs C S h) : Ent C h S [] h := ⟨b.top, Gr.rfl, b, fun _ h => (nomatch h), List.nodup_nil⟩
theorem Ent.at {C : Cx} {S : List Addr} {h : Heap} {a : Addr} {l : List PV} (b : Bs C S h) (hB : C.B₀.get? a = none) (ha : a ∈ S) (v : VL S h a l) : Ent C (hideAll h [a]) S [(a, l)] h where
  b0 := fun d o e => hideAll_get _ (b.top d o e) fun q => by
    rw [List.mem_singleton] at q; rw [q, hB] at e; cases e
  base := ⟨fun d o _ _ e => of_hideAll _ e, fun _ => b.tabs⟩
  bs := b
  vol := fun q hq => by
    rw [List.mem_singleton] at hq; subst hq; exact ⟨ha, hideAll_none _ (.head _), v⟩
  vnd := by simp
theorem Gr.hid {a : Addr} {h h' : Heap} (g : Gr (hideAll h [a]) h') (t : Tabs h') : GrB a h h' := ⟨fun b o n m l e => g.k b o m l (hideAll_get _ e fun q => by rcases List.mem_cons.mp q with q | q; exact n q; cases q), fun _ => t⟩
theorem VL.more {S S' : List Addr} {h : Heap} {a : Addr} {l : List PV} (v : VL S h a l) (k : ∀ a ∈ S', a ∉ S → h.get? a = none) : VL S' h a l := let ⟨vs, n, e, r⟩ := v; ⟨vs, n, e, r.more k⟩
theorem VL.less {S S' : List Addr} {h : Heap} {a : Addr} {l : List PV} (v : VL S h a l) (k : ∀ a ∈ S', a ∈ S) : VL S' h a l := let ⟨vs, n, e, r⟩ := v; ⟨vs, n, e, r.less k⟩

theorem bindLC {kindOf : Str → Option NameKind} : ∀ {binds : List (Str × Value)} {m cm : Str → Option Value} {x : Str} {v : Value}, (binds.map (·.1)).Nodup → (x, v) ∈ binds →
    (kindOf x = some .local → bindL kindOf binds m x = some v) ∧ (kindOf x ≠ some .local → bindC kindOf binds cm x = some v) := by
  have keep : ∀ {binds : List (Str × Value)} {m cm : Str → Option Value} {x : Str}, x ∉ binds.map (·.1) → bindL kindOf binds m x = m x ∧ bindC kindOf binds cm x = cm x := by
    intro binds
    induction binds with
    | nil => intro m cm x _; exact ⟨rfl, rfl⟩
    | cons q r ih =>
      intro m cm x hx
      rw [List.map_cons, List.mem_cons, not_or] at hx
      unfold bindL bindC
      obtain ⟨a, b⟩ := @ih (if kindOf q.1 = some .local then fun y => if y = q.1 then some q.2 else m y else m) (if kindOf q.1 = some .local then cm else fun y => if y = q.1 then some q.2 else cm y) x hx.2
      rw [a, b]
      constructor <;> split <;> simp [hx.1]
  intro binds
  induction binds with
  | nil => intro m cm x v _ h; cases h
  | cons q r ih =>
    intro m cm x v hn h
    rw [List.map_cons, List.nodup_cons] at hn
    unfold bindL bindC
    rcases List.mem_cons.mp h with rfl | h
    · constructor
      · intro hk
        rw [(keep (cm := fun _ => none) hn.1).1]; simp [hk]
      · intro hk
        rw [(keep (m := fun _ => none) hn.1).2]; simp [hk]
    · exact ih hn.2 h

theorem mem_zip_of {ps : List Str} {vs : List Value} {i : Nat} {x : Str} {v : Value} (hi : ps[i]? = some x) (hv : vs[i]? = some v) : (x, v) ∈ ps.zip vs := List.mem_of_getElem? (i := i) (by rw [List.getElem?_zip_eq_some]; exact ⟨hi, hv⟩)

/-- what a flow comes to -/
noncomputable def RetR (R : Result → Shared → Prop) (fl : Flow) (s : Shared) : Prop := R (.ok (.ret (match fl with | .ret v => v | _ => .none))) s

/-- a def walked; its parameters may be cells -/
theorem callBodyGT {C : Cx} {B : Heap} {S : List Addr} {V : List (Addr × List PV)} {k : Nat} {name qual : Str} {params : Arguments} {body : List Stmt} {scope : Scope} {dV kV doc pm cdv ct : Value} {an : Option Addr} {fo : Obj} {f : Addr} {args : Args} {vs : List Value}
    {ps rest : List Str} {l : List PV} {A : Around} {s s₁ : Shared} {R : Result → Shared → Prop} (T : Ent C B S V s₁.heap) (rm : Room (k + 1) A)
    (ho : s.heap.get? f = some fo) (hd : fo.data = .func (fnX name qual params body scope [] dV kV doc pm an cdv ct)) (hcd : s.heap.CodeRec cdv qual)
    (hbind : ∀ (M : Model) (A' : Around) (E' : Value → Shared → Prop) (Q' : List (Str × Value) → Shared → Prop), Q' (ps.zip vs) s₁ → wpAny M A' (bindArgs (fnX name qual params body scope [] dV kV doc pm an cdv ct) args) Q' E' s) (rl : RelL S s₁.heap vs l)
    (hll : l.length = ps.length) (hk : scope.kind = .function)
    (hdb : ∀ x ∈ ps ++ rest, (x == ("__debug__" : Str)) = false) (hnd : (ps ++ rest).Nodup)
    (hloc : ∀ n, ∀ x ∈ ps ++ rest, scope.names.lookup x = some .local ∨ (scope.names.lookup x = some .cell ∧ ((cellsFrom n scope.names []).lookup x).isSome = true))
    (hcn : ((cellsFrom 0 scope.names []).map (·.1)).Nodup) (hnf : ∀ x ∈ scope.names, x.2 ≠ .free)
    (hbody : ∀ (A' : Around) (s' : Shared) (L : Addr) (S' : List Addr), Room k A' → Fm (envOfC qual scope L f cdv) (ps ++ rest) → S' = (cellsFrom (L + 1) scope.names []).map (·.2) ++ L :: S →
      FS C B S' V (envOfC qual scope L f cdv) (ps ++ rest) (l.map some ++ rest.map fun _ => none) s'.heap → (∃ h tk, s' = { s₁ with heap := h, toks := tk }) → s₁.toks ≤ s'.toks →
      X C A' (envOfC qual scope L f cdv) body (RetR R) (fun _ _ => False) s')
    (hco : scope.isCoroutine = false := by rfl) (hgen : scope.isGenerator = false := by rfl) : codeAny (model PW C.w) A (.call (.ref f) args) R s := by
  have hlen : vs.length = ps.length := rl.length.trans hll
  have hnl : C.B₀.NoLimit := C.nl
  have hlim : s₁.heap.NoLimit := hnl.keeps fun b o e => T.bs.top b o e
  refine codeAny_call_function (by have := rm.depth; show A.depth < 1000; (first | lia | omega)) ho hd hco hgen rfl hcd (hbind _ _ _ _ ?_)
  refine wpAny_with_toks (Nat.le_refl s₁.toks) ?_
  refine wpAny_newFunctionEnv_cells hk (fun x hx => hloc _ _ (List.mem_append_left _ (List.of_mem_zip hx).1)) fun env' he s' x hnk => ?_
  subst he
  refine ⟨hlim.keeps x.toInCall.keep, codeAny_func ?_⟩
  obtain ⟨h₁, tk, rfl, hk₁⟩ := x.done
  let L := s₁.heap.objs.size
  have hL : s₁.heap.get? L = none := Heap.get?_none_of_le (Nat.le_refl _)
  let cs := cellsFrom (L + 1) scope.names []
  have hcs : ∀ n c, (n, c) ∈ cs → s₁.heap.get? c = none := fun n c hm => Heap.get?_none_of_le (Nat.le_of_lt (x.above n c hm))
  have hcsn : (cs.map (·.1)).Nodup := cellsFrom_names scope.names 0 (s₁.heap.objs.size + 1) [] [] rfl ▸ hcn
  let S' := cs.map (·.2) ++ L :: S
  have hnew : ∀ a ∈ S', a ∉ S → s₁.heap.get? a = none := fun a ha hn => by
    rcases List.mem_append.mp ha with ha | ha
    · obtain ⟨⟨n, c⟩, hm, rfl⟩ := List.mem_map.mp ha; exact hcs n c hm
    · rcases List.mem_cons.mp ha with rfl | ha
      · exact hL
      · exact absurd ha hn
  have g : Gr s₁.heap h₁ := .of hk₁
  have noB : ∀ a, s₁.heap.get? a = none → B.get? a = none := fun a ha => by
    cases e : B.get? a with
    | none => rfl
    | some o =>
      have n68 : a ≠ 68 := fun q => by obtain ⟨ps, e⟩ := T.bs.tabs.a.data; rw [← q, ha] at e; cases e
      have n75 : a ≠ 75 := fun q => by obtain ⟨ps, e⟩ := T.bs.tabs.b.data; rw [← q, ha] at e; cases e
      have := T.base.k a o n68 n75 e; rw [ha] at this; cases this
  have M : Fm (envOfC qual scope L f cdv) (ps ++ rest) := ⟨hk, rfl, rfl, hdb, fun x hx => by
    rcases hloc (L + 1) x hx with h | ⟨h, h2⟩
    · exact .inl h
    · obtain ⟨c, hc⟩ := Option.isSome_iff_exists.mp h2
      exact .inr (.inl ⟨c, h, hc⟩), hnd⟩
  have hnd1 : ((ps.zip vs).map (·.1)).Nodup := by rw [List.map_fst_zip (by (first | lia | omega))]; exact (List.nodup_append.mp hnd).1
  have F : FS C B S' V (envOfC qual scope L f cdv) (ps ++ rest) (l.map some ++ rest.map fun _ => none) h₁ := by
    refine ⟨⟨⟨fun b o e => hk₁ b o (T.bs.top b o e), fun a ha => ?_, T.bs.tabs.stays hk₁⟩, fun i y q hi hq => ?_⟩, T.b0, T.base.trans g, noB _ hL, fun q hq => ?_, T.vnd, List.mem_append_right _ (.head _), ⟨_, x.toInCall.ns⟩, fun y c _ hc => ?_, fun y z c hy hz => ?_, fun y c hy _ => absurd rfl (hnf _ (mem_of_lookup hy))⟩
    · rcases List.mem_append.mp ha with ha | ha
      · obtain ⟨⟨n, c⟩, hm, rfl⟩ := List.mem_map.mp ha
        obtain ⟨o, e, _⟩ := x.cell n c (lookup_of_mem_nodup hcsn hm)
        exact ⟨o, e⟩
      · rcases List.mem_cons.mp ha with rfl | ha
        · obtain ⟨o, _, _, e, _⟩ := x.toInCall.ns; exact ⟨o, e⟩
        · obtain ⟨o, e⟩ := T.bs.off a ha; exact ⟨o, hk₁ _ _ e⟩
    · have hil : i < l.length := by
        refine Nat.lt_of_not_le fun hle => ?_
        rw [List.getElem?_append_right (by simpa using hle)] at hq
        simp at hq
      rw [List.getElem?_append_left (by simpa using hil), List.getElem?_map] at hq
      obtain ⟨q', hq', e⟩ := Option.map_eq_some_iff.mp hq
      cases e
      obtain ⟨v, hv, r⟩ := rl.get hq'
      have hi' : ps[i]? = some y := by rw [List.getElem?_append_left (by (first | lia | omega))] at hi; exact hi
      have hb := bindLC (kindOf := (envOfC qual scope L f cdv).kindOf) (m := fun _ => none) (cm := fun _ => none) hnd1 (mem_zip_of hi' hv)
      refine ⟨v, ?_, (r.more hnew).gr g⟩
      rcases M.loc y (List.mem_of_getElem? hi) with hkk | ⟨c, hkk, hc⟩ | hkk
      · exact .loc _ hkk x.toInCall.ns (hb.1 hkk)
      · exact .cell c hkk hc ((congrArg (h₁.IsCell c) (hb.2 (by rw [hkk]; nofun))).mp (x.cell y c hc))
      · rcases hloc (L + 1) y (List.mem_of_getElem? hi) with h | ⟨h, _⟩
        · exact absurd (h.symm.trans hkk) (by nofun)
        · exact absurd (h.symm.trans hkk) (by nofun)
    · obtain ⟨a, b, c⟩ := T.vol q hq
      exact ⟨List.mem_append_right _ (.tail _ a), b, (c.more hnew).gr T.bs.tabs g⟩
    · exact ⟨List.mem_append_left _ (List.mem_map_of_mem (f := (·.2)) (mem_of_lookup hc)), noB _ (hcs y c (mem_of_lookup hc)), _, x.cell y c hc⟩
    · exact name_of_addr x.apart (mem_of_lookup hy) (mem_of_lookup hz)
  exact wpAny_mono (hbody (A.deeper _) { s₁ with heap := h₁, toks := tk } L S' rm.deeper M rfl F ⟨h₁, tk, rfl⟩ hnk).out (fun fl s' h => h) fun _ _ e => e.elim

theorem callBodyG {C : Cx} {B : Heap} {S : List Addr} {V : List (Addr × List PV)} {k : Nat} {name qual : Str} {params : Arguments} {body : List Stmt} {scope : Scope} {dV kV doc pm cdv ct : Value} {an : Option Addr} {fo : Obj} {f : Addr} {args : Args} {vs : List Value}
    {ps rest : List Str} {l : List PV} {A : Around} {s s₁ : Shared} {R : Result → Shared → Prop} (T : Ent C B S V s₁.heap) (rm : Room (k + 1) A)
    (ho : s.heap.get? f = some fo) (hd : fo.data = .func (fnX name qual params body scope [] dV kV doc pm an cdv ct)) (hcd : s.heap.CodeRec cdv qual)
    (hbind : ∀ (M : Model) (A' : Around) (E' : Value → Shared → Prop) (Q' : List (Str × Value) → Shared → Prop), Q' (ps.zip vs) s₁ → wpAny M A' (bindArgs (fnX name qual params body scope [] dV kV doc pm an cdv ct) args) Q' E' s) (rl : RelL S s₁.heap vs l)
    (hll : l.length = ps.length) (hk : scope.kind = .function)
    (hdb : ∀ x ∈ ps ++ rest, (x == ("__debug__" : Str)) = false) (hnd : (ps ++ rest).Nodup)
    (hloc : ∀ n, ∀ x ∈ ps ++ rest, scope.names.lookup x = some .local ∨ (scope.names.lookup x = some .cell ∧ ((cellsFrom n scope.names []).lookup x).isSome = true))
    (hcn : ((cellsFrom 0 scope.names []).map (·.1)).Nodup) (hnf : ∀ x ∈ scope.names, x.2 ≠ .free)
    (hbody : ∀ (A' : Around) (s' : Shared) (L : Addr) (S' : List Addr), Room k A' → Fm (envOfC qual scope L f cdv) (ps ++ rest) → S' = (cellsFrom (L + 1) scope.names []).map (·.2) ++ L :: S →
      FS C B S' V (envOfC qual scope L f cdv) (ps ++ rest) (l.map some ++ rest.map fun _ => none) s'.heap → (∃ h tk, s' = { s₁ with heap := h, toks := tk }) →
      X C A' (envOfC qual scope L f cdv) body (RetR R) (fun _ _ => False) s')
    (hco : scope.isCoroutine = false := by rfl) (hgen : scope.isGenerator = false := by rfl) : codeAny (model PW C.w) A (.call (.ref f) args) R s :=
  callBodyGT T rm ho hd hcd hbind rl hll hk hdb hnd hloc hcn hnf (fun A' s' L S' R' M hS F hs _ => hbody A' s' L S' R' M hS F hs) hco hgen

/-- a def walked; its parameters may be cells -/
theorem callBody {C : Cx} {B : Heap} {S : List Addr} {V : List (Addr × List PV)} {k : Nat} {name qual : Str} {params : Arguments} {body : List Stmt} {scope : Scope} {dV kV doc pm cdv ct : Value} {an : Option Addr} {fo : Obj} {f : Addr} {args : Args} {vs : List Value}
    {ps rest : List Str} {l : List PV} {A : Around} {s : Shared} {R : Result → Shared → Prop} (T : Ent C B S V s.heap) (rm : Room (k + 1) A)
    (ho : s.heap.get? f = some fo) (hd : fo.data = .func (fnX name qual params body scope [] dV kV doc pm an cdv ct)) (hcd : s.heap.CodeRec cdv qual)
    (hbind : BindsTo s (fnX name qual params body scope [] dV kV doc pm an cdv ct) args (ps.zip vs)) (rl : RelL S s.heap vs l)
    (hll : l.length = ps.length) (hk : scope.kind = .function)
    (hdb : ∀ x ∈ ps ++ rest, (x == ("__debug__" : Str)) = false) (hnd : (ps ++ rest).Nodup)
    (hloc : ∀ n, ∀ x ∈ ps ++ rest, scope.names.lookup x = some .local ∨ (scope.names.lookup x = some .cell ∧ ((cellsFrom n scope.names []).lookup x).isSome = true))
    (hcn : ((cellsFrom 0 scope.names []).map (·.1)).Nodup) (hnf : ∀ x ∈ scope.names, x.2 ≠ .free)
    (hbody : ∀ (A' : Around) (s' : Shared) (L : Addr) (S' : List Addr), Room k A' → Fm (envOfC qual scope L f cdv) (ps ++ rest) → S' = (cellsFrom (L + 1) scope.names []).map (·.2) ++ L :: S →
      FS C B S' V (envOfC qual scope L f cdv) (ps ++ rest) (l.map some ++ rest.map fun _ => none) s'.heap → (∃ h tk, s' = { s with heap := h, toks := tk }) →
      X C A' (envOfC qual scope L f cdv) body (RetR R) (fun _ _ => False) s')
    (hco : scope.isCoroutine = false := by rfl) (hgen : scope.isGenerator = false := by rfl) : codeAny (model PW C.w) A (.call (.ref f) args) R s :=
  callBodyG T rm ho hd hcd (fun M A' E' Q' h => hbind M A' E' Q' h) rl hll hk hdb hnd hloc hcn hnf hbody hco hgen

/-- a closure walked; its parameters are plain -/
theorem callClos {C : Cx} {B : Heap} {S : List Addr} {V : List (Addr × List PV)} {k : Nat} {name qual : Str} {params : Arguments} {body : List Stmt} {scope : Scope} {cl : List (Str × Addr)} {dV kV doc pm cdv ct : Value} {an : Option Addr} {fo : Obj} {f : Addr} {args : Args} {vs : List Value}
    {ps rest fr : List Str} {l fp : List PV} {A : Around} {s : Shared} {R : Result → Shared → Prop} (T : Ent C B S V s.heap) (rm : Room (k + 1) A)
    (ho : s.heap.get? f = some fo) (hd : fo.data = .func (fnX name qual params body scope cl dV kV doc pm an cdv ct)) (hcd : s.heap.CodeRec cdv qual)
    (hbind : BindsTo s (fnX name qual params body scope cl dV kV doc pm an cdv ct) args (ps.zip vs)) (rl : RelL S s.heap vs l)
    (hll : l.length = ps.length) (hk : scope.kind = .function)
    (hdb : ∀ x ∈ ps ++ rest ++ fr, (x == ("__debug__" : Str)) = false) (hnd : (ps ++ rest ++ fr).Nodup)
    (hloc : ∀ x ∈ ps ++ rest, scope.names.lookup x = some .local) (hcell : ∀ x ∈ scope.names, x.2 ≠ .cell)
    (hfr : ∀ (i : Nat) (x : Str), fr[i]? = some x → scope.names.lookup x = some .free)
    (hfp : ∀ (i : Nat) (x : Str) (p : PV), fr[i]? = some x → fp[i]? = some p → (x == ("__classdict__" : Str)) = false ∧ ∃ v c, cl.lookup x = some c ∧ s.heap.IsCell c (some v) ∧ Rel S s.heap v p)
    (hinj : ∀ x y c, cl.lookup x = some c → cl.lookup y = some c → x = y) (hfrs : ∀ x c, cl.lookup x = some c → c ≠ 68 ∧ c ≠ 75 ∧ ∃ o, B.get? c = some o)
    (hbody : ∀ (A' : Around) (s' : Shared) (L : Addr), Room k A' → Fm (envX qual scope L f cdv cl) (ps ++ rest ++ fr) →
      FS C B (L :: S) V (envX qual scope L f cdv cl) (ps ++ rest ++ fr) ((l.map some ++ rest.map fun _ => none) ++ fp.map some) s'.heap → (∃ h tk, s' = { s with heap := h, toks := tk } ∧ s.heap.StaysIn h) →
      X C A' (envX qual scope L f cdv cl) body (RetR R) (fun _ _ => False) s')
    (hco : scope.isCoroutine = false := by rfl) (hgen : scope.isGenerator = false := by rfl) : codeAny (model PW C.w) A (.call (.ref f) args) R s := by
  have hlen : vs.length = ps.length := rl.length.trans hll
  have hnl : C.B₀.NoLimit := C.nl
  have hlim : s.heap.NoLimit := hnl.keeps fun b o e => T.bs.top b o e
  refine codeAny_call_def (fd := fnX name qual params body scope cl dV kV doc pm an cdv ct) (body := body) (binds := ps.zip vs) (by have := rm.depth; show A.depth < 1000; (first | lia | omega)) ho hd
    hlim hcd rfl hbind hcell (fun y hy => hloc _ (List.mem_append_left _ (List.of_mem_zip hy).1)) (fun h₁ hns hk₁ => ?_) hco hgen hk
  let L := s.heap.objs.size
  have hL : s.heap.get? L = none := Heap.get?_none_of_le (Nat.le_refl _)
  have hnew : ∀ a ∈ L :: S, a ∉ S → s.heap.get? a = none := fun a ha hn => by
    rcases List.mem_cons.mp ha with rfl | ha
    · exact hL
    · exact absurd ha hn
  have g : Gr s.heap h₁ := .of hk₁
  have noB : ∀ a, s.heap.get? a = none → B.get? a = none := fun a ha => by
    cases e : B.get? a with
    | none => rfl
    | some o =>
      have n68 : a ≠ 68 := fun q => by obtain ⟨ps, e⟩ := T.bs.tabs.a.data; rw [← q, ha] at e; cases e
      have n75 : a ≠ 75 := fun q => by obtain ⟨ps, e⟩ := T.bs.tabs.b.data; rw [← q, ha] at e; cases e
      have := T.base.k a o n68 n75 e; rw [ha] at this; cases this
  have M : Fm (envX qual scope L f cdv cl) (ps ++ rest ++ fr) := ⟨hk, rfl, rfl, hdb, fun x hx => by
    rcases List.mem_append.mp hx with hx | hx
    · exact .inl (hloc x hx)
    · obtain ⟨i, hi⟩ := List.getElem?_of_mem hx
      exact .inr (.inr (hfr i x hi)), hnd⟩
  have hpn : ps.Nodup := (List.nodup_append.mp (List.nodup_append.mp hnd).1).1
  have F : FS C B (L :: S) V (envX qual scope L f cdv cl) (ps ++ rest ++ fr) ((l.map some ++ rest.map fun _ => none) ++ fp.map some) h₁ := by
    refine ⟨⟨⟨fun b o e => hk₁ b o (T.bs.top b o e), fun a ha => ?_, T.bs.tabs.stays hk₁⟩, fun i y q hi hq => ?_⟩, T.b0, T.base.trans g, noB _ hL, fun q hq => ?_, T.vnd, .head _, ⟨_, hns⟩, fun y c hy _ => ?_, hinj, fun y c _ hc => hfrs y c hc⟩
    · rcases List.mem_cons.mp ha with rfl | ha
      · obtain ⟨o, _, _, e, _⟩ := hns; exact ⟨o, e⟩
      · obtain ⟨o, e⟩ := T.bs.off a ha; exact ⟨o, hk₁ _ _ e⟩
    · by_cases hil : i < (ps ++ rest).length
      · rw [List.getElem?_append_left (by simp at hil ⊢; (first | lia | omega))] at hq
        rw [List.getElem?_append_left hil] at hi
        have hil : i < l.length := by
          refine Nat.lt_of_not_le fun hle => ?_
          rw [List.getElem?_append_right (by simpa using hle)] at hq
          simp at hq
        rw [List.getElem?_append_left (by simpa using hil), List.getElem?_map] at hq
        obtain ⟨q', hq', e⟩ := Option.map_eq_some_iff.mp hq
        cases e
        obtain ⟨v, hv, r⟩ := rl.get hq'
        have hi' : ps[i]? = some y := by rw [List.getElem?_append_left (by (first | lia | omega))] at hi; exact hi
        exact ⟨v, .loc _ (hloc y (List.mem_of_getElem? hi)) hns (lookup_zip_rev hpn hlen hi' hv), (r.more hnew).gr g⟩
      · rw [List.getElem?_append_right (by (first | lia | omega))] at hi
        rw [List.getElem?_append_right (by simp at hil ⊢; (first | lia | omega))] at hq
        rw [List.getElem?_map] at hq
        obtain ⟨q', hq', e⟩ := Option.map_eq_some_iff.mp hq
        cases e
        have hii : i - (l.map some ++ rest.map fun _ => (none : Option PV)).length = i - (ps ++ rest).length := by simp [hll]
        rw [hii] at hq'
        obtain ⟨h1, v, c, h2, h3, h4⟩ := hfp _ y _ hi hq'
        exact ⟨v, .free c (hfr _ y hi) h1 h2 (isCell_at h3 fun o e => hk₁ _ _ e), (h4.more hnew).gr g⟩
    · obtain ⟨a, b, c⟩ := T.vol q hq
      exact ⟨.tail _ a, b, (c.more hnew).gr T.bs.tabs g⟩
    · exact absurd rfl (hcell _ (mem_of_lookup hy))
  exact wpAny_mono (hbody (A.deeper _) { s with heap := h₁, toks := s.toks + (ps.zip vs).length } L rm.deeper M F ⟨h₁, _, rfl, hk₁⟩).out (fun fl s' h => h) fun _ _ e => e.elim

/-- a def of plain parameters and no effect, walked -/
theorem CallR.ofBody {C : Cx} {S : List Addr} {k : Nat} {name qual : Str} {params : Arguments} {body : List Stmt} {scope : Scope} {dV kV doc pm cdv ct oc : Value} {an od : Option Addr} {osl : Array (Option Value)} {f : Addr}
    (ps rest : List Str) {l : List PV} {p : PV}
    (ho : C.K.lookup f = some ⟨oc, od, .func (fnOf name qual params body scope dV kV doc pm an cdv ct), osl⟩) (hcd : codeIn C.K cdv qual = true)
    (hbind : ∀ (s : Shared) (vs : List Value), vs.length = ps.length → BindsTo s (fnOf name qual params body scope dV kV doc pm an cdv ct) ⟨vs, []⟩ (ps.zip vs))
    (hll : l.length = ps.length) (hk : scope.kind = .function)
    (hdb : ∀ x ∈ ps ++ rest, (x == ("__debug__" : Str)) = false) (hnd : (ps ++ rest).Nodup)
    (hloc : ∀ n, ∀ x ∈ ps ++ rest, scope.names.lookup x = some .local ∨ (scope.names.lookup x = some .cell ∧ ((cellsFrom n scope.names []).lookup x).isSome = true))
    (hcn : ((cellsFrom 0 scope.names []).map (·.1)).Nodup) (hnf : ∀ x ∈ scope.names, x.2 ≠ .free)
    (hbody : ∀ (A : Around) (s : Shared) (B : Heap) (L : Addr) (S' : List Addr) (Q : Flow → Shared → Prop), Room k A → Fm (envOfC qual scope L f cdv) (ps ++ rest) → S' = (cellsFrom (L + 1) scope.names []).map (·.2) ++ L :: S →
      FS C B S' [] (envOfC qual scope L f cdv) (ps ++ rest) (l.map some ++ rest.map fun _ => none) s.heap →
      (∀ v h' tk', Gr B h' → Rel S h' v p → Q (.ret v) { s with heap := h', toks := tk' }) → X C A (envOfC qual scope L f cdv) body Q (fun _ _ => False) s)
    (hco : scope.isCoroutine = false := by rfl) (hgen : scope.isGenerator = false := by rfl) : CallR C S (k + 1) (.ref f) l p := ⟨fun A s Q E vs R B rl H => by
  have kin := kIn B.top
  refine wpAny_call (callBody (Ent.pure B) R (kin _ _ ho) rfl (codeRec_of kin hcd) (hbind s vs (rl.length.trans hll)) rl hll hk hdb hnd hloc hcn hnf (fun A' s' L S' R' M hS F hs => ?_) hco hgen)
  obtain ⟨h, tk, rfl⟩ := hs
  refine hbody A' _ s.heap L S' _ R' M hS F fun v h' tk' g r => ?_
  exact H v h' tk' g r⟩
end Mine
end

section
open PySem PySem.W PyProof.Rows PySem.Calls
namespace Mine

noncomputable def max3 (a b c : Int) : Int := if b > a then (if c > b then c else b) else (if c > a then c else a)
noncomputable def min3 (a b c : Int) : Int := if b < a then (if c < b then c else b) else (if c < a then c else a)
noncomputable def fgt (x y : UInt64) : Bool := Float64.cmp x y == some Ordering.gt
noncomputable def flt (x y : UInt64) : Bool := Float64.cmp x y == some Ordering.lt
noncomputable def fmax3 (a b c : UInt64) : UInt64 := if fgt b a then (if fgt c b then c else b) else (if fgt c a then c else a)
noncomputable def fmin3 (a b c : UInt64) : UInt64 := if flt b a then (if flt c b then c else b) else (if flt c a then c else a)

section
variable {prog : Program} {w : World} {A : Around} {E : Value → Shared → Prop} {s : Shared}

theorem best3 {a b c v : Value} {bt : Nat → Nat → Bool} (hP : (#[a, b, c] : Array Value)[argBest bt 2]? = some v) : v = if bt 1 0 = true then (if bt 2 1 = true then c else b) else (if bt 2 0 = true then c else a) := by
  have e1 : argBest bt 2 = if bt 2 (if bt 1 0 = true then 1 else 0) = true then 2 else (if bt 1 0 = true then 1 else 0) := rfl
  rw [e1] at hP
  by_cases h1 : bt 1 0 = true
  · rw [if_pos h1] at hP ⊢
    by_cases h2 : bt 2 1 = true
    · rw [if_pos h2] at hP ⊢; exact (Option.some.inj hP).symm
    · rw [if_neg h2] at hP ⊢; exact (Option.some.inj hP).symm
  · rw [if_neg h1] at hP ⊢
    by_cases h2 : bt 2 0 = true
    · rw [if_pos h2] at hP ⊢; exact (Option.some.inj hP).symm
    · rw [if_neg h2] at hP ⊢; exact (Option.some.inj hP).symm
theorem max_three_of {a b c : Value} {bt : Nat → Nat → Bool} {Q : Value → Shared → Prop} (hh : A.handled = none)
    (hc : CmpOf prog w A.in1 .Gt (fun i v => (#[a, b, c] : Array Value)[i]? = some v) bt)
    (h : ∀ h' tk, s.heap.StaysIn h' → Q (if bt 1 0 then (if bt 2 1 then c else b) else (if bt 2 0 then c else a)) { s with heap := h', toks := tk }) :
    wpAny (model prog w) A (call (.builtin "max") [a, b, c]) Q E s := by
  have hT : (s.heap.push { cls := .type "tuple", data := .seq #[a, b, c] }).IsTuple s.heap.objs.size #[a, b, c] := ⟨_, Heap.get?_push_size _ rfl, rfl, 0, rfl⟩
  with_reducible refine call_max_three (wpAny_pyIter_tuple hT ?_)
  have hsz : (s.heap.push { cls := .type "tuple", data := .seq #[a, b, c] }).objs.size = s.heap.objs.size + 1 := Heap.size_push ..
  refine ⟨_, [_, s.heap.objs.size], [_], _, _, _, bt, rfl, Walks.tuple (A := A.in1) hh _ s.heap.objs.size (by rw [hsz]; exact Nat.ne_of_lt (Nat.lt_succ_self _)) #[a, b, c],
    ⟨⟨_, Heap.get?_push_size _ rfl, rfl, rfl⟩, hT.push _⟩, fun d hd => ?_, by simp, hc, fun v h' tk hP hk => ?_⟩
  · show d < ((s.heap.push _).push _).objs.size
    rw [Heap.size_push, hsz]
    rcases List.mem_cons.mp hd with rfl | hd
    · rw [hsz]; exact Nat.lt_succ_self _
    · rcases List.mem_cons.mp hd with rfl | hd
      · exact Nat.lt_succ_of_lt (Nat.lt_succ_self _)
      · cases hd
  · have hold : s.heap.StaysIn h' := fun d o e => by
      refine hk d o (fun hm => ?_) (Heap.get?_push_of_some _ (Heap.get?_push_of_some _ e))
      rcases List.mem_cons.mp hm with e1 | hm
      · have := Heap.lt_size e; rw [e1, hsz] at this; exact Nat.lt_irrefl _ (Nat.lt_of_succ_lt this)
      · cases hm
    rw [best3 hP]; exact h h' tk hold
theorem min_three_of {a b c : Value} {bt : Nat → Nat → Bool} {Q : Value → Shared → Prop} (hh : A.handled = none)
    (hc : CmpOf prog w A.in1 .Lt (fun i v => (#[a, b, c] : Array Value)[i]? = some v) bt)
    (h : ∀ h' tk, s.heap.StaysIn h' → Q (if bt 1 0 then (if bt 2 1 then c else b) else (if bt 2 0 then c else a)) { s with heap := h', toks := tk }) :
    wpAny (model prog w) A (call (.builtin "min") [a, b, c]) Q E s := by
  have hT : (s.heap.push { cls := .type "tuple", data := .seq #[a, b, c] }).IsTuple s.heap.objs.size #[a, b, c] := ⟨_, Heap.get?_push_size _ rfl, rfl, 0, rfl⟩
  with_reducible refine call_min_three (wpAny_pyIter_tuple hT ?_)
  have hsz : (s.heap.push { cls := .type "tuple", data := .seq #[a, b, c] }).objs.size = s.heap.objs.size + 1 := Heap.size_push ..
  refine ⟨_, [_, s.heap.objs.size], [_], _, _, _, bt, rfl, Walks.tuple (A := A.in1) hh _ s.heap.objs.size (by rw [hsz]; exact Nat.ne_of_lt (Nat.lt_succ_self _)) #[a, b, c],
    ⟨⟨_, Heap.get?_push_size _ rfl, rfl, rfl⟩, hT.push _⟩, fun d hd => ?_, by simp, hc, fun v h' tk hP hk => ?_⟩
  · show d < ((s.heap.push _).push _).objs.size
    rw [Heap.size_push, hsz]
    rcases List.mem_cons.mp hd with rfl | hd
    · rw [hsz]; exact Nat.lt_succ_self _
    · rcases List.mem_cons.mp hd with rfl | hd
      · exact Nat.lt_succ_of_lt (Nat.lt_succ_self _)
      · cases hd
  · have hold : s.heap.StaysIn h' := fun d o e => by
      refine hk d o (fun hm => ?_) (Heap.get?_push_of_some _ (Heap.get?_push_of_some _ e))
      rcases List.mem_cons.mp hm with e1 | hm
      · have := Heap.lt_size e; rw [e1, hsz] at this; exact Nat.lt_irrefl _ (Nat.lt_of_succ_lt this)
      · cases hm
    rw [best3 hP]; exact h h' tk hold

/-- the number at a place of three -/
noncomputable def at3 {α : Type} (x y z : α) : Nat → α
  | 0 => x
  | 1 => y
  | _ => z
theorem at3_of {α : Type} {f : α → Tok → Value} {x y z : α} {t u q : Tok} {i : Nat} {v : Value} (h : (#[f x t, f y u, f z q] : Array Value)[i]? = some v) : ∃ t, v = f (at3 x y z i) t := by
  match i with
  | 0 => exact ⟨t, by simpa [at3] using h.symm⟩
  | 1 => exact ⟨u, by simpa [at3] using h.symm⟩
  | 2 => exact ⟨q, by simpa [at3] using h.symm⟩
  | i + 3 => simp at h

theorem cmp_fgt {x y z : UInt64} {t u q : Tok} : CmpOf prog w A .Gt (fun i v => (#[.float x t, .float y u, .float z q] : Array Value)[i]? = some v) (fun i j => fgt (at3 x y z i) (at3 x y z j)) := fun i j vi vj s Q E hi hj h => by
  obtain ⟨t, rfl⟩ := at3_of (f := Value.float) hi
  obtain ⟨u, rfl⟩ := at3_of (f := Value.float) hj
  show wpAny _ _ (compareOp .Gt _ _) _ _ _
  exact AutoFloatOps.gt_0 h
theorem cmp_flt {x y z : UInt64} {t u q : Tok} : CmpOf prog w A .Lt (fun i v => (#[.float x t, .float y u, .float z q] : Array Value)[i]? = some v) (fun i j => flt (at3 x y z i) (at3 x y z j)) := fun i j vi vj s Q E hi hj h => by
  obtain ⟨t, rfl⟩ := at3_of (f := Value.float) hi
  obtain ⟨u, rfl⟩ := at3_of (f := Value.float) hj
  show wpAny _ _ (compareOp .Lt _ _) _ _ _
  exact AutoFloatOps.lt_0 h
end

theorem RelL.ints3 {S : List Addr} {h : Heap} {vs : List Value} {x y z : Int} (r : RelL S h vs [.int x, .int y, .int z]) : ∃ t u q, vs = [.int x t, .int y u, .int z q] := by
  obtain ⟨a, b, c, rfl, ra, rb, rc⟩ := r.inv3
  obtain ⟨t, rfl⟩ := ra.inv
  obtain ⟨u, rfl⟩ := rb.inv
  obtain ⟨q, rfl⟩ := rc.inv
  exact ⟨t, u, q, rfl⟩
theorem RelL.ints2 {S : List Addr} {h : Heap} {vs : List Value} {x y : Int} (r : RelL S h vs [.int x, .int y]) : ∃ t u, vs = [.int x t, .int y u] := by
  obtain ⟨a, b, rfl, ra, rb⟩ := r.inv2
  obtain ⟨t, rfl⟩ := ra.inv
  obtain ⟨u, rfl⟩ := rb.inv
  exact ⟨t, u, rfl⟩
theorem RelL.flts3 {S : List Addr} {h : Heap} {vs : List Value} {x y z : UInt64} (r : RelL S h vs [.flt x, .flt y, .flt z]) : ∃ t u q, vs = [.float x t, .float y u, .float z q] := by
  obtain ⟨a, b, c, rfl, ra, rb, rc⟩ := r.inv3
  obtain ⟨t, rfl⟩ := ra.inv
  obtain ⟨u, rfl⟩ := rb.inv
  obtain ⟨q, rfl⟩ := rc.inv
  exact ⟨t, u, q, rfl⟩
theorem selF {S : List Addr} {h : Heap} {x y z : UInt64} {t u q : Tok} (b1 b2 b3 : Bool) : Rel S h (if b1 = true then (if b2 = true then .float z q else .float y u) else (if b3 = true then .float z q else .float x t)) (.flt (if b1 = true then (if b2 = true then z else y) else (if b3 = true then z else x))) := by
  cases b1
  · cases b3 <;> exact .flt _ _
  · cases b2 <;> exact .flt _ _
theorem sel2 {S : List Addr} {h : Heap} {x y : Int} {t u : Tok} (p : Prop) [Decidable p] : Rel S h (if p then .int y u else .int x t) (.int (if p then y else x)) := by split <;> exact .int _ _
theorem selI {S : List Addr} {h : Heap} {x y z : Int} {t u q : Tok} (p1 p2 p3 : Prop) [Decidable p1] [Decidable p2] [Decidable p3] : Rel S h (if p1 then (if p2 then .int z q else .int y u) else (if p3 then .int z q else .int x t)) (.int (if p1 then (if p2 then z else y) else (if p3 then z else x))) := by
  split <;> exact sel2 _
section
variable {C : Cx} {S : List Addr} {k : Nat}
theorem CallR.max_fff {x y z : UInt64} : CallR C S k (.builtin "max") [.flt x, .flt y, .flt z] (.flt (fmax3 x y z)) := ⟨fun A s Q E vs R B rl H => by
  obtain ⟨t, u, q, rfl⟩ := rl.flts3
  with_reducible refine max_three_of R.hh cmp_fgt fun h' tk st => ?_
  exact H _ h' tk (.of st) (selF _ _ _)⟩
theorem CallR.min_fff {x y z : UInt64} : CallR C S k (.builtin "min") [.flt x, .flt y, .flt z] (.flt (fmin3 x y z)) := ⟨fun A s Q E vs R B rl H => by
  obtain ⟨t, u, q, rfl⟩ := rl.flts3
  with_reducible refine min_three_of R.hh cmp_flt fun h' tk st => ?_
  exact H _ h' tk (.of st) (selF _ _ _)⟩
theorem CallR.max_iii {x y z : Int} : CallR C S k (.builtin "max") [.int x, .int y, .int z] (.int (max3 x y z)) := ⟨fun A s Q E vs R B rl H => by
  obtain ⟨t, u, q, rfl⟩ := rl.ints3
  with_reducible refine max_three_ints R.hh fun h' tk st => H _ h' tk (.of st) ?_
  exact selI _ _ _⟩
theorem CallR.min_iii {x y z : Int} : CallR C S k (.builtin "min") [.int x, .int y, .int z] (.int (min3 x y z)) := ⟨fun A s Q E vs R B rl H => by
  obtain ⟨t, u, q, rfl⟩ := rl.ints3
  with_reducible refine min_three_ints R.hh fun h' tk st => H _ h' tk (.of st) ?_
  exact selI _ _ _⟩
theorem CallR.max_ii {x y : Int} : CallR C S k (.builtin "max") [.int x, .int y] (.int (if y > x then y else x)) := ⟨fun A s Q E vs R B rl H => by
  obtain ⟨t, u, rfl⟩ := rl.ints2
  with_reducible refine max_two_ints R.hh fun h' tk st => H _ h' tk (.of st) ?_
  exact sel2 _⟩
theorem CallR.min_ii {x y : Int} : CallR C S k (.builtin "min") [.int x, .int y] (.int (if y < x then y else x)) := ⟨fun A s Q E vs R B rl H => by
  obtain ⟨t, u, rfl⟩ := rl.ints2
  with_reducible refine min_two_ints R.hh fun h' tk st => H _ h' tk (.of st) ?_
  exact sel2 _⟩
theorem items3e {x y z : Int} {t u q : Tok} : intItems #[(x, t), (y, u), (z, q)] = #[Value.int x t, Value.int y u, Value.int z q] := by simp [intItems]
theorem items3 {la : Addr} {h : Heap} {x y z : Int} {t u q : Tok} {n : Nat} (hl : IsL h la [.int x t, .int y u, .int z q].toArray n) : h.IsList la (intItems #[(x, t), (y, u), (z, q)]) := by
  rw [items3e]; exact ⟨_, hl, rfl, _, rfl⟩
theorem selD {S : List Addr} {h : Heap} {x y z : Int} {t u q : Tok} (p1 p2 p3 : Prop) [Decidable p1] [Decidable p2] [Decidable p3] : Rel S h (if decide p1 = true then (if decide p2 = true then .int z q else .int y u) else (if decide p3 = true then .int z q else .int x t)) (.int (if p1 then (if p2 then z else y) else (if p3 then z else x))) := by
  simp only [decide_eq_true_eq]; exact selI _ _ _
theorem CallR.max_l3 {x y z : Int} : CallR C S k (.builtin "max") [.lst [.int x, .int y, .int z]] (.int (max3 x y z)) := ⟨fun A s Q E vs R B rl H => by
  obtain ⟨v, rfl, r1⟩ := rl.inv1
  obtain ⟨la, us, n, rfl, hn, hl, r⟩ := r1.inv
  obtain ⟨t, u, q, rfl⟩ := r.ints3
  with_reducible refine max_intList R.hh (items3 hl) (by simp) fun v h' tk hv st => ?_
  refine H v h' tk (.of st) ?_
  have hv' : (#[Value.int x t, Value.int y u, Value.int z q] : Array Value)[argBest (fun i j => decide (numAt #[(x, t), (y, u), (z, q)] i > numAt #[(x, t), (y, u), (z, q)] j)) 2]? = some v := by
    rw [← items3e]; exact hv
  rw [best3 hv']
  exact selD (y > x) (z > y) (z > x)⟩
theorem CallR.min_l3 {x y z : Int} : CallR C S k (.builtin "min") [.lst [.int x, .int y, .int z]] (.int (min3 x y z)) := ⟨fun A s Q E vs R B rl H => by
  obtain ⟨v, rfl, r1⟩ := rl.inv1
  obtain ⟨la, us, n, rfl, hn, hl, r⟩ := r1.inv
  obtain ⟨t, u, q, rfl⟩ := r.ints3
  with_reducible refine min_intList R.hh (items3 hl) (by simp) fun v h' tk hv st => ?_
  refine H v h' tk (.of st) ?_
  have hv' : (#[Value.int x t, Value.int y u, Value.int z q] : Array Value)[argBest (fun i j => decide (numAt #[(x, t), (y, u), (z, q)] i < numAt #[(x, t), (y, u), (z, q)] j)) 2]? = some v := by
    rw [← items3e]; exact hv
  rw [best3 hv']
  exact selD (y < x) (z < y) (z < x)⟩
end
end Mine
end

section
open PySem PySem.W PyProof.Rows PySem.Calls
namespace Mine

theorem Rel.cast {S : List Addr} {h : Heap} {v : Value} {p q : PV} (r : Rel S h v p) (e : p = q) : Rel S h v q := e ▸ r

theorem IntsAre.relL {S : List Addr} {h : Heap} : ∀ {vs : List Value} {ns : List Int}, IntsAre vs ns → RelL S h vs (ns.map .int)
  | _, _, .nil => .nil
  | _, _, .cons n t r => .cons (.int n t) (IntsAre.relL r)

/-- the items a slice picks -/
noncomputable def pickL {α : Type} (l : List α) (lo hi st : Option Int) : List α :=
  (sliceRange (sliceBounds lo hi st l.length).1 (sliceBounds lo hi st l.length).2.1 (sliceBounds lo hi st l.length).2.2).filterMap (l[·]?)
theorem slicePick_pickL (vs : List Value) (lo hi st : Option Int) : slicePick vs.toArray lo hi st = (pickL vs lo hi st).toArray := by
  unfold slicePick pickL
  rw [List.size_toArray]
  congr 1
  congr 1
  funext i
  exact List.getElem?_toArray
theorem RelL.picks {S : List Addr} {h : Heap} {vs : List Value} {l : List PV} (r : RelL S h vs l) : ∀ is : List Nat, RelL S h (is.filterMap (vs[·]?)) (is.filterMap (l[·]?))
  | [] => .nil
  | i :: is => by
    have ih := r.picks is
    rw [List.filterMap_cons, List.filterMap_cons]
    cases e : l[i]? with
    | none =>
      have : vs[i]? = none := by rw [List.getElem?_eq_none_iff] at e ⊢; rw [r.length]; exact e
      rw [this]; exact ih
    | some p =>
      obtain ⟨v, hv, rv⟩ := r.get e
      rw [hv]; exact .cons rv ih
theorem RelL.pick {S : List Addr} {h : Heap} {vs : List Value} {l : List PV} (r : RelL S h vs l) (lo hi st : Option Int) : RelL S h (pickL vs lo hi st) (pickL l lo hi st) := by
  unfold pickL
  rw [r.length]
  exact r.picks _
theorem pickL_map {α β : Type} (f : α → β) (l : List α) (lo hi st : Option Int) : pickL (l.map f) lo hi st = (pickL l lo hi st).map f := by
  unfold pickL
  rw [List.length_map, List.map_filterMap]
  congr 1
  funext i
  exact List.getElem?_map ..
theorem pickL_length_le {α : Type} (l : List α) (lo hi st : Option Int) : (pickL l lo hi st).length ≤ l.length := by
  have h := slicePick_size_le (l.map (fun _ => Value.none)).toArray lo hi st
  rw [slicePick_pickL, List.size_toArray, List.size_toArray, pickL_map, List.length_map, List.length_map] at h
  exact h

noncomputable def idxL {α : Type} (l : List α) (i : Int) : Option α := (seqIndex? i l.length).bind (l[·]?)

section
variable {C : Cx} {S : List Addr} {env : Env} {nm : List Str} {ρ : List (Option PV)} {k : Nat}

theorem Ev.neg {x : PySem.Expr} {pos : Pos} {i : Int} (h : Ev C S env nm ρ k x (.int i)) : Ev C S env nm ρ k (.UnaryOp .USub x pos) (.int (-i)) := ⟨fun A s Q E R I H => by
  refine UnaryOp_ (h.run A s _ E R I fun v h₁ tk₁ g₁ r => ?_)
  obtain ⟨_, rfl⟩ := r.inv
  exact PyProof.Rows.neg_int (H _ _ _ g₁ (.int _ _))⟩

theorem Ev.inv {x : PySem.Expr} {pos : Pos} {i : Int} (h : Ev C S env nm ρ k x (.int i)) : Ev C S env nm ρ k (.UnaryOp .Invert x pos) (.int (-i - 1)) := ⟨fun A s Q E R I H => by
  refine UnaryOp_ (h.run A s _ E R I fun v h₁ tk₁ g₁ r => ?_)
  obtain ⟨_, rfl⟩ := r.inv
  exact PyProof.Rows.invert_int (H _ _ _ g₁ (.int _ _))⟩

structure ItemR (C : Cx) (S : List Addr) (k : Nat) (p q r : PV) : Prop where
  run : ∀ (A : Around) (s : Shared) (Q : Value → Shared → Prop) (E : Value → Shared → Prop) (v w : Value) (value slice : PySem.Expr), Room k A → Bs C S s.heap → Rel S s.heap v p → Rel S s.heap w q → Post S s r Q →
    (∀ o i, subscripted slice false o i = operate [o, i] (getItem o i)) → wpAny (model PW C.w) A (subscriptTail value slice v w) Q E s
theorem Ev.item {x y : PySem.Expr} {pos : Pos} {p q r : PV} (hx : Ev C S env nm ρ k x p) (hy : Ev C S env nm ρ k y q) (hr : ItemR C S k p q r)
    (hs : ∀ o i, subscripted y false o i = operate [o, i] (getItem o i) := by intro _ _; rfl) : Ev C S env nm ρ k (.Subscript x y pos) r := ⟨fun A s Q E R I H =>
  Subscript_ (hx.run A s _ E R I fun v h₁ tk₁ g₁ rv => hy.run A _ _ E R (I.gr g₁) fun w h₂ tk₂ g₂ rw =>
    hr.run A _ Q E v w x y R ((I.gr g₁).gr g₂).bs (rv.gr g₂) rw (H.gr (g₁.trans g₂)) hs)⟩
theorem ItemR.lst {l : List PV} {i : Int} {r : PV} (hi : idxL l i = some r) (h1 : -(2 ^ 63) ≤ i) (h2 : i < 2 ^ 63) : ItemR C S k (.lst l) (.int i) r := ⟨fun A s Q E v w x y R B rv rw H hs => by
  obtain ⟨a, vs, n, rfl, hn, ht, hl⟩ := rv.inv
  · skip
    obtain ⟨t, rfl⟩ := rw.inv
    · skip
      obtain ⟨j, hj, hr⟩ := Option.bind_eq_some_iff.mp hi
      obtain ⟨u, hu, ru⟩ := hl.get hr
      refine tail_any ht.isList.typeIs slot_list_getitem.lookup ?_ (hs _ _)
      rw [← hl.length] at hj
      by_cases h0 : i < 0
      · exact kde_getNeg ht.isList h0 h1 hj hu (H.now ru)
      · have h0 : 0 ≤ i := by (first | lia | omega)
        have : j = i.toNat := by
          unfold seqIndex? at hj
          simp only [show ¬ i < 0 by (first | lia | omega), if_false] at hj
          split at hj
          · exact (Option.some.inj hj).symm
          · cases hj
        subst this
        exact wpAny_getItem_list ht.isList h0 h2 (by rw [List.getElem?_toArray]; exact hu) (H.now ru)⟩
theorem ItemR.tup {l : List PV} {i : Int} {r : PV} (hi : idxL l i = some r) (h1 : -(2 ^ 63) ≤ i) (h2 : i < 2 ^ 63) : ItemR C S k (.tup l) (.int i) r := ⟨fun A s Q E v w x y R B rv rw H hs => by
  obtain ⟨a, vs, n, rfl, hn, ht, hl⟩ := rv.inv
  · skip
    obtain ⟨t, rfl⟩ := rw.inv
    · skip
      obtain ⟨j, hj, hr⟩ := Option.bind_eq_some_iff.mp hi
      obtain ⟨u, hu, ru⟩ := hl.get hr
      rw [← hl.length] at hj
      exact item_tupleT ⟨_, ht, rfl, _, rfl⟩ h1 h2 hj hu (H.now ru) (hs _ _)⟩

/-- a part of a slice -/
structure EvO (C : Cx) (S : List Addr) (env : Env) (nm : List Str) (ρ : List (Option PV)) (k : Nat) (e : Option PySem.Expr) (o : Option Int) : Prop where
  run : ∀ (A : Around) (s : Shared) (Q : Value → Shared → Prop) (E : Value → Shared → Prop), Room k A → Inv C S env nm ρ s.heap → (∀ v h' tk, Gr s.heap h' → IsPart v o → Q v { s with heap := h', toks := tk }) → wpAny (model PW C.w) A (evalPart e env) Q E s
theorem EvO.none : EvO C S env nm ρ k none none := ⟨fun A s Q E R I H => by rw [evalPart_none]; exact wpAny_pure (H _ s.heap s.toks Gr.rfl .none)⟩
theorem EvO.some {e : PySem.Expr} {i : Int} (h : Ev C S env nm ρ k e (.int i)) : EvO C S env nm ρ k (some e) (some i) := ⟨fun A s Q E R I H => by
  rw [evalPart_some]
  refine h.run A s _ E R I fun v h' tk g r => ?_
  obtain ⟨_, rfl⟩ := r.inv
  exact H _ _ _ g (.int _ _)⟩
structure SliceR (C : Cx) (S : List Addr) (k : Nat) (p : PV) (lo hi st : Option Int) (r : PV) : Prop where
  run : ∀ (A : Around) (s : Shared) (Q : Value → Shared → Prop) (E : Value → Shared → Prop) (v : Value) (sl : Addr) (vl vu vs : Value), Room k A → Bs C S s.heap → Rel S s.heap v p → s.heap.IsSliceOf sl vl vu vs → IsPart vl lo → IsPart vu hi → IsPart vs st → Post S s r Q →
    ∃ T id, s.TypeIs v T ∧ typeLookup (.type T) "__getitem__" = pure (some (.builtin id)) ∧ wpAny (model PW C.w) A (getItem v (.ref sl)) Q E s
theorem Ev.slice {x : PySem.Expr} {lo hi st : Option PySem.Expr} {pos sp : Pos} {p r : PV} {a b c : Option Int} (hx : Ev C S env nm ρ k x p) (ha : EvO C S env nm ρ k lo a) (hb : EvO C S env nm ρ k hi b) (hc : EvO C S env nm ρ k st c) (hr : SliceR C S k p a b c r) :
    Ev C S env nm ρ k (.Subscript x (.Slice lo hi st sp) pos) r := ⟨fun A s Q E R I H => by
  refine Subscript_ (hx.run A s _ E R I fun v h₁ tk₁ g₁ rv => wpAny_Slice (ha.run A _ _ E R (I.gr g₁) fun va h₂ tk₂ g₂ ia => hb.run A _ _ E R ((I.gr g₁).gr g₂) fun vb h₃ tk₃ g₃ ib =>
    hc.run A _ _ E R (((I.gr g₁).gr g₂).gr g₃) fun vc h₄ tk₄ g₄ ic => ?_))
  have g := ((g₂.trans g₃).trans g₄).trans (Gr.push (o := { cls := .type "slice", data := .fields #[va, vb, vc] }))
  obtain ⟨T, id, hT, hl, hw⟩ := hr.run A { s with heap := h₄.push { cls := .type "slice", data := .fields #[va, vb, vc] }, toks := tk₄ } Q E v h₄.objs.size va vb vc R ((I.gr g₁).gr g).bs (rv.gr g) (Heap.IsSliceOf.new _ _ _ _) ia ib ic (H.gr (g₁.trans g))
  cases st with
  | none => exact tail_any hT hl hw (ops := [.ref h₄.objs.size, v]) rfl
  | some e => exact tail_any hT hl hw (ops := [v, .ref h₄.objs.size]) rfl⟩
theorem SliceR.lst {l : List PV} {a b c : Option Int} (hc : c ≠ some 0) (hl : l.length ≤ sizeLine) : SliceR C S k (.lst l) a b c (.lst (pickL l a b c)) := ⟨fun A s Q E v sl va vb vc R B rv hs ia ib ic H => by
  obtain ⟨d, vs, n, rfl, hn, ht, hr⟩ := rv.inv
  · skip
    refine ⟨_, _, ht.isList.typeIs, slot_list_getitem.lookup, wpAny_getItem_list_slice ht.isList hs ia ib ic hc ?_ (by rw [List.size_toArray, hr.length]; exact hl)⟩
    rw [slicePick_pickL]
    exact H _ _ _ Gr.push (.lst B.new (Heap.get?_push_size _ rfl) ((hr.pick a b c).gr Gr.push))⟩
theorem SliceR.scr {l : List Int} {a b c : Option Int} (hc : c ≠ some 0) (hl : l.length ≤ sizeLine) : SliceR C S k (.scr l) a b c (.lst ((pickL l a b c).map .int)) := ⟨fun A s Q E v sl va vb vc R B rv hs ia ib ic H => by
  obtain ⟨d, vs, rfl, hn, ht, hr⟩ := rv.inv
  · skip
    have hr' := IntsAre.relL (S := S) (h := s.heap) hr
    refine ⟨_, _, ht.typeIs, slot_list_getitem.lookup, wpAny_getItem_list_slice ht hs ia ib ic hc ?_ (by rw [List.size_toArray, hr'.length, List.length_map]; exact hl)⟩
    rw [slicePick_pickL]
    refine H _ _ _ Gr.push (.lst B.new (Heap.get?_push_size _ rfl) ?_)
    rw [← pickL_map]
    exact (hr'.pick a b c).gr Gr.push⟩
end
end Mine
end

section
open PySem PySem.W PyProof.Rows PySem.Calls
namespace Mine

section
variable {C : Cx} {S : List Addr} {env : Env} {nm : List Str} {ρ : List (Option PV)} {k : Nat}

/-- a method of a built-in type, nothing handed over -/
structure Meth0 (C : Cx) (S : List Addr) (k : Nat) (name : Str) (p r : PV) : Prop where
  run : ∀ (A : Around) (s : Shared) (Q : Value → Shared → Prop) (E : Value → Shared → Prop) (v : Value) (pos : Pos), Room k A → Bs C S s.heap → Rel S s.heap v p → Post S s r Q → MethodOnS PW C.w A E name v pos [] Q s
theorem Ev.meth0 {o : PySem.Expr} {name : Str} {apos pos : Pos} {p r : PV} (ho : Ev C S env nm ρ k o p) (hm : Meth0 C S k name p r)
    (hbase : attributeBase o name env (eval o env) = eval o env := by rfl) (hline : (apos.endLine == pos.line) = true := by rfl) : Ev C S env nm ρ k (.Call (.Attribute o name apos) [] [] pos) r := ⟨fun A s Q E R I H =>
  Call_method0 hbase hline (ho.run A s _ E R I fun v h₁ tk₁ g₁ rv => hm.run A _ Q E v pos R (I.gr g₁).bs rv (H.gr g₁))⟩
theorem Meth0.bitlen {i : Int} : Meth0 C S k "bit_length" (.int i) (.int (Builtin.Int.intBits i)) := ⟨fun A s Q E v pos R B r H => by
  obtain ⟨t, rfl⟩ := r.inv
  · skip
    exact ⟨"int", "int.bit_length", F.plainAttrs_int, F.slot_int_bit_length, F.type_int_bit_length, typeIs_int _ _ _, (fun _ e => nomatch e),
      method0_gives F.slot_int_bit_length F.entry_int_bit_length (typeIs_int _ _ _) (F.args_int_bit_length_1 _) (AutoIntG2.int_bit_length_int_0 i t) (H.tok (.int _ _))⟩⟩

/-- a method of a built-in type, one thing handed over -/
structure Meth1 (C : Cx) (S : List Addr) (k : Nat) (name : Str) (p q r : PV) : Prop where
  run : ∀ (A : Around) (s : Shared) (Q : Value → Shared → Prop) (E : Value → Shared → Prop) (v : Value) (pos : Pos) (x : Sem Value), Room k A → Bs C S s.heap → Rel S s.heap v p →
    (∀ Q' : Value → Shared → Prop, Post S s q Q' → wpAny (model PW C.w) A x Q' E s) → Post S s r Q → MethodOnS PW C.w A E name v pos [(false, x)] Q s
theorem Ev.meth1 {o e : PySem.Expr} {name : Str} {apos pos : Pos} {p q r : PV} (ho : Ev C S env nm ρ k o p) (he : Ev C S env nm ρ k e q) (hm : Meth1 C S k name p q r)
    (hbase : attributeBase o name env (eval o env) = eval o env := by rfl) (hs : starEach [e] env = [(false, eval e env)] := by rfl) (hline : (apos.endLine == pos.line) = true := by rfl) : Ev C S env nm ρ k (.Call (.Attribute o name apos) [e] [] pos) r := ⟨fun A s Q E R I H =>
  Call_method1 hbase hs hline (ho.run A s _ E R I fun v h₁ tk₁ g₁ rv => hm.run A _ Q E v pos _ R (I.gr g₁).bs rv (fun Q' H' => he.run A _ Q' E R (I.gr g₁) H') (H.gr g₁))⟩
theorem index3_facts {x y z w : Int} {j : Nat} (hj : ([x, y, z] : List Int).findIdx? (· == w) = some j) : j < 3 ∧ (∀ u : Int, [x, y, z][j]? = some u → (u == w) = true) ∧ ∀ m, m < j → ∀ u : Int, [x, y, z][m]? = some u → (u == w) = false := by
  obtain ⟨hlt, h1, h2⟩ := List.findIdx?_eq_some_iff_getElem.mp hj
  refine ⟨hlt, fun u hu => ?_, fun m hm u hu => ?_⟩
  · obtain ⟨_, e⟩ := List.getElem?_eq_some_iff.mp hu; exact e ▸ h1
  · obtain ⟨_, e⟩ := List.getElem?_eq_some_iff.mp hu
    have := h2 m hm
    rw [e] at this
    cases hb : u == w with
    | true => exact absurd hb this
    | false => rfl
theorem at3i {x y z : Int} {tx ty tz : Tok} (m : Nat) (hm : m < (#[Value.int x tx, .int y ty, .int z tz] : Array Value).size) : ∃ u t, [x, y, z][m]? = some u ∧ (#[Value.int x tx, .int y ty, .int z tz] : Array Value)[m] = .int u t := by
  match m, hm with
  | 0, _ => exact ⟨x, tx, rfl, rfl⟩
  | 1, _ => exact ⟨y, ty, rfl, rfl⟩
  | 2, _ => exact ⟨z, tz, rfl, rfl⟩
  | m + 3, hm => exact absurd hm (Nat.not_lt.mpr (Nat.le_add_left 3 m))
theorem Meth1.index3 {x y z w : Int} {j : Nat} (hj : ([x, y, z] : List Int).findIdx? (· == w) = some j) : Meth1 C S k "index" (.lst [.int x, .int y, .int z]) (.int w) (.int j) := ⟨fun A s Q E v pos e R B r he H => by
  obtain ⟨a, vs, n, rfl, hn, ht, hl⟩ := r.inv
  obtain ⟨tx, ty, tz, rfl⟩ := hl.ints3
  refine ⟨"list", "list.index", F.plainAttrs_list, F.slot_list_index, F.type_list_index, ht.isList.typeIs, (fun b e => by cases e; exact ⟨_, ht, rfl⟩), P.index_list (he _ fun v h' tk g rv => ?_)⟩
  obtain ⟨tw, rfl⟩ := rv.inv
  have ne := B.tabs.ne ht (fun vs e => by cases e)
  obtain ⟨f1, f2, f3⟩ := index3_facts hj
  refine ⟨[Value.int x tx, .int y ty, .int z tz].toArray, n, fun u => (match u with | .int i _ => i == w | _ => false), j, f1, g.k _ _ ne.1 ne.2 ht, fun u hu => ?_, ?_, ?_, fun m hm hmj => ?_, H _ _ _ g (.int _ _)⟩
  · obtain ⟨m, hm, rfl⟩ := Array.getElem_of_mem hu
    obtain ⟨u, t, _, e2⟩ := at3i m hm
    rw [e2]; exact MeetsSeq.EqGives.int _ _ _ _
  · exact Int.lt_of_lt_of_le (Int.ofNat_lt.mpr f1) (by decide)
  · obtain ⟨u, t, e1, e2⟩ := at3i j f1
    rw [e2]; exact f2 u e1
  · obtain ⟨u, t, e1, e2⟩ := at3i m hm
    rw [e2]; exact f3 m hmj u e1⟩

/-- an attribute that an object holds -/
theorem Ev.gli {x : Str} {i : Int} {t : Tok} {pos : Pos} (M : Fm env nm) (g : Glb C x (.int i t)) (hx : env.kindOf x = some .globalImplicit) : Ev C S env nm ρ k (.Name x pos) (.int i) := ⟨fun A s Q E R I H =>
  (Ev.gl M g hx).run A s Q E R I fun v h' tk gr r => by obtain ⟨_, rfl⟩ := r.inv; exact H _ _ _ gr (.int _ _)⟩
end

section
variable {C : Cx} {A : Around} {B : Heap} {S : List Addr} {V : List (Addr × List PV)} {env : Env} {nm : List Str} {ρ : List (Option PV)} {k : Nat} {s : Shared} {Q : Flow → Shared → Prop} {E : Value → Shared → Prop}

/-- x.append(e) upon a list that may turn -/
theorem X.append {o e : PySem.Expr} {apos pos ep : Pos} {rest : List Stmt} {a : Addr} {l : List PV} {p : PV} (F : FS C B S ((a, l) :: V) env nm ρ s.heap) (R : Room k A) (ho : Ev C S env nm ρ k o (.raw (.ref a))) (he : Ev C S env nm ρ k e p) (hl : l.length ≤ sizeLine)
    (K : ∀ h' tk', FS C B S ((a, l ++ [p]) :: V) env nm ρ h' → X C A env rest Q E { s with heap := h', toks := tk' })
    (hbase : attributeBase o "append" env (eval o env) = eval o env := by rfl) (hse : starEach [e] env = [(false, eval e env)] := by rfl) (hline : (apos.endLine == pos.line) = true := by rfl)
    (hi : interactive env = false := by rfl) (hs : swapsWith (.Call (.Attribute o "append" apos) [e] [] pos) none ep.line env = pure false := by rfl) :
    X C A env (.Expr (.Call (.Attribute o "append" apos) [e] [] pos) ep :: rest) Q E s :=
  ⟨wpAny_execs_cons (wpAny_Expr_any (Call_method1 hbase hse hline (ho.run A s _ E R F.inv fun v h₁ tk₁ g₁ rv => by
    obtain ⟨_, rfl⟩ := rv.inv
    have F₁ := F.gr g₁
    refine ⟨"list", "list.append", PySem.F.plainAttrs_list, PySem.F.slot_list_append, PySem.F.type_list_append, ?_, ?_, P.append_list (he.run A _ _ E R F₁.inv fun v h₂ tk₂ g₂ rv => ?_)⟩
    · obtain ⟨_, _, vs, n, ht, _⟩ := F₁.vol _ (.head _); exact ht.isList.typeIs
    · intro b e; cases e; obtain ⟨_, _, vs, n, ht, _⟩ := F₁.vol _ (.head _); exact ⟨_, ht, rfl⟩
    have F₂ := F₁.gr g₂
    obtain ⟨hS, hB, vs, n, ht, rl⟩ := F₂.vol _ (.head _)
    refine ⟨_, n, by rw [List.size_toArray, rl.length]; exact hl, ht, ?_⟩
    have hs := Heap.SameBut.update h₂ a (Obj.mapSeq fun xs => xs.push v)
    have g : GrB a h₂ (h₂.update a (Obj.mapSeq fun xs => xs.push v)) := .of hs fun o ws e q => by rw [ht] at e; cases e; cases q
    have kp : Kp S h₂ (h₂.update a (Obj.mapSeq fun xs => xs.push v)) := fun b o hb e => (hs.2 b fun q => (DD.ne hb).2.2 (q ▸ hS)).trans e
    exact (K _ tk₂ (F₂.turn g ⟨vs ++ [v], _, by have := ht.update (fun xs => xs.push v); simpa using this, (rl.append (.cons rv .nil)).kp kp⟩)).out)) hi hs)⟩
/-- x.reverse() upon a list that may turn -/
theorem X.reverse {o : PySem.Expr} {apos pos ep : Pos} {rest : List Stmt} {a : Addr} {l : List PV} (F : FS C B S ((a, l) :: V) env nm ρ s.heap) (R : Room k A) (ho : Ev C S env nm ρ k o (.raw (.ref a))) (hl : l.length ≤ sizeLine)
    (K : ∀ h' tk', FS C B S ((a, l.reverse) :: V) env nm ρ h' → X C A env rest Q E { s with heap := h', toks := tk' })
    (hbase : attributeBase o "reverse" env (eval o env) = eval o env := by rfl) (hline : (apos.endLine == pos.line) = true := by rfl)
    (hi : interactive env = false := by rfl) (hs : swapsWith (.Call (.Attribute o "reverse" apos) [] [] pos) none ep.line env = pure false := by rfl) :
    X C A env (.Expr (.Call (.Attribute o "reverse" apos) [] [] pos) ep :: rest) Q E s :=
  ⟨wpAny_execs_cons (wpAny_Expr_any (Call_method0 hbase hline (ho.run A s _ E R F.inv fun v h₁ tk₁ g₁ rv => by
    obtain ⟨_, rfl⟩ := rv.inv
    have F₁ := F.gr g₁
    obtain ⟨hS, hB, vs, n, ht, rl⟩ := F₁.vol _ (.head _)
    refine ⟨"list", "list.reverse", PySem.F.plainAttrs_list, PySem.F.slot_list_reverse, PySem.F.type_list_reverse, ht.isList.typeIs, (fun b e => by cases e; exact ⟨_, ht, rfl⟩), P.reverse_list ht ?_ (by rw [List.size_toArray, rl.length]; exact hl)⟩
    have hs := Heap.SameBut.update h₁ a (Obj.mapSeq fun xs => xs.reverse)
    have g : GrB a h₁ (h₁.update a (Obj.mapSeq fun xs => xs.reverse)) := .of hs fun o ws e q => by rw [ht] at e; cases e; cases q
    have kp : Kp S h₁ (h₁.update a (Obj.mapSeq fun xs => xs.reverse)) := fun b o hb e => (hs.2 b fun q => (DD.ne hb).2.2 (q ▸ hS)).trans e
    exact (K _ tk₁ (F₁.turn g ⟨vs.reverse, _, by have := ht.update (fun xs => xs.reverse); simpa using this, rl.reverse.kp kp⟩)).out)) hi hs)⟩
/-- an expression statement -/
theorem X.expr {e : PySem.Expr} {pos : Pos} {rest : List Stmt} {p : PV} (F : FS C B S V env nm ρ s.heap) (R : Room k A) (he : Ev C S env nm ρ k e p)
    (K : ∀ h' tk', FS C B S V env nm ρ h' → X C A env rest Q E { s with heap := h', toks := tk' })
    (hi : interactive env = false := by rfl) (hs : swapsWith e none pos.line env = pure false := by rfl) : X C A env (.Expr e pos :: rest) Q E s :=
  ⟨wpAny_execs_cons (wpAny_Expr_any (he.run A s _ E R F.inv fun v h₁ tk₁ g₁ rv => (K h₁ tk₁ (F.gr g₁)).out) hi hs)⟩
/-- a written list whose items may turn -/
theorem X.newlist {es : List PySem.Expr} {lp : Pos} {x : Str} {px pos : Pos} {rest : List Stmt} {l : List PV} {ρ' : Addr → List (Option PV)} (F : FS C B S V env nm ρ s.heap) (M : Fm env nm) (R : Room k A) (he : EvL C S env nm ρ k lp es l) (hl : l.length ≤ sizeLine)
    (st : ∀ a, SetAt nm ρ x (.raw (.ref a)) (ρ' a))
    (K : ∀ a h' tk', a ∉ S → FS C B (a :: S) ((a, l) :: V) env nm (ρ' a) h' → X C A env rest Q E { s with heap := h', toks := tk' })
    (hs : swapsWith (.List es lp) (some (.Name x px)) pos.line env = pure false := by rfl) (hf : (env.kindOf x == some .free) = false := by kernel_rfl) : X C A env (.Assign [.Name x px] (.List es lp) pos :: rest) Q E s :=
  ⟨wpAny_execs_cons (wpAny_Assign_Name (List_ (he.run A s _ E R F.inv fun vs h₁ tk₁ g₁ rl => by
    refine wpAny_newObj_type ?_ (by show vs.toArray.size ≤ sizeLine; rw [List.size_toArray, rl.length]; exact hl)
    have F₁ := F.gr g₁
    have hnew : h₁.get? h₁.objs.size = none := Heap.get?_none_of_le (Nat.le_refl _)
    have hnS := F₁.bs.new
    have hm : ∀ a ∈ h₁.objs.size :: S, a ∉ S → h₁.get? a = none := fun a ha hn => by
      rcases List.mem_cons.mp ha with rfl | ha
      · exact hnew
      · exact absurd ha hn
    have hBn : B.get? h₁.objs.size = none := by
      cases e : B.get? h₁.objs.size with
      | none => rfl
      | some o => have := F₁.base.k _ o (DD.ne hnS).1 (DD.ne hnS).2.1 e; rw [hnew] at this; cases this
    have g : Gr h₁ (h₁.push { cls := .type "list", data := .seq vs.toArray }) := Gr.push
    have F₂ : FS C B (h₁.objs.size :: S) ((h₁.objs.size, l) :: V) env nm ρ (h₁.push { cls := .type "list", data := .seq vs.toArray }) := by
      refine ⟨⟨⟨C.in F₁.bs.top g, fun a ha => ?_, g.tab F₁.tabs⟩, fun i y p hi hp => ?_⟩, F₁.b0, F₁.base.trans g, F₁.bl, fun q hq => ?_, ?_, .tail _ F₁.ls, ?_, fun y c a b => ?_, F₁.inj, F₁.frs⟩
      · rcases List.mem_cons.mp ha with rfl | ha
        · exact ⟨_, Heap.get?_push_size _ rfl⟩
        · exact (F₁.gr g).bs.off a ha
      · obtain ⟨v, n, r⟩ := F₁.inv.names i y p hi hp
        exact ⟨v, n.gr F₁.tabs g, (r.more hm).gr g⟩
      · rcases List.mem_cons.mp hq with rfl | hq
        · exact ⟨.head _, hBn, vs, 0, Heap.get?_push_size _ rfl, (rl.more hm).gr g⟩
        · obtain ⟨a, b, c⟩ := F₁.vol q hq
          exact ⟨.tail _ a, b, (c.more hm).gr F₁.tabs g⟩
      · rw [List.map_cons, List.nodup_cons]
        refine ⟨fun hq => ?_, F₁.vnd⟩
        obtain ⟨q, hq, e⟩ := List.mem_map.mp hq
        obtain ⟨a, _, _⟩ := F₁.vol q hq
        exact (DD.ne hnS).2.2 ((show q.1 = h₁.objs.size from e) ▸ a)
      · obtain ⟨m, hm⟩ := F₁.loc; exact ⟨m, ns_gr F₁.tabs g hm⟩
      · obtain ⟨d, e, v, f⟩ := F₁.cls y c a b; exact ⟨.tail _ d, e, v, cell_gr F₁.tabs g f⟩
    exact wp_store F₂ M (st _) (.raw _) hf fun h'' tk'' _ F' => (K _ h'' tk'' (DD.ne hnS).2.2 F').out)) hs)⟩
end
end Mine
end

section
open PySem PySem.W PyProof.Rows PySem.Calls
namespace Mine
theorem wpAny_toks1 {α : Type} {M : Model} {A : Around} {s : Shared} {m : Sem α} {Q : α → Shared → Prop} {E : Value → Shared → Prop} {n : Nat} (hn : n ≤ s.toks) (h : wpAny M A m (fun a s' => n ≤ s'.toks → Q a s') E s) : wpAny M A m Q E s :=
  wpAny_with_toks hn (wpAny_mono h (fun _ _ q => q) fun _ _ e _ => e)

noncomputable abbrev Off (wr : List Addr) (h h' : Heap) : Prop := ∀ b o, b ∉ wr → h.get? b = some o → h'.get? b = some o
/-- what lies at wr is no code record -/
noncomputable abbrev NoCode (wr : List Addr) (h : Heap) : Prop := ∀ b ∈ wr, b ≠ 68 ∧ b ≠ 75 ∧ ∃ o, h.get? b = some o ∧ ∀ vs x t, o.data = .fields vs → vs[1]? ≠ some (.str x t)
theorem TabOk.off {P l c : Nat} {q : Str} {h h' : Heap} {wr : List Addr} (t : TabOk P l c q h) (k : Off wr h h') (n : NoCode wr h) (hP : P ∉ wr) : TabOk P l c q h' := by
  rcases t with e | ⟨d, e, ⟨c₂, o, vs, t, e2, ho, hvs, hv⟩, n'⟩
  · exact .inl (k _ _ hP e)
  · cases e2
    refine .inr ⟨d, k _ _ hP e, ⟨_, o, vs, t, rfl, k _ _ (fun q => ?_) ho, hvs, hv⟩, n'⟩
    obtain ⟨_, _, o', ho', hn⟩ := n _ q
    rw [ho] at ho'; cases ho'
    exact hn _ _ _ hvs hv
theorem Tabs.off {h h' : Heap} {wr : List Addr} (t : Tabs h) (k : Off wr h h') (n : NoCode wr h) : Tabs h' := ⟨t.a.off k n fun q => (n _ q).1 rfl, t.b.off k n fun q => (n _ q).2.1 rfl⟩

/-- an iterator over its -/
structure Iter (C : Cx) (S : List Addr) (A : Around) (tgt : PySem.Expr) (its : List PV) (I : Addr) (fp wr : List Addr) (h₀ : Heap) (St : Nat → Heap → Prop) : Prop where
  sub : ∀ b ∈ wr, b ∈ fp
  ex : ∀ b ∈ fp, ∃ o, h₀.get? b = some o
  nc : ∀ i h, St i h → NoCode wr h
  frame : ∀ i h h', St i h → (∀ b ∈ fp, ∀ o, h.get? b = some o → h'.get? b = some o) → St i h'
  self : ∀ (s : Shared) (Q : Value → Shared → Prop) (E : Value → Shared → Prop), St 0 s.heap → Q (.ref I) s → wpAny (model PW C.w) A (pyIter (.ref I)) Q E s
  item : ∀ (i : Nat) (p : PV) (T : List Addr) (s : Shared) (Q : Option Value → Shared → Prop) (E : Value → Shared → Prop), its[i]? = some p → (∀ a ∈ wr ++ S, a ∈ T) → (∀ a ∈ T, a ∉ wr ++ S → h₀.get? a = none) → Kp T h₀ s.heap → (∀ b ∈ T, ∃ o, s.heap.get? b = some o) → Tabs s.heap → St i s.heap →
    (∀ v h₁ tk, Off wr s.heap h₁ → Rel T h₁ v p →
      (∀ (Q' : Unit → Shared → Prop) (E' : Value → Shared → Prop), (∀ h₂, Off wr h₁ h₂ → St (i + 1) h₂ → Q' () { s with heap := h₂, toks := tk }) → wpAny (model PW C.w) A (letOwnedTupleGo tgt (.ref I) v) Q' E' { s with heap := h₁, toks := tk }) →
      Q (some v) { s with heap := h₁, toks := tk }) → wpAny (model PW C.w) A (pyNext (.ref I)) Q E s
  done : ∀ (s : Shared) (Q : Option Value → Shared → Prop) (E : Value → Shared → Prop), St its.length s.heap → (∀ h' tk, Off wr s.heap h' → Q none { s with heap := h', toks := tk }) → wpAny (model PW C.w) A (pyNext (.ref I)) Q E s

/-- the value p walks over its -/
structure IterR (C : Cx) (S : List Addr) (k : Nat) (tgt : PySem.Expr) (p : PV) (its : List PV) : Prop where
  run : ∀ (A : Around) (s : Shared) (v : Value) (Q : Value → Shared → Prop) (E : Value → Shared → Prop), Room k A → Bs C S s.heap → Rel S s.heap v p →
    (∀ I fp wr St h' tk, Gr s.heap h' → Iter C S A tgt its I fp wr h' St → St 0 h' → (∀ b ∈ wr, s.heap.get? b = none) → (∀ b ∈ fp, b ∉ DD S) → Q (.ref I) { s with heap := h', toks := tk }) → wpAny (model PW C.w) A (pyIter v) Q E s

/-- the expression walks over its -/
structure EvIter (C : Cx) (S : List Addr) (env : Env) (nm : List Str) (ρ : List (Option PV)) (k : Nat) (tgt e : PySem.Expr) (its : List PV) : Prop where
  run : ∀ (A : Around) (s : Shared) (Q : Value → Shared → Prop) (E : Value → Shared → Prop), Room k A → Inv C S env nm ρ s.heap →
    (∀ I fp wr St h' tk, Gr s.heap h' → Iter C S A tgt its I fp wr h' St → St 0 h' → (∀ b ∈ wr, s.heap.get? b = none) → (∀ b ∈ fp, b ∉ DD S) → Q (.ref I) { s with heap := h', toks := tk }) →
    wpAny (model PW C.w) A (eval e env) (fun v s₁ => wpAny (model PW C.w) A (pyIter v) Q E s₁) E s
theorem gr_none {h h' : Heap} {b : Addr} (g : Gr h h') (n1 : b ≠ 68) (n2 : b ≠ 75) (e : h'.get? b = none) : h.get? b = none := by
  cases q : h.get? b with
  | none => rfl
  | some o => rw [g.k b o n1 n2 q] at e; cases e
theorem EvIter.of {C : Cx} {S : List Addr} {env : Env} {nm : List Str} {ρ : List (Option PV)} {k : Nat} {tgt e : PySem.Expr} {p : PV} {its : List PV} (he : Ev C S env nm ρ k e p) (hit : IterR C S k tgt p its) : EvIter C S env nm ρ k tgt e its := ⟨fun A s Q E R I H =>
  he.run A s _ E R I fun v h₁ tk₁ g₁ rv => hit.run A { s with heap := h₁, toks := tk₁ } v Q E R (I.gr g₁).bs rv fun J fp wr St h' tk g W st fresh off => H J fp wr St h' tk (g₁.trans g) W st
    (fun b hb => gr_none g₁ (W.nc _ _ st b hb).1 (W.nc _ _ st b hb).2.1 (fresh b hb)) off⟩

/-- p is bound to the target -/
structure Asg (C : Cx) (env : Env) (nm : List Str) (tgt : PySem.Expr) (p : PV) (ρ ρ' : List (Option PV)) : Prop where
  run : ∀ (A : Around) (B : Heap) (S : List Addr) (V : List (Addr × List PV)) (s : Shared) (v : Value) (Q : Unit → Shared → Prop) (E : Value → Shared → Prop), A.handled = none → Fm env nm → FS C B S V env nm ρ s.heap → Rel S s.heap v p →
    (∀ h' tk', FS C B S V env nm ρ' h' → Q () { s with heap := h', toks := tk' }) → wpAny (model PW C.w) A (assign tgt env v) Q E s
theorem Asg.name {C : Cx} {env : Env} {nm : List Str} {x : Str} {px : Pos} {p : PV} {ρ ρ' : List (Option PV)} (st : SetAt nm ρ x p ρ') (hf : (env.kindOf x == some .free) = false := by kernel_rfl) : Asg C env nm (.Name x px) p ρ ρ' := ⟨fun A B S V s v Q E hh M F r K =>
  PyProof.Rows.assign_Name (wp_store F M st r hf fun h' tk' _ F' => K h' tk' F')⟩
theorem Asg.tup {C : Cx} {env : Env} {nm : List Str} {elts : List PySem.Expr} {n : Nat} {tpos : Pos} {ps : List PV} {ρ ρ' : List (Option PV)} (ht : Tgt env nm elts ps ρ ρ') : Asg C env nm (.Tuple elts n tpos) (.tup ps) ρ ρ' := ⟨fun A B S V s v Q E hh M F r K => by
  obtain ⟨_, _, _, rfl, hn, ht', rl⟩ := r.inv
  · skip
    obtain ⟨a, b⟩ := tgt_assignEach (env := env) ht
    refine assign_Tuple_tuple hh ⟨_, ht', rfl, _, rfl⟩ (by rw [a, ht.len, List.size_toArray, rl.length]) b fun h'' he' => ?_
    have g' : Gr s.heap h'' := .of fun b o e => he' b o (Nat.ne_of_lt (Heap.lt_size e)) e
    exact wp_storeAll M (s := { s with heap := h'' }) (F.gr g') ht (rl.gr g') fun h3 tk3 F3 => K h3 tk3 F3⟩

section
variable {C : Cx} {A : Around} {B : Heap} {S : List Addr} {V : List (Addr × List PV)} {env : Env} {nm : List Str} {ρ : List (Option PV)} {k : Nat} {s : Shared} {Q : Flow → Shared → Prop} {E : Value → Shared → Prop}

theorem FS.noB {h : Heap} {a : Addr} (F : FS C B S V env nm ρ h) (ha : h.get? a = none) (h1 : a ≠ 68) (h2 : a ≠ 75) : B.get? a = none := by
  cases e : B.get? a with
  | none => rfl
  | some o => have := F.base.k a o h1 h2 e; rw [ha] at this; cases this

/-- more places that may turn, all of them new -/
theorem FS.grow {h h' : Heap} {W : List Addr} (F : FS C B S V env nm ρ h) (g : Gr h h') (hW : ∀ b ∈ W, h.get? b = none ∧ ∃ o, h'.get? b = some o) : FS C B (W ++ S) V env nm ρ h' := by
  have hm : ∀ a ∈ W ++ S, a ∉ S → h.get? a = none := fun a ha hn => by
    rcases List.mem_append.mp ha with ha | ha
    · exact (hW a ha).1
    · exact absurd ha hn
  refine ⟨⟨⟨C.in F.bs.top g, fun a ha => ?_, g.tab F.tabs⟩, fun i y p hi hp => ?_⟩, F.b0, F.base.trans g, F.bl, fun q hq => ?_, F.vnd, List.mem_append_right _ F.ls, ?_, fun y c a b => ?_, F.inj, F.frs⟩
  · rcases List.mem_append.mp ha with ha | ha
    · exact (hW a ha).2
    · exact (F.gr g).bs.off a ha
  · obtain ⟨v, n, r⟩ := F.inv.names i y p hi hp
    exact ⟨v, n.gr F.tabs g, (r.more hm).gr g⟩
  · obtain ⟨a, b, c⟩ := F.vol q hq
    exact ⟨List.mem_append_right _ a, b, (c.more hm).gr F.tabs g⟩
  · obtain ⟨m, hm⟩ := F.loc; exact ⟨m, ns_gr F.tabs g hm⟩
  · obtain ⟨d, e, v, f⟩ := F.cls y c a b; exact ⟨List.mem_append_right _ d, e, v, cell_gr F.tabs g f⟩

/-- the places at wr are overwritten, and fewer places count as turning -/
theorem FS.wrs {S' wr : List Addr} {h h' : Heap} (F : FS C B S V env nm ρ h) (kk : Off wr h h') (n : NoCode wr h) (hw : ∀ b ∈ wr, b ∈ S ∧ B.get? b = none) (hl : env.locals ∉ wr)
    (hc : ∀ x c, env.kindOf x = some .cell → env.cells.lookup x = some c → c ∉ wr ∧ c ∈ S') (hv : ∀ q ∈ V, q.1 ∉ wr ∧ q.1 ∈ S') (hs : ∀ b ∈ S', b ∈ S) (hoff : ∀ b ∈ S', b ∈ wr → ∃ o, h'.get? b = some o) (hls : env.locals ∈ S') : FS C B S' V env nm ρ h' := by
  have kp : Kp S h h' := fun b o hb e => kk b o (fun q => (DD.ne hb).2.2 (hw b q).1) e
  have kB : Gr B h' := ⟨fun b o n m e => kk b o (fun q => by rw [(hw b q).2] at e; cases e) (F.base.k b o n m e), fun _ => F.tabs.off kk n⟩
  refine ⟨⟨⟨C.in F.b0 kB, fun a ha => ?_, F.tabs.off kk n⟩, fun i y p hi hp => ?_⟩, F.b0, kB, F.bl, fun q hq => ?_, F.vnd, hls, ?_, fun y c a b => ?_, F.inj, F.frs⟩
  · by_cases q : a ∈ wr
    · exact hoff a ha q
    · obtain ⟨o, e⟩ := F.bs.off a (hs a ha); exact ⟨o, kk _ _ q e⟩
  · obtain ⟨v, m, r⟩ := F.inv.names i y p hi hp
    refine ⟨v, ?_, (r.kp kp).less hs⟩
    cases m with
    | loc m a b c => exact .loc m a (ns_at b fun o e => kk _ o hl e) c
    | cell c a b d => exact .cell c a b (isCell_at d fun o e => kk _ o (hc y c a b).1 e)
    | free c a z b d =>
      refine .free c a z b (isCell_at d fun o e => kk _ o (fun q => ?_) e)
      obtain ⟨_, _, o, e⟩ := F.frs y c a b
      rw [(hw c q).2] at e; cases e
  · obtain ⟨a, b, vs, n, c, d⟩ := F.vol q hq
    exact ⟨(hv q hq).2, b, vs, n, kk _ _ (hv q hq).1 c, (d.kp kp).less hs⟩
  · obtain ⟨m, hm⟩ := F.loc; exact ⟨m, ns_at hm fun o e => kk _ o hl e⟩
  · obtain ⟨d, e, v, f⟩ := F.cls y c a b; exact ⟨(hc y c a b).2, e, v, isCell_at f fun o e => kk _ o (hc y c a b).1 e⟩

/-- the frame's own places -/
noncomputable def ownAt (env : Env) (V : List (Addr × List PV)) : List Addr := env.locals :: ((env.cells.filter fun q => env.kindOf q.1 == some .cell).map (·.2) ++ V.map (·.1))
theorem mem_of_lookup' {x : Str} {c : Addr} {l : List (Str × Addr)} (h : l.lookup x = some c) : (x, c) ∈ l := mem_of_lookup h
theorem own_cell {x : Str} {c : Addr} (a : env.kindOf x = some .cell) (b : env.cells.lookup x = some c) : c ∈ ownAt env V :=
  .tail _ (List.mem_append_left _ (List.mem_map.mpr ⟨(x, c), List.mem_filter.mpr ⟨mem_of_lookup b, by simp [a]⟩, rfl⟩))
theorem own_vol {q : Addr × List PV} (h : q ∈ V) : q.1 ∈ ownAt env V := .tail _ (List.mem_append_right _ (List.mem_map_of_mem h))
/-- what is not the frame's own is laid down -/
theorem FS.rebase {h : Heap} (F : FS C B S V env nm ρ h) (hcd : ∀ q ∈ env.cells, env.kindOf q.1 = some .cell → env.cells.lookup q.1 = some q.2) : (∀ b ∈ ownAt env V, b ∈ S ∧ B.get? b = none) ∧ FS C (hideAll h (ownAt env V)) S V env nm ρ h := by
  have own : ∀ b ∈ ownAt env V, b ∈ S ∧ B.get? b = none := fun b hb => by
    rcases List.mem_cons.mp hb with rfl | hb
    · exact ⟨F.ls, F.bl⟩
    · rcases List.mem_append.mp hb with hb | hb
      · obtain ⟨⟨x, c⟩, hm, rfl⟩ := List.mem_map.mp hb
        obtain ⟨hm, hk⟩ := List.mem_filter.mp hm
        have hk : env.kindOf x = some .cell := by simpa using hk
        obtain ⟨d, e, _⟩ := F.cls x c hk (hcd _ hm hk)
        exact ⟨d, e⟩
      · obtain ⟨q, hq, rfl⟩ := List.mem_map.mp hb
        obtain ⟨a, b, _⟩ := F.vol q hq
        exact ⟨a, b⟩
  refine ⟨own, F.inv, fun b o e => ?_, ⟨fun b o _ _ e => of_hideAll _ e, fun _ => F.tabs⟩, hideAll_none _ (.head _), fun q hq => ?_, F.vnd, F.ls, F.loc, fun y c a b => ?_, F.inj, fun y c a b => ?_⟩
  · have e' := F.b0 b o e
    exact hideAll_get _ (F.bs.top b o e) fun q => by rw [(own b q).2] at e'; cases e'
  · obtain ⟨a, b, c⟩ := F.vol q hq
    exact ⟨a, hideAll_none _ (own_vol hq), c⟩
  · obtain ⟨d, e, v, f⟩ := F.cls y c a b
    exact ⟨d, hideAll_none _ (own_cell a b), v, f⟩
  · obtain ⟨n1, n2, o, e⟩ := F.frs y c a b
    exact ⟨n1, n2, o, hideAll_get _ (F.base.k c o n1 n2 e) fun q => by rw [(own c q).2] at e; cases e⟩
/-- back to what stood first -/
theorem FS.unbase {B₁ : Heap} {V' : List (Addr × List PV)} {ρ' : List (Option PV)} {h h' : Heap} (F : FS C B S V env nm ρ h) (F' : FS C B₁ S V' env nm ρ' h') (g : Gr B h') (hV : V'.map (·.1) = V.map (·.1)) : FS C B S V' env nm ρ' h' :=
  ⟨F'.inv, F.b0, g, F.bl, fun q hq => by
    obtain ⟨a, _, c⟩ := F'.vol q hq
    have hm : q.1 ∈ V.map (·.1) := by rw [← hV]; exact List.mem_map_of_mem (f := (·.1)) hq
    obtain ⟨q', hq', e⟩ := List.mem_map.mp hm
    exact ⟨a, (show q'.1 = q.1 from e) ▸ (F.vol q' hq').2.1, c⟩, F'.vnd, F'.ls, F'.loc, fun y c a b => by
    obtain ⟨d, _, v, f⟩ := F'.cls y c a b
    obtain ⟨_, e, _⟩ := F.cls y c a b
    exact ⟨d, e, v, f⟩, F.inj, F.frs⟩

/-- what a turn of a loop leaves -/
noncomputable def Turned (C : Cx) (B : Heap) (S : List Addr) (V : List (Addr × List PV)) (env : Env) (nm : List Str) (ρ : List (Option PV)) (s : Shared) (fl : Flow) (s' : Shared) : Prop := fl = .next ∧ ∃ h tk, s' = { s with heap := h, toks := tk } ∧ FS C B S V env nm ρ h

theorem X.forT {n₀ : Nat} {tgt iter : PySem.Expr} {body : List Stmt} {pos : Pos} {rest : List Stmt} {its : List PV} (Vf : Nat → List (Addr × List PV)) (ρf ρg : Nat → List (Option PV)) (hn : n₀ ≤ s.toks) (F : FS C B S (Vf 0) env nm (ρf 0) s.heap) (M : Fm env nm) (R : Room k A)
    (he : EvIter C S env nm (ρf 0) k tgt iter its) (hV : ∀ i, (Vf i).map (·.1) = (Vf 0).map (·.1))
    (asg : ∀ i p, its[i]? = some p → Asg C env nm tgt p (ρf i) (ρg i))
    (turn : ∀ (i : Nat) (p : PV) (S' : List Addr) (B' : Heap) (s' : Shared) (E' : Value → Shared → Prop), its[i]? = some p → (∀ a ∈ S, a ∈ S') → FS C B' S' (Vf i) env nm (ρg i) s'.heap → n₀ ≤ s'.toks → X C A env body (Turned C B' S' (Vf (i + 1)) env nm (ρf (i + 1)) s') E' s')
    (K : ∀ h' tk', FS C B S (Vf its.length) env nm (ρf its.length) h' → n₀ ≤ tk' → X C A env rest Q E { s with heap := h', toks := tk' })
    (hcd : ∀ q ∈ env.cells, env.kindOf q.1 = some .cell → env.cells.lookup q.1 = some q.2 := by intro q hq; cases hq)
    (hs : ∀ x, foldedSetIterable iter env x = pure x := by intro _; rfl) : X C A env (.For tgt iter body [] pos :: rest) Q E s := ⟨by
  refine wpAny_execs_cons (wpAny_For (wpAny_toks1 hn (wpAny_mono (he.run A s _ E R F.inv fun I fp wr St h₀ tk₀ g₀ W st0 hfresh hfp => ?_) (fun v s₁ h₁ hn₁ => wpAny_toks1 hn₁ h₁) fun _ _ e => e)) hs)
  intro (hn₀ : n₀ ≤ tk₀)
  have nc0 := W.nc 0 _ st0
  have FG : FS C B (wr ++ S) (Vf 0) env nm (ρf 0) h₀ := F.grow g₀ fun b hb => ⟨hfresh b hb, let ⟨_, _, o, e, _⟩ := nc0 b hb; ⟨o, e⟩⟩
  have wB : ∀ b ∈ wr, b ∈ wr ++ S ∧ B.get? b = none := fun b hb => ⟨List.mem_append_left _ hb, F.noB (hfresh b hb) (nc0 b hb).1 (nc0 b hb).2.1⟩
  have hfr : ∀ b ∈ wr, s.heap.get? b = none := hfresh
  have hlw : env.locals ∉ wr := fun q => by obtain ⟨m, o, es, ep, ho, _⟩ := F.loc; rw [hfr _ q] at ho; cases ho
  have hcw : ∀ x c, env.kindOf x = some .cell → env.cells.lookup x = some c → c ∉ wr ∧ c ∈ S := fun x c a b => by
    obtain ⟨d, _, v, o, ho, _⟩ := F.cls x c a b
    exact ⟨fun q => (by rw [hfr _ q] at ho; cases ho), d⟩
  have hvw0 : ∀ q ∈ Vf 0, q.1 ∉ wr ∧ q.1 ∈ S := fun q hq => by
    obtain ⟨a, _, vs, n, c, _⟩ := F.vol q hq
    exact ⟨fun m => (by have c : s.heap.get? q.1 = _ := c; rw [hfr _ m] at c; cases c), a⟩
  have hvw : ∀ i, ∀ q ∈ Vf i, q.1 ∉ wr ∧ q.1 ∈ S := fun i q hq => by
    have hm : q.1 ∈ (Vf 0).map (·.1) := by rw [← hV i]; exact List.mem_map_of_mem (f := (·.1)) hq
    obtain ⟨q', hq', e⟩ := List.mem_map.mp hm
    exact (show q'.1 = q.1 from e) ▸ hvw0 q' hq'
  refine codeAny_forLoop_any (fun n s' => ∃ i h tk, s' = { s with heap := h, toks := tk } ∧ i ≤ its.length ∧ n = its.length - i ∧ FS C B (wr ++ S) (Vf i) env nm (ρf i) h ∧ St i h ∧ Kp (wr ++ S) h₀ h ∧ n₀ ≤ tk) ?_ its.length
    ⟨0, h₀, tk₀, rfl, Nat.zero_le _, by simp, FG, st0, fun _ _ _ e => e, hn₀⟩
  rintro n s' ⟨i, h, tk, rfl, hi, rfl, Fi, sti, kpi, hnk⟩
  by_cases hlt : i < its.length
  · obtain ⟨p', hp'⟩ : ∃ p', its[i]? = some p' := ⟨its[i], by simp [hlt]⟩
    refine wpAny_with_toks (s := { s with heap := h, toks := tk }) (n := n₀) hnk ?_
    refine W.item i p' (wr ++ S) _ _ _ hp' (fun _ h => h) (fun a h n => absurd h n) kpi Fi.bs.off Fi.tabs sti fun v' h₁' tk₁' off₁ rv' go => fun (hn₁ : n₀ ≤ tk₁') => ?_
    refine go _ _ fun h₂ off₂ st₂ => ?_
    have off : Off wr h h₂ := fun b o hb e => off₂ b o hb (off₁ b o hb e)
    have F₂ : FS C B (wr ++ S) (Vf i) env nm (ρf i) h₂ := Fi.wrs off (W.nc _ _ sti) wB hlw (fun x c a b => ⟨(hcw x c a b).1, List.mem_append_right _ (hcw x c a b).2⟩) (fun q hq => ⟨(hvw i q hq).1, List.mem_append_right _ (hvw i q hq).2⟩)
      (fun _ h => h) (fun b _ hb => let ⟨_, _, o, e, _⟩ := W.nc _ _ st₂ b hb; ⟨o, e⟩) (List.mem_append_right _ F.ls)
    have rv₂ : Rel (wr ++ S) h₂ v' p' := rv'.kp fun b o hb e => off₂ b o (fun q => (DD.ne hb).2.2 (List.mem_append_left _ q)) e
    obtain ⟨own, F₃⟩ := F₂.rebase hcd
    have ownS : ∀ b ∈ ownAt env (Vf i), b ∈ S := fun b hb => by
      rcases List.mem_cons.mp hb with rfl | hb
      · exact F.ls
      · rcases List.mem_append.mp hb with hb | hb
        · obtain ⟨⟨x, c⟩, hm, rfl⟩ := List.mem_map.mp hb
          obtain ⟨hm, hk⟩ := List.mem_filter.mp hm
          have hk : env.kindOf x = some .cell := by simpa using hk
          exact (hcw x c hk (hcd _ hm hk)).2
        · obtain ⟨q, hq, rfl⟩ := List.mem_map.mp hb
          exact (hvw i q hq).2
    refine wpAny_toks1 (s := { s with heap := h₂, toks := tk₁' }) (n := n₀) hn₁ ?_
    refine (asg i p' hp').run A _ _ _ { s with heap := h₂, toks := tk₁' } v' _ _ R.hh M F₃ rv₂ fun h₃ tk₃ F₄ => fun (hn₃ : n₀ ≤ tk₃) => ?_
    refine wpAny_toks1 (s := { s with heap := h₃, toks := tk₃ }) (n := n₀) hn₃ ?_
    refine wpAny_mono (turn i p' (wr ++ S) _ { s with heap := h₃, toks := tk₃ } _ hp' (fun a ha => List.mem_append_right _ ha) F₄ hn₃).out (fun fl s'' hq => fun hn₄ => ?_) fun _ _ e => e
    obtain ⟨rfl, h₄, tk₄, rfl, F₅⟩ := hq
    have keep : ∀ b o, b ≠ 68 → b ≠ 75 → b ∉ ownAt env (Vf i) → h₂.get? b = some o → h₄.get? b = some o := fun b o n m hb e => F₅.base.k b o n m (hideAll_get _ e hb)
    refine ⟨its.length - (i + 1), by (first | lia | omega), i + 1, h₄, tk₄, rfl, hlt, rfl, ?_, ?_, ?_, hn₄⟩
    · refine F₂.unbase F₅ ⟨fun b o n m e => keep b o n m (fun q => by rw [(own b q).2] at e; cases e) (F₂.base.k b o n m e), fun _ => F₅.tabs⟩ ((hV (i + 1)).trans (hV i).symm)
    · exact W.frame _ _ _ st₂ fun b hb o e => keep b o (DD.ne (hfp b hb)).1 (DD.ne (hfp b hb)).2.1 (fun q => (DD.ne (hfp b hb)).2.2 (ownS b q)) e
    · exact fun b o hb e => keep b o (DD.ne hb).1 (DD.ne hb).2.1 (fun q => (DD.ne hb).2.2 (List.mem_append_right _ (ownS b q))) (off b o (fun q => (DD.ne hb).2.2 (List.mem_append_left _ q)) (kpi b o hb e))
  · have hin : i = its.length := by (first | lia | omega)
    subst hin
    refine wpAny_with_toks (s := { s with heap := h, toks := tk }) (n := n₀) hnk ?_
    refine W.done _ _ _ sti fun h₁' tk₁' off₁ => fun (hn₁ : n₀ ≤ tk₁') => ?_
    refine wpAny_execs_nil ?_
    exact (K h₁' tk₁' (Fi.wrs off₁ (W.nc _ _ sti) wB hlw hcw (hvw _) (fun b hb => List.mem_append_right _ hb) (fun b hb q => absurd hb ((DD.ne (hfp b (W.sub b q))).2.2)) F.ls) hn₁).out⟩
theorem X.for {tgt iter : PySem.Expr} {body : List Stmt} {pos : Pos} {rest : List Stmt} {its : List PV} (Vf : Nat → List (Addr × List PV)) (ρf ρg : Nat → List (Option PV)) (F : FS C B S (Vf 0) env nm (ρf 0) s.heap) (M : Fm env nm) (R : Room k A)
    (he : EvIter C S env nm (ρf 0) k tgt iter its) (hV : ∀ i, (Vf i).map (·.1) = (Vf 0).map (·.1))
    (asg : ∀ i p, its[i]? = some p → Asg C env nm tgt p (ρf i) (ρg i))
    (turn : ∀ (i : Nat) (p : PV) (S' : List Addr) (B' : Heap) (s' : Shared) (E' : Value → Shared → Prop), its[i]? = some p → (∀ a ∈ S, a ∈ S') → FS C B' S' (Vf i) env nm (ρg i) s'.heap → X C A env body (Turned C B' S' (Vf (i + 1)) env nm (ρf (i + 1)) s') E' s')
    (K : ∀ h' tk', FS C B S (Vf its.length) env nm (ρf its.length) h' → X C A env rest Q E { s with heap := h', toks := tk' })
    (hcd : ∀ q ∈ env.cells, env.kindOf q.1 = some .cell → env.cells.lookup q.1 = some q.2 := by intro q hq; cases hq)
    (hs : ∀ x, foldedSetIterable iter env x = pure x := by intro _; rfl) : X C A env (.For tgt iter body [] pos :: rest) Q E s :=
  X.forT (n₀ := 0) Vf ρf ρg (Nat.zero_le _) F M R he hV asg (fun i p S' B' s' E' hp hs F' _ => turn i p S' B' s' E' hp hs F') (fun h' tk' F' _ => K h' tk' F') hcd hs
end
/-- a simple target -/
noncomputable def plainTgt : PySem.Expr → Bool
  | .Name _ _ => true
  | _ => false
theorem go_plain {tgt : PySem.Expr} (h : plainTgt tgt = true) (it v : Value) : letOwnedTupleGo tgt it v = pure () := by
  cases tgt <;> first | rfl | cases h

theorem Iter.ofWalks {C : Cx} {S : List Addr} {A : Around} {tgt : PySem.Expr} {its : List PV} {I : Addr} {fp wr : List Addr} {h₀ : Heap} {n : Nat} {P : Nat → Value → Prop} {St : Nat → Heap → Prop} (ht : plainTgt tgt = true) (W : Walks PW C.w A I fp wr n P St)
    (hn : n = its.length) (ex : ∀ b ∈ fp, ∃ o, h₀.get? b = some o) (nc : ∀ i h, St i h → NoCode wr h) (hP : ∀ i v p h T, P i v → its[i]? = some p → (∀ a ∈ wr ++ S, a ∈ T) → (∀ a ∈ T, a ∉ wr ++ S → h₀.get? a = none) → Kp T h₀ h → Rel T h v p) : Iter C S A tgt its I fp wr h₀ St where
  sub := W.sub
  ex := ex
  nc := nc
  frame := W.frame
  self := fun s Q E st h => W.self 0 s Q E st h
  item := fun i p T s Q E hp hT1 hT2 kp _ _ st K => by
    obtain ⟨hlt, _⟩ := List.getElem?_eq_some_iff.mp hp
    refine W.item i s Q E (hn ▸ hlt) st fun v h' tk hPv st' off => ?_
    refine K v h' tk off (hP i v p h' T hPv hp hT1 hT2 fun b o hb e => off b o (fun q => (DD.ne hb).2.2 (hT1 _ (List.mem_append_left _ q))) (kp b o hb e)) fun Q' E' hQ => ?_
    rw [go_plain ht]
    exact wpAny_pure (hQ h' (fun _ _ _ e => e) st')
  done := fun s Q E st K => W.done s Q E (hn ▸ st) K

theorem new_none (h : Heap) : h.get? h.objs.size = none := Heap.get?_none_of_le (Nat.le_refl _)
theorem RelL.new1 {S : List Addr} {h : Heap} {vs : List Value} {l : List PV} (r : RelL S h vs l) (o : Obj) : RelL ([h.objs.size] ++ S) (h.push o) vs l := (r.more fun b hb hn => by
  rcases List.mem_append.mp hb with hb | hb
  · rw [List.mem_singleton] at hb; exact hb ▸ new_none h
  · exact absurd hb hn).gr Gr.push
theorem nc_iter {I l : Addr} {h : Heap} {o : Obj} {ws : Array Value} (n1 : I ≠ 68) (n2 : I ≠ 75) (ho : h.get? I = some o) (hd : o.data = .fields ws) (h1 : ∀ x t, ws[1]? ≠ some (.str x t)) : NoCode [I] h := fun b hb => by
  rw [List.mem_singleton] at hb; subst hb
  exact ⟨n1, n2, o, ho, fun vs x t e => by rw [hd] at e; cases e; exact h1 x t⟩

theorem ex1 {h : Heap} {o : Obj} (hf : o.isFreed = false := by rfl) : ∀ b ∈ [h.objs.size], ∃ o', (h.push o).get? b = some o' := fun b hb => by
  rw [List.mem_singleton] at hb; subst hb; exact ⟨_, Heap.get?_push_size _ hf⟩
theorem ex2 {h : Heap} {a : Addr} {o : Obj} (ha : ∃ o', h.get? a = some o') (hf : o.isFreed = false := by rfl) : ∀ b ∈ [h.objs.size, a], ∃ o', (h.push o).get? b = some o' := fun b hb => by
  rcases List.mem_cons.mp hb with rfl | hb
  · exact ⟨_, Heap.get?_push_size _ hf⟩
  · rw [List.mem_singleton] at hb; subst hb; obtain ⟨o', e⟩ := ha; exact ⟨_, Heap.get?_push_of_some _ e⟩
theorem IterR.lst {C : Cx} {S : List Addr} {k : Nat} {tgt : PySem.Expr} {l : List PV} (ht : plainTgt tgt = true) : IterR C S k tgt (.lst l) l := ⟨fun A s v Q E R B r H => by
  obtain ⟨a, vs, n, rfl, hn, hl, rl⟩ := r.inv
  · skip
    refine wpAny_pyIter_list hl.isList ?_
    have nI := DD.ne B.new
    have W := Walks.list (prog := PW) (w := C.w) R.hh s.heap.objs.size a (Nat.ne_of_lt (Heap.lt_size hl)) vs.toArray
    have r0 := rl.new1 { cls := .type "list_iterator", data := .fields #[.ref a, .int 0 0] }
    refine H _ _ _ _ _ s.toks Gr.push (.ofWalks ht W (by rw [List.size_toArray, rl.length]) (ex2 ⟨_, hl⟩) (fun i h st => ?_) fun i v p h T hP hp hT1 hT2 kp => ?_) ⟨⟨_, Heap.get?_push_size _ rfl, rfl, rfl⟩, hl.isList.push _⟩
      (fun b hb => by rw [List.mem_singleton] at hb; exact hb ▸ new_none _) (fun b hb => by
        rcases List.mem_cons.mp hb with rfl | hb
        · exact B.new
        · rw [List.mem_singleton] at hb; exact hb ▸ hn)
    · obtain ⟨o, ho, hc, hd⟩ := st.1
      exact nc_iter (l := a) nI.1 nI.2.1 ho hd fun x t => by simp [rawInt]
    · obtain ⟨u, hu, ru⟩ := ((r0.more hT2).kp kp).get hp
      have hP : vs[i]? = some v := by simpa using hP
      rw [hP] at hu; cases hu; exact ru⟩
theorem IterR.tup {C : Cx} {S : List Addr} {k : Nat} {tgt : PySem.Expr} {l : List PV} (ht : plainTgt tgt = true) : IterR C S k tgt (.tup l) l := ⟨fun A s v Q E R B r H => by
  obtain ⟨a, vs, n, rfl, hn, hl, rl⟩ := r.inv
  · skip
    have hT : s.heap.IsTuple a vs.toArray := ⟨_, hl, rfl, _, rfl⟩
    refine wpAny_pyIter_tuple hT ?_
    have nI := DD.ne B.new
    have W := Walks.tuple (prog := PW) (w := C.w) R.hh s.heap.objs.size a (Nat.ne_of_lt (Heap.lt_size hl)) vs.toArray
    have r0 := rl.new1 { cls := .type "tuple_iterator", data := .fields #[.ref a, .int 0 0] }
    refine H _ _ _ _ _ s.toks Gr.push (.ofWalks ht W (by rw [List.size_toArray, rl.length]) (ex2 ⟨_, hl⟩) (fun i h st => ?_) fun i v p h T hP hp hT1 hT2 kp => ?_) ⟨⟨_, Heap.get?_push_size _ rfl, rfl, rfl⟩, hT.push _⟩
      (fun b hb => by rw [List.mem_singleton] at hb; exact hb ▸ new_none _) (fun b hb => by
        rcases List.mem_cons.mp hb with rfl | hb
        · exact B.new
        · rw [List.mem_singleton] at hb; exact hb ▸ hn)
    · obtain ⟨o, ho, hc, hd⟩ := st.1
      exact nc_iter (l := a) nI.1 nI.2.1 ho hd fun x t => by simp [rawInt]
    · obtain ⟨u, hu, ru⟩ := ((r0.more hT2).kp kp).get hp
      have hP : vs[i]? = some v := by simpa using hP
      rw [hP] at hu; cases hu; exact ru⟩

/-- a run of integers -/
noncomputable def runL (a b : Int) : List PV := (List.range (b - a).toNat).map fun (i : Nat) => PV.int (a + (i : Int))
theorem range_iter {C : Cx} {S : List Addr} {A : Around} {k : Nat} {tgt : PySem.Expr} {a b : Int} {t u v : Tok} {s : Shared} {r : Addr} {Q : Value → Shared → Prop} {E : Value → Shared → Prop} (ht : plainTgt tgt = true) (R : Room k A) (B : Bs C S s.heap)
    (hr : IsRange s.heap r a b 1 t u v) (hs : Builtin.Range.small a b 1 = true)
    (H : ∀ I fp wr St h' tk, Gr s.heap h' → Iter C S A tgt (runL a b) I fp wr h' St → St 0 h' → (∀ b ∈ wr, s.heap.get? b = none) → (∀ b ∈ fp, b ∉ DD S) → Q (.ref I) { s with heap := h', toks := tk }) : wpAny (model PW C.w) A (pyIter (.ref r)) Q E s := by
  have nI := DD.ne B.new
  have hz : Builtin.Range.rangeSize a b 1 = ((b - a).toNat : Int) := by rw [rangeSize_one]; split <;> (first | lia | omega)
  refine wpAny_pyIter_range hr hs ?_
  have W := Walks.range (prog := PW) (w := C.w) R.hh s.heap.objs.size a 1 (b - a).toNat
  refine H _ _ _ _ _ s.toks Gr.push (.ofWalks ht W (by simp [runL]) ex1 (fun i h st => ?_) fun i v p h T hP hp hT1 hT2 kp => ?_) ?_ (fun b hb => by rw [List.mem_singleton] at hb; exact hb ▸ new_none _) (fun b hb => by rw [List.mem_singleton] at hb; exact hb ▸ B.new)
  · exact nc_iter (l := 0) nI.1 nI.2.1 st rfl fun x t => by simp [rawInt]
  · obtain ⟨t, rfl⟩ := hP
    have : p = .int (a + i) := by
      unfold runL at hp
      rw [List.getElem?_map] at hp
      obtain ⟨j, hj, e⟩ := Option.map_eq_some_iff.mp hp
      rw [List.getElem?_range (by have := (List.getElem?_eq_some_iff.mp hj).1; simpa using this)] at hj
      cases hj; exact e.symm
    subst this
    rw [Int.mul_one]
    exact .int _ _
  · rw [hz]; show IsRangeIter _ _ (a + ((0 : Nat) : Int) * 1) (((b - a).toNat : Int) - ((0 : Nat) : Int)) 1
    rw [show a + ((0 : Nat) : Int) * 1 = a by (first | lia | omega), show (((b - a).toNat : Int) - ((0 : Nat) : Int)) = ((b - a).toNat : Int) by (first | lia | omega)]
    exact Heap.get?_push_size _ rfl
section
variable {C : Cx} {S : List Addr} {env : Env} {nm : List Str} {ρ : List (Option PV)} {k : Nat}
theorem EvIter.range1 {tgt : PySem.Expr} {x : Str} {np pos : Pos} {e : PySem.Expr} {b : Int} (ht : plainTgt tgt = true) (hf : Ev C S env nm ρ k (.Name x np) (.raw (.type "range"))) (he : Ev C S env nm ρ k e (.int b)) (hb : -(2 ^ 62) ≤ b ∧ b < 2 ^ 62)
    (hs : starEach [e] env = (false, eval e env) :: starEach [] env := by rfl) (hp : (backTo pos (starEach [] env)).any (·.1) = false := by rfl) : EvIter C S env nm ρ k tgt (.Call (.Name x np) [e] [] pos) (runL 0 b) := ⟨fun A s Q E R I H =>
  wpAny_Call_Name_kw (hf.run A s _ E R I fun v h₁ tk₁ g₁ r => by
    obtain ⟨_, rfl⟩ := r.inv
    refine PyProof.Rows.callWith_type1 ((EvL.cons he EvL.nil hs).run A _ _ E R (I.gr g₁) fun vs h₂ tk₂ g₂ rl => ?_) hs hp
    obtain ⟨_, rfl, r1⟩ := rl.inv1
    obtain ⟨t, rfl⟩ := r1.inv
    · skip
      · skip
        refine call_range_1 ?_
        have g := (g₁.trans g₂).trans (Gr.push (o := { cls := .type "range", data := .fields #[.int 0 tk₂, .int b t, .int 1 (tk₂ + 1)] }))
        exact range_iter (s := { s with heap := _, toks := _ }) ht R (I.gr g).bs (IsRange.new _ _ _ _ _ _ _) (small_one (by (first | lia | omega)) (by (first | lia | omega)) hb.1 hb.2) fun J fp wr St h' tk g' W st fresh off => H J fp wr St h' tk (g.trans g') W st
          (fun b hb => gr_none g (W.nc _ _ st b hb).1 (W.nc _ _ st b hb).2.1 (fresh b hb)) off)⟩
theorem EvIter.range2 {tgt : PySem.Expr} {x : Str} {np pos : Pos} {d e : PySem.Expr} {a b : Int} (ht : plainTgt tgt = true) (hf : Ev C S env nm ρ k (.Name x np) (.raw (.type "range"))) (hd : Ev C S env nm ρ k d (.int a)) (he : Ev C S env nm ρ k e (.int b)) (ha : -(2 ^ 62) ≤ a ∧ a < 2 ^ 62) (hb : -(2 ^ 62) ≤ b ∧ b < 2 ^ 62)
    (hs : starEach [d, e] env = (false, eval d env) :: starEach [e] env := by rfl) (hs2 : starEach [e] env = (false, eval e env) :: starEach [] env := by rfl) (hp : (backTo pos (starEach [e] env)).any (·.1) = false := by rfl) : EvIter C S env nm ρ k tgt (.Call (.Name x np) [d, e] [] pos) (runL a b) := ⟨fun A s Q E R I H =>
  wpAny_Call_Name_kw (hf.run A s _ E R I fun v h₁ tk₁ g₁ r => by
    obtain ⟨_, rfl⟩ := r.inv
    refine PyProof.Rows.callWith_type1 ((EvL.cons hd (EvL.cons he EvL.nil hs2) hs).run A _ _ E R (I.gr g₁) fun vs h₂ tk₂ g₂ rl => ?_) hs hp
    obtain ⟨u, t, rfl⟩ := rl.ints2
    · skip
      · skip
        · skip
          · skip
            refine call_range_2 ?_
            have g := (g₁.trans g₂).trans (Gr.push (o := { cls := .type "range", data := .fields #[.int a u, .int b t, .int 1 tk₂] }))
            exact range_iter (s := { s with heap := _, toks := _ }) ht R (I.gr g).bs (IsRange.new _ _ _ _ _ _ _) (small_one ha.1 ha.2 hb.1 hb.2) fun J fp wr St h' tk g' W st fresh off => H J fp wr St h' tk (g.trans g') W st
              (fun b hb => gr_none g (W.nc _ _ st b hb).1 (W.nc _ _ st b hb).2.1 (fresh b hb)) off)⟩
end
end Mine
end

section
open PySem PySem.W PyProof.Rows PySem.Calls
namespace Mine
section
variable {C : Cx} {A : Around} {B : Heap} {S : List Addr} {V : List (Addr × List PV)} {env : Env} {nm : List Str} {ρ : List (Option PV)} {k : Nat} {s : Shared} {Q : Flow → Shared → Prop} {E : Value → Shared → Prop}
/-- a loop over nothing -/
theorem X.forNone {S₀ : List Addr} {ρ₀ : List (Option PV)} {tgt iter : PySem.Expr} {body : List Stmt} {pos : Pos} {rest : List Stmt} (F : FS C B S V env nm ρ s.heap) (R : Room k A) (I₀ : Inv C S₀ env nm ρ₀ s.heap) (he : EvIter C S₀ env nm ρ₀ k tgt iter [])
    (K : ∀ h' tk', FS C B S V env nm ρ h' → X C A env rest Q E { s with heap := h', toks := tk' })
    (hs : ∀ x, foldedSetIterable iter env x = pure x := by intro _; rfl) : X C A env (.For tgt iter body [] pos :: rest) Q E s := ⟨by
  refine wpAny_execs_cons (wpAny_For (he.run A s _ E R I₀ fun I fp wr St h₀ tk₀ g₀ W st0 hfresh hfp => ?_) hs)
  refine codeAny_forLoop_any (fun n s' => n = 0 ∧ s' = { s with heap := h₀, toks := tk₀ }) ?_ 0 ⟨rfl, rfl⟩
  rintro n s' ⟨rfl, rfl⟩
  refine W.done _ _ _ st0 fun h₁ tk₁ off₁ => wpAny_execs_nil ?_
  refine (K h₁ tk₁ (F.gr ⟨fun b o n m e => off₁ b o (fun q => ?_) (g₀.k b o n m e), fun t => (g₀.tab t).off off₁ (W.nc _ _ st0)⟩)).out
  rw [hfresh b q] at e; cases e⟩
end
end Mine
end

section
open PySem PySem.W PyProof.Rows PySem.Calls
namespace Mine
section
variable {C : Cx} {S : List Addr} {k : Nat}
theorem strs_of : ∀ {vs : List Value} {ys : List Str} {h : Heap}, RelL S h vs (ys.map .str) → StrsAre vs ys
  | _, [], _, .nil => .nil
  | _, y :: ys, _, .cons r rl => by obtain ⟨t, rfl⟩ := r.inv; exact .cons y t (strs_of rl)
theorem Meth1.join {sep : Str} {ys : List Str} (hsep : sep.length ≤ 16) (hw : (ys.map (·.length)).sum + ys.length ≤ 1048576) : Meth1 C S k "join" (.str sep) (.lst (ys.map .str)) (.str (Txt.join sep ys)) := ⟨fun A s Q E v pos e R B r he H => by
  obtain ⟨t, rfl⟩ := r.inv
  · skip
    refine ⟨"str", "str.join", PySem.F.plainAttrs_str, PySem.F.slot_str_join, PySem.F.type_str_join, typeIs_str _ _ _, (fun _ e => nomatch e), ?_⟩
    refine Calls.callWith_builtin rfl (Calls.evalArgs_plain (Calls.spliced_cons (he _ fun v h' tk g rv => Calls.spliced_nil ?_)))
    obtain ⟨_, _, _, rfl, hn, hl, rl⟩ := rv.inv
    · skip
      exact join_listW hl.isList (strs_of rl) hsep hw fun t' k' => H _ _ _ g (.str _ _)⟩
theorem Meth0.lower {x : Str} (hfit : x.length ≤ 5592405) : Meth0 C S k "lower" (.str x) (.str (Txt.lower x)) := ⟨fun A s Q E v pos R B r H => by
  obtain ⟨t, rfl⟩ := r.inv
  · skip
    refine ⟨"str", "str.lower", PySem.F.plainAttrs_str, PySem.F.slot_str_lower, PySem.F.type_str_lower, typeIs_str _ _ _, (fun _ e => nomatch e), ?_⟩
    refine Calls.callWith_builtin rfl (evalArgs_nil3 ?_)
    exact PyProof.Rows.SCL.lower hfit fun _ => H.tok (.str _ _)⟩
end
end Mine
end

section
open PySem PySem.W PyProof.Rows PySem.Calls
namespace Mine

theorem all_nil {α : Type} {P : α → Prop} : ∀ x ∈ ([] : List α), P x := fun _ h => nomatch h
theorem all_cons {α : Type} {P : α → Prop} {a : α} {l : List α} (h : P a) (t : ∀ x ∈ l, P x) : ∀ x ∈ a :: l, P x := List.forall_mem_cons.mpr ⟨h, t⟩
theorem lk_nil {P : Str → Addr → Prop} : ∀ x c, ([] : List (Str × Addr)).lookup x = some c → P x c := fun _ _ h => nomatch h
theorem lk_cons {P : Str → Addr → Prop} {y : Str} {d : Addr} {l : List (Str × Addr)} (h : P y d) (t : ∀ x c, l.lookup x = some c → P x c) : ∀ x c, ((y, d) :: l).lookup x = some c → P x c := fun x c e => by
  rw [List.lookup_cons] at e
  cases hb : x == y with
  | true => rw [hb] at e; cases e; rw [beq_iff_eq.mp hb]; exact h
  | false => rw [hb] at e; exact t x c e
/-- the frame of a comprehension as it runs, and as it is spoken of -/
noncomputable abbrev cEnv (scope : Scope) (cl : List (Str × Addr)) (L : Addr) (env : Env) : Env := compEnvC scope cl L env
noncomputable abbrev fEnv (scope : Scope) (cl : List (Str × Addr)) (L : Addr) (env : Env) : Env := { compEnvC scope cl L env with scope := scope }

/-- what a comprehension's scope must be -/
structure CompScope (env : Env) (scope : Scope) (cl : List (Str × Addr)) (xs cs : List Str) : Prop where
  clos : closureFor scope env = pure cl
  kind : scope.kind = .function
  okind : env.scope.kind = .function
  gl : env.globals = mainGlobals
  bl : env.builtins = builtinsNs
  names : ∀ x ∈ scope.names, x.2 = .local → scope.names.lookup x.1 = some .local
  nocell : ∀ x ∈ scope.names, x.2 ≠ .cell
  loc : ∀ x ∈ xs, scope.names.lookup x = some .local
  cap : ∀ x ∈ cs, scope.names.lookup x = some .free ∧ (relabel scope env).names.lookup x = some .cell ∧ env.kindOf x = some .cell ∧ (x == ("__classdict__" : Str)) = false ∧ ∃ c, cl.lookup x = some c
  sub : ∀ x c, cl.lookup x = some c → x ∈ cs ∧ env.cells.lookup x = some c
  nd : (xs ++ cs).Nodup
  dbg : ∀ x ∈ xs ++ cs, (x == ("__debug__" : Str)) = false

section
variable {env : Env} {scope : Scope} {cl : List (Str × Addr)} {xs cs : List Str} {L : Addr}
theorem CompScope.fm (K : CompScope env scope cl xs cs) : Fm (cEnv scope cl L env) (xs ++ cs) := ⟨K.kind, K.gl, K.bl, K.dbg, fun x hx => by
  rcases List.mem_append.mp hx with hx | hx
  · exact .inl (lookup_relabel_local (K.loc x hx))
  · obtain ⟨_, a, _, _, c, b⟩ := K.cap x hx
    exact .inr (.inl ⟨c, a, b⟩), K.nd⟩
theorem CompScope.ff (K : CompScope env scope cl xs cs) : Fm (fEnv scope cl L env) (xs ++ cs) := ⟨K.kind, K.gl, K.bl, K.dbg, fun x hx => by
  rcases List.mem_append.mp hx with hx | hx
  · exact .inl (K.loc x hx)
  · obtain ⟨a, _⟩ := K.cap x hx
    exact .inr (.inr a), K.nd⟩
theorem CompScope.inv {C : Cx} {S : List Addr} {ρ : List (Option PV)} {h : Heap} (K : CompScope env scope cl xs cs) (I : Inv C S (fEnv scope cl L env) (xs ++ cs) ρ h) : Inv C S (cEnv scope cl L env) (xs ++ cs) ρ h := ⟨I.bs, fun i x p hi hp => by
  obtain ⟨v, n, r⟩ := I.names i x p hi hp
  refine ⟨v, ?_, r⟩
  cases n with
  | loc m a b c => exact .loc m (lookup_relabel_local a) b c
  | cell c a b d => exact absurd rfl (K.nocell _ (mem_of_lookup a))
  | free c a z b d => 
    obtain ⟨a, _⟩ := K.sub x c b
    obtain ⟨_, e, _⟩ := K.cap x a
    exact .cell c e b d⟩
/-- names caught from outside -/
inductive Caps (nm : List Str) (ρ : List (Option PV)) : List Str → List PV → Prop
  | nil : Caps nm ρ [] []
  | cons {x : Str} {cs : List Str} {p : PV} {ps : List PV} : GetAt nm ρ x p → Caps nm ρ cs ps → Caps nm ρ (x :: cs) (p :: ps)
theorem Caps.get {nm : List Str} {ρ : List (Option PV)} : ∀ {cs : List Str} {ps : List PV}, Caps nm ρ cs ps → (cs.length = ps.length) ∧ ∀ (i : Nat) (x : Str), cs[i]? = some x → ∃ p, ps[i]? = some p ∧ GetAt nm ρ x p
  | _, _, .nil => ⟨rfl, fun i x h => by simp at h⟩
  | _, _, .cons g t => ⟨by rw [List.length_cons, List.length_cons, t.get.1], fun i x h => by
    cases i with
    | zero => simp at h; subst h; exact ⟨_, rfl, g⟩
    | succ i => rw [List.getElem?_cons_succ] at h ⊢; exact t.get.2 i x h⟩
theorem Inv.capAt {C : Cx} {S : List Addr} {nm : List Str} {ρ : List (Option PV)} {h : Heap} (K : CompScope env scope cl xs cs) (I : Inv C S env nm ρ h) {ps : List PV} (cap : Caps nm ρ cs ps) {i : Nat} {x : Str} (hx : cs[i]? = some x) :
    ∃ p v c, ps[i]? = some p ∧ cl.lookup x = some c ∧ h.IsCell c (some v) ∧ Rel S h v p := by
  obtain ⟨p, hp, g⟩ := cap.get.2 i x hx
  obtain ⟨j, hj, hq⟩ := g.idx
  obtain ⟨v, n, r⟩ := I.names j x p hj hq
  obtain ⟨_, _, ek, _, c, hc⟩ := K.cap x (List.mem_of_getElem? hx)
  refine ⟨p, v, c, hp, hc, ?_, r⟩
  have := (K.sub x c hc).2
  cases n with
  | loc m a _ _ => rw [ek] at a; cases a
  | cell c' a b d => rw [this] at b; cases b; exact d
  | free c' a _ _ _ => rw [ek] at a; cases a
end

/-- the start of a comprehension's frame -/
theorem FS.comp {C : Cx} {S : List Addr} {env : Env} {nm : List Str} {ρ : List (Option PV)} {scope : Scope} {cl : List (Str × Addr)} {xs cs : List Str} {ps : List PV} {V : List (Addr × List PV)} {hs h₁ : Heap} {L D : Addr} {wr : List Addr} {m : Str → Option Value}
    (K : CompScope env scope cl xs cs) (hinj : ∀ x y c, env.cells.lookup x = some c → env.cells.lookup y = some c → x = y) (I : Inv C S env nm ρ hs) (cap : Caps nm ρ cs ps) (vol : ∀ q ∈ V, q.1 ∈ S ∧ C.B₀.get? q.1 = none ∧ VL S hs q.1 q.2) (vnd : (V.map (·.1)).Nodup)
    (g : Gr hs h₁) (hnew : ∀ a ∈ L :: D :: wr, hs.get? a = none ∧ ∃ o, h₁.get? a = some o) (hns : h₁.Ns L m) (hl : IsL h₁ D #[] 0) :
    FS C (hideAll h₁ (L :: D :: (wr ++ V.map (·.1)))) (L :: D :: (wr ++ S)) ((D, []) :: V) (fEnv scope cl L env) (xs ++ cs) ((xs.map fun _ => none) ++ ps.map some) h₁ := by
  have more : ∀ a ∈ L :: D :: (wr ++ S), a ∉ S → hs.get? a = none := fun a ha hn => by
    rcases List.mem_cons.mp ha with rfl | ha
    · exact (hnew _ (.head _)).1
    · rcases List.mem_cons.mp ha with rfl | ha
      · exact (hnew _ (.tail _ (.head _))).1
      · rcases List.mem_append.mp ha with ha | ha
        · exact (hnew _ (.tail _ (.tail _ ha))).1
        · exact absurd ha hn
  have rel : ∀ p v, Rel S hs v p → Rel (L :: D :: (wr ++ S)) h₁ v p := fun p v r => (r.more more).gr g
  have old : ∀ b o, hs.get? b = some o → (∀ q ∈ V, q.1 ≠ b) → b ∉ L :: D :: (wr ++ V.map (·.1)) := fun b o e hV hm => by
    rcases List.mem_cons.mp hm with rfl | hm
    · rw [(hnew _ (.head _)).1] at e; cases e
    · rcases List.mem_cons.mp hm with rfl | hm
      · rw [(hnew _ (.tail _ (.head _))).1] at e; cases e
      · rcases List.mem_append.mp hm with hm | hm
        · rw [(hnew _ (.tail _ (.tail _ hm))).1] at e; cases e
        · obtain ⟨q, hq, rfl⟩ := List.mem_map.mp hm
          exact hV q hq rfl
  have hcell : ∀ c v, hs.IsCell c v → c ≠ 68 ∧ c ≠ 75 ∧ c ∉ L :: D :: (wr ++ V.map (·.1)) := fun c v ⟨o, ho, hd⟩ => by
    have q := I.bs.tabs.ne ho fun vs q => by rw [hd] at q; cases q
    refine ⟨q.1, q.2, old c o ho fun q hq e => ?_⟩
    obtain ⟨_, _, vl⟩ := vol q hq
    obtain ⟨o', ho', _, _, hd'⟩ := vl.seq
    rw [e, ho] at ho'; cases ho'; rw [hd] at hd'; cases hd'
  refine ⟨⟨⟨(I.bs.gr g).top, fun a ha => ?_, (I.bs.gr g).tabs⟩, fun i x p hi hp => ?_⟩, fun b o e => ?_, ⟨fun b o _ _ e => of_hideAll _ e, fun _ => (I.bs.gr g).tabs⟩, hideAll_none _ (.head _), fun q hq => ?_, ?_, .head _, ⟨m, hns⟩, fun x c a b => absurd rfl (K.nocell _ (mem_of_lookup a)), fun x y c a b => hinj x y c (K.sub x c a).2 (K.sub y c b).2, fun x c a b => ?_⟩
  · by_cases hS : a ∈ S
    · exact (I.bs.gr g).off a hS
    · rcases List.mem_cons.mp ha with rfl | ha
      · exact (hnew _ (.head _)).2
      · rcases List.mem_cons.mp ha with rfl | ha
        · exact (hnew _ (.tail _ (.head _))).2
        · rcases List.mem_append.mp ha with ha | ha
          · exact (hnew _ (.tail _ (.tail _ ha))).2
          · exact absurd ha hS
  · have hlen : (xs.map fun _ => (none : Option PV)).length = xs.length := by simp
    by_cases hix : i < xs.length
    · rw [List.getElem?_append_left (by rw [hlen]; exact hix), List.getElem?_map] at hp
      obtain ⟨_, _, e⟩ := Option.map_eq_some_iff.mp hp
      cases e
    · rw [List.getElem?_append_right (by (first | lia | omega))] at hi
      rw [List.getElem?_append_right (by rw [hlen]; (first | lia | omega)), hlen, List.getElem?_map] at hp
      obtain ⟨p', hp', e⟩ := Option.map_eq_some_iff.mp hp
      cases e
      obtain ⟨p₂, v, c, h1, h2, h3, h4⟩ := I.capAt K cap hi
      rw [h1] at hp'; cases hp'
      obtain ⟨k1, _, _, k4, _⟩ := K.cap x (List.mem_of_getElem? hi)
      exact ⟨v, .free c k1 k4 h2 (cell_gr I.bs.tabs g h3), rel _ _ h4⟩
  · have e1 := I.top b o e
    exact hideAll_get _ ((I.bs.gr g).top b o e) (old b o e1 fun q hq q' => by rw [← q', (vol q hq).2.1] at e; cases e)
  · rcases List.mem_cons.mp hq with rfl | hq
    · exact ⟨.tail _ (.head _), hideAll_none _ (.tail _ (.head _)), [], 0, hl, .nil⟩
    · obtain ⟨a, b, c⟩ := vol q hq
      exact ⟨.tail _ (.tail _ (List.mem_append_right _ a)), hideAll_none _ (.tail _ (.tail _ (List.mem_append_right _ (List.mem_map_of_mem hq)))), (c.more more).gr I.bs.tabs g⟩
  · rw [List.map_cons, List.nodup_cons]
    refine ⟨fun hm => ?_, vnd⟩
    obtain ⟨q, hq, e⟩ := List.mem_map.mp hm
    obtain ⟨_, _, vl⟩ := vol q hq
    obtain ⟨o', ho', _⟩ := vl.seq
    rw [show q.1 = D from e, (hnew _ (.tail _ (.head _))).1] at ho'; cases ho'
  · obtain ⟨i, hi⟩ := List.getElem?_of_mem (K.sub x c b).1
    obtain ⟨p₂, v, c', h1, h2, h3, h4⟩ := I.capAt K cap hi
    have b : cl.lookup x = some c := b
    rw [b] at h2; cases h2
    obtain ⟨n1, n2, n3⟩ := hcell c _ h3
    obtain ⟨o, ho, _⟩ := h3
    exact ⟨n1, n2, o, hideAll_get _ (g.k c o n1 n2 ho) n3⟩

/-- p is bound to the target of a comprehension -/
structure AsgC (C : Cx) (env : Env) (scope : Scope) (cl : List (Str × Addr)) (xs cs : List Str) (tgt : PySem.Expr) (p : PV) (ρ ρ' : List (Option PV)) : Prop where
  run : ∀ (A : Around) (B : Heap) (S : List Addr) (V : List (Addr × List PV)) (L : Addr) (s : Shared) (v : Value) (Q : Unit → Shared → Prop) (E : Value → Shared → Prop), A.handled = none → FS C B S V (fEnv scope cl L env) (xs ++ cs) ρ s.heap → Rel S s.heap v p →
    (∀ h' tk', FS C B S V (fEnv scope cl L env) (xs ++ cs) ρ' h' → Q () { s with heap := h', toks := tk' }) → wpAny (model PW C.w) A (assign tgt (cEnv scope cl L env) v) Q E s
/-- names of the comprehension's own -/
inductive TgtC (xs cs : List Str) : List PySem.Expr → List PV → List (Option PV) → List (Option PV) → Prop
  | nil {ρ : List (Option PV)} : TgtC xs cs [] [] ρ ρ
  | cons {x : Str} {px : Pos} {es : List PySem.Expr} {p : PV} {ps : List PV} {ρ ρ₁ ρ' : List (Option PV)} : SetAt (xs ++ cs) ρ x p ρ₁ → TgtC xs cs es ps ρ₁ ρ' → (hx : x ∈ xs := by decide) → TgtC xs cs (.Name x px :: es) (p :: ps) ρ ρ'
theorem TgtC.len {xs cs : List Str} {es : List PySem.Expr} {ps : List PV} {ρ ρ' : List (Option PV)} (t : TgtC xs cs es ps ρ ρ') : es.length = ps.length := by
  induction t with
  | nil => rfl
  | cons _ _ _ ih => simp [ih]
section
variable {C : Cx} {env : Env} {scope : Scope} {cl : List (Str × Addr)} {xs cs : List Str} {A : Around} {B : Heap} {S : List Addr} {V : List (Addr × List PV)} {L : Addr}
theorem wp_storeC {x : Str} {v : Value} {p : PV} {ρ ρ' : List (Option PV)} {s : Shared} {Q : Unit → Shared → Prop} {E : Value → Shared → Prop} (K : CompScope env scope cl xs cs) (F : FS C B S V (fEnv scope cl L env) (xs ++ cs) ρ s.heap) (st : SetAt (xs ++ cs) ρ x p ρ') (hx : x ∈ xs) (r : Rel S s.heap v p)
    (H : ∀ h' tk', Kp S s.heap h' → FS C B S V (fEnv scope cl L env) (xs ++ cs) ρ' h' → Q () { s with heap := h', toks := tk' }) : wpAny (model PW C.w) A (storeName (cEnv scope cl L env) x v) Q E s := by
  obtain ⟨i, hi, rfl⟩ := st.idx
  obtain ⟨m, hm⟩ := F.loc
  exact wpAny_storeName_local (env := cEnv scope cl L env) (lookup_relabel_local (K.loc x hx)) hm (fun h' hn hs => H h' _ (fun b o hb e => (hs.2 b (fun q => (DD.ne hb).2.2 (q ▸ F.ls))).trans e) (F.store K.ff hi (K.loc x hx) hn hm hs r)) K.fm.hp
theorem AsgC.name {x : Str} {px : Pos} {p : PV} {ρ ρ' : List (Option PV)} (K : CompScope env scope cl xs cs) (st : SetAt (xs ++ cs) ρ x p ρ') (hx : x ∈ xs := by decide) : AsgC C env scope cl xs cs (.Name x px) p ρ ρ' := ⟨fun A B S V L s v Q E hh F r H =>
  PyProof.Rows.assign_Name (wp_storeC K F st hx r fun h' tk' _ F' => H h' tk' F')⟩
theorem wp_storeAllC {Q' : Unit → Shared → Prop} {E : Value → Shared → Prop} (K : CompScope env scope cl xs cs) : ∀ {es : List PySem.Expr} {vs : List Value} {ps : List PV} {ρ ρ' : List (Option PV)} {s : Shared}, FS C B S V (fEnv scope cl L env) (xs ++ cs) ρ s.heap → TgtC xs cs es ps ρ ρ' → RelL S s.heap vs ps →
    (∀ h' tk', FS C B S V (fEnv scope cl L env) (xs ++ cs) ρ' h' → Q' () { s with heap := h', toks := tk' }) → wpAny (model PW C.w) A (assignInOrder ((assignEach es (cEnv scope cl L env)).map (·.2)) vs) Q' E s
  | _, _, _, _, _, s, F, .nil, .nil, H => assignInOrder_nil (H s.heap s.toks F)
  | .Name x px :: es, _, _, ρ, ρ', s, F, .cons st t hx, .cons r rl, H => by
    show wpAny _ A (assignInOrder (assign (.Name x px) (cEnv scope cl L env) :: (assignEach es (cEnv scope cl L env)).map (·.2)) _) Q' E s
    refine assignInOrder_cons (assign_Name (wp_storeC K F st hx r fun h' tk' kp F' => ?_))
    exact wp_storeAllC K (s := { s with heap := h', toks := tk' }) F' t (rl.kp kp) H
theorem tgtC_assignEach {env : Env} : ∀ {es : List PySem.Expr} {ps : List PV} {ρ ρ' : List (Option PV)}, TgtC xs cs es ps ρ ρ' → (assignEach es env).length = es.length ∧ (assignEach es env).findIdx? (·.1) = none
  | _, _, _, _, .nil => ⟨rfl, rfl⟩
  | .Name x px :: es, _, _, _, .cons _ t _ => by
    obtain ⟨a, b⟩ := tgtC_assignEach (env := env) t
    refine ⟨by show (assignEach es env).length + 1 = _; rw [a]; rfl, ?_⟩
    show List.findIdx? (·.1) ((false, assign (.Name x px) env) :: assignEach es env) = none
    rw [List.findIdx?_cons]
    simp [b]
theorem AsgC.tup {elts : List PySem.Expr} {n : Nat} {tpos : Pos} {ps : List PV} {ρ ρ' : List (Option PV)} (K : CompScope env scope cl xs cs) (ht : TgtC xs cs elts ps ρ ρ') : AsgC C env scope cl xs cs (.Tuple elts n tpos) (.tup ps) ρ ρ' := ⟨fun A B S V L s v Q E hh F r H => by
  obtain ⟨_, _, _, rfl, hn, ht', rl⟩ := r.inv
  · skip
    obtain ⟨a, b⟩ := tgtC_assignEach (env := cEnv scope cl L env) ht
    refine assign_Tuple_tuple hh ⟨_, ht', rfl, _, rfl⟩ (by rw [a, ht.len, List.size_toArray, rl.length]) b fun h'' he' => ?_
    have g' : Gr s.heap h'' := .of fun b o e => he' b o (Nat.ne_of_lt (Heap.lt_size e)) e
    exact wp_storeAllC K (s := { s with heap := h'' }) (F.gr g') ht (rl.gr g') fun h3 tk3 F3 => H h3 tk3 F3⟩
end
end Mine
end

section
open PySem PySem.W PyProof.Rows PySem.Calls
namespace Mine

noncomputable abbrev testsOf (ifs : List PySem.Expr) (env : Env) : Sem Bool := forIn ifs true fun c r => if r = true then do let ok ← isTrue c env (eval c env); pure (ForInStep.yield ok) else pure (ForInStep.yield r)

theorem codeAny_compLoop_any {w : World} {elt : PySem.Expr} {gens : List Comprehension} {depth : Nat} {target iter : PySem.Expr} {ifs : List PySem.Expr} {scope : Scope} {pos : Pos} {it acc : Value} {env : Env} {emit : Sem Unit} {A : Around} {R : Result → Shared → Prop} {s : Shared} (I : Nat → Shared → Prop)
    (ht : compTurn (.ListComp elt gens scope pos) depth it acc env = (do
        standAt iter.pos
        match ← pyNext it with
        | none => pure (.done .next)
        | some v =>
          letOwnedTupleGo target it v
          assign target env v
          let mut ok := true
          for c in ifs do
            if ok then ok ← isTrue c env (eval c env)
          if ok then emit
          again (.compLoop (.ListComp elt gens scope pos) depth it acc env)))
    (turn : ∀ n s, I n s → wpAny (model PW w) A (pyNext it) (fun r s₁ => match r with
      | none => R (.ok .next) s₁
      | some v => wpAny (model PW w) A (letOwnedTupleGo target it v) (fun _ s₁' => wpAny (model PW w) A (assign target env v) (fun _ s₂ =>
          wpAny (model PW w) A (testsOf ifs env) (fun ok s₃ =>
            if ok = true then wpAny (model PW w) A emit (fun _ s₅ => ∃ m, m < n ∧ I m s₅) (notedBy (model PW w) A env fun e s' => R (.error e) s') s₃
            else ∃ m, m < n ∧ I m s₃) (notedBy (model PW w) A env fun e s' => R (.error e) s') s₂) (notedBy (model PW w) A env fun e s' => R (.error e) s') s₁') (notedBy (model PW w) A env fun e s' => R (.error e) s') s₁) (notedBy (model PW w) A env fun e s' => R (.error e) s') s)
    (n : Nat) (h : I n s) : codeAny (model PW w) A (.compLoop (.ListComp elt gens scope pos) depth it acc env) R s := by
  refine codeAny_loop rfl I (fun n s hI => ?_) n h
  show wpAny _ A ((compTurn (.ListComp elt gens scope pos) depth it acc env).onRaise (fun x => do noteFrame x env; theTreesLotGoes x)) _ _ s
  refine wpAny_noted ?_
  rw [ht]
  refine wpAny_bind (wpAny_standAt (wpAny_bind (wpAny_mono (turn n s hI) (fun r s₁ h₁ => ?_) fun _ _ h' => h')))
  cases r with
  | none => exact wpAny_pure h₁
  | some v =>
    refine wpAny_bind (wpAny_mono h₁ (fun _ s₁' h₁ => ?_) fun _ _ h' => h')
    refine wpAny_bind (wpAny_mono h₁ (fun _ s₂ h₂ => wpAny_bind (wpAny_mono h₂ (fun ok s₃ h₃ => ?_) fun _ _ h' => h')) fun _ _ h' => h')
    cases ok with
    | false => exact wpAny_pure ⟨rfl, h₃⟩
    | true => exact wpAny_bind (wpAny_mono h₃ (fun _ s₅ h₅ => wpAny_pure ⟨rfl, h₅⟩) fun _ _ h' => h')

/-- what a turn of a comprehension leaves -/
noncomputable def TurnedC (C : Cx) (B : Heap) (S : List Addr) (V : List (Addr × List PV)) (env : Env) (nm : List Str) (ρ : List (Option PV)) (s s' : Shared) : Prop := ∃ h tk, s' = { s with heap := h, toks := tk } ∧ FS C B S V env nm ρ h
noncomputable def TurnedG (C : Cx) (B : Heap) (S : List Addr) (VS : Tok → List (Addr × List PV) → Prop) (env : Env) (nm : List Str) (ρ : List (Option PV)) (s s' : Shared) : Prop := ∃ h tk V, s' = { s with heap := h, toks := tk } ∧ VS tk V ∧ FS C B S V env nm ρ h
/-- the rest of a turn: the tests, and what is done -/
structure RestC (C : Cx) (A : Around) (env : Env) (ifs : List PySem.Expr) (emit : Sem Unit) (Q : Shared → Prop) (E : Value → Shared → Prop) (s : Shared) : Prop where
  out : wpAny (model PW C.w) A (testsOf ifs env) (fun ok s₃ => if ok = true then wpAny (model PW C.w) A emit (fun _ s₅ => Q s₅) E s₃ else Q s₃) E s

section
variable {C : Cx} {env : Env} {scope : Scope} {cl : List (Str × Addr)} {xs cs : List Str} {A : Around} {B : Heap} {S T : List Addr} {L : Addr} {s : Shared} {R : Result → Shared → Prop}
theorem comp_forG {elt : PySem.Expr} {gens : List Comprehension} {depth : Nat} {tgt iter : PySem.Expr} {ifs : List PySem.Expr} {pos : Pos} {sc : Scope} {acc : Value} {emit : Sem Unit} {its : List PV} {I : Addr} {fp wr : List Addr} {h₀ : Heap} {St : Nat → Heap → Prop}
    (K : CompScope env scope cl xs cs) (hh : A.handled = none) (VS : Nat → Tok → List (Addr × List PV) → Prop) {V0 : List (Addr × List PV)} (hV0 : VS 0 s.toks V0) (ρf ρg : Nat → List (Option PV)) (F : FS C B T V0 (fEnv scope cl L env) (xs ++ cs) (ρf 0) s.heap)
    (W : Iter C S A tgt its I fp wr h₀ St) (T1 : ∀ a ∈ wr ++ S, a ∈ T) (T2 : ∀ a ∈ T, a ∉ wr ++ S → h₀.get? a = none) (kp0 : Kp T h₀ s.heap) (st0 : St 0 s.heap)
    (wB : ∀ b ∈ wr, B.get? b = none) (hlw : L ∉ wr) (hvw : ∀ q ∈ V0, q.1 ∉ wr) (hfp : ∀ b ∈ fp, b ≠ 68 ∧ b ≠ 75 ∧ b ≠ L ∧ ∀ q ∈ V0, q.1 ≠ b) (hV : ∀ i tk V', VS i tk V' → V'.map (·.1) = V0.map (·.1)) (mono : ∀ i tk tk' V', VS i tk V' → tk ≤ tk' → VS i tk' V') (T' : List Addr) (hT' : ∀ b ∈ T', b ∈ T ∧ b ∉ wr) (hL' : L ∈ T') (hV' : ∀ q ∈ V0, q.1 ∈ T')
    (ht : compTurn (.ListComp elt gens sc pos) depth (.ref I) acc (cEnv scope cl L env) = (do
        standAt iter.pos
        match ← pyNext (.ref I) with
        | none => pure (.done .next)
        | some v =>
          letOwnedTupleGo tgt (.ref I) v
          assign tgt (cEnv scope cl L env) v
          let mut ok := true
          for c in ifs do
            if ok then ok ← isTrue c (cEnv scope cl L env) (eval c (cEnv scope cl L env))
          if ok then emit
          again (.compLoop (.ListComp elt gens sc pos) depth (.ref I) acc (cEnv scope cl L env))))
    (asg : ∀ i p, its[i]? = some p → AsgC C env scope cl xs cs tgt p (ρf i) (ρg i))
    (turn : ∀ (i : Nat) (p : PV) (B' : Heap) (V' : List (Addr × List PV)) (s' : Shared) (E' : Value → Shared → Prop), its[i]? = some p → VS i s'.toks V' → FS C B' T V' (fEnv scope cl L env) (xs ++ cs) (ρg i) s'.heap → RestC C A (cEnv scope cl L env) ifs emit (TurnedG C B' T (VS (i + 1)) (fEnv scope cl L env) (xs ++ cs) (ρf (i + 1)) s') E' s')
    (H : ∀ h' tk' V', VS its.length tk' V' → FS C B T' V' (fEnv scope cl L env) (xs ++ cs) (ρf its.length) h' → R (.ok .next) { s with heap := h', toks := tk' }) :
    codeAny (model PW C.w) A (.compLoop (.ListComp elt gens sc pos) depth (.ref I) acc (cEnv scope cl L env)) R s := by
  have hvw : ∀ i tk V', VS i tk V' → ∀ q ∈ V', q.1 ∉ wr ∧ (∀ b ∈ fp, q.1 ≠ b) ∧ q.1 ∈ T' := fun i tk V' hvs q hq => by
    have hm : q.1 ∈ V0.map (·.1) := by rw [← hV i tk V' hvs]; exact List.mem_map_of_mem (f := (·.1)) hq
    obtain ⟨q', hq', e⟩ := List.mem_map.mp hm
    rw [← show q'.1 = q.1 from e]
    exact ⟨hvw q' hq', fun b hb => (hfp b hb).2.2.2 q' hq', hV' q' hq'⟩
  have nocell : ∀ x c, (fEnv scope cl L env).kindOf x = some .cell → (fEnv scope cl L env).cells.lookup x = some c → False := fun x c a _ => K.nocell _ (mem_of_lookup a) rfl
  have hcd : ∀ q ∈ (fEnv scope cl L env).cells, (fEnv scope cl L env).kindOf q.1 = some .cell → (fEnv scope cl L env).cells.lookup q.1 = some q.2 := fun q _ a => absurd rfl (K.nocell _ (mem_of_lookup a))
  have wB : ∀ b ∈ wr, b ∈ T ∧ B.get? b = none := fun b hb => ⟨T1 b (List.mem_append_left _ hb), wB b hb⟩
  refine codeAny_compLoop_any (fun n s' => ∃ i h tk V', s' = { s with heap := h, toks := tk } ∧ i ≤ its.length ∧ n = its.length - i ∧ VS i tk V' ∧ FS C B T V' (fEnv scope cl L env) (xs ++ cs) (ρf i) h ∧ St i h ∧ Kp T h₀ h) ht ?_ its.length
    ⟨0, s.heap, s.toks, V0, rfl, Nat.zero_le _, by simp, hV0, F, st0, kp0⟩
  rintro n s' ⟨i, h, tk, V', rfl, hi, rfl, hvs, Fi, sti, kpi⟩
  by_cases hlt : i < its.length
  · obtain ⟨p', hp'⟩ : ∃ p', its[i]? = some p' := ⟨its[i], by simp [hlt]⟩
    refine wpAny_with_toks (s := { s with heap := h, toks := tk }) (n := tk) (Nat.le_refl _) ?_
    refine W.item i p' T _ _ _ hp' T1 T2 kpi Fi.bs.off Fi.tabs sti fun v' h₁' tk₁' off₁ rv' go => fun (hle : tk ≤ tk₁') => ?_
    refine go _ _ fun h₂ off₂ st₂ => ?_
    have off : Off wr h h₂ := fun b o hb e => off₂ b o hb (off₁ b o hb e)
    have F₂ : FS C B T V' (fEnv scope cl L env) (xs ++ cs) (ρf i) h₂ := Fi.wrs off (W.nc _ _ sti) wB hlw (fun x c a b => (nocell x c a b).elim) (fun q hq => ⟨(hvw i tk V' hvs q hq).1, (Fi.vol q hq).1⟩)
      (fun _ h => h) (fun b _ hb => let ⟨_, _, o, e, _⟩ := W.nc _ _ st₂ b hb; ⟨o, e⟩) Fi.ls
    have rv₂ : Rel T h₂ v' p' := rv'.kp fun b o hb e => off₂ b o (fun q => (DD.ne hb).2.2 (wB b q).1) e
    obtain ⟨own, F₃⟩ := F₂.rebase hcd
    have ownq : ∀ b ∈ ownAt (fEnv scope cl L env) V', b = L ∨ ∃ q ∈ V', q.1 = b := fun b hb => by
      rcases List.mem_cons.mp hb with rfl | hb
      · exact .inl rfl
      · rcases List.mem_append.mp hb with hb | hb
        · obtain ⟨⟨x, c⟩, hm, rfl⟩ := List.mem_map.mp hb
          obtain ⟨hm, hk⟩ := List.mem_filter.mp hm
          have hk : (fEnv scope cl L env).kindOf x = some .cell := by simpa using hk
          exact (K.nocell _ (mem_of_lookup hk) rfl).elim
        · obtain ⟨q, hq, rfl⟩ := List.mem_map.mp hb
          exact .inr ⟨q, hq, rfl⟩
    refine wpAny_with_toks (s := { s with heap := h₂, toks := tk₁' }) (n := tk₁') (Nat.le_refl _) ?_
    refine (asg i p' hp').run A _ _ _ L { s with heap := h₂, toks := tk₁' } v' _ _ hh F₃ rv₂ fun h₃ tk₃ F₄ => fun (hle₃ : tk₁' ≤ tk₃) => ?_
    have step : ∀ s'' : Shared, TurnedG C (hideAll h₂ (ownAt (fEnv scope cl L env) V')) T (VS (i + 1)) (fEnv scope cl L env) (xs ++ cs) (ρf (i + 1)) { s with heap := h₃, toks := tk₃ } s'' →
        ∃ m, m < its.length - i ∧ ∃ i h tk V', s'' = { s with heap := h, toks := tk } ∧ i ≤ its.length ∧ m = its.length - i ∧ VS i tk V' ∧ FS C B T V' (fEnv scope cl L env) (xs ++ cs) (ρf i) h ∧ St i h ∧ Kp T h₀ h := fun s'' ⟨h₄, tk₄, V₄, e, hvs₄, F₅⟩ => by
      subst e
      have keep : ∀ b o, b ≠ 68 → b ≠ 75 → b ∉ ownAt (fEnv scope cl L env) V' → h₂.get? b = some o → h₄.get? b = some o := fun b o n m hb e => F₅.base.k b o n m (hideAll_get _ e hb)
      refine ⟨its.length - (i + 1), by (first | lia | omega), i + 1, h₄, tk₄, V₄, rfl, hlt, rfl, hvs₄, ?_, ?_, ?_⟩
      · refine F₂.unbase F₅ ⟨fun b o n m e => keep b o n m (fun q => by rw [(own b q).2] at e; cases e) (F₂.base.k b o n m e), fun _ => F₅.tabs⟩ ((hV _ _ _ hvs₄).trans (hV _ _ _ hvs).symm)
      · exact W.frame _ _ _ st₂ fun b hb o e => keep b o (hfp b hb).1 (hfp b hb).2.1 (fun q => by
          rcases ownq b q with e | ⟨q', hq', e⟩
          · exact (hfp b hb).2.2.1 e
          · exact (hvw i tk V' hvs q' hq').2.1 b hb e) e
      · exact fun b o hb e => keep b o (DD.ne hb).1 (DD.ne hb).2.1 (fun q => (DD.ne hb).2.2 (own b q).1) (off b o (fun q => (DD.ne hb).2.2 (wB b q).1) (kpi b o hb e))
    refine wpAny_mono (turn i p' _ V' { s with heap := h₃, toks := tk₃ } _ hp' (mono i tk tk₃ V' hvs (Nat.le_trans hle hle₃)) F₄).out (fun ok s'' hq => ?_) fun _ _ e => e
    cases ok with
    | false => exact step _ hq
    | true => exact wpAny_mono hq (fun _ s₅ h₅ => step _ h₅) fun _ _ e => e
  · have hin : i = its.length := by (first | lia | omega)
    subst hin
    refine wpAny_with_toks (s := { s with heap := h, toks := tk }) (n := tk) (Nat.le_refl _) ?_
    refine W.done _ _ _ sti fun h₁' tk₁' off₁ => fun (hle : tk ≤ tk₁') => ?_
    exact H h₁' tk₁' V' (mono _ _ _ _ hvs hle) (Fi.wrs off₁ (W.nc _ _ sti) wB hlw (fun x c a b => (nocell x c a b).elim) (fun q hq => ⟨(hvw _ _ _ hvs q hq).1, (hvw _ _ _ hvs q hq).2.2⟩) (fun b h => (hT' b h).1)
      (fun b hb q => absurd q (hT' b hb).2) hL')

theorem comp_coreG {nm : List Str} {ρ : List (Option PV)} {k : Nat} {E : Value → Shared → Prop} {Q : Value → Shared → Prop} {elt : PySem.Expr} {more : List Comprehension} {tgt iter : PySem.Expr} {ifs : List PySem.Expr} {p0 pos : Pos} {use : Option (Value → Sem Unit)} {emit : Addr → Addr → Sem Unit} {its : List PV} {ps : List PV} {V : List (Addr × List PV)}
    (K : CompScope env scope cl xs cs) (hinj : ∀ x y c, env.cells.lookup x = some c → env.cells.lookup y = some c → x = y) (I : Inv C S env nm ρ s.heap) (cap : Caps nm ρ cs ps) (vol : ∀ q ∈ V, q.1 ∈ S ∧ C.B₀.get? q.1 = none ∧ VL S s.heap q.1 q.2) (vnd : (V.map (·.1)).Nodup)
    (Rm : Room k A) (he : EvIter C S env nm ρ k tgt iter its) (VS : Nat → Tok → List PV → List (Addr × List PV) → Prop) (hV0 : ∀ tk, s.toks ≤ tk → VS 0 tk [] V) (ρf ρg : Nat → List (Option PV)) (hρ : ρf 0 = (xs.map fun _ => none) ++ ps.map some) (hV : ∀ i tk r V', VS i tk r V' → V'.map (·.1) = V.map (·.1)) (mono : ∀ i tk tk' r V', VS i tk r V' → tk ≤ tk' → VS i tk' r V')
    (ht : ∀ L D it, compTurn (.ListComp elt (⟨tgt, iter, ifs, 0⟩ :: more) scope pos) 0 it (.ref D) (cEnv scope cl L env) = (do
        standAt iter.pos
        match ← pyNext it with
        | none => pure (.done .next)
        | some v =>
          letOwnedTupleGo tgt it v
          assign tgt (cEnv scope cl L env) v
          let mut ok := true
          for c in ifs do
            if ok then ok ← isTrue c (cEnv scope cl L env) (eval c (cEnv scope cl L env))
          if ok then emit L D
          again (.compLoop (.ListComp elt (⟨tgt, iter, ifs, 0⟩ :: more) scope pos) 0 it (.ref D) (cEnv scope cl L env))))
    (asg : ∀ i p, its[i]? = some p → AsgC C env scope cl xs cs tgt p (ρf i) (ρg i))
    (turn : ∀ (L D : Addr) (S' : List Addr) (i : Nat) (p : PV) (B' : Heap) (r : List PV) (V' : List (Addr × List PV)) (s' : Shared) (E' : Value → Shared → Prop), its[i]? = some p → (∀ a ∈ S, a ∈ S') → VS i s'.toks r V' → FS C B' S' ((D, r) :: V') (fEnv scope cl L env) (xs ++ cs) (ρg i) s'.heap →
      RestC C A (cEnv scope cl L env) ifs (emit L D) (TurnedG C B' S' (fun tk W => ∃ r V', W = (D, r) :: V' ∧ VS (i + 1) tk r V') (fEnv scope cl L env) (xs ++ cs) (ρf (i + 1)) s') E' s')
    (H : ∀ (L D : Addr) h' tk' m r V', VS its.length tk' r V' → (∀ b o, b ∉ V.map (·.1) → b ≠ 68 → b ≠ 75 → s.heap.get? b = some o → h'.get? b = some o) → Tabs h' → (∀ q ∈ V', VL (L :: S) h' q.1 q.2) → D ∉ DD S → L ∉ DD S → L ≠ D → s.heap.get? D = none → s.heap.get? L = none → VL (L :: S) h' D r → h'.Ns L m →
      compPost (model PW C.w) A E use Q (.ref D) L (.ok .next) { s with heap := h', toks := tk' })
    (hs : ∀ x, foldedSetIterable iter env x = pure x := by intro _; rfl) :
    wpAny (model PW C.w) A (comprehension (.ListComp elt (⟨tgt, iter, ifs, 0⟩ :: more) scope pos) scope env p0 (newList []) false (eval iter env) use) Q E s := by
  refine wpAny_comprehension_free rfl hs K.clos K.kind K.names (wpAny_toks1 (Nat.le_refl s.toks) (wpAny_mono (he.run A s _ E Rm I fun J fp wr St h₀ tk₀ g₀ W st0 hfresh hfp => ?_) (fun v s₁ h₁ hn₁ => wpAny_toks1 hn₁ h₁) fun _ _ e => e))
  intro (hle : s.toks ≤ tk₀)
  have I₀ := I.gr g₀
  refine wpAny_newObj_type (wpAny_newFunctionEnv K.nocell (by intro y hy; simp at hy) (fun h₁ hns₁ hsb₁ => ?_) K.kind)
  dsimp only at hns₁ hsb₁ ⊢
  generalize hH2 : h₀.push { cls := .type "list", dict := none, data := .seq ([] : List Value).toArray } = H2 at hns₁ hsb₁ ⊢
  have hC : H2.objs.size = h₀.objs.size + 1 := by rw [← hH2, Heap.size_push]
  have hDC : h₀.objs.size ≠ H2.objs.size := by rw [hC]; exact Nat.ne_of_lt (Nat.lt_succ_self _)
  have old : ∀ b o, h₀.get? b = some o → h₁.get? b = some o := fun b o e => hsb₁.extBut b o (by rw [hC]; exact Nat.ne_of_lt (Nat.lt_succ_of_lt (Heap.lt_size e))) (Heap.get?_push_of_some _ (hH2 ▸ Heap.get?_push_of_some _ e))
  have hacc : IsL h₁ h₀.objs.size #[] 0 := hsb₁.extBut _ _ hDC (Heap.get?_push_of_some _ (hH2 ▸ Heap.get?_push_size _ rfl))
  obtain ⟨L, hLdef⟩ : ∃ L, L = H2.objs.size := ⟨_, rfl⟩
  obtain ⟨D, hDdef⟩ : ∃ D, D = h₀.objs.size := ⟨_, rfl⟩
  rw [← hLdef] at hns₁ hsb₁ hDC ⊢
  rw [← hDdef] at hacc hDC ⊢
  have hL0 : h₀.get? L = none := by rw [hLdef, hC]; exact Heap.get?_none_of_le (Nat.le_succ _)
  have hD0 : h₀.get? D = none := by rw [hDdef]; exact new_none _
  have g₁ : Gr h₀ h₁ := .of old
  have T₀ := I₀.bs.tabs
  have n68 : ∀ a, h₀.get? a = none → a ≠ 68 ∧ a ≠ 75 := fun a ha => ⟨fun q => (by obtain ⟨_, e⟩ := T₀.a.data; rw [← q, ha] at e; cases e), fun q => (by obtain ⟨_, e⟩ := T₀.b.data; rw [← q, ha] at e; cases e)⟩
  have hsn : ∀ a, h₀.get? a = none → s.heap.get? a = none := fun a ha => gr_none g₀ (n68 a ha).1 (n68 a ha).2 ha
  have nS : ∀ a, h₀.get? a = none → a ∉ DD S := fun a ha => DD.of ⟨(n68 a ha).1, (n68 a ha).2, fun hm => by obtain ⟨o, e⟩ := I₀.bs.off a hm; rw [ha] at e; cases e⟩
  have nc0 := W.nc 0 _ st0
  obtain ⟨oL, _, _, hoL, _⟩ := id hns₁
  have F := FS.comp (L := L) (D := D) (wr := wr) K hinj I cap vol vnd (g₀.trans g₁) (fun a ha => by
    rcases List.mem_cons.mp ha with rfl | ha
    · exact ⟨hsn _ hL0, _, hoL⟩
    · rcases List.mem_cons.mp ha with rfl | ha
      · exact ⟨hsn _ hD0, _, hacc⟩
      · obtain ⟨_, _, o, e, _⟩ := nc0 a ha
        exact ⟨hfresh a ha, o, old _ _ e⟩) hns₁ hacc
  have exS : ∀ q ∈ V, ∃ o, h₀.get? q.1 = some o := fun q hq => I₀.bs.off _ (vol q hq).1
  have hloop : codeAny (model PW C.w) A (.compLoop (.ListComp elt (⟨tgt, iter, ifs, 0⟩ :: more) scope pos) 0 (.ref J) (.ref D) (cEnv scope cl L env)) (compPost (model PW C.w) A E use Q (.ref D) L) { s with heap := h₁, toks := tk₀ + ([] : List (Str × Value)).length } := by
    refine comp_forG (S := S) (T := L :: D :: (wr ++ S)) (emit := emit L D) K Rm.hh (fun i tk W => ∃ r V', W = (D, r) :: V' ∧ VS i tk r V') (V0 := (D, []) :: V) ⟨[], V, rfl, hV0 _ hle⟩ ρf ρg (by rw [hρ]; exact F) W (fun a ha => .tail _ (.tail _ ha)) (fun a ha hn => ?_) (fun b o _ e => old b o e) (W.frame _ _ _ st0 fun b _ o e => old b o e)
      (fun b hb => hideAll_none _ (.tail _ (.tail _ (List.mem_append_left _ hb)))) (fun q => ?_) (fun q hq m => ?_) (fun b hb => ?_) (fun i tk W ⟨r, V', e, hvs⟩ => by rw [e, List.map_cons, List.map_cons, hV i tk r V' hvs]) (fun i tk tk' W ⟨r, V', e, hvs⟩ hle => ⟨r, V', e, mono i tk tk' r V' hvs hle⟩) (L :: D :: S) (fun b hb => ?_) (.head _) (fun q hq => ?_) (ht L D _) asg (fun i p B' W s' E' hp ⟨r, V', e, hvs⟩ F' => turn L D _ i p B' r V' s' E' hp (fun a ha => .tail _ (.tail _ (List.mem_append_right _ ha))) hvs (e ▸ F')) fun h' tk' W ⟨r, V', e, hvs⟩ F' => ?_
    · rcases List.mem_cons.mp ha with rfl | ha
      · exact hL0
      · rcases List.mem_cons.mp ha with rfl | ha
        · exact hD0
        · exact absurd ha hn
    · obtain ⟨_, _, o, e, _⟩ := nc0 _ q; rw [hL0] at e; cases e
    · skip
      rcases List.mem_cons.mp hq with rfl | hq
      · obtain ⟨_, _, o, e, _⟩ := nc0 _ m; rw [hD0] at e; cases e
      · obtain ⟨o, e⟩ := I.bs.off _ (vol q hq).1; rw [hfresh _ m] at e; cases e
    · obtain ⟨o, e⟩ := W.ex b hb
      refine ⟨(DD.ne (hfp b hb)).1, (DD.ne (hfp b hb)).2.1, fun q => (by rw [q, hL0] at e; cases e), fun q hq => ?_⟩
      skip
      rcases List.mem_cons.mp hq with rfl | hq
      · exact fun q => by rw [← q, hD0] at e; cases e
      · exact fun q' => (DD.ne (hfp b hb)).2.2 (q' ▸ (vol q hq).1)
    · rcases List.mem_cons.mp hb with rfl | hb
      · exact ⟨.head _, fun q => by obtain ⟨_, _, o, e, _⟩ := nc0 _ q; rw [hL0] at e; cases e⟩
      · rcases List.mem_cons.mp hb with rfl | hb
        · exact ⟨.tail _ (.head _), fun q => by obtain ⟨_, _, o, e, _⟩ := nc0 _ q; rw [hD0] at e; cases e⟩
        · exact ⟨.tail _ (.tail _ (List.mem_append_right _ hb)), fun q => by obtain ⟨o, e⟩ := I.bs.off _ hb; rw [hfresh _ q] at e; cases e⟩
    · skip
      rcases List.mem_cons.mp hq with rfl | hq
      · exact .tail _ (.head _)
      · exact .tail _ (.tail _ (vol q hq).1)
    · subst e
      obtain ⟨m, hm⟩ := F'.loc
      have sub : ∀ b ∈ L :: S, b ∈ L :: D :: S := fun b hb => by
        rcases List.mem_cons.mp hb with rfl | hb
        · exact .head _
        · exact .tail _ (.tail _ hb)
      refine H L D h' tk' m r V' hvs (fun b o hb n1 n2 e => F'.base.k b o n1 n2 (hideAll_get _ (old _ _ (g₀.k b o n1 n2 e)) fun q => ?_)) F'.tabs (fun q hq => ?_) (nS D hD0) (nS L hL0) (fun q => hDC q.symm) (hsn _ hD0) (hsn _ hL0) ?_ hm
      · rcases List.mem_cons.mp q with rfl | q
        · rw [hsn _ hL0] at e; cases e
        · rcases List.mem_cons.mp q with rfl | q
          · rw [hsn _ hD0] at e; cases e
          · rcases List.mem_append.mp q with q | q
            · rw [hfresh _ q] at e; cases e
            · exact hb q
      · exact (F'.vol q (.tail _ hq)).2.2.less sub
      · exact (F'.vol _ (.head _)).2.2.less sub
  exact codeAny_compStart_list hloop (W.self _ _ _ (W.frame _ _ _ st0 fun b _ o e => old b o e) hloop)
/-- the same, what comes out told beforehand -/
theorem comp_core {nm : List Str} {ρ : List (Option PV)} {k : Nat} {E : Value → Shared → Prop} {Q : Value → Shared → Prop} {elt : PySem.Expr} {more : List Comprehension} {tgt iter : PySem.Expr} {ifs : List PySem.Expr} {p0 pos : Pos} {use : Option (Value → Sem Unit)} {emit : Addr → Addr → Sem Unit} {its : List PV} {ps : List PV} {V : List (Addr × List PV)}
    (K : CompScope env scope cl xs cs) (hinj : ∀ x y c, env.cells.lookup x = some c → env.cells.lookup y = some c → x = y) (I : Inv C S env nm ρ s.heap) (cap : Caps nm ρ cs ps) (vol : ∀ q ∈ V, q.1 ∈ S ∧ C.B₀.get? q.1 = none ∧ VL S s.heap q.1 q.2) (vnd : (V.map (·.1)).Nodup)
    (Rm : Room k A) (he : EvIter C S env nm ρ k tgt iter its) (res : Nat → List PV) (Vx : Nat → List (Addr × List PV)) (ρf ρg : Nat → List (Option PV)) (hres : res 0 = []) (hVx : Vx 0 = V) (hρ : ρf 0 = (xs.map fun _ => none) ++ ps.map some) (hV : ∀ i, (Vx i).map (·.1) = V.map (·.1))
    (ht : ∀ L D it, compTurn (.ListComp elt (⟨tgt, iter, ifs, 0⟩ :: more) scope pos) 0 it (.ref D) (cEnv scope cl L env) = (do
        standAt iter.pos
        match ← pyNext it with
        | none => pure (.done .next)
        | some v =>
          letOwnedTupleGo tgt it v
          assign tgt (cEnv scope cl L env) v
          let mut ok := true
          for c in ifs do
            if ok then ok ← isTrue c (cEnv scope cl L env) (eval c (cEnv scope cl L env))
          if ok then emit L D
          again (.compLoop (.ListComp elt (⟨tgt, iter, ifs, 0⟩ :: more) scope pos) 0 it (.ref D) (cEnv scope cl L env))))
    (asg : ∀ i p, its[i]? = some p → AsgC C env scope cl xs cs tgt p (ρf i) (ρg i))
    (turn : ∀ (L D : Addr) (S' : List Addr) (i : Nat) (p : PV) (B' : Heap) (s' : Shared) (E' : Value → Shared → Prop), its[i]? = some p → (∀ a ∈ S, a ∈ S') → FS C B' S' ((D, res i) :: Vx i) (fEnv scope cl L env) (xs ++ cs) (ρg i) s'.heap →
      RestC C A (cEnv scope cl L env) ifs (emit L D) (TurnedC C B' S' ((D, res (i + 1)) :: Vx (i + 1)) (fEnv scope cl L env) (xs ++ cs) (ρf (i + 1)) s') E' s')
    (H : ∀ (L D : Addr) h' tk' m, (∀ b o, b ∉ V.map (·.1) → b ≠ 68 → b ≠ 75 → s.heap.get? b = some o → h'.get? b = some o) → Tabs h' → (∀ q ∈ Vx its.length, VL (L :: S) h' q.1 q.2) → D ∉ DD S → L ∉ DD S → L ≠ D → s.heap.get? D = none → s.heap.get? L = none → VL (L :: S) h' D (res its.length) → h'.Ns L m →
      compPost (model PW C.w) A E use Q (.ref D) L (.ok .next) { s with heap := h', toks := tk' })
    (hs : ∀ x, foldedSetIterable iter env x = pure x := by intro _; rfl) :
    wpAny (model PW C.w) A (comprehension (.ListComp elt (⟨tgt, iter, ifs, 0⟩ :: more) scope pos) scope env p0 (newList []) false (eval iter env) use) Q E s :=
  comp_coreG K hinj I cap vol vnd Rm he (fun i _ r V' => r = res i ∧ V' = Vx i) (fun _ _ => ⟨hres.symm, hVx.symm⟩) ρf ρg hρ (fun i _ _ _ h => h.2 ▸ hV i) (fun _ _ _ _ _ h _ => h) ht asg
    (fun L D S' i p B' r V' s' E' hp sub h F => ⟨by
      obtain ⟨rfl, rfl⟩ := h
      refine wpAny_mono (turn L D S' i p B' s' E' hp sub F).out (fun ok s₃ h₃ => ?_) fun _ _ e => e
      cases ok with
      | false => obtain ⟨h, tk, e, F⟩ := h₃; exact ⟨h, tk, _, e, ⟨_, _, rfl, rfl, rfl⟩, F⟩
      | true => exact wpAny_mono h₃ (fun _ s₅ ⟨h, tk, e, F⟩ => ⟨h, tk, _, e, ⟨_, _, rfl, rfl, rfl⟩, F⟩) fun _ _ e => e⟩)
    (fun L D h' tk' m r V' h a b c d e f g i j k => by obtain ⟨rfl, rfl⟩ := h; exact H L D h' tk' m a b c d e f g i j k) hs
end
end Mine
end

section
open PySem PySem.W PyProof.Rows PySem.Calls
namespace Mine

theorem append_any {C : Cx} {A : Around} {s : Shared} {D : Addr} {x : Value} {vs : Array Value} {n : Nat} {Q : Value → Shared → Prop} {E : Value → Shared → Prop} (hl : IsL s.heap D vs n) (hsz : vs.size ≤ sizeLine)
    (hQ : Q .none { s with heap := s.heap.update D (Obj.mapSeq (·.push x)) }) : wpAny (model PW C.w) A (call (.builtin "list.append") [.ref D, x]) Q E s := by
  refine wpAny_call_entry slot_list_append hl.isList.typeIs entry_list_append ?_ (args_list_append _ _)
  show wpAny _ _ (updateSeq D (·.push x) >>= fun _ => ret .none) _ _ s
  exact wpAny_bind (wpAny_updateSeq hl rfl (wpAny_pure ⟨.none, rfl, hQ⟩))

section
variable {C : Cx} {env : Env} {scope : Scope} {cl : List (Str × Addr)} {xs cs : List Str} {A : Around} {B : Heap} {S T : List Addr} {V : List (Addr × List PV)} {L : Addr} {s : Shared} {k : Nat} {E : Value → Shared → Prop}
/-- the tests of a comprehension's clause -/
structure Tests (C : Cx) (S : List Addr) (env : Env) (nm : List Str) (ρ : List (Option PV)) (k : Nat) (ifs : List PySem.Expr) (b : Bool) : Prop where
  run : ∀ (A : Around) (s : Shared) (Q : Bool → Shared → Prop) (E : Value → Shared → Prop), Room k A → Inv C S env nm ρ s.heap → (∀ h' tk, Gr s.heap h' → Q b { s with heap := h', toks := tk }) →
    wpAny (model PW C.w) A (testsOf ifs env) Q E s
theorem Tests.none {nm : List Str} {ρ : List (Option PV)} : Tests C S env nm ρ k [] true := ⟨fun A s Q E R I H => by unfold testsOf; rw [List.forIn_nil]; exact wpAny_pure (H s.heap s.toks Gr.rfl)⟩
theorem Tests.one {nm : List Str} {ρ : List (Option PV)} {c : PySem.Expr} {b : Bool} (h : Tr C S env nm ρ k c b) : Tests C S env nm ρ k [c] b := ⟨fun A s Q E R I H => by
  unfold testsOf
  rw [List.forIn_cons]
  simp only [if_true]
  refine wpAny_bind (wpAny_bind (h.run A s _ E R I fun h' tk g => wpAny_pure ?_))
  show wpAny _ _ (forIn [] b _) _ _ _
  rw [List.forIn_nil]
  exact wpAny_pure (H h' tk g)⟩
noncomputable abbrev emit1 (elt : PySem.Expr) (D : Addr) (env : Env) : Sem Unit := do
  let _ ← call (.builtin "list.append") [.ref D, ← eval elt env]
theorem RestC.one {ifs : List PySem.Expr} {elt : PySem.Expr} {D : Addr} {l : List PV} {b : Bool} {p : PV} {ρ : List (Option PV)} (K : CompScope env scope cl xs cs) (R : Room k A) (F : FS C B S ((D, l) :: V) (fEnv scope cl L env) (xs ++ cs) ρ s.heap) (hl : l.length ≤ sizeLine)
    (ht : Tests C S (cEnv scope cl L env) (xs ++ cs) ρ k ifs b) (he : b = true → Ev C S (cEnv scope cl L env) (xs ++ cs) ρ k elt p) :
    RestC C A (cEnv scope cl L env) ifs (emit1 elt D (cEnv scope cl L env)) (TurnedC C B S ((D, l ++ if b = true then [p] else []) :: V) (fEnv scope cl L env) (xs ++ cs) ρ s) E s := ⟨by
  refine ht.run A s _ E R (K.inv F.inv) fun h₁ tk₁ g₁ => ?_
  have F₁ := F.gr g₁
  cases b with
  | false => simp only [Bool.false_eq_true, if_false, List.append_nil]; exact ⟨h₁, tk₁, rfl, F₁⟩
  | true =>
    simp only [if_true]
    refine wpAny_bind ((he rfl).run A { s with heap := h₁, toks := tk₁ } _ E R (K.inv F₁.inv) fun v h₂ tk₂ g₂ rv => wpAny_bind ?_)
    have F₂ := F₁.gr g₂
    obtain ⟨hS, hB, vs, n, ht, rl⟩ := F₂.vol _ (.head _)
    refine append_any ht (by rw [List.size_toArray, rl.length]; exact hl) (wpAny_pure ?_)
    have hs := Heap.SameBut.update h₂ D (Obj.mapSeq fun xs => xs.push v)
    have g : GrB D h₂ (h₂.update D (Obj.mapSeq fun xs => xs.push v)) := .of hs fun o ws e q => by rw [ht] at e; cases e; cases q
    have kp : Kp S h₂ (h₂.update D (Obj.mapSeq fun xs => xs.push v)) := fun b o hb e => (hs.2 b fun q => (DD.ne hb).2.2 (q ▸ hS)).trans e
    exact ⟨_, tk₂, rfl, F₂.turn g ⟨vs ++ [v], _, by have := ht.update (fun xs => xs.push v); simpa using this, (rl.append (.cons rv .nil)).kp kp⟩⟩⟩

/-- the row of a turn -/
noncomputable def rowAt (bs : PV → List PV) (its : List PV) (n : Nat) (i : Nat) : List (Option PV) := match its[i]? with
  | some p => (bs p).map some
  | none => List.replicate n none
theorem rowAt_some {bs : PV → List PV} {its : List PV} {n i : Nat} {p : PV} (h : its[i]? = some p) : rowAt bs its n i = (bs p).map some := by unfold rowAt; rw [h]
theorem rowAt_len {bs : PV → List PV} {its : List PV} {n i : Nat} (h : ∀ p ∈ its, (bs p).length = n) : (rowAt bs its n i).length = n := by
  unfold rowAt
  cases e : its[i]? with
  | none => simp
  | some p => simp [h p (List.mem_of_getElem? e)]
noncomputable def stAt (bs : PV → List PV) (its : List PV) (n : Nat) (ps : List PV) : Nat → List (Option PV)
  | 0 => List.replicate n none ++ ps.map some
  | i + 1 => rowAt bs its n i ++ ps.map some
/-- what a comprehension comes to -/
noncomputable def keepF (t : PV → Bool) (g : PV → PV) (p : PV) : Option PV := if t p = true then some (g p) else none

/-- what is asked of a comprehension with one clause -/
structure Comp1 (C : Cx) (S : List Addr) (env : Env) (nm : List Str) (ρ : List (Option PV)) (k : Nat) (elt tgt iter : PySem.Expr) (ifs : List PySem.Expr) (scope : Scope) (its : List PV) (t : PV → Bool) (g : PV → PV) : Prop where
  run : ∀ (A : Around) (s : Shared) (Q : Value → Shared → Prop) (E : Value → Shared → Prop) (p0 pos : Pos) (use : Option (Value → Sem Unit)), Room k A → Inv C S env nm ρ s.heap →
    (∀ (L D : Addr) h' tk' m, Gr s.heap h' → D ∉ DD S → L ∉ DD S → L ≠ D → s.heap.get? D = none → s.heap.get? L = none → VL (L :: S) h' D (its.filterMap (keepF t g)) → h'.Ns L m →
      compPost (model PW C.w) A E use Q (.ref D) L (.ok .next) { s with heap := h', toks := tk' }) →
    wpAny (model PW C.w) A (comprehension (.ListComp elt [⟨tgt, iter, ifs, 0⟩] scope pos) scope env p0 (newList []) false (eval iter env) use) Q E s
variable {nm : List Str} {ρ : List (Option PV)}
theorem Comp1.mk' {elt tgt iter : PySem.Expr} {ifs : List PySem.Expr} {its ps : List PV} {t : PV → Bool} {g : PV → PV} (K : CompScope env scope cl xs cs) (hinj : ∀ x y c, env.cells.lookup x = some c → env.cells.lookup y = some c → x = y) (cap : Caps nm ρ cs ps)
    (he : EvIter C S env nm ρ k tgt iter its) (hn : its.length ≤ sizeLine) (bs : PV → List PV) (hb : ∀ p ∈ its, (bs p).length = xs.length)
    (asg : ∀ p ρx, p ∈ its → ρx.length = xs.length → AsgC C env scope cl xs cs tgt p (ρx ++ ps.map some) ((bs p).map some ++ ps.map some))
    (tst : ∀ p L S', p ∈ its → (∀ a ∈ S, a ∈ S') → Tests C S' (cEnv scope cl L env) (xs ++ cs) ((bs p).map some ++ ps.map some) k ifs (t p))
    (hel : ∀ p L S', p ∈ its → t p = true → (∀ a ∈ S, a ∈ S') → Ev C S' (cEnv scope cl L env) (xs ++ cs) ((bs p).map some ++ ps.map some) k elt (g p))
    (hs : ∀ x, foldedSetIterable iter env x = pure x := by intro _; rfl) : Comp1 C S env nm ρ k elt tgt iter ifs scope its t g := ⟨fun A s Q E p0 pos use R I H => by
  refine comp_core (emit := fun L D => emit1 elt D (cEnv scope cl L env)) K hinj I cap (V := []) (fun q hq => by cases hq) (by simp) R he (fun i => (its.take i).filterMap (keepF t g)) (fun _ => []) (stAt bs its xs.length ps) (fun i => rowAt bs its xs.length i ++ ps.map some) rfl rfl ?_ (fun _ => rfl) (fun L D it => rfl) (fun i p hp => ?_) (fun L D S' i p B' s' E' hp sub F => ?_) (fun L D h' tk' m k T _ hD hL hLD hD0 hL0 vl ns => ?_) hs
  · show List.replicate _ none ++ _ = _
    rw [List.map_const']
  · have hm := List.mem_of_getElem? hp
    simp only [rowAt_some hp]
    cases i with
    | zero => exact asg p _ hm (by simp)
    | succ i => exact asg p _ hm (rowAt_len hb)
  · have hm := List.mem_of_getElem? hp
    have e1 : rowAt bs its xs.length i ++ ps.map some = (bs p).map some ++ ps.map some := by rw [rowAt_some hp]
    have e2 : stAt bs its xs.length ps (i + 1) = (bs p).map some ++ ps.map some := e1
    have F : FS C B' S' _ _ _ (rowAt bs its xs.length i ++ ps.map some) s'.heap := F
    rw [e1] at F
    rw [e2]
    have e3 : (its.take (i + 1)).filterMap (keepF t g) = (its.take i).filterMap (keepF t g) ++ if t p = true then [g p] else [] := by
      rw [List.take_add_one, hp, List.filterMap_append]
      unfold keepF
      cases h : t p <;> simp [h]
    rw [e3]
    refine RestC.one K R F (Nat.le_trans (List.length_filterMap_le _ _) (Nat.le_trans (by rw [List.length_take]; exact Nat.min_le_right _ _) hn)) (tst p L S' hm sub) fun h => hel p L S' hm h sub
  · have vl : VL (L :: S) h' D ((its.take its.length).filterMap (keepF t g)) := vl
    rw [List.take_length] at vl
    exact H L D h' tk' m ⟨fun b o n1 n2 e => k b o (by simp) n1 n2 e, fun _ => T⟩ hD hL hLD hD0 hL0 vl ns⟩

/-- the list of a comprehension -/
theorem Ev.comp {elt tgt iter : PySem.Expr} {ifs : List PySem.Expr} {pos : Pos} {its : List PV} {t : PV → Bool} {g : PV → PV} (c : Comp1 C S env nm ρ k elt tgt iter ifs scope its t g) : Ev C S env nm ρ k (.ListComp elt [⟨tgt, iter, ifs, 0⟩] scope pos) (.lst (its.filterMap (keepF t g))) := ⟨fun A s Q E R I H => by
  rw [eval_ListComp]
  refine c.run A s Q E _ pos none R I fun L D h' tk' m g hD hL hLD hD0 hL0 vl ns => ⟨m, ns, fun h'' hs => ?_⟩
  obtain ⟨oL, es, ep, hoL, hdL, _⟩ := id ns
  have n68 := (I.gr g).bs.tabs.ne hoL fun vs q => by rw [hdL] at q; cases q
  have g' : Gr s.heap h'' := ⟨fun b o n1 n2 e => (hs.2 b fun q => by rw [q, hL0] at e; cases e).trans (g.k b o n1 n2 e), fun t => (g.tab t).but (fun b o n e => (hs.2 b n).trans e) fun o vs e q => by rw [hoL] at e; cases e; rw [hdL] at q; cases q⟩
  obtain ⟨vs, n, hl, rl⟩ := vl
  refine H _ h'' tk' g' (.lst hD ((hs.2 D fun q => hLD q.symm).trans hl) ((rl.kp fun b o hb e => (hs.2 b fun q => (DD.ne hb).2.2 (q ▸ .head _)).trans e).less fun b hb => .tail _ hb))⟩

theorem X.assignC {Q : Flow → Shared → Prop} {elt tgt iter : PySem.Expr} {ifs : List PySem.Expr} {pos cpos : Pos} {its : List PV} {t : PV → Bool} {g : PV → PV} {x : Str} {px : Pos} {rest : List Stmt} {ρ' : List (Option PV)} (F : FS C B S V env nm ρ s.heap) (M : Fm env nm) (R : Room k A)
    (c : Comp1 C S env nm ρ k elt tgt iter ifs scope its t g) (st : SetAt nm ρ x (.lst (its.filterMap (keepF t g))) ρ')
    (H : ∀ h' tk', FS C B S V env nm ρ' h' → X C A env rest Q E { s with heap := h', toks := tk' })
    (hs : swapsWith (.ListComp elt [⟨tgt, iter, ifs, 0⟩] scope cpos) (some (.Name x px)) pos.line env = pure true := by rfl) (hf : env.kindOf x = some .local := by kernel_rfl) : X C A env (.Assign [.Name x px] (.ListComp elt [⟨tgt, iter, ifs, 0⟩] scope cpos) pos :: rest) Q E s := ⟨by
  refine wpAny_execs_cons ?_
  rw [exec_Assign_Name_used _ _ _ _ hs]
  refine wpAny_bind (wpAny_standAt (wpAny_bind ?_))
  show wpAny _ A (do let _ ← comprehension (.ListComp elt [⟨tgt, iter, ifs, 0⟩] scope cpos) scope env _ (newList []) false (eval iter env) (some (PySem.assign (.Name x px) env))) _ _ s
  refine wpAny_bind (wpAny_mono (c.run A s (fun _ s' => wpAny _ A (execs rest env) Q E s') E _ cpos (some (PySem.assign (.Name x px) env)) R F.inv fun L D h' tk' m g hD hL hLD hD0 hL0 vl ns => ?_) (fun _ s' hq => wpAny_pure (wpAny_pure hq)) fun _ _ e => e)
  obtain ⟨oL, es, ep, hoL, hdL, _⟩ := id ns
  have F₁ : FS C B ([L] ++ S) V env nm ρ h' := F.grow g fun b hb => by rw [List.mem_singleton] at hb; subst hb; exact ⟨hL0, _, hoL⟩
  obtain ⟨vs, n, hl, rl⟩ := vl
  have hD' : D ∉ DD ([L] ++ S) := DD.of ⟨(DD.ne hD).1, (DD.ne hD).2.1, fun hm => by
    rcases List.mem_append.mp hm with hm | hm
    · exact hLD (List.mem_singleton.mp hm).symm
    · exact (DD.ne hD).2.2 hm⟩
  have nlL : env.locals ≠ L := fun q => by obtain ⟨m, o, _, _, ho, _⟩ := F.loc; rw [q, hL0] at ho; cases ho
  obtain ⟨i, hi, rfl⟩ := st.idx
  obtain ⟨m₁, hm₁⟩ := F₁.loc
  show wpAny _ A (PySem.assign (.Name x px) env (.ref D)) _ _ _
  refine assign_Name (wpAny_storeName_local hf hm₁ (fun h₂ hn hs₂ => ?_) M.hp)
  have F₂ := F₁.store M hi hf hn hm₁ hs₂ (.lst hD' hl rl)
  have ns₂ : h₂.Ns L m := ns.sameBut hs₂ (Ne.symm nlL)
  refine ⟨m, ns₂, fun h₃ hs₃ => ?_⟩
  obtain ⟨oL₂, _, _, hoL₂, hdL₂, _⟩ := id ns₂
  have n68 := F₂.tabs.ne hoL₂ fun vs q => by rw [hdL₂] at q; cases q
  refine (H h₃ _ (F₂.wrs (S' := S) (wr := [L]) (fun b o hb e => (hs₃.2 b fun q => hb (q ▸ .head _)).trans e) (fun b hb => ?_) (fun b hb => ?_) (fun q => nlL (List.mem_singleton.mp q)) (fun y c a b => ?_) (fun q hq => ?_) (fun b hb => .tail _ hb) (fun b hb q => ?_) F.ls)).out
  · rw [List.mem_singleton] at hb; subst hb
    exact ⟨n68.1, n68.2, _, hoL₂, fun vs x t e => by rw [hdL₂] at e; cases e⟩
  · rw [List.mem_singleton] at hb; subst hb
    exact ⟨.head _, F.noB hL0 n68.1 n68.2⟩
  · obtain ⟨d, _, v, o, ho, _⟩ := F.cls y c a b
    exact ⟨fun q => (by rw [List.mem_singleton.mp q, hL0] at ho; cases ho), d⟩
  · obtain ⟨d, _, w⟩ := F.vol q hq
    obtain ⟨o, ho, _⟩ := w.seq
    exact ⟨fun q => (by rw [List.mem_singleton.mp q, hL0] at ho; cases ho), d⟩
  · rw [List.mem_singleton] at q; subst q
    exact absurd (List.mem_of_elem_eq_true (by simpa using hb)) (DD.ne hL).2.2⟩
end
end Mine
end

section
open PySem PySem.W PyProof.Rows PySem.Calls
open Builtin Builtin.Str
open AutoSeq1 (wpAny_loadPart')
set_option maxRecDepth 100000
namespace Mine

section
variable {prog : Program} {w : World} {A : Around} {E : Value → Shared → Prop} {s : Shared}
theorem nextOf_tuple_item {it l : Addr} {i : Nat} {items : Array Value} {x : Value} {Q : Value → Shared → Prop} (hit : s.heap.IsTupleIter it l i)
    (hl : s.heap.IsTuple l items) (hx : items[i]? = some x)
    (hQ : ∀ h', h'.IsTupleIter it l (i + 1) → Heap.SameBut it s.heap h' → Q x { s with heap := h' }) :
    wpAny (model prog w) A (Builtin.SmallTypes.nextOf (.ref it)) Q E s := by
  obtain ⟨o, ho, hc, hd⟩ := id hit
  obtain ⟨ol, hol, _, nl, hdl⟩ := hl
  unfold Builtin.SmallTypes.nextOf
  refine wpAny_bind (wpAny_callSpecial?_slot (name := Str.ofString "__next__") hit.typeIs F.slot_tuple_iterator_next
    (wpAny_call_entry F.slot_tuple_iterator_next hit.typeIs F.entry_tuple_iterator_next ?_ (F.args_tuple_iterator_next_1 _)))
  show wpAny _ _ (field (.ref it) 0 >>= _) _ _ s
  refine wpAny_bind (wpAny_field ho hd (x := .ref l) rfl ?_)
  show wpAny _ _ (if (Value.ref l == Value.none) = true then _ else _) _ _ s
  rw [if_neg (show ¬ ((Value.ref l == Value.none) = true) from Bool.false_ne_true)]
  show wpAny _ _ (field (.ref it) 1 >>= _) _ _ s
  refine wpAny_bind (wpAny_field ho hd (x := .int i 0) rfl ?_)
  show wpAny _ _ (seqItems? (.ref l) >>= _) _ _ s
  refine wpAny_bind (wpAny_seqItems hol hdl ?_)
  simp only [Int.toNat_natCast, hx]
  refine wpAny_bind (wpAny_setField ho hd (by simp) (wpAny_pure ⟨x, rfl, wpAny_pure (hQ _ ?_ (Heap.SameBut.update ..))⟩))
  exact ⟨_, Heap.get?_update_self _ ho (Obj.isFreed_of_fields (Obj.data_mapFields hd _)), (Obj.cls_mapFields ..).trans hc, by
    rw [Obj.data_mapFields hd]; simp [rawInt]⟩

theorem nextOf_tuple_end {it l : Addr} {i : Nat} {items : Array Value} {Q : Value → Shared → Prop} (hh : A.handled = none)
    (hit : s.heap.IsTupleIter it l i) (hl : s.heap.IsTuple l items) (hx : items[i]? = none)
    (hE : ∀ h' e, Heap.ExtBut it s.heap h' → (∃ o, h'.get? e = some o ∧ o.cls = .type "StopIteration") → E (.ref e) { s with heap := h' }) :
    wpAny (model prog w) A (Builtin.SmallTypes.nextOf (.ref it)) Q E s := by
  obtain ⟨o, ho, hc, hd⟩ := id hit
  obtain ⟨ol, hol, _, nl, hdl⟩ := hl
  unfold Builtin.SmallTypes.nextOf
  refine wpAny_bind (wpAny_callSpecial?_slot (name := Str.ofString "__next__") hit.typeIs F.slot_tuple_iterator_next
    (wpAny_call_entry F.slot_tuple_iterator_next hit.typeIs F.entry_tuple_iterator_next ?_ (F.args_tuple_iterator_next_1 _)))
  show wpAny _ _ (field (.ref it) 0 >>= _) _ _ s
  refine wpAny_bind (wpAny_field ho hd (x := .ref l) rfl ?_)
  show wpAny _ _ (if (Value.ref l == Value.none) = true then _ else _) _ _ s
  rw [if_neg (show ¬ ((Value.ref l == Value.none) = true) from Bool.false_ne_true)]
  show wpAny _ _ (field (.ref it) 1 >>= _) _ _ s
  refine wpAny_bind (wpAny_field ho hd (x := .int i 0) rfl ?_)
  show wpAny _ _ (seqItems? (.ref l) >>= _) _ _ s
  refine wpAny_bind (wpAny_seqItems hol hdl ?_)
  simp only [Int.toNat_natCast, hx]
  refine wpAny_bind (wpAny_rule (wpAny_bind (wpAny_setField ho hd (by simp) ?_)))
  show wpAny _ _ (newExc (.type "StopIteration") [] >>= _) _ _ _
  refine wpAny_bind ?_
  simp only [newExc, newTuple]
  refine wpAny_bind (wpAny_newObj_type ?_ (by size_fits))
  refine wpAny_bind (m := firstArgMember _ _) (wpAny_of_eq (a := Value.none) (by first | rfl | (simp only [firstArgMember]; rfl)) ?_)
  refine wpAny_newObj_type ?_ (by size_fits)
  simp only [raiseNew]
  refine wpAny_bind (wpAny_handled ?_)
  first | rw [show A.in1.handled = none from hh] | rw [hh]
  refine wpAny_bind (wpAny_pure (wpAny_throw ?_))
  exact hE _ _ (((Heap.SameBut.update ..).extBut.push _).push _) ⟨_, Heap.get?_push_size _ rfl, rfl⟩
end
theorem istit_at {h h' : Heap} {a t : Addr} {i : Nat} (x : h.IsTupleIter a t i) (k : ∀ o, h.get? a = some o → h'.get? a = some o) : h'.IsTupleIter a t i := let ⟨o, ho, r⟩ := x; ⟨o, k o ho, r⟩
theorem istup_at {h h' : Heap} {a : Addr} {its : Array Value} (x : h.IsTuple a its) (k : ∀ o, h.get? a = some o → h'.get? a = some o) : h'.IsTuple a its := let ⟨o, ho, r⟩ := x; ⟨o, k o ho, r⟩
theorem Draws.tuple {prog : Program} {w : World} {A : Around} (hh : A.handled = none) (it l : Addr) (hne : l ≠ it) (items : Array Value) :
    Draws prog w A it [it, l] items.size (fun i v => items[i]? = some v) (fun i h => h.IsTupleIter it l i ∧ h.IsTuple l items) where
  live := fun _ _ st => let ⟨o, ho, _⟩ := st.1; ⟨o, ho⟩
  frame := fun _ _ _ st hk => ⟨istit_at st.1 fun o e => hk it (by simp) o e, istup_at st.2 fun o e => hk l (by simp) o e⟩
  item := fun i s Q E hi st hQ => by
    refine nextOf_tuple_item st.1 st.2 (x := items[i]) (by simp [hi]) fun h' hit' hs' => ?_
    exact hQ _ h' s.toks (by simp [hi]) ⟨hit', st.2.extBut hs'.extBut hne⟩ hs'
  done := fun s Q E st hE => nextOf_tuple_end hh st.1 st.2 (by simp) hE

theorem meets_enumerate_newT (l : Addr) (items : Array Value) (n : Nat) :
    Meets (Builtin.«enumerate.__new__» ⟨[.type "enumerate", .ref l], []⟩) (fun _ R s => IsT s.heap l items n ∧
      R (.ok (.ret (.ref (s.heap.push { cls := .type "tuple_iterator", data := .fields #[.ref l, .int 0 0] }).objs.size)))
        { s with heap := (s.heap.push { cls := .type "tuple_iterator", data := .fields #[.ref l, .int 0 0] }).push { cls := .type "enumerate", data := .fields #[.none, .bool false, .ref s.heap.objs.size, rawInt 0, .none, .none] } }) :=
  .of_wp fun prog w A R s h => by
    obtain ⟨hp, g, d, tk, os⟩ := s; obtain ⟨hl, h⟩ := h
    have hsub := sub_enumerate
    have hL : Heap.IsTuple (Shared.heap ⟨hp, g, d, tk, os⟩) l items := ⟨_, hl, rfl, n, rfl⟩
    wp_walk using wpAny_loadPart' hl
    refine wpAny_stack_any fun st => wpAny_pure ?_
    split
    · rename_i c _ _ _ _ _
      cases (c == Value.type "enumerate")
      · wp_walk using wpAny_loadPart' hl, wpAny_pyIter_tuple hL
        exact ⟨_, rfl, h⟩
      · wp_walk using wpAny_loadPart' hl, wpAny_pyIter_tuple hL
        exact ⟨_, rfl, h⟩
    · wp_walk using wpAny_loadPart' hl, wpAny_pyIter_tuple hL
      exact ⟨_, rfl, h⟩
theorem call_enumerate_tuple {prog : Program} {w : World} {A : Around} {E : Value → Shared → Prop} {s : Shared} {l : Addr} {items : Array Value} {n : Nat} {Q : Value → Shared → Prop} (hL : IsT s.heap l items n)
    (h : ∀ h', IsEnum h' (s.heap.objs.size + 1) s.heap.objs.size 0 .none → h'.IsTupleIter s.heap.objs.size l 0 → h'.objs.size = s.heap.objs.size + 2 →
      (∀ b o, s.heap.get? b = some o → h'.get? b = some o) → Q (.ref (s.heap.objs.size + 1)) { s with heap := h' }) :
    wpAny (model prog w) A (call (.type "enumerate") [.ref l]) Q E s := by
  refine callType_new F.called_enumerate (by decide) (F.typeCall_enumerate_1 _) (F.newCall_enumerate_1 _) (fun obj => F.args_object_init_2 obj _) F.entry_enumerate_new
    (meets_enumerate_newT l items n) ⟨hL, ?_⟩
  have hz : (s.heap.push { cls := .type "tuple_iterator", data := .fields #[.ref l, .int 0 0] }).objs.size = s.heap.objs.size + 1 := Heap.size_push ..
  show _ ∧ _
  rw [hz]
  have he : IsEnum ((s.heap.push { cls := .type "tuple_iterator", data := .fields #[.ref l, .int 0 0] }).push
      { cls := .type "enumerate", data := .fields #[.none, .bool false, .ref s.heap.objs.size, rawInt 0, .none, .none] }) (s.heap.objs.size + 1) s.heap.objs.size 0 .none := by
    have := Heap.get?_push_size (s.heap.push { cls := .type "tuple_iterator", data := .fields #[.ref l, .int 0 0] })
      (o := { cls := .type "enumerate", data := .fields #[.none, .bool false, .ref s.heap.objs.size, rawInt 0, .none, .none] }) rfl
    rw [hz] at this; exact this
  refine ⟨⟨_, he, rfl⟩, h _ he ⟨_, Heap.get?_push_of_some _ (Heap.get?_push_size _ rfl), rfl, rfl⟩ (by rw [Heap.size_push, hz]) fun b o x => Heap.get?_push_of_some _ (Heap.get?_push_of_some _ x)⟩

/-- the numbered items -/
noncomputable def enumL (l : List PV) : List PV := l.zipIdx.map fun q => PV.tup [.int (q.2 : Nat), q.1]
theorem enumL_get {l : List PV} {i : Nat} {p : PV} (h : (enumL l)[i]? = some p) : ∃ q, l[i]? = some q ∧ p = .tup [.int (i : Nat), q] := by
  unfold enumL at h
  rw [List.getElem?_map, List.getElem?_zipIdx] at h
  cases e : l[i]? with
  | none => rw [e] at h; simp at h
  | some q => rw [e] at h; simp at h; exact ⟨q, rfl, h.symm⟩
theorem enumL_length {l : List PV} : (enumL l).length = l.length := by simp [enumL]

theorem Iter.enum {C : Cx} {S : List Addr} {A : Around} {elts : List PySem.Expr} {kk : Nat} {tp : Pos} {l : List PV} {e it : Addr} {fp : List Addr} {h₀ : Heap} {P : Nat → Value → Prop} {St : Nat → Heap → Prop} (hh : A.handled = none) (D : Draws PW C.w A.in1 it fp l.length P St) (hei : e ≠ it) (hef : e ∉ fp) (hif : it ∈ fp)
    (he : e ≠ 68 ∧ e ≠ 75) (hi : it ≠ 68 ∧ it ≠ 75) (ex : ∀ b ∈ e :: fp, ∃ o, h₀.get? b = some o) (nc : ∀ i h, St i h → ∃ o ws, h.get? it = some o ∧ o.data = .fields ws ∧ ∀ x t, ws[1]? ≠ some (.str x t))
    (hP : ∀ i v q h T, P i v → l[i]? = some q → (∀ a ∈ [e, it] ++ S, a ∈ T) → (∀ a ∈ T, a ∉ [e, it] ++ S → h₀.get? a = none) → Kp T h₀ h → Rel T h v q) :
    Iter C S A (.Tuple elts kk tp) (enumL l) e (e :: fp) [e, it] h₀ (fun i h => (∃ old, IsEnum h e it i old) ∧ St i h) where
  sub := (WalksT.enumerateD D e hei hef hif).sub
  ex := ex
  nc := fun i h st b hb => by
    obtain ⟨⟨old, h1⟩, h2⟩ := st
    rcases List.mem_cons.mp hb with rfl | hb
    · exact ⟨he.1, he.2, _, h1, fun vs x t q => by cases q; simp⟩
    · rw [List.mem_singleton] at hb; subst hb
      obtain ⟨o, ws, a, b, c⟩ := nc i h h2
      exact ⟨hi.1, hi.2, o, a, fun vs x t q => by rw [b] at q; cases q; exact c x t⟩
  frame := (WalksT.enumerateD D e hei hef hif).frame
  self := fun s Q E st h => (WalksT.enumerateD D e hei hef hif).self 0 s Q E st h
  item := fun i p T s Q E hp hT1 hT2 kp ex tb st K => by
    obtain ⟨⟨old, h1⟩, h2⟩ := st
    obtain ⟨q, hq, rfl⟩ := enumL_get hp
    have hlt : i < l.length := (List.getElem?_eq_some_iff.mp hq).1
    refine wpAny_pyNext_enum_itemD D h1 h2 hlt hei hef fun x h' tk hPx ho hs' hT hsz hk => ?_
    have off : Off [e, it] s.heap h' := fun b o hb y => hk b o (fun q => hb (q ▸ .head _)) (fun q => hb (q ▸ .tail _ (.head _))) y
    have kp' : Kp T h₀ h' := fun b o hb y => off b o (fun q => (DD.ne hb).2.2 (hT1 _ (List.mem_append_left _ q))) (kp b o hb y)
    have hnew : s.heap.objs.size ∉ DD T := DD.of ⟨fun q => by
      obtain ⟨_, e⟩ := tb.a.data; rw [← q] at e; exact Nat.lt_irrefl _ (Heap.lt_size e), fun q => by
      obtain ⟨_, e⟩ := tb.b.data; rw [← q] at e; exact Nat.lt_irrefl _ (Heap.lt_size e), fun hm => let ⟨_, e⟩ := ex _ hm; Nat.lt_irrefl _ (Heap.lt_size e)⟩
    refine K _ h' (tk + 1) off (.tup (vs := [.int i tk, x]) hnew hT (.cons (.int _ _) (.cons (hP i x q h' T hPx hq hT1 hT2 kp') .nil))) fun Q' E' hQ => ?_
    refine wpAny_letOwnedTupleGo_enum ho fun h'' he' hs'' => hQ h'' (fun b o hb y => (hs''.2 b fun e' => hb (by simp [e'])).trans y) ⟨⟨x, by simpa using he'⟩, D.frame _ _ _ hs' fun b hb o y => (hs''.2 b fun q => hef (q ▸ hb)).trans y⟩
  done := fun s Q E st K => (WalksT.enumerateD D e hei hef hif).done s Q E (by rw [enumL_length] at st; exact st) K

section
variable {C : Cx} {S : List Addr} {env : Env} {nm : List Str} {ρ : List (Option PV)} {k : Nat}
theorem EvIter.enum {elts : List PySem.Expr} {kk : Nat} {tp : Pos} {x : Str} {np pos : Pos} {e : PySem.Expr} {p : PV} {l : List PV} (hf : Ev C S env nm ρ k (.Name x np) (.raw (.type "enumerate"))) (he : Ev C S env nm ρ k e p) (hpl : p = .lst l ∨ p = .tup l)
    (hs : starEach [e] env = (false, eval e env) :: starEach [] env := by rfl) (hp : (backTo pos (starEach [] env)).any (·.1) = false := by rfl) : EvIter C S env nm ρ k (.Tuple elts kk tp) (.Call (.Name x np) [e] [] pos) (enumL l) := ⟨fun A s Q E R I H =>
  wpAny_Call_Name_kw (hf.run A s _ E R I fun v h₁ tk₁ g₁ r => by
    obtain ⟨_, rfl⟩ := r.inv
    refine PyProof.Rows.callWith_type1 ((EvL.cons he EvL.nil hs).run A _ _ E R (I.gr g₁) fun vs h₂ tk₂ g₂ rl => ?_) hs hp
    have B := ((I.gr g₁).gr g₂).bs
    have nI := DD.ne B.new
    have hz : ∀ a, h₂.objs.size ≤ a → a ∉ DD S ∧ h₂.get? a = none := fun a ha => by
      have hn : h₂.get? a = none := Heap.get?_none_of_le ha
      exact ⟨DD.of ⟨fun q => (by obtain ⟨_, e⟩ := B.tabs.a.data; rw [← q, hn] at e; cases e), fun q => (by obtain ⟨_, e⟩ := B.tabs.b.data; rw [← q, hn] at e; cases e), fun hm => (by obtain ⟨o, e⟩ := B.off a hm; rw [hn] at e; cases e)⟩, hn⟩
    have z0 := hz _ (Nat.le_refl _)
    have z1 := hz _ (Nat.le_succ h₂.objs.size)
    have fresh : ∀ a, h₂.objs.size ≤ a → s.heap.get? a = none := fun a ha => gr_none (g₁.trans g₂) (DD.ne (hz a ha).1).1 (DD.ne (hz a ha).1).2.1 (hz a ha).2
    have hne : h₂.objs.size + 1 ≠ h₂.objs.size := Nat.succ_ne_self _
    have fin : ∀ (a : Addr) (vs : List Value) (h' : Heap), a ∉ DD S → (∃ o, h₂.get? a = some o) → RelL S h₂ vs l → IsEnum h' (h₂.objs.size + 1) h₂.objs.size 0 .none → (∀ b o, h₂.get? b = some o → h'.get? b = some o) →
        (∃ o ws, h'.get? h₂.objs.size = some o ∧ o.data = .fields ws ∧ ∀ x t, ws[1]? ≠ some (.str x t)) →
        (∀ b ∈ [h₂.objs.size + 1, h₂.objs.size, a], (∃ o, h'.get? b = some o) ∧ b ∉ DD S) ∧
        (∀ i v q h T, vs.toArray[i]? = some v → l[i]? = some q → (∀ a ∈ [h₂.objs.size + 1, h₂.objs.size] ++ S, a ∈ T) → (∀ a ∈ T, a ∉ [h₂.objs.size + 1, h₂.objs.size] ++ S → h'.get? a = none) → Kp T h' h → Rel T h v q) := fun a vs h' ha hex rl he hk hit => by
      refine ⟨fun b hb => ?_, fun i v q h T hv hq hT1 hT2 kp => ?_⟩
      · rcases List.mem_cons.mp hb with rfl | hb
        · exact ⟨⟨_, he⟩, z1.1⟩
        · rcases List.mem_cons.mp hb with rfl | hb
          · obtain ⟨o, _, e, _⟩ := hit; exact ⟨⟨o, e⟩, z0.1⟩
          · rw [List.mem_singleton] at hb; subst hb
            obtain ⟨o, e⟩ := hex; exact ⟨⟨o, hk _ _ e⟩, ha⟩
      · have rl' : RelL T h vs l := ((rl.more (S' := T) fun b hb hn => by
          by_cases hw : b ∈ [h₂.objs.size + 1, h₂.objs.size]
          · rcases List.mem_cons.mp hw with rfl | hw
            · exact z1.2
            · rw [List.mem_singleton] at hw; subst hw; exact z0.2
          · cases e : h₂.get? b with
            | none => rfl
            | some o =>
              have := hT2 b hb fun q => by
                rcases List.mem_append.mp q with q | q
                · exact hw q
                · exact hn q
              rw [hk b o e] at this; cases this).gr (.of hk)).kp kp
        obtain ⟨u, hu, ru⟩ := rl'.get hq
        have hv : vs[i]? = some v := (List.getElem?_toArray ..).symm.trans hv
        rw [hv] at hu; cases hu; exact ru
    obtain ⟨_, rfl, r1⟩ := rl.inv1
    rcases hpl with rfl | rfl
    · obtain ⟨a, us, n, rfl, hn, hl, rl⟩ := r1.inv
      refine call_enumerate_list hl.isList fun h' he' hit' hsz hk => ?_
      obtain ⟨o, ho, _, hd⟩ := id hit'
      obtain ⟨f1, f2⟩ := fin a us h' hn ⟨_, hl⟩ rl he' hk ⟨o, _, ho, hd, fun x t => by simp⟩
      have hal := Heap.lt_size hl
      have D := Draws.list (prog := PW) (w := C.w) (A := A.in1) R.hh h₂.objs.size a (Nat.ne_of_lt hal) us.toArray
      rw [show us.toArray.size = l.length by rw [List.size_toArray, rl.length]] at D
      refine wpAny_pyIter_enum he' (H _ _ _ _ h' tk₂ ((g₁.trans g₂).trans (.of hk)) (Iter.enum R.hh D hne (fun q => ?_) (.head _) ⟨(DD.ne z1.1).1, (DD.ne z1.1).2.1⟩ ⟨(DD.ne z0.1).1, (DD.ne z0.1).2.1⟩ (fun b hb => (f1 b hb).1) (fun i h st => ?_) f2) ⟨⟨_, he'⟩, hit', hl.isList.at fun o e => hk _ _ e⟩ (fun b hb => ?_) fun b hb => (f1 b hb).2)
      · rcases List.mem_cons.mp q with q | q
        · exact hne q
        · rw [List.mem_singleton] at q; rw [← q] at hal; exact absurd hal (Nat.not_lt.mpr (Nat.le_succ _))
      · obtain ⟨o, ho, _, hd⟩ := st.1; exact ⟨o, _, ho, hd, fun x t => by simp⟩
      · rcases List.mem_cons.mp hb with rfl | hb
        · exact fresh _ (Nat.le_succ _)
        · rw [List.mem_singleton] at hb; subst hb; exact fresh _ (Nat.le_refl _)
    · obtain ⟨a, us, n, rfl, hn, hl, rl⟩ := r1.inv
      refine call_enumerate_tuple hl fun h' he' hit' hsz hk => ?_
      obtain ⟨o, ho, _, hd⟩ := id hit'
      obtain ⟨f1, f2⟩ := fin a us h' hn ⟨_, hl⟩ rl he' hk ⟨o, _, ho, hd, fun x t => by simp⟩
      have hal := Heap.lt_size hl
      have D := Draws.tuple (prog := PW) (w := C.w) (A := A.in1) R.hh h₂.objs.size a (Nat.ne_of_lt hal) us.toArray
      rw [show us.toArray.size = l.length by rw [List.size_toArray, rl.length]] at D
      refine wpAny_pyIter_enum he' (H _ _ _ _ h' tk₂ ((g₁.trans g₂).trans (.of hk)) (Iter.enum R.hh D hne (fun q => ?_) (.head _) ⟨(DD.ne z1.1).1, (DD.ne z1.1).2.1⟩ ⟨(DD.ne z0.1).1, (DD.ne z0.1).2.1⟩ (fun b hb => (f1 b hb).1) (fun i h st => ?_) f2) ⟨⟨_, he'⟩, hit', ⟨_, hk _ _ hl, rfl, _, rfl⟩⟩ (fun b hb => ?_) fun b hb => (f1 b hb).2)
      · rcases List.mem_cons.mp q with q | q
        · exact hne q
        · rw [List.mem_singleton] at q; rw [← q] at hal; exact absurd hal (Nat.not_lt.mpr (Nat.le_succ _))
      · obtain ⟨o, ho, _, hd⟩ := st.1; exact ⟨o, _, ho, hd, fun x t => by simp⟩
      · rcases List.mem_cons.mp hb with rfl | hb
        · exact fresh _ (Nat.le_succ _)
        · rw [List.mem_singleton] at hb; subst hb; exact fresh _ (Nat.le_refl _))⟩
end
end Mine
end

section
open PySem PySem.W PyProof.Rows PySem.Calls
namespace Mine
section
variable {C : Cx} {S : List Addr} {k : Nat}
theorem CallR.sum_l {l : List Int} : CallR C S k (.builtin "sum") [.lst (l.map .int)] (.int l.sum) := ⟨fun A s Q E vs R B rl H => by
  obtain ⟨_, rfl, r1⟩ := rl.inv1
  obtain ⟨a, us, n, rfl, hn, hl, rl⟩ := r1.inv
  · skip
    · skip
      refine call_sum_walkG (wpAny_pyIter_list hl.isList ?_)
      have hal := Heap.lt_size hl
      refine ⟨_, _, _, _, _, _, fun i => l.getD i 0, rfl, Walks.list (A := A.in1) R.hh _ a (Nat.ne_of_lt hal) us.toArray, ⟨⟨_, Heap.get?_push_size _ rfl, rfl, rfl⟩, hl.isList.push _⟩, fun b hb => ?_, fun i v hv => ?_, fun h' tk t' hk => ?_⟩
      · show b < (s.heap.push _).objs.size
        rw [Heap.size_push]
        rcases List.mem_cons.mp hb with rfl | hb
        · exact Nat.lt_succ_self _
        · rw [List.mem_singleton] at hb; subst hb; exact Nat.lt_succ_of_lt hal
      · have hv : us[i]? = some v := (List.getElem?_toArray ..).symm.trans hv
        have hlt : i < l.length := by
          have := (List.getElem?_eq_some_iff.mp hv).1
          have e := rl.length; rw [List.length_map] at e; (first | lia | omega)
        obtain ⟨u, hu, ru⟩ := rl.get (i := i) (p := .int l[i]) (by simp [hlt])
        rw [hv] at hu; cases hu
        cases ru with
        | int _ t => exact ⟨t, by simp [hlt]⟩
      · have e : preSum (fun i => l.getD i 0) us.toArray.size = l.sum := by
          rw [preSum_getD, List.take_of_length_le]
          have e := rl.length; rw [List.length_map] at e; rw [List.size_toArray, e]; exact Nat.le_refl _
        rw [e]
        refine H _ h' tk (.of fun b o e => hk b o (fun q => ?_) (Heap.get?_push_of_some _ e)) (.int _ _)
        rw [List.mem_singleton.mp q] at e; exact Nat.lt_irrefl _ (Heap.lt_size e)⟩
theorem CallR.str_i {i : Int} (hi : i.natAbs.log2 < 1920) : CallR C S k (.type "str") [.int i] (.str (toString i)) := ⟨fun A s Q E vs R B rl H => by
  obtain ⟨_, rfl, r1⟩ := rl.inv1
  obtain ⟨_, rfl⟩ := r1.inv
  exact P.str_of_int hi (H.tok (.str _ _))⟩
theorem CallR.int_s {i : Int} (h0 : 0 ≤ i) (h1 : i < 10 ^ 10) : CallR C S k (.type "int") [.str (PySem.Str.ofString (toString i))] (.int i) := ⟨fun A s Q E vs R B rl H => by
  obtain ⟨_, rfl, r1⟩ := rl.inv1
  obtain ⟨_, rfl⟩ := r1.inv
  exact KIN.call_num h0 h1 (H.tok (.int _ _))⟩
theorem CallR.round_f {x : UInt64} (h : Float64.isFinite x = true) : CallR C S k (.builtin "round") [.flt x] (.int (PySem.Flt.toInt Float64.nearestOf x)) := ⟨fun A s Q E vs R B rl H => by
  obtain ⟨_, rfl, r1⟩ := rl.inv1
  obtain ⟨_, rfl⟩ := r1.inv
  exact PySem.Flt.call_round_float R.hh (fun q => by unfold Float64.isFinite at h; unfold Float64.isNaN at q; cases e : Float64.decode x <;> rw [e] at h q <;> simp at h q) (fun q => by unfold Float64.isFinite at h; unfold Float64.isInf at q; cases e : Float64.decode x <;> rw [e] at h q <;> simp at h q) fun _ => H.tok (.int _ _)⟩
theorem relL_strs {h : Heap} : ∀ (l : List (Str × Tok)), RelL S h (strValues l) ((l.map (·.1)).map .str)
  | [] => .nil
  | (x, t) :: l => .cons (.str x t) (relL_strs l)
theorem Meth0.split {x : Str} (hx : x.length + 2 ≤ sizeLine) : Meth0 C S k "split" (.str x) (.lst ((Txt.words x).map .str)) := ⟨fun A s Q E v pos R B r H => by
  obtain ⟨t, rfl⟩ := r.inv
  · skip
    refine ⟨"str", "str.split", PySem.F.plainAttrs_str, PySem.F.slot_str_split, PySem.F.type_str_split, typeIs_str _ _ _, (fun _ e => nomatch e), ?_⟩
    refine Calls.callWith_builtin rfl (evalArgs_nil3 ?_)
    have hn : (Builtin.Str.spaceWords x (x.length + 1)).length ≤ sizeLine := by
      have e1 := (StrLaws.sw_weight x).1
      have e2 := StrLaws.len_le_wsum (Builtin.Str.spaceWords x (x.length + 1))
      (first | lia | omega)
    refine call_meets PySem.F.slot_str_split (typeIs_str _ _ _) PySem.F.entry_str_split (PySem.F.args_str_split_1 _) (meets_str_split_space x t (by (first | lia | omega)) hn) ?_
    have fin : ∀ (l : List (Str × Tok)) (tk : Tok), l.map (·.1) = Txt.words x → Q (.ref s.heap.objs.size) { s with heap := s.heap.push { cls := .type "list", data := .seq (strValues l).toArray }, toks := tk } := fun l tk e =>
      H _ _ _ Gr.push (.lst B.new (Heap.get?_push_size _ rfl) (e ▸ (relL_strs l)))
    cases hw : Builtin.Str.spaceWords x (x.length + 1) == [(0, x.length)]
    · simp only [Bool.false_eq_true, if_false]
      rw [strsFrom_eq]
      exact fin (numbered s.toks (PySem.wordsOf x)) _ ((numbered_texts _ _).trans (if_neg (ne_true_of_eq_false hw)).symm)
    · simp only [if_true]
      exact fin [(x, t)] s.toks (if_pos hw).symm⟩
end
end Mine
end

section
open PySem PySem.W PyProof.Rows PySem.Calls
open PySem.SeqAt
namespace Mine

theorem Cx.booked (C : Cx) {h : Heap} (t : C.B₀.StaysIn h) : NoneBooked h := by
  obtain ⟨mc, hm, _⟩ := C.nodigits
  exact ⟨mc, hm.keeps t, ns_none_of C.X hm (show nsIn C.K cStatics sharingNotToldKey = some none by kernel_rfl)⟩

/-- two plain things and whether they are equal -/
inductive EqP : PV → PV → Bool → Prop
  | int (i j : Int) : EqP (.int i) (.int j) (i == j)
  | str (x y : Str) : EqP (.str x) (.str y) (x == y)
  | fi (x : UInt64) (n : Int) : EqP (.flt x) (.int n) (Float64.cmpInt x n == some Ordering.eq)
  | rfi (x : UInt64) (t : Tok) (n : Int) : EqP (.raw (.float x t)) (.int n) (Float64.cmpInt x n == some Ordering.eq)
  | ff (x y : UInt64) (t u : Tok) : 0 < t → 0 < u → t ≠ u → (x = y → (Float64.cmp x y == some Ordering.eq) = true) → EqP (.raw (.float x t)) (.raw (.float y u)) (Float64.cmp x y == some Ordering.eq)

theorem eqBool_fi {prog : Program} {w : World} {A : Around} {E : Value → Shared → Prop} {s : Shared} {x : UInt64} {n : Int} {t u : Tok} {Q : Bool → Shared → Prop} (h : Q (Float64.cmpInt x n == some Ordering.eq) s) : wpAny (model prog w) A (eqBool (.float x t) (.int n u)) Q E s := by
  unfold eqBool
  refine wpAny_holding ?_
  rw [if_neg (by intro q; have := eq_of_beq q; cases this)]
  exact wpAny_bind (PyProof.Rows.eq_fi (wpAny_truthy_bool h))
theorem eqBool_ff {prog : Program} {w : World} {A : Around} {E : Value → Shared → Prop} {s : Shared} {x y : UInt64} {t u : Tok} {Q : Bool → Shared → Prop} (hb : NoneBooked s.heap) (h1 : 0 < t) (h2 : 0 < u) (h3 : t ≠ u) (hxy : x = y → (Float64.cmp x y == some Ordering.eq) = true)
    (h : Q (Float64.cmp x y == some Ordering.eq) s) : wpAny (model prog w) A (eqBool (.float x t) (.float y u)) Q E s := by
  have cmp : wpAny (model prog w) A (richCompare .Eq (.float x t) (.float y u) >>= truthOfDropped) Q E s := wpAny_bind (AutoFloatOps.eq_0 (wpAny_truthy_bool h))
  unfold eqBool
  refine wpAny_holding ?_
  rw [if_neg (by intro q; have := eq_of_beq q; injection this with _ q; exact h3 q)]
  show wpAny _ _ (isSame (.float x t) (.float y u) >>= _) Q E s
  refine wpAny_bind ?_
  show wpAny _ _ (isSame.created (x == y && !Float64.isNaN x) t u) _ E s
  unfold isSame.created
  have e0 : (t == 0 || u == 0) = false := by
    have a : (t == 0) = false := beq_eq_false_iff_ne.mpr (Nat.ne_of_gt h1)
    have b : (u == 0) = false := beq_eq_false_iff_ne.mpr (Nat.ne_of_gt h2)
    rw [a, b]; rfl
  have e1 : (t == u) = false := beq_eq_false_iff_ne.mpr h3
  rw [e0, e1]
  simp only [Bool.false_eq_true, if_false]
  cases hc : (x == y && !Float64.isNaN x) with
  | false =>
    simp only [Bool.not_false, if_true]
    refine wpAny_pure ?_
    simp only [Bool.false_eq_true, if_false]
    exact cmp
  | true =>
    simp only [Bool.not_true, Bool.false_eq_true, if_false]
    have hx : x = y := by
      have := (Bool.and_eq_true_iff.mp hc).1
      exact eq_of_beq this
    refine wpAny_bind (wpAny_sharingNotTold_none hb ?_)
    simp only [Bool.false_eq_true, if_false]
    refine wpAny_bind (wpAny_sharingNotTold_none hb ?_)
    simp only [Bool.false_eq_true, if_false]
    refine wpAny_bind (wpAny_rule (wpAny_bind (wpAny_askSetting (wpAny_pure ?_))))
    split
    · exact wpAny_pure (by rw [hxy hx] at h; exact h)
    · exact cmp

section
variable {C : Cx} {S : List Addr} {k : Nat}
theorem EqP.at {A : Around} {s : Shared} {p q : PV} {b : Bool} {v w : Value} (e : EqP p q b) (nb : NoneBooked s.heap) (rv : Rel S s.heap v p) (rw_ : Rel S s.heap w q) : EqAt A s v w b := fun prog wd E Q hq => by
  cases e with
  | int i j => obtain ⟨_, rfl⟩ := rv.inv; obtain ⟨_, rfl⟩ := rw_.inv; exact wpAny_eqBool_int hq
  | str x y => obtain ⟨_, rfl⟩ := rv.inv; obtain ⟨_, rfl⟩ := rw_.inv; exact eqBool_str hq
  | fi x n => obtain ⟨_, rfl⟩ := rv.inv; obtain ⟨_, rfl⟩ := rw_.inv; exact eqBool_fi hq
  | rfi x t n => obtain ⟨_, rfl⟩ := rv.inv; obtain ⟨_, rfl⟩ := rw_.inv; exact eqBool_fi hq
  | ff x y t u h1 h2 h3 h4 => obtain ⟨_, rfl⟩ := rv.inv; obtain ⟨_, rfl⟩ := rw_.inv; exact eqBool_ff nb h1 h2 h3 h4 hq
/-- rows compared -/
inductive EqL : List PV → List PV → List Bool → Prop
  | nil : EqL [] [] []
  | cons {p q : PV} {b : Bool} {l m : List PV} {bs : List Bool} : EqP p q b → EqL l m bs → EqL (p :: l) (q :: m) (b :: bs)
theorem EqL.len {l m : List PV} {bs : List Bool} (e : EqL l m bs) : l.length = m.length ∧ bs.length = l.length := by
  induction e with
  | nil => exact ⟨rfl, rfl⟩
  | cons _ _ ih => simp [ih]
theorem EqL.get {l m : List PV} {bs : List Bool} (e : EqL l m bs) : ∀ (i : Nat) (p q : PV), l[i]? = some p → m[i]? = some q → EqP p q (bs.getD i false) := by
  induction e with
  | nil => intro i p q h; simp at h
  | cons a _ ih =>
    intro i p q h1 h2
    cases i with
    | zero => simp at h1 h2; subst h1 h2; simpa using a
    | succ i => simp at h1 h2; simpa using ih i p q h1 h2
theorem all_getD : ∀ (bs : List Bool), (List.range bs.length).all (fun j => bs.getD j false) = bs.all id
  | [] => rfl
  | b :: bs => by
    rw [List.length_cons, List.range_succ_eq_map, List.all_cons, List.all_map, List.all_cons, ← all_getD bs]
    rfl
theorem CmpR.ne_ll {l m : List PV} {bs : List Bool} (e : EqL l m bs) : CmpR C S k .NotEq (.lst l) (.lst m) (!bs.all id) := ⟨fun A s Q E va vb R B ra rb H => by
  have nb := C.booked B.top
  obtain ⟨a, vs, n, rfl, hn, hl, rl⟩ := ra.inv
  obtain ⟨b, us, n', rfl, hn', hl', rl'⟩ := rb.inv
  · skip
    · skip
      have e1 := rl.length
      have e2 := rl'.length
      obtain ⟨e3, e4⟩ := e.len
      have H' := PySem.SeqAt.RcNeAt.lists (A := A) (s := s) (e := fun j => bs.getD j false) hl.isList hl'.isList (by rw [List.size_toArray, List.size_toArray]; (first | lia | omega)) (by have := R.units; show A.units < cLine; unfold cLine; (first | lia | omega)) (fun j h1 h2 => by
        have h1' : j < vs.length := by simpa using h1
        have h2' : j < us.length := by simpa using h2
        obtain ⟨v, hv, rv⟩ := rl.get (i := j) (p := l[j]) (by simp)
        obtain ⟨u, hu, ru⟩ := rl'.get (i := j) (p := m[j]) (by simp)
        have ev : vs.toArray[j] = v := by obtain ⟨_, e⟩ := List.getElem?_eq_some_iff.mp hv; simpa using e
        have eu : us.toArray[j] = u := by obtain ⟨_, e⟩ := List.getElem?_eq_some_iff.mp hu; simpa using e
        rw [ev, eu]
        exact (e.get j _ _ (by simp) (by simp)).at nb rv ru) PW C.w E Q
      refine H' (H.now ?_)
      have : vs.toArray.size = bs.length := by rw [List.size_toArray]; (first | lia | omega)
      rw [this, all_getD]
      exact .bool _⟩
theorem CmpR.ne_len {l m : List PV} (e : l.length ≠ m.length) : CmpR C S k .NotEq (.lst l) (.lst m) true := ⟨fun A s Q E va vb R B ra rb H => by
  obtain ⟨a, vs, n, rfl, hn, hl, rl⟩ := ra.inv
  obtain ⟨b, us, n', rfl, hn', hl', rl'⟩ := rb.inv
  · skip
    · skip
      have e1 := rl.length
      have e2 := rl'.length
      exact PySem.SeqAt.RcNeAt.lists_lengths (A := A) (s := s) hl.isList hl'.isList (by rw [List.size_toArray, List.size_toArray]; simp; (first | lia | omega)) (by have := R.units; show A.units < cLine; unfold cLine; (first | lia | omega)) PW C.w E Q (H.now (.bool _))⟩
/-- is q one of the row -/
inductive InL (q : PV) : List PV → List Bool → Prop
  | nil : InL q [] []
  | cons {p : PV} {b : Bool} {l : List PV} {bs : List Bool} : EqP p q b → InL q l bs → InL q (p :: l) (b :: bs)
theorem InL.get {q : PV} {l : List PV} {bs : List Bool} (e : InL q l bs) : bs.length = l.length ∧ ∀ (i : Nat) (p : PV), l[i]? = some p → EqP p q (bs.getD i false) := by
  induction e with
  | nil => exact ⟨rfl, fun i p h => by simp at h⟩
  | cons a _ ih =>
    refine ⟨by simp [ih.1], fun i p h => ?_⟩
    cases i with
    | zero => simp at h; subst h; simpa using a
    | succ i => simp at h; simpa using ih.2 i p h
open Classical in
theorem inL_fn {A : Around} {s : Shared} {q : PV} {l : List PV} {bs : List Bool} {vs : List Value} {x : Value} (e : InL q l bs) (nb : NoneBooked s.heap) (rl : RelL S s.heap vs l) (rx : Rel S s.heap x q) :
    ∃ f : Value → Bool, (∀ y, y ∈ vs.toArray → EqAt A s y x (f y)) ∧ vs.toArray.any f = bs.any id := by
  obtain ⟨hl, hg⟩ := e.get
  have hlen := rl.length
  have look : ∀ (i : Nat) (y : Value), vs[i]? = some y → EqAt A s y x (bs.getD i false) := fun i y hy => by
    have hi : i < l.length := by rw [← hlen]; exact (List.getElem?_eq_some_iff.mp hy).1
    obtain ⟨v, hv, rv⟩ := rl.get (i := i) (p := l[i]) (by simp [hi])
    rw [hy] at hv; cases hv
    exact (hg i _ (by simp [hi])).at nb rv rx
  refine ⟨fun y => decide (∃ i : Nat, vs[i]? = some y ∧ bs[i]? = some true), fun y hy => ?_, ?_⟩
  · show EqAt A s y x (decide (∃ i : Nat, vs[i]? = some y ∧ bs[i]? = some true))
    by_cases h : ∃ i : Nat, vs[i]? = some y ∧ bs[i]? = some true
    · rw [decide_eq_true h]
      obtain ⟨i, h1, h2⟩ := h
      have := look i y h1
      rwa [List.getD_eq_getElem?_getD, h2] at this
    · rw [decide_eq_false h]
      have hy : y ∈ vs := by simpa using hy
      obtain ⟨i, hi⟩ := List.getElem?_of_mem hy
      have := look i y hi
      have hb : bs.getD i false = false := by
        rw [List.getD_eq_getElem?_getD]
        cases hb : bs[i]? with
        | none => rfl
        | some b => cases b with
          | false => rfl
          | true => exact absurd ⟨i, hi, hb⟩ h
      rwa [hb] at this
  · rw [Bool.eq_iff_iff]
    simp only [List.any_toArray, List.any_eq_true, decide_eq_true_eq, id]
    constructor
    · rintro ⟨y, _, i, _, h2⟩
      exact ⟨true, List.mem_of_getElem? h2, rfl⟩
    · rintro ⟨b, hb, rfl⟩
      obtain ⟨i, hi⟩ := List.getElem?_of_mem hb
      have hlt : i < vs.length := by rw [hlen, ← hl]; exact (List.getElem?_eq_some_iff.mp hi).1
      exact ⟨vs[i], List.getElem_mem hlt, i, by simp [hlt], hi⟩
theorem CmpR.in_lst {q : PV} {l : List PV} {bs : List Bool} (e : InL q l bs) : CmpR C S k .In q (.lst l) (bs.any id) := ⟨fun A s Q E va vb R B ra rb H => by
  obtain ⟨b, us, n', rfl, hn', hl', rl'⟩ := rb.inv
  · skip
    obtain ⟨f, h1, h2⟩ := inL_fn (A := A.in1) e (C.booked B.top) rl' ra
    exact in_listAt f hl'.isList h1 (H.now (h2 ▸ .bool _))⟩
theorem CmpR.notin_lst {q : PV} {l : List PV} {bs : List Bool} (e : InL q l bs) : CmpR C S k .NotIn q (.lst l) (!bs.any id) := ⟨fun A s Q E va vb R B ra rb H => by
  obtain ⟨b, us, n', rfl, hn', hl', rl'⟩ := rb.inv
  · skip
    obtain ⟨f, h1, h2⟩ := inL_fn (A := A.in1) e (C.booked B.top) rl' ra
    exact notIn_listAt f hl'.isList h1 (H.now (h2 ▸ .bool _))⟩
theorem CmpR.in_tup {q : PV} {l : List PV} {bs : List Bool} (e : InL q l bs) : CmpR C S k .In q (.tup l) (bs.any id) := ⟨fun A s Q E va vb R B ra rb H => by
  obtain ⟨b, us, n', rfl, hn', hl', rl'⟩ := rb.inv
  · skip
    obtain ⟨f, h1, h2⟩ := inL_fn (A := A.in1) e (C.booked B.top) rl' ra
    exact in_tupleAt f ⟨_, hl', rfl, _, rfl⟩ h1 (H.now (h2 ▸ .bool _))⟩
theorem InL.ints (x : Int) : ∀ l : List Int, InL (.int x) (l.map .int) (l.map (· == x))
  | [] => .nil
  | y :: l => .cons (.int y x) (InL.ints x l)
theorem EqL.ints : ∀ {l m : List Int}, l.length = m.length → EqL (l.map .int) (m.map .int) (List.zipWith (· == ·) l m)
  | [], [], _ => .nil
  | x :: l, y :: m, h => .cons (.int x y) (EqL.ints (by simpa using h))
theorem EqL.strs : ∀ {l m : List Str}, l.length = m.length → EqL (l.map .str) (m.map .str) (List.zipWith (· == ·) l m)
  | [], [], _ => .nil
  | x :: l, y :: m, h => .cons (.str x y) (EqL.strs (by simpa using h))
theorem zip_all {α : Type} [BEq α] [LawfulBEq α] : ∀ {l m : List α}, l.length = m.length → (List.zipWith (· == ·) l m).all id = true → l = m
  | [], [], _, _ => rfl
  | x :: l, y :: m, h, e => by
    simp only [List.zipWith_cons_cons, List.all_cons, Bool.and_eq_true, id, beq_iff_eq] at e
    rw [e.1, zip_all (by simpa using h) e.2]
theorem zip_same {α : Type} [BEq α] [LawfulBEq α] : ∀ (l : List α), (List.zipWith (· == ·) l l).all id = true
  | [] => rfl
  | x :: l => by simp [zip_same l]
theorem CmpR.ne_ints {l m : List Int} : CmpR C S k .NotEq (.lst (l.map .int)) (.lst (m.map .int)) (l != m) := by
  by_cases h : l.length = m.length
  · have e : (!(List.zipWith (· == ·) l m).all id) = (l != m) := by
      by_cases hq : l = m
      · subst hq; rw [zip_same]; simp
      · rw [show (l != m) = true from bne_iff_ne.mpr hq]
        cases hz : (List.zipWith (· == ·) l m).all id with
        | false => rfl
        | true => exact absurd (zip_all h hz) hq
    rw [← e]; exact .ne_ll (EqL.ints h)
  · rw [show (l != m) = true from bne_iff_ne.mpr fun e => h (by rw [e])]
    exact .ne_len (by simpa using h)
theorem CmpR.ne_strs {l m : List Str} : CmpR C S k .NotEq (.lst (l.map .str)) (.lst (m.map .str)) (l != m) := by
  by_cases h : l.length = m.length
  · have e : (!(List.zipWith (· == ·) l m).all id) = (l != m) := by
      by_cases hq : l = m
      · subst hq; rw [zip_same]; simp
      · rw [show (l != m) = true from bne_iff_ne.mpr hq]
        cases hz : (List.zipWith (· == ·) l m).all id with
        | false => rfl
        | true => exact absurd (zip_all h hz) hq
    rw [← e]; exact .ne_ll (EqL.strs h)
  · rw [show (l != m) = true from bne_iff_ne.mpr fun e => h (by rw [e])]
    exact .ne_len (by simpa using h)
theorem Meth1.count_i {l : List Int} {x : Int} : Meth1 C S k "count" (.lst (l.map .int)) (.int x) (.int ((l.countP (· == x) : Nat) : Int)) := ⟨fun A s Q E v pos e R B r he H => by
  obtain ⟨a, vs, n, rfl, hn, hl, rl⟩ := r.inv
  · skip
    refine ⟨"list", "list.count", PySem.F.plainAttrs_list, PySem.F.slot_list_count, PySem.F.type_list_count, hl.isList.typeIs, (fun b e => by cases e; exact ⟨_, hl, rfl⟩), P.count_list (he _ fun u h' tk g ru => ?_)⟩
    obtain ⟨t, rfl⟩ := ru.inv
    · skip
      have hl' : IsL h' a vs.toArray n := g.k _ _ (DD.ne hn).1 (DD.ne hn).2.1 hl
      refine ⟨_, n, fun y => match y with | .int i _ => i == x | _ => false, hl', fun y hy => ?_, ?_⟩
      · have hy : y ∈ vs := by simpa using hy
        obtain ⟨i, hi⟩ := List.getElem?_of_mem hy
        have hlt : i < l.length := by have := (List.getElem?_eq_some_iff.mp hi).1; have e := rl.length; rw [List.length_map] at e; (first | lia | omega)
        obtain ⟨w, hw, rw_⟩ := rl.get (i := i) (p := .int l[i]) (by simp [hlt])
        rw [hi] at hw; cases hw; obtain ⟨_, rfl⟩ := rw_.inv
        exact MeetsSeq.EqGives.int _ _ _ _
      · have e : ∀ {vs : List Value} {l : List Int} {h : Heap}, RelL S h vs (l.map .int) → vs.countP (fun y => match y with | .int i _ => i == x | _ => false) = l.countP (· == x) := fun {vs l h} r => by
          induction l generalizing vs with
          | nil => obtain rfl := r.inv0; rfl
          | cons i l ih =>
            obtain ⟨_, _, rfl, a, r'⟩ := r.inv
            obtain ⟨_, rfl⟩ := a.inv
            rw [List.countP_cons, List.countP_cons, ih r']
        have e := e rl
        show Q (.int ((vs.countP _ : Nat) : Int) tk) _
        rw [e]
        exact H _ _ _ g (.int _ _)⟩
end
end Mine
end

section
open PySem PySem.W PyProof.Rows PySem.Calls
namespace Mine
section
variable {prog : Program} {w : World} {A : Around} {E : Value → Shared → Prop} {s : Shared}
theorem adjust_upto (b n : Nat) (hb : b ≤ n) : Builtin.Slice.sliceAdjust none (some (b : Int)) 1 (n : Int) = (0, (b : Int)) := by
  unfold Builtin.Slice.sliceAdjust
  have h1 : ¬ ((1 : Int) < 0) := by (first | lia | omega)
  have h2 : ¬ ((b : Int) < 0) := by (first | lia | omega)
  simp only [h1, h2, if_false]
  congr 1
  (first | lia | omega)
theorem places_upto (b : Nat) : Builtin.Slice.slicePlaces 0 (b : Int) 1 = b := by
  unfold Builtin.Slice.slicePlaces
  have h1 : (1 : Int) > 0 := by (first | lia | omega)
  simp only [h1, if_true, Int.ediv_one]
  split <;> (first | lia | omega)
theorem sliceApplied_upto {sl : Addr} {b n : Nat} {u : Tok} {Q : Int × Int × Nat → Shared → Prop} (hs : s.heap.IsSliceOf sl .none (.int b u) .none) (hb : b ≤ n) (h : Q (0, 1, b) s) :
    wpAny (model prog w) A (Builtin.Slice.sliceApplied (.ref sl) (pure (n : Int))) Q E s := by
  obtain ⟨os, hos, hcs, hds⟩ := id hs
  unfold Builtin.Slice.sliceApplied Builtin.Slice.sliceFields
  refine wpAny_bind (wpAny_bind (wpAny_field hos hds (x := .none) rfl (wpAny_bind (wpAny_field hos hds (x := .int b u) rfl (wpAny_bind (wpAny_field hos hds (x := .none) rfl (wpAny_pure ?_)))))))
  refine wpAny_bind (slicePart_none ?_)
  show wpAny _ _ (if ((1 : Int) == 0) = true then _ else _) _ _ s
  rw [if_neg (by decide)]
  refine wpAny_bind (slicePart_none (wpAny_bind (slicePart_int (wpAny_bind (wpAny_pure ?_)))))
  show wpAny _ _ (match Builtin.Slice.sliceAdjust none (some (b : Int)) 1 (n : Int) with | (lo, hi) => pure (lo, (1 : Int), Builtin.Slice.slicePlaces lo hi 1)) _ _ s
  rw [adjust_upto b n hb]
  show wpAny _ _ (pure ((0 : Int), (1 : Int), Builtin.Slice.slicePlaces 0 (b : Int) 1)) _ _ s
  rw [places_upto b]
  exact wpAny_pure h
theorem getItem_tuple_upto {t sl : Addr} {items : Array Value} {b : Nat} {u : Tok} {Q : Value → Shared → Prop} (ht : IsTup s.heap t items) (hs : s.heap.IsSliceOf sl .none (.int b u) .none) (hb : b ≤ items.size)
    (h1 : b = items.size → Q (.ref t) s) (h2 : b ≠ items.size → Q (.ref s.heap.objs.size) { s with heap := s.heap.push { cls := .type "tuple", data := .seq (items.toList.take b).toArray } })
    (hsz : items.size ≤ sizeLine) : wpAny (model prog w) A (getItem (.ref t) (.ref sl)) Q E s := by
  have hdrop : sizeOk (.seq (items.toList.take b).toArray) := by
    show (items.toList.take b).toArray.size ≤ sizeLine
    rw [List.size_toArray, List.length_take, Array.length_toList]
    (first | lia | omega)
  obtain ⟨os, hos, hcs, hds⟩ := id hs
  have hTs : s.TypeIs (.ref sl) "slice" := ⟨os, hos, hcs⟩
  unfold getItem
  try with_reducible refine wpAny_holding ?_
  first | refine wpAny_bind (wpAny_pure ?_) | skip
  refine wpAny_bind (wpAny_sequenceKey ht.typeIs (by decide) ?_)
  refine wpAny_bind (wpAny_callSpecial?_slot (name := Str.ofString "__getitem__") ht.typeIs slot_tuple_getitem
    (wpAny_call_entry slot_tuple_getitem ht.typeIs entry_tuple_getitem ?_ (args_tuple_getitem _ _)))
  show wpAny _ _ (Builtin.Tuple.tupleItemsOf (.ref t) >>= _) _ _ s
  refine wpAny_bind (tupleItemsOf_ ht ?_)
  refine wpAny_bind (wpAny_typeOf hTs ?_)
  rw [if_pos (by decide)]
  refine wpAny_bind (sliceApplied_upto hs hb ?_)
  by_cases hn : b = items.size
  · have hno : ((0 : Int) == 0 && (1 : Int) == 1 && b == items.size) = true := by simp [hn]
    show wpAny _ _ (if ((0 : Int) == 0 && (1 : Int) == 1 && b == items.size) = true then _ else _) _ _ s
    rw [if_pos hno]
    refine wpAny_bind (m := Builtin.Tuple.tupleIsExact _) (wpAny_bind (wpAny_typeOf ht.typeIs (wpAny_pure ?_)))
    rw [if_pos (by decide)]
    refine wpAny_bind (wpAny_rule ?_)
    exact wpAny_bind (wpAny_pure (wpAny_pure ⟨_, rfl, wpAny_pure (h1 hn)⟩))
  · have hno : ¬ (((0 : Int) == 0 && (1 : Int) == 1 && b == items.size) = true) := by simp [hn]
    show wpAny _ _ (if ((0 : Int) == 0 && (1 : Int) == 1 && b == items.size) = true then _ else _) _ _ s
    rw [if_neg hno]
    have e : ((List.range b).filterMap fun (k : Nat) => items[((0 : Int) + (k : Int) * 1).toNat]?).toArray = (items.toList.take b).toArray := by
      have e : (fun (k : Nat) => items[((0 : Int) + (k : Int) * 1).toNat]?) = fun k => items[0 + k]? := by
        funext k
        have : ((0 : Int) + (k : Int) * 1).toNat = 0 + k := by (first | lia | omega)
        rw [this]
      rw [e]
      have := pick_run items 0 b
      rw [List.filterMap_map] at this
      have e2 : ((fun x => items[x]?) ∘ fun x => 0 + x) = fun k => items[0 + k]? := rfl
      rw [e2] at this
      rw [this, List.drop_zero]
    rw [e]
    have h := h2 hn
    first
      | exact wpAny_bind (m := Builtin.Tuple.tupleExact _) (wpAny_newObj_type (wpAny_pure ⟨_, rfl, wpAny_pure h⟩) hdrop)
      | exact wpAny_bind (m := Builtin.Tuple.tupleExact _) (wpAny_newObj_type (wpAny_bind (wpAny_pure (wpAny_pure ⟨_, rfl, wpAny_pure h⟩))) hdrop)
      | exact wpAny_bind (wpAny_bind (m := Builtin.Tuple.tupleExact _) (wpAny_newObj_type (wpAny_pure (wpAny_pure ⟨_, rfl, wpAny_pure h⟩)) hdrop))
      | exact wpAny_bind (wpAny_bind (m := Builtin.Tuple.tupleExact _) (wpAny_newObj_type (wpAny_pure ⟨_, rfl, wpAny_pure h⟩) hdrop))
end
theorem SliceR.tup_to {C : Cx} {S : List Addr} {k : Nat} {l : List PV} {b : Nat} (hb : b ≤ l.length) (hl : l.length ≤ sizeLine) : SliceR C S k (.tup l) none (some (b : Int)) none (.tup (l.take b)) := ⟨fun A s Q E v sl va vb vc R B rv hs ia ib ic H => by
  obtain ⟨d, vs, n, rfl, hn, ht, hr⟩ := rv.inv
  · skip
    cases ia; cases ic; cases ib
    have hT : IsTup s.heap d vs.toArray := ⟨_, ht, rfl, _, rfl⟩
    have e := hr.length
    refine ⟨_, _, hT.typeIs, slot_tuple_getitem.lookup, getItem_tuple_upto hT hs (by rw [List.size_toArray, e]; exact hb) (fun q => ?_) (fun q => ?_) (by rw [List.size_toArray, e]; exact hl)⟩
    · rw [List.size_toArray, e] at q
      rw [q, List.take_length] at H
      exact H.now (.tup hn ht hr)
    · exact H _ _ _ Gr.push (.tup (vs := vs.take b) B.new (Heap.get?_push_size _ rfl) ((hr.take b).gr Gr.push))⟩
end Mine
end

section
open PySem PySem.W PyProof.Rows PySem.Calls
set_option maxRecDepth 100000
set_option maxHeartbeats 4000000
namespace Mine

theorem small {n : Nat} (h : n ≤ 16000) : n ≤ sizeLine := by rw [sizeLine_eq]; (first | lia | omega)
theorem blt_max {C : Cx} : Blt C "max" (.builtin "max") := ⟨by kernel_rfl, by boot_fast, by decide, by decide⟩
theorem blt_min {C : Cx} : Blt C "min" (.builtin "min") := ⟨by kernel_rfl, by boot_fast, by decide, by decide⟩

noncomputable abbrev feq (x y : UInt64) : Bool := Float64.cmp x y == some Ordering.eq
noncomputable abbrev fle (x y : UInt64) : Bool := Float64.cmp x y == some Ordering.lt || Float64.cmp x y == some Ordering.eq
noncomputable abbrev fl0 : UInt64 := 0
noncomputable abbrev flh : UInt64 := 4602678819172646912
noncomputable abbrev fl1 : UInt64 := 4607182418800017408
noncomputable abbrev fl2 : UInt64 := 4611686018427387904
noncomputable abbrev fl4 : UInt64 := 4616189618054758400
noncomputable abbrev fl6 : UInt64 := 4618441417868443648
noncomputable def hue (eqR eqG : Bool) (rc gc bc : UInt64) : UInt64 :=
  (Float64.divmod (Float64.div (if eqR = true then Float64.sub bc gc else if eqG = true then Float64.sub (Float64.add fl2 rc) bc else Float64.sub (Float64.add fl4 gc) rc) fl6) fl1).2
/-- the hue -/
noncomputable def hueF (r g b : UInt64) : UInt64 :=
  hue (feq r (fmax3 r g b)) (feq g (fmax3 r g b)) (Float64.div (Float64.sub (fmax3 r g b) r) (Float64.sub (fmax3 r g b) (fmin3 r g b))) (Float64.div (Float64.sub (fmax3 r g b) g) (Float64.sub (fmax3 r g b) (fmin3 r g b)))
      (Float64.div (Float64.sub (fmax3 r g b) b) (Float64.sub (fmax3 r g b) (fmin3 r g b)))
noncomputable def hueI (r g b : Int) : UInt64 :=
  hue (r == max3 r g b) (g == max3 r g b) (divI (max3 r g b - r) (max3 r g b - min3 r g b)) (divI (max3 r g b - g) (max3 r g b - min3 r g b)) (divI (max3 r g b - b) (max3 r g b - min3 r g b))
noncomputable def hsvF (r g b : UInt64) : List PV :=
  if feq (fmin3 r g b) (fmax3 r g b) = true then [.flt fl0, .flt fl0, .flt (fmax3 r g b)] else
  [.flt (hueF r g b), .flt (Float64.div (Float64.sub (fmax3 r g b) (fmin3 r g b)) (fmax3 r g b)), .flt (fmax3 r g b)]
noncomputable def hsvI (r g b : Int) : List PV :=
  if (min3 r g b == max3 r g b) = true then [.flt fl0, .flt fl0, .int (max3 r g b)] else
  [.flt (hueI r g b), .flt (divI (max3 r g b - min3 r g b) (max3 r g b)), .int (max3 r g b)]
noncomputable def hlsF (r g b : UInt64) : List PV :=
  if feq (fmin3 r g b) (fmax3 r g b) = true then [.flt fl0, .flt (Float64.div (Float64.add (fmax3 r g b) (fmin3 r g b)) fl2), .flt fl0] else
  [.flt (hueF r g b), .flt (Float64.div (Float64.add (fmax3 r g b) (fmin3 r g b)) fl2),
   .flt (if fle (Float64.div (Float64.add (fmax3 r g b) (fmin3 r g b)) fl2) flh = true then Float64.div (Float64.sub (fmax3 r g b) (fmin3 r g b)) (Float64.add (fmax3 r g b) (fmin3 r g b))
     else Float64.div (Float64.sub (fmax3 r g b) (fmin3 r g b)) (Float64.sub (Float64.sub fl2 (fmax3 r g b)) (fmin3 r g b)))]
theorem locs {l : List Str} {names : List (Str × NameKind)} (h : ∀ x ∈ l, names.lookup x = some .local) : ∀ n, ∀ x ∈ l, names.lookup x = some .local ∨ (names.lookup x = some .cell ∧ ((cellsFrom n names []).lookup x).isSome = true) := fun _ x hx => .inl (h x hx)
theorem isZ6 : Float64.isZero 4618441417868443648 = false := by decide +kernel
theorem isZ2 : Float64.isZero 4611686018427387904 = false := by decide +kernel
theorem isZ1 : Float64.isZero 4607182418800017408 = false := by decide +kernel

end Mine
end

section
open PySem PySem.W PyProof.Rows PySem.Calls
namespace Mine

/-- the two tables -/
inductive Tab : Nat → Addr → Nat → Nat → Str → Prop
  | a : Tab 72 68 79 4 "_int2digits.<locals>.inner"
  | b : Tab 79 75 94 4 "_digits2int.<locals>.inner"

theorem Tab.hd {C : Cx} {c P l col : Nat} {q : Str} (t : Tab c P l col q) : CodeHd C.B₀ c P := by cases t; exact C.c68; exact C.c75
theorem Tab.nn {C : Cx} {c P l col : Nat} {q : Str} (t : Tab c P l col q) : C.B₀.get? P = none := by cases t; exact C.n68; exact C.n75
theorem Tab.ok {h : Heap} {c P l col : Nat} {q : Str} (t : Tab c P l col q) (T : Tabs h) : TabOk P l col q h := by cases t; exact T.a; exact T.b
theorem Tab.big {c P l col : Nat} {q : Str} (t : Tab c P l col q) : P = 68 ∨ P = 75 := by cases t; exact .inl rfl; exact .inr rfl
/-- the table turns, nothing else does -/
theorem Tab.gr {h h' : Heap} {c P l col : Nat} {q : Str} (t : Tab c P l col q) (k : Heap.ExtBut P h h') (T : Tabs h) (n : TabOk P l col q h') : Gr h h' := by
  refine ⟨fun b o n1 n2 e => k b o (by cases t; exact n1; exact n2) e, fun _ => ?_⟩
  cases t with
  | a =>
    refine ⟨n, ?_⟩
    rcases T.b with e | ⟨d, e, ⟨c₂, o, vs, t, e2, ho, r⟩, n'⟩
    · exact .inl (k _ _ (by decide) e)
    · cases e2; exact .inr ⟨d, k _ _ (by decide) e, ⟨_, o, vs, t, rfl, k _ _ n'.1 ho, r⟩, n'⟩
  | b =>
    refine ⟨?_, n⟩
    rcases T.a with e | ⟨d, e, ⟨c₂, o, vs, t, e2, ho, r⟩, n'⟩
    · exact .inl (k _ _ (by decide) e)
    · cases e2; exact .inr ⟨d, k _ _ (by decide) e, ⟨_, o, vs, t, rfl, k _ _ n'.2 ho, r⟩, n'⟩

/-- more is laid down for good -/
noncomputable def Cx.up (C : Cx) (B₁ : Heap) (h : C.B₀.StaysIn B₁) (n68 : B₁.get? 68 = none) (n75 : B₁.get? 75 = none) : Cx where
  w := C.w
  mg := C.mg
  mb := C.mb
  B₀ := B₁
  X := kIn h
  g := C.g.keeps fun b o e => h b o e
  b := C.b.keeps fun b o e => h b o e
  nl := by have hnl : C.B₀.NoLimit := C.nl; exact hnl.keeps fun b o e => h b o e
  blt := C.blt
  n68 := n68
  n75 := n75
  c68 := C.c68.keeps fun b o e => h b o e
  c75 := C.c75.keeps fun b o e => h b o e
  bmain := let ⟨bm, ob, a, b, c, d⟩ := C.bmain; ⟨bm, ob, a, b, h _ _ c, d⟩
  nodigits := let ⟨mc, a, b⟩ := C.nodigits; ⟨mc, a.keeps fun b o e => h b o e, b⟩
/-- all but the tables and W -/
noncomputable abbrev below (h : Heap) (W : List Addr) : Heap := hideAll h (68 :: 75 :: W)
theorem below_get {h : Heap} {W : List Addr} {b : Addr} {o : Obj} (e : h.get? b = some o) (n : b ∉ DD W) : (below h W).get? b = some o := hideAll_get _ e n
theorem below_stays {h : Heap} {W : List Addr} : (below h W).StaysIn h := fun b o e => of_hideAll _ e
theorem Cx.below {C : Cx} {h : Heap} {W : List Addr} (t : C.B₀.StaysIn h) (hW : ∀ b ∈ W, C.B₀.get? b = none) : C.B₀.StaysIn (below h W) := fun b o e => below_get (t b o e) (DD.of ⟨fun q => (by rw [q, C.n68] at e; cases e), fun q => (by rw [q, C.n75] at e; cases e), fun q => (by rw [hW b q] at e; cases e)⟩)

section
variable {C : Cx} {A : Around} {B : Heap} {S : List Addr} {V : List (Addr × List PV)} {env : Env} {nm : List Str} {ρ : List (Option PV)} {k : Nat} {s : Shared} {Q : Flow → Shared → Prop} {E : Value → Shared → Prop}

theorem own_data {h : Heap} {a : Addr} {o : Obj} {vs : Array Value} (F : FS C B S V env nm ρ h) (hcd : ∀ q ∈ env.cells, env.kindOf q.1 = some .cell → env.cells.lookup q.1 = some q.2) (hm : a ∈ ownAt env V) (ho : h.get? a = some o) (hd : o.data = .fields vs) : False := by
  rcases List.mem_cons.mp hm with rfl | hm
  · obtain ⟨m, o', es, ep, ho', hd', _⟩ := F.loc
    rw [ho] at ho'; cases ho'; rw [hd] at hd'; cases hd'
  · rcases List.mem_append.mp hm with hm | hm
    · obtain ⟨⟨x, c⟩, hq, rfl⟩ := List.mem_map.mp hm
      obtain ⟨hq, hk⟩ := List.mem_filter.mp hq
      have hk : env.kindOf x = some .cell := by simpa using hk
      obtain ⟨_, _, v, o', ho', hd'⟩ := F.cls x c hk (hcd _ hq hk)
      rw [ho] at ho'; cases ho'; rw [hd] at hd'; cases hd'
    · obtain ⟨q, hq, rfl⟩ := List.mem_map.mp hm
      obtain ⟨_, _, ws, n, e, _⟩ := F.vol q hq
      have e' : h.get? q.1 = some _ := e
      rw [ho] at e'; cases e'; cases hd
/-- an inner def is made -/
theorem X.defn {c P l col : Nat} {qual : Str} {name : Str} {params : Arguments} {body : List Stmt} {scope : Scope} {pos : Pos} {rest : List Stmt} {clos : List (Str × Addr)} {ρ' : Addr → List (Option PV)} (t : Tab c P l col qual) (F : FS C B S V env nm ρ s.heap) (M : Fm env nm)
    (hcode : env.code = .ref c) (hl : pos.line = l ∧ pos.col = col) (hcl : closureFor scope env = pure clos) (hq : qualnameIn env name name = qual) (hd0 : params.defaults = []) (hk0 : params.kw_defaults = []) (ha : annTrees params none env = [])
    (hcd : ∀ q ∈ env.cells, env.kindOf q.1 = some .cell → env.cells.lookup q.1 = some q.2) (st : ∀ f, SetAt nm ρ name (.raw (.ref f)) (ρ' f))
    (K : ∀ (C' : Cx) (B' : Heap) (f c' : Addr) (ctv doc pm : Value) (h' : Heap) (tk' : Nat), (∀ b o, b ≠ 68 → b ≠ 75 → B.get? b = some o → B'.get? b = some o) → C'.B₀.get? f = some (fnMade name qual params body scope clos doc pm c' ctv) → C'.B₀.CodeRec (.ref c') qual → (∀ q ∈ V, C'.B₀.get? q.1 = none) →
      FS C' B' S V env nm (ρ' f) h' → X C' A env rest Q E { s with heap := h', toks := tk' })
    (hf : (env.kindOf name == some .free) = false := by kernel_rfl) : X C A env (.FunctionDef name params body [] none [] scope none name pos :: rest) Q E s := ⟨by
  refine wpAny_execs_cons (nestDef_K hd0 hk0 ha ?_)
  rw [hq]
  obtain ⟨bm, ob, b1, b2, b3, b4, b5, b6⟩ := C.bmain
  have bne := F.tabs.ne (F.bs.top _ _ b3) fun vs e => by rw [b6] at e; cases e
  obtain ⟨og, es, ep, hg, hgd, _⟩ := id C.g
  have gne := F.tabs.ne (F.bs.top _ _ hg) fun vs e => by rw [hgd] at e; cases e
  have hgP : mainGlobals ≠ P := by rcases t.big with rfl | rfl; exact gne.1; exact gne.2
  have hbP : bm ≠ P := by rcases t.big with rfl | rfl; exact bne.1; exact bne.2
  have hbG : bm ≠ mainGlobals := fun q => by rw [q, hg] at b3; cases b3; rw [hgd] at b6; cases b6
  have hbt : s.heap.BuiltinsAt C.mg P := ⟨bm, ob, b1, b2, hbG, hbP, F.bs.top _ _ b3, b4, b5, b6⟩
  have hgs : s.heap.Ns mainGlobals C.mg := C.g.keeps fun b o e => F.bs.top b o e
  have hC : CodeHd s.heap c P := t.hd.keeps fun b o e => F.bs.top b o e
  have fin : ∀ (c' : Addr) (ctv doc : Value) (h₁ : Heap) (tk : Tok), Gr s.heap h₁ → h₁.CodeRec (.ref c') qual → c' ≠ 68 ∧ c' ≠ 75 →
      wpAny (model PW C.w) A (storeName env name (.ref h₁.objs.size)) (fun _ s'' => wpAny (model PW C.w) A (execs rest env) Q E s'') E { s with heap := h₁.push (fnMade name qual params body scope clos doc ((C.mg "__name__").getD .none) c' ctv), toks := tk } := by
    intro c' ctv doc h₁ tk g hrec hc'
    have F₁ := F.gr g
    have F₂ := F₁.gr (Gr.push (o := fnMade name qual params body scope clos doc ((C.mg "__name__").getD .none) c' ctv))
    obtain ⟨own, F₃⟩ := F₂.rebase hcd
    have hn := F₁.bs.new
    have hfS : h₁.objs.size ∉ ownAt env V := fun q => (DD.ne hn).2.2 (own _ q).1
    obtain ⟨c₂, o, vs, t, e2, ho, e3, r⟩ := hrec
    cases e2
    have hGf := hideAll_get (ownAt env V) (Heap.get?_push_size h₁ (o := fnMade name qual params body scope clos doc ((C.mg "__name__").getD .none) c' ctv) rfl) hfS
    have hGc := hideAll_get (ownAt env V) (Heap.get?_push_of_some (fnMade name qual params body scope clos doc ((C.mg "__name__").getD .none) c' ctv) ho) fun q => own_data F₁ hcd q ho e3
    have hGB : ∀ b o, b ≠ 68 → b ≠ 75 → B.get? b = some o → (hideAll (h₁.push (fnMade name qual params body scope clos doc ((C.mg "__name__").getD .none) c' ctv)) (ownAt env V)).get? b = some o := fun b o n m e =>
      hideAll_get _ (F₂.base.k b o n m e) fun q => by rw [(own b q).2] at e; cases e
    have hGV : ∀ q ∈ V, (hideAll (h₁.push (fnMade name qual params body scope clos doc ((C.mg "__name__").getD .none) c' ctv)) (ownAt env V)).get? q.1 = none := fun q hq => hideAll_none _ (own_vol hq)
    generalize hideAll (h₁.push (fnMade name qual params body scope clos doc ((C.mg "__name__").getD .none) c' ctv)) (ownAt env V) = G at F₃ hGf hGc hGB hGV
    refine wp_store (s := { s with heap := h₁.push (fnMade name qual params body scope clos doc ((C.mg "__name__").getD .none) c' ctv), toks := tk }) F₃ M (st _) (.raw _) hf fun h₂ tk₂ _ F₄ => ?_
    have hb : C.B₀.StaysIn (below G []) := Cx.below F₃.b0 fun b hb => nomatch hb
    have h68 : (below G []).get? 68 = none := hideAll_none _ (.head _)
    have h75 : (below G []).get? 75 = none := hideAll_none _ (.tail _ (.head _))
    have hst : (below G []).StaysIn h₂ := fun b o e => F₄.base.k b o (fun q => by subst q; exact nomatch (h68.symm.trans e)) (fun q => by subst q; exact nomatch (h75.symm.trans e)) (below_stays b o e)
    have F₅ : FS (C.up _ hb h68 h75) G S V env nm (ρ' h₁.objs.size) h₂ :=
      ⟨⟨⟨hst, F₄.bs.off, F₄.tabs⟩, F₄.inv.names⟩, below_stays, F₄.base, F₄.bl, F₄.vol, F₄.vnd, F₄.ls, F₄.loc, F₄.cls, F₄.inj, F₄.frs⟩
    have e1 : (below G []).get? h₁.objs.size = some (fnMade name qual params body scope clos doc ((C.mg "__name__").getD .none) c' ctv) := below_get hGf (DD.of ⟨(DD.ne hn).1, (DD.ne hn).2.1, List.not_mem_nil⟩)
    have e2 : (below G []).CodeRec (.ref c') qual := ⟨_, o, vs, t, rfl, below_get hGc (DD.of ⟨hc'.1, hc'.2, List.not_mem_nil⟩), e3, r⟩
    exact (K (C.up _ hb h68 h75) G h₁.objs.size c' ctv doc ((C.mg "__name__").getD .none) h₂ tk₂ hGB e1 e2 (fun q hq => by
      cases e : (below G []).get? q.1 with
      | none => exact e
      | some o => have e' : (below G []).get? q.1 = some o := e; have := below_stays _ _ e'; rw [hGV q hq] at this; cases this) F₅).out
  rcases t.ok F.tabs with hP | ⟨c', hP, hrec, hc'⟩
  · refine makeFunction_K (mg := C.mg) hcl M.gl hgs hcode hC hP trivial rfl hgP hbt fun c' ctv doc h₁ tk hx hge hlt hrec htb => ?_
    have hc' : c' ≠ 68 ∧ c' ≠ 75 := by
      obtain ⟨p1, e1⟩ := F.tabs.a.data
      obtain ⟨p2, e2⟩ := F.tabs.b.data
      exact ⟨fun q => absurd (Heap.lt_size e1) (Nat.not_lt.mpr (q ▸ hge)), fun q => absurd (Heap.lt_size e2) (Nat.not_lt.mpr (q ▸ hge))⟩
    refine fin c' ctv doc h₁ tk (t.gr hx F.tabs (.inr ⟨c', ?_, hrec, hc'⟩)) hrec hc'
    rw [← hl.1, ← hl.2]; exact htb
  · refine makeFunction_hit (cv := .ref c') (mg := C.mg) hcl M.gl hgs hcode hC hP trivial ?_ hbt fun ctv doc h₁ tk hk hsz => ?_
    · show (if ((l : Int) == (pos.line : Int) && (col : Int) == (pos.col : Int)) = true then some (Value.ref c') else _) = some (Value.ref c')
      rw [hl.1, hl.2]; simp
    · exact fin c' ctv doc h₁ tk (.of hk) (hrec.keeps hk) hc'⟩
end

section
variable {C : Cx} {S : List Addr} {env : Env} {nm : List Str} {ρ : List (Option PV)} {k : Nat}
/-- what the names hold, laid down -/
structure Down (C : Cx) (S : List Addr) (env : Env) (nm : List Str) (ρ : List (Option PV)) : Prop where
  names : ∀ (x : Str) (p : PV), GetAt nm ρ x p → ∃ v, NameAt env C.B₀ x v ∧ Rel S C.B₀ v p
theorem Inv.down {s : Heap} (I : Inv C S env nm ρ s) (W : List Addr) (hb : C.B₀.StaysIn (below s W)) (hW : ∀ b ∈ W, b ∈ S ∧ ∃ o its n, s.get? b = some o ∧ o.data = .seq its n) : Down (C.up (below s W) hb (hideAll_none _ (.head _)) (hideAll_none _ (.tail _ (.head _)))) S env nm ρ := ⟨fun x p g => by
  obtain ⟨i, hi, hp⟩ := g.idx
  obtain ⟨v, n, r⟩ := I.names i x p hi hp
  have nW : ∀ b o, s.get? b = some o → (∀ its n, o.data ≠ .seq its n) → (∀ vs, o.data ≠ .fields vs) → (below s W).get? b = some o := fun b o e h1 h2 => below_get e (DD.of ⟨(I.bs.tabs.ne e h2).1, (I.bs.tabs.ne e h2).2, fun q => by
    obtain ⟨_, o', its, n, e', d⟩ := hW b q
    rw [e] at e'; cases e'; exact h1 _ _ d⟩)
  refine ⟨v, ?_, r.step fun b o hb e => ⟨below_get e (DD.of ⟨(DD.ne hb).1, (DD.ne hb).2.1, fun q => (DD.ne hb).2.2 (hW b q).1⟩), hb⟩⟩
  cases n with
  | loc m a b c =>
    obtain ⟨o, es, ep, ho, hd, _⟩ := id b
    exact .loc m a (ns_at b fun o' e => by rw [ho] at e; cases e; exact nW _ o ho (fun _ _ q => by rw [hd] at q; cases q) (fun _ q => by rw [hd] at q; cases q)) c
  | cell c a b d =>
    obtain ⟨o, ho, hd⟩ := id d
    exact .cell c a b (isCell_at d fun o' e => by rw [ho] at e; cases e; exact nW _ o ho (fun _ _ q => by rw [hd] at q; cases q) (fun _ q => by rw [hd] at q; cases q))
  | free c a z b d =>
    obtain ⟨o, ho, hd⟩ := id d
    exact .free c a z b (isCell_at d fun o' e => by rw [ho] at e; cases e; exact nW _ o ho (fun _ _ q => by rw [hd] at q; cases q) (fun _ q => by rw [hd] at q; cases q))⟩

/-- a made function is called: what the names hold is laid down for the call -/
theorem Ev.callU {x : Str} {np pos : Pos} {a : PySem.Expr} {args : List PySem.Expr} {f : Addr} {l : List PV} {p : PV} (hf : Ev C S env nm ρ k (.Name x np) (.raw (.ref f))) (ha : EvL C S env nm ρ k pos (a :: args) l) (hfn : FnAt f C.B₀)
    (hc : ∀ C' : Cx, C'.w = C.w → C.B₀.StaysIn C'.B₀ → Down C' S env nm ρ → CallR C' S k (.ref f) l p)
    (he : starEach (a :: args) env = (false, eval a env) :: starEach args env := by rfl) (hp : (backTo pos (starEach args env)).any (·.1) = false := by rfl) : Ev C S env nm ρ k (.Call (.Name x np) (a :: args) [] pos) p :=
  ⟨fun A s Q E R I H => wpAny_Call_Name_kw (hf.run A s _ E R I fun v h₁ tk₁ g₁ r => by
    obtain ⟨_, rfl⟩ := r.inv
    have fat : ∀ h : Heap, C.B₀.StaysIn h → FnAt f h := fun h t => let ⟨oc, od, fd, sl, e⟩ := hfn; ⟨oc, od, fd, sl, t _ _ e⟩
    refine callWith_F (fat _ (I.gr g₁).top) (ha.run A _ _ E R (I.gr g₁) fun vs h₂ tk₂ g₂ rl => ⟨fat _ ((I.gr g₁).gr g₂).top, ?_⟩) he hp
    have I₂ := (I.gr g₁).gr g₂
    have hb : C.B₀.StaysIn (below h₂ []) := Cx.below I₂.top fun b hb => nomatch hb
    have D := I₂.down [] hb fun b hb => nomatch hb
    exact (hc (C.up (below h₂ []) hb (hideAll_none _ (.head _)) (hideAll_none _ (.tail _ (.head _)))) rfl hb D).run A { s with heap := h₂, toks := tk₂ } Q E vs R ⟨below_stays, I₂.bs.off, I₂.bs.tabs⟩ rl (H.gr (g₁.trans g₂)))⟩
end
end Mine
end

section
open PySem PySem.W PyProof.Rows PySem.Calls
set_option maxRecDepth 100000
set_option maxHeartbeats 4000000
namespace Mine

theorem blt_divmod {C : Cx} : Blt C "divmod" (.builtin "divmod") := ⟨by kernel_rfl, by boot_fast, by decide, by decide⟩
theorem glb_dl {C : Cx} : Glb C "_DIV_LIMIT" (.int 4000 330) := ⟨by kernel_rfl, by decide⟩
theorem glb_end {C : Cx} : Glb C "ENDMARKER" (.int 0 412) := ⟨by kernel_rfl, by decide⟩
theorem glb_nt {C : Cx} : Glb C "NT_OFFSET" (.int 256 510) := ⟨by kernel_rfl, by decide⟩

theorem CallR.divmod_ii {C : Cx} {S : List Addr} {k : Nat} {x y : Int} (h : y ≠ 0) (hp : Builtin.divisionGoesByPylong x y = false) : CallR C S k (.builtin "divmod") [.int x, .int y] (.tup [.int (x.fdiv y), .int (x.fmod y)]) := ⟨fun A s Q E vs R B rl H => by
  obtain ⟨t, u, rfl⟩ := rl.ints2
  exact divmod_int h (H _ _ _ Gr.push (.tup (vs := [.int (x.fdiv y) s.toks, .int (x.fmod y) (s.toks + 1)]) B.new (Heap.get?_push_size _ rfl) (.cons (.int _ _) (.cons (.int _ _) .nil)))) (.inl hp)⟩

theorem isterminal {C : Cx} {S : List Addr} {x : Int} : CallR C S 6 (.ref 104) [.int x] (.bool (decide (x < 256))) := by
  refine CallR.ofBody ["x"] [] rfl (by kernel_rfl) (fun s vs h => by apply vs1 h; intro a; exact BindsTo.of_eq rfl) rfl rfl (by decide) (by decide) (locs (by decide)) (by decide) (by decide) ?_
  intro A s B L S' Q R M hS F K
  have sub : ∀ a ∈ S, a ∈ S' := by subst hS; exact fun a ha => List.mem_append_right _ (.tail _ ha)
  dsimp only [List.map_cons, List.map_nil, List.cons_append, List.nil_append] at M F
  refine X.ret F R (Ev.cmp (Ev.loc M .z) (Ev.gli M glb_nt (by kernel_rfl)) CmpR.lt_ii (by rfl)) (fun v h tk F r => K v h tk F.base (r.less sub))
theorem iseof {C : Cx} {S : List Addr} {x : Int} : CallR C S 6 (.ref 111) [.int x] (.bool (x == 0)) := by
  refine CallR.ofBody ["x"] [] rfl (by kernel_rfl) (fun s vs h => by apply vs1 h; intro a; exact BindsTo.of_eq rfl) rfl rfl (by decide) (by decide) (locs (by decide)) (by decide) (by decide) ?_
  intro A s B L S' Q R M hS F K
  have sub : ∀ a ∈ S, a ∈ S' := by subst hS; exact fun a ha => List.mem_append_right _ (.tail _ ha)
  dsimp only [List.map_cons, List.map_nil, List.cons_append, List.nil_append] at M F
  refine X.ret F R (Ev.cmp (Ev.loc M .z) (Ev.gli M glb_end (by kernel_rfl)) CmpR.eq_ii (by rfl)) (fun v h tk F r => K v h tk F.base (r.less sub))
theorem div2n1n {C : Cx} {S : List Addr} {a b n : Int} (hs : (Builtin.Int.intBits a : Int) - n ≤ 4000) (hb : b ≠ 0) (hp : Builtin.divisionGoesByPylong a b = false) : CallR C S 6 (.ref 59) [.int a, .int b, .int n] (.tup [.int (a.fdiv b), .int (a.fmod b)]) := by
  refine CallR.ofBody ["a", "b", "n"] [] rfl (by kernel_rfl) (fun s vs h => by apply vs3 h; intro a b c; exact BindsTo.of_eq rfl) rfl rfl (by decide) (by decide) (locs (by decide)) (by decide) (by decide) ?_
  intro A s B L S' Q R M hS F K
  have sub : ∀ a ∈ S, a ∈ S' := by subst hS; exact fun a ha => List.mem_append_right _ (.tail _ ha)
  dsimp only [List.map_cons, List.map_nil, List.cons_append, List.nil_append] at M F
  refine X.ifs F R (Tr.cmp (Ev.bin (Ev.meth0 (Ev.loc M .z) Meth0.bitlen) (Ev.loc M (.s (.s .z))) BinR.sub_ii) (Ev.gli M glb_dl (by kernel_rfl)) CmpR.le_ii (by rfl)) (fun hb1 h tk F => ?_) (fun hb1 h tk F => ?_)
  · refine X.ret F R (Ev.callB (Ev.bl M blt_divmod (by kernel_rfl)) (EvL.cons (Ev.loc M .z) (EvL.cons (Ev.loc M (.s .z)) EvL.nil)) (CallR.divmod_ii hb hp)) (fun v h tk F r => K v h tk F.base (r.less sub))
  · exact absurd hs (of_decide_eq_false hb1)
end Mine
end

section
namespace Mine
open PySem

noncomputable def valD (n : Nat) : List Int → Int
  | [] => 0
  | d :: ds => d + 2 ^ n * valD n ds
theorem valD_append (n : Nat) : ∀ xs ys : List Int, valD n (xs ++ ys) = valD n xs + 2 ^ (n * xs.length) * valD n ys
  | [], ys => by simp [valD]
  | d :: xs, ys => by
    rw [List.cons_append, valD, valD, valD_append n xs ys, List.length_cons, Nat.mul_succ, Int.pow_add, Int.mul_add, Int.add_assoc, ← Int.mul_assoc, Int.mul_comm (2 ^ (n * xs.length)) (2 ^ n)]
theorem valD_bound (n : Nat) : ∀ xs : List Int, (∀ d ∈ xs, 0 ≤ d ∧ d < 2 ^ n) → 0 ≤ valD n xs ∧ valD n xs < 2 ^ (n * xs.length)
  | [], _ => by simp [valD]
  | d :: xs, h => by
    obtain ⟨h1, h2⟩ := h d (.head _)
    obtain ⟨h3, h4⟩ := valD_bound n xs fun e he => h e (.tail _ he)
    have hp : (0 : Int) < 2 ^ n := Int.pow_pos (by decide)
    rw [valD, List.length_cons, Nat.mul_succ, Int.pow_add, Int.mul_comm (2 ^ (n * xs.length))]
    constructor
    · have := Int.mul_nonneg (Int.le_of_lt hp) h3; (first | lia | omega)
    · have h5 : 2 ^ n * (valD n xs + 1) ≤ 2 ^ n * 2 ^ (n * xs.length) := Int.mul_le_mul_of_nonneg_left h4 (Int.le_of_lt hp)
      rw [Int.mul_add, Int.mul_one] at h5
      (first | lia | omega)
theorem intBits_le {x : Int} {k : Nat} (h0 : 0 ≤ x) (h : x < 2 ^ k) : Builtin.Int.intBits x ≤ k := by
  unfold Builtin.Int.intBits
  split
  · exact Nat.zero_le _
  · rename_i hx
    have hx : x ≠ 0 := by simpa using hx
    have h1 : x.natAbs < 2 ^ k := by
      have : ((x.natAbs : Nat) : Int) < ((2 ^ k : Nat) : Int) := by rw [Int.natAbs_of_nonneg h0]; push_cast; exact h
      exact_mod_cast this
    exact (Nat.log2_lt (by (first | lia | omega))).mpr h1
end Mine
end

section
open PySem PySem.W PyProof.Rows PySem.Calls
set_option maxRecDepth 100000
set_option maxHeartbeats 4000000
namespace Mine

theorem blt_len {C : Cx} : Blt C "len" (.builtin "len") := ⟨by kernel_rfl, by boot_fast, by decide, by decide⟩
theorem CallR.len_l {C : Cx} {S : List Addr} {k : Nat} {l : List PV} (h : l.length < 2 ^ 62) : CallR C S k (.builtin "len") [.lst l] (.int l.length) := ⟨fun A s Q E vs R B rl H => by
  obtain ⟨_, rfl, r1⟩ := rl.inv1
  obtain ⟨_, _, _, rfl, hn, ht, hr⟩ := r1.inv
  · skip
    · skip
      refine call_len_list ht.isList (by rw [List.size_toArray, hr.length]; (first | lia | omega)) ?_
      have := H (.int l.length (s.toks + 1)) s.heap (s.toks + 1 + 1) Gr.rfl (.int _ _)
      rw [List.size_toArray, hr.length]; exact this⟩
theorem Tr.lst {C : Cx} {S : List Addr} {env : Env} {nm : List Str} {ρ : List (Option PV)} {k : Nat} {x : PySem.Expr} {l : List PV} (hx : Ev C S env nm ρ k x (.lst l)) (hl : l.length < 2 ^ 62) (he : isTrue x env (eval x env) = (do let v ← eval x env; standAt x.pos; holding [v] (truthy v))) : Tr C S env nm ρ k x (!l.isEmpty) := ⟨
  fun A s Q E R I H => isTrue_plain (hx.run A s _ E R I fun v h₁ tk₁ g₁ r => by
    obtain ⟨a, vs, n, rfl, hn, ht, hr⟩ := r.inv
    · skip
      refine wpAny_truthy_list ht.isList (by rw [List.size_toArray, hr.length]; (first | lia | omega)) ?_
      have e : (!vs.toArray.isEmpty) = !l.isEmpty := by
        have := hr.length
        cases vs <;> cases l <;> simp at this ⊢
      rw [e]; exact H _ _ g₁) he⟩
theorem Ev.cast {C : Cx} {S : List Addr} {env : Env} {nm : List Str} {ρ : List (Option PV)} {k : Nat} {x : PySem.Expr} {p q : PV} (h : Ev C S env nm ρ k x p) (e : p = q) : Ev C S env nm ρ k x q := e ▸ h
theorem CallR.cast {C : Cx} {S : List Addr} {k : Nat} {f : Value} {l : List PV} {p q : PV} (h : CallR C S k f l p) (e : p = q) : CallR C S k f l q := e ▸ h

theorem CallR.le {C : Cx} {S : List Addr} {k k' : Nat} {f : Value} {l : List PV} {p : PV} (h : CallR C S k f l p) (hk : k ≤ k') : CallR C S k' f l p := ⟨fun A s Q E vs R B rl H => h.run A s Q E vs (R.le hk) B rl H⟩
theorem Ev.callF {C : Cx} {S : List Addr} {env : Env} {nm : List Str} {ρ : List (Option PV)} {k : Nat} {x : Str} {np pos : Pos} {a : PySem.Expr} {args : List PySem.Expr} {f : Addr} {l : List PV} {p : PV} (hf : Ev C S env nm ρ k (.Name x np) (.raw (.ref f))) (ha : EvL C S env nm ρ k pos (a :: args) l) (hfn : FnAt f C.B₀)
    (hc : CallR C S k (.ref f) l p)
    (he : starEach (a :: args) env = (false, eval a env) :: starEach args env := by rfl) (hp : (backTo pos (starEach args env)).any (·.1) = false := by rfl) : Ev C S env nm ρ k (.Call (.Name x np) (a :: args) [] pos) p :=
  ⟨fun A s Q E R I H => wpAny_Call_Name_kw (hf.run A s _ E R I fun v h₁ tk₁ g₁ r => by
    obtain ⟨_, rfl⟩ := r.inv
    have fat : ∀ h : Heap, C.B₀.StaysIn h → FnAt f h := fun h t => let ⟨oc, od, fd, sl, e⟩ := hfn; ⟨oc, od, fd, sl, t _ _ e⟩
    exact callWith_F (fat _ (I.gr g₁).top) (ha.run A _ _ E R (I.gr g₁) fun vs h₂ tk₂ g₂ rl => ⟨fat _ ((I.gr g₁).gr g₂).top, hc.run A _ Q E vs R ((I.gr g₁).gr g₂).bs rl (H.gr (g₁.trans g₂))⟩) he hp)⟩
theorem NameAt.cellOf {env : Env} {h : Heap} {x : Str} {v : Value} {c : Addr} (n : NameAt env h x v) (hk : env.kindOf x = some .cell) (hc : env.cells.lookup x = some c) : h.IsCell c (some v) := by
  cases n with
  | loc m a _ _ => rw [hk] at a; cases a
  | cell c a b d => rw [hc] at b; cases b; exact d
  | free c a _ _ _ => rw [hk] at a; cases a
theorem addr_ne1 (a : Nat) : a ≠ a + 1 := by (first | lia | omega)
theorem addr_ne2 (a : Nat) : a ≠ a + 1 + 1 := by (first | lia | omega)
theorem clos3_inj {a b c : Str} {x y z : Addr} (h1 : x ≠ y) (h2 : x ≠ z) (h3 : y ≠ z) : ∀ (u v : Str) (d : Addr), [(a, x), (b, y), (c, z)].lookup u = some d → [(a, x), (b, y), (c, z)].lookup v = some d → u = v := fun u v d hu hv => by
  have hu := mem_of_lookup hu
  have hv := mem_of_lookup hv
  simp only [List.mem_cons, List.not_mem_nil, or_false, Prod.mk.injEq] at hu hv
  rcases hu with ⟨rfl, rfl⟩ | ⟨rfl, rfl⟩ | ⟨rfl, rfl⟩ <;> rcases hv with ⟨rfl, e⟩ | ⟨rfl, e⟩ | ⟨rfl, e⟩ <;> first | rfl | exact absurd e h1 | exact absurd e h2 | exact absurd e h3 | exact absurd e.symm h1 | exact absurd e.symm h2 | exact absurd e.symm h3
theorem clos3_all {P : Addr → Prop} {a b c : Str} {x y z : Addr} (h1 : P x) (h2 : P y) (h3 : P z) : ∀ (u : Str) (d : Addr), [(a, x), (b, y), (c, z)].lookup u = some d → P d := fun u d hu => by
  have hu := mem_of_lookup hu
  simp only [List.mem_cons, List.not_mem_nil, or_false, Prod.mk.injEq] at hu
  rcases hu with ⟨rfl, rfl⟩ | ⟨rfl, rfl⟩ | ⟨rfl, rfl⟩ <;> assumption
theorem cell_off {C : Cx} {S : List Addr} {h : Heap} {c : Addr} {v : Option Value} (B : Bs C S h) (x : C.B₀.IsCell c v) : c ≠ 68 ∧ c ≠ 75 ∧ ∃ o, h.get? c = some o := by
  obtain ⟨o, e, hd⟩ := x
  have n := B.tabs.ne (B.top _ _ e) fun vs q => by rw [hd] at q; cases q
  exact ⟨n.1, n.2, o, B.top _ _ e⟩
theorem mem_take_drop {l : List Int} {a m : Nat} {d : Int} (h : d ∈ (l.drop a).take m) : d ∈ l := List.mem_of_mem_drop (List.mem_of_mem_take h)

theorem digits2int {C : Cx} {S : List Addr} {n : Nat} {l : List Int} (hl : l.length ≤ 100) (hn : n ≤ 1000) (hd : ∀ d ∈ l, 0 ≤ d ∧ d < 2 ^ n) : CallR C S 112 (.ref 80) [.lst (l.map .int), .int n] (.int (valD n l)) := by
  refine CallR.ofBody ["digits", "n"] ["inner"] rfl (by kernel_rfl) (fun s vs h => by apply vs2 h; intro a b; exact BindsTo.of_eq rfl) rfl rfl (by decide) (by decide) (fun n x hx => ?_) (by decide) (by decide) ?_
  · rcases List.mem_cons.mp hx with rfl | hx
    · exact .inr ⟨rfl, rfl⟩
    rcases List.mem_cons.mp hx with rfl | hx
    · exact .inr ⟨rfl, rfl⟩
    rcases List.mem_cons.mp hx with rfl | hx
    · exact .inr ⟨rfl, rfl⟩
    cases hx
  intro A s B L S' Q R M hS F K
  have sub : ∀ a ∈ S, a ∈ S' := by subst hS; exact fun a ha => List.mem_append_right _ (.tail _ ha)
  dsimp only [List.map_cons, List.map_nil, List.cons_append, List.nil_append] at M F
  refine X.defn Tab.b F M rfl ⟨rfl, rfl⟩ rfl rfl rfl rfl rfl ?_ (fun f => .s (.s .z)) ?_
  · intro q hq _
    rcases List.mem_cons.mp hq with rfl | hq
    · rfl
    rcases List.mem_cons.mp hq with rfl | hq
    · rfl
    rcases List.mem_cons.mp hq with rfl | hq
    · rfl
    cases hq
  intro C' B' f c' ctv doc pm h tk hBB hf hrec _ F
  refine X.ret F R (Ev.ite (Tr.lst (Ev.loc M .z) (by simp; (first | lia | omega)) rfl) (fun hb => Ev.callU (Ev.loc M (.s (.s .z))) (EvL.cons Ev.cint (EvL.cons (Ev.callB (Ev.bl M blt_len (by kernel_rfl)) (EvL.cons (Ev.loc M .z) EvL.nil) (CallR.len_l (by simp; (first | lia | omega)))) EvL.nil)) ⟨_, _, _, _, hf⟩ ?_) (fun hb => (Ev.cint).cast ?_)) (fun v h tk F r => K v h tk ⟨fun b o n m e => F.base.k b o n m (hBB b o n m e), fun _ => F.tabs⟩ (r.less sub))
  · intro C hw hst D
    have inner : ∀ (m lo : Nat) (S : List Addr), (∀ a ∈ S', a ∈ S) → (∀ a ∈ S, a ∉ S' → C.B₀.get? a = none) → 0 < m → lo + m ≤ l.length →
        CallR C S (m + 6) (.ref f) [.int lo, .int ((lo + m : Nat) : Int)] (.int (valD n ((l.drop lo).take m))) := by
      intro m
      induction m using Nat.strongRecOn with
      | _ m ih =>
      intro lo S hS' hnew hm hlen
      obtain ⟨vd, nd, rd⟩ := D.names _ _ (.z)
      obtain ⟨vn, nn, rn⟩ := D.names _ _ (.s .z)
      obtain ⟨vi, ni, ri⟩ := D.names _ _ (.s (.s .z))
      have cd := nd.cellOf rfl rfl
      have cn := nn.cellOf rfl rfl
      have ci := ni.cellOf rfl rfl
      cases ri
      have rd := rd.more hnew
      have rn := rn.more hnew
      refine ⟨fun A s Q E vs R B rl H => wpAny_call (callClos (k := m + 5) (ps := ["L", "R"]) (rest := ["mid", "shift"]) (fr := ["digits", "n", "inner"]) (fp := [.lst (l.map .int), .int n, .raw (.ref f)]) (Ent.pure B) R (B.top _ _ (hst _ _ hf)) rfl (hrec.keeps fun b o e => B.top b o (hst b o e))
        (by apply vs2 rl.length; intro a b; exact BindsTo.of_eq rfl) rl rfl rfl (by decide) (by decide) (by decide) (by decide) ?_ ?_ ?_ ?_ ?_)⟩
      · intro i x hi
        match i, hi with
        | 0, hi => cases hi; rfl
        | 1, hi => cases hi; rfl
        | 2, hi => cases hi; rfl
      · intro i x p hi hp
        match i, hi, hp with
        | 0, hi, hp => cases hi; cases hp; exact ⟨by decide, vd, _, rfl, isCell_at cd fun o e => B.top _ _ e, rd.kp fun b o _ e => B.top _ _ e⟩
        | 1, hi, hp => cases hi; cases hp; exact ⟨by decide, vn, _, rfl, isCell_at cn fun o e => B.top _ _ e, rn.kp fun b o _ e => B.top _ _ e⟩
        | 2, hi, hp => cases hi; cases hp; exact ⟨by decide, _, _, rfl, isCell_at ci fun o e => B.top _ _ e, .raw _⟩
      · refine clos3_inj ?_ ?_ ?_ <;> (first | exact addr_ne1 _ | exact addr_ne2 _ | exact (addr_ne1 _).symm | exact (addr_ne2 _).symm)
      · refine clos3_all ?_ ?_ ?_ <;> first | exact cell_off B cd | exact cell_off B ci | exact cell_off B cn
      intro A s' L' R M F hs
      obtain ⟨h, tk, rfl, hk⟩ := hs
      dsimp only [List.map_cons, List.map_nil, List.cons_append, List.nil_append] at M F
      have hL' : C.B₀.get? L' = none := by
        cases e : C.B₀.get? L' with
        | none => rfl
        | some o => have := B.top _ _ e; rw [F.bl] at this; cases this
      have fin : ∀ (v : Value) (h : Heap) (tk : Tok) (p : PV), Gr s.heap h → Rel (L' :: S) h v p → p = .int (valD n ((l.drop lo).take m)) → Q v { s with heap := h, toks := tk } := fun v h tk p g r e => H v h tk g ((r.less fun a ha => .tail _ ha).cast e)
      refine X.ifs F R (Tr.cmp (Ev.bin (Ev.loc M .z) Ev.cint BinR.add_ii) (Ev.loc M (.s .z)) CmpR.eq_ii (by rfl)) (fun hb1 h tk F => ?_) (fun hb1 h tk F => ?_)
      · have hm1 : m = 1 := by have := beq_iff_eq.mp hb1; (first | lia | omega)
        subst hm1
        obtain ⟨d, hd⟩ : ∃ d, l[lo]? = some d := ⟨l[lo]'(by (first | lia | omega)), by simp⟩
        refine X.ret F R (Ev.item (Ev.loc M (.s (.s (.s (.s .z))))) (Ev.loc M .z) (ItemR.lst (r := .int d) ?_ (by (first | lia | omega)) (by (first | lia | omega)))) (fun v h tk F r => fin v h tk _ F.base r ?_)
        · unfold idxL
          rw [seqIndex_of (by (first | lia | omega)) (by rw [List.length_map]; (first | lia | omega))]
          simp [hd]
        · rw [List.take_one, List.head?_drop, hd]
          simp [valD]
      · have hm2 : 2 ≤ m := by have := beq_eq_false_iff_ne.mp hb1; (first | lia | omega)
        refine X.next ?_
        refine X.assign F M R ((Ev.bin (Ev.bin (Ev.loc M .z) (Ev.loc M (.s .z)) BinR.add_ii) Ev.cint (BinR.rsh_ii (by decide))).cast (q := .int ((lo + m / 2 : Nat) : Int)) ?_) (.s (.s .z)) ?_
        · rw [Int.fdiv_eq_ediv_of_nonneg _ (by decide)]
          show PV.int (((lo : Int) + ((lo + m : Nat) : Int)) / 2) = _
          congr 1; (first | lia | omega)
        intro h tk F
        refine X.assign F M R ((Ev.bin (Ev.bin (Ev.loc M (.s (.s .z))) (Ev.loc M .z) BinR.sub_ii) (Ev.loc M (.s (.s (.s (.s (.s .z)))))) (BinR.mul_ii ?_)).cast (q := .int ((m / 2 * n : Nat) : Int)) ?_) (.s (.s (.s .z))) ?_
        · exact .of_right (Nat.le_trans (intBits_le (k := 10) (by (first | lia | omega)) (show (n : Int) < 2 ^ 10 from (by have : (2 : Int) ^ 10 = 1024 := rfl; (first | lia | omega)))) (by decide))
        · congr 1; push_cast; congr 1; (first | lia | omega)
        intro h tk F
        have hlt : m / 2 < m := by (first | lia | omega)
        have ih1 := ih (m - m / 2) (by (first | lia | omega)) (lo + m / 2) (L' :: S) (fun a ha => .tail _ (hS' a ha)) (fun a ha hn => by
          rcases List.mem_cons.mp ha with rfl | ha
          · exact hL'
          · exact hnew a ha hn) (by (first | lia | omega)) (by (first | lia | omega))
        have ih2 := ih (m / 2) (by (first | lia | omega)) lo (L' :: S) (fun a ha => .tail _ (hS' a ha)) (fun a ha hn => by
          rcases List.mem_cons.mp ha with rfl | ha
          · exact hL'
          · exact hnew a ha hn) (by (first | lia | omega)) (by (first | lia | omega))
        rw [show lo + m / 2 + (m - m / 2) = lo + m by (first | lia | omega)] at ih1
        obtain ⟨b1, b2⟩ := valD_bound n ((l.drop (lo + m / 2)).take (m - m / 2)) fun d h => hd d (mem_take_drop h)
        refine X.ret F R (Ev.bin (Ev.bin (Ev.callF (Ev.loc M (.s (.s (.s (.s (.s (.s .z))))))) (EvL.cons (Ev.loc M (.s (.s .z))) (EvL.cons (Ev.loc M (.s .z)) EvL.nil)) ⟨_, _, _, _, hst _ _ hf⟩ (ih1.le (by (first | lia | omega)))) (Ev.loc M (.s (.s (.s .z)))) (BinR.lsh_ii (by (first | lia | omega)) ?_))
          (Ev.callF (Ev.loc M (.s (.s (.s (.s (.s (.s .z))))))) (EvL.cons (Ev.loc M .z) (EvL.cons (Ev.loc M (.s (.s .z))) EvL.nil)) ⟨_, _, _, _, hst _ _ hf⟩ (ih2.le (by (first | lia | omega)))) BinR.add_ii) (fun v h tk F r => fin v h tk _ F.base r ?_)
        · have h1 := intBits_le b1 b2
          have h2 : n * ((l.drop (lo + m / 2)).take (m - m / 2)).length ≤ 1000 * 100 := Nat.mul_le_mul hn (by rw [List.length_take, List.length_drop]; (first | lia | omega))
          have h3 : m / 2 * n ≤ 100 * 1000 := Nat.mul_le_mul (by (first | lia | omega)) hn
          (first | lia | omega)
        · congr 1
          have e : (l.drop lo).take m = (l.drop lo).take (m / 2) ++ (l.drop (lo + m / 2)).take (m - m / 2) := by
            conv => lhs; rw [show m = m / 2 + (m - m / 2) by (first | lia | omega)]
            rw [List.take_add, List.drop_drop]
          rw [e, valD_append, List.length_take, List.length_drop, Nat.min_eq_left (by (first | lia | omega)), Int.toNat_natCast, Int.mul_comm, Nat.mul_comm n, Int.add_comm]
    have hne : l ≠ [] := by
      intro q; subst q; simp at hb
    have hp : 0 < l.length := List.length_pos_iff.mpr hne
    have := inner l.length 0 S' (fun _ h => h) (fun a h hn => absurd h hn) hp (by (first | lia | omega))
    simp only [Nat.zero_add, List.drop_zero, List.take_length] at this
    rw [List.length_map]
    exact CallR.le this (show l.length + 6 ≤ 111 by (first | lia | omega))
  · have : l = [] := by simpa using hb
    subst this; rfl
end Mine
end

section
namespace Mine
open PySem

noncomputable def digs (n : Nat) : Nat → Nat → List Nat
  | 0, _ => []
  | m + 1, x => x % 2 ^ n :: digs n m (x / 2 ^ n)
theorem digs_length (n : Nat) : ∀ m x, (digs n m x).length = m
  | 0, _ => rfl
  | m + 1, x => by rw [digs, List.length_cons, digs_length n m]
theorem digs_lt (n : Nat) : ∀ m x, ∀ d ∈ digs n m x, d < 2 ^ n
  | 0, _, d, h => by cases h
  | m + 1, x, d, h => by
    rw [digs] at h
    rcases List.mem_cons.mp h with rfl | h
    · exact Nat.mod_lt _ (Nat.two_pow_pos n)
    · exact digs_lt n m _ d h
theorem digs_append (n : Nat) : ∀ i j x, digs n (i + j) x = digs n i (x % 2 ^ (n * i)) ++ digs n j (x / 2 ^ (n * i))
  | 0, j, x => by simp [digs]
  | i + 1, j, x => by
    rw [Nat.add_right_comm, digs, digs, List.cons_append, digs_append n i j]
    have e : 2 ^ (n * (i + 1)) = 2 ^ n * 2 ^ (n * i) := by rw [← Nat.pow_add]; congr 1; rw [Nat.mul_succ]; (first | lia | omega)
    rw [e, Nat.mod_mul_right_mod, Nat.mod_mul_right_div_self, Nat.div_div_eq_div_mul]
theorem digs_one (n x : Nat) (h : x < 2 ^ n) : digs n 1 x = [x] := by
  rw [digs, digs, Nat.mod_eq_of_lt h]
theorem valD_digs (n : Nat) : ∀ m x, x < 2 ^ (n * m) → valD n ((digs n m x).map fun (d : Nat) => (d : Int)) = x
  | 0, x, h => by
    have : x = 0 := by simpa using h
    subst this; simp [digs, valD]
  | m + 1, x, h => by
    have h1 : x / 2 ^ n < 2 ^ (n * m) := by
      rw [Nat.div_lt_iff_lt_mul (Nat.two_pow_pos n), ← Nat.pow_add]
      rwa [Nat.mul_succ] at h
    rw [digs, List.map_cons, valD, valD_digs n m _ h1]
    have := Nat.mod_add_div x (2 ^ n)
    exact_mod_cast this
theorem and_high (x s : Nat) : x &&& (x / 2 ^ s * 2 ^ s) = x / 2 ^ s * 2 ^ s := by
  apply Nat.eq_of_testBit_eq
  intro i
  rw [Nat.testBit_and, Nat.testBit_mul_two_pow, Nat.testBit_div_two_pow]
  by_cases h : s ≤ i
  · simp [h, Nat.sub_add_cancel h]
  · simp [h]
theorem bitXor_high (x s : Nat) : Builtin.bitXor (x : Int) ((x / 2 ^ s * 2 ^ s : Nat) : Int) = ((x % 2 ^ s : Nat) : Int) := by
  have e : Builtin.bitAnd (x : Int) ((x / 2 ^ s * 2 ^ s : Nat) : Int) = ((x &&& (x / 2 ^ s * 2 ^ s) : Nat) : Int) := rfl
  rw [PyProof.Rows.bitXor_and, e, and_high]
  have := Nat.div_add_mod x (2 ^ s)
  rw [Nat.mul_comm] at this
  (first | lia | omega)
end Mine
end

section
open PySem PySem.W PyProof.Rows PySem.Calls
namespace Mine

theorem RelL.set {S : List Addr} {h : Heap} : ∀ {vs : List Value} {l : List PV} {v : Value} {p : PV}, RelL S h vs l → Rel S h v p → ∀ j : Nat, RelL S h (vs.set j v) (l.set j p)
  | _, _, _, _, .nil, _, _ => .nil
  | _, _, _, _, .cons _ r, a, 0 => .cons a r
  | _, _, _, _, .cons b r, a, j + 1 => .cons b (RelL.set r a j)

section
variable {C : Cx} {S : List Addr} {env : Env} {nm : List Str} {ρ : List (Option PV)} {k : Nat}
/-- the expression makes a new list -/
structure EvN (C : Cx) (S : List Addr) (env : Env) (nm : List Str) (ρ : List (Option PV)) (k : Nat) (e : PySem.Expr) (l : List PV) : Prop where
  run : ∀ (A : Around) (s : Shared) (Q : Value → Shared → Prop) (E : Value → Shared → Prop), Room k A → Inv C S env nm ρ s.heap →
    (∀ vs h₁ tk, Gr s.heap h₁ → RelL S h₁ vs l → Q (.ref h₁.objs.size) { s with heap := h₁.push { cls := .type "list", data := .seq vs.toArray }, toks := tk }) → wpAny (model PW C.w) A (eval e env) Q E s
theorem EvN.list {es : List PySem.Expr} {pos : Pos} {l : List PV} (h : EvL C S env nm ρ k pos es l) (hl : l.length ≤ sizeLine) : EvN C S env nm ρ k (.List es pos) l := ⟨
  fun A s Q E R I H => List_ (h.run A s _ E R I fun vs h₁ tk₁ g₁ rl => wpAny_newObj_type (H vs h₁ tk₁ g₁ rl) (by show vs.toArray.size ≤ sizeLine; rw [List.size_toArray, rl.length]; exact hl))⟩
theorem EvN.mul {d e : PySem.Expr} {pos : Pos} {x : Int} {y : List PV} (hd : Ev C S env nm ρ k d (.lst y)) (he : Ev C S env nm ρ k e (.int x)) (hy : y ≠ []) (h0 : 0 ≤ x) (hx : x < 2 ^ 20) (h : y.length * x.toNat ≤ 2 ^ 24) : EvN C S env nm ρ k (.BinOp d .Mult e pos) (List.replicate x.toNat y).flatten := ⟨
  fun A s Q E R I H => wpAny_BinOp (hd.run A s _ E R I fun va h₁ tk₁ g₁ ra => he.run A _ _ E R (I.gr g₁) fun vb h₂ tk₂ g₂ rb => by
    have ra := ra.gr g₂
    obtain ⟨_, rfl⟩ := rb.inv
    obtain ⟨b, us, n', rfl, hn', hl', rl'⟩ := ra.inv
    · skip
      have hlen := rl'.length
      have hz : us.toArray.size * x.toNat ≤ 16777216 := by rw [List.size_toArray, hlen]; exact h
      have hne : us.toArray.isEmpty = false := by
        cases us with
        | nil => exact absurd (List.length_eq_zero_iff.mp hlen.symm) hy
        | cons _ _ => rfl
      refine wpAny_binaryOp_repeat_ref (T := "list") (U := "int") (by decide) ⟨_, hl', rfl⟩ (fun s' => typeIs_int s' x _) noFill_list_mul PySem.F.fills_int_mul PySem.F.slot_int_rmul repeat_list PySem.F.slot_int_index.lookup
        (call_meets PySem.F.slot_int_rmul (typeIs_int _ x _) PySem.F.entry_int_rmul (PySem.F.args_int_rmul_2 _ _) (int___rmul___int_list x _ b us.toArray n')
          ⟨hl', rfl, ⟨_, hl', rfl⟩, call_meets PySem.F.slot_list_mul ⟨_, hl', rfl⟩ PySem.F.entry_list_mul (PySem.F.args_list_mul_2 _ _)
            (AutoListH.list___mul___list_int_3 b us.toArray n' x _ (by simp [Builtin.List.listFitsIndex]; (first | lia | omega)) (by (first | lia | omega)) (by unfold Builtin.List.listTooLong; exact fun q => by have := of_decide_eq_true q; rw [sizeLine_eq] at this; (first | lia | omega)))
            ⟨hl', ?_⟩⟩)
      have e := foldl_flat us x.toNat #[]
      have H' := H (List.replicate x.toNat us).flatten h₂ tk₂ (g₁.trans g₂) (rl'.rep _)
      have e2 : (List.replicate x.toNat us).flatten.toArray = List.foldl (fun a b => a ++ b) #[] (List.replicate x.toNat us.toArray) := by rw [e]; simp
      rw [e2] at H'
      rw [hne]
      simpa only [Bool.false_eq_true, if_false] using H')⟩
end

section
variable {C : Cx} {A : Around} {B : Heap} {S : List Addr} {V : List (Addr × List PV)} {env : Env} {nm : List Str} {ρ : List (Option PV)} {k : Nat} {s : Shared} {Q : Flow → Shared → Prop} {E : Value → Shared → Prop}
/-- a new list whose items may turn -/
theorem X.newl {e : PySem.Expr} {x : Str} {px pos : Pos} {rest : List Stmt} {l : List PV} {ρ' : Addr → List (Option PV)} (F : FS C B S V env nm ρ s.heap) (M : Fm env nm) (R : Room k A) (he : EvN C S env nm ρ k e l)
    (st : ∀ a, SetAt nm ρ x (.raw (.ref a)) (ρ' a))
    (K : ∀ a h' tk', a ∉ DD S → C.B₀.get? a = none → FS C B (a :: S) ((a, l) :: V) env nm (ρ' a) h' → X C A env rest Q E { s with heap := h', toks := tk' })
    (hs : swapsWith e (some (.Name x px)) pos.line env = pure false := by rfl) (hf : (env.kindOf x == some .free) = false := by kernel_rfl) : X C A env (.Assign [.Name x px] e pos :: rest) Q E s :=
  ⟨wpAny_execs_cons (wpAny_Assign_Name (he.run A s _ E R F.inv fun vs h₁ tk₁ g₁ rl => by
    have F₁ := F.gr g₁
    have hnew : h₁.get? h₁.objs.size = none := Heap.get?_none_of_le (Nat.le_refl _)
    have hnS := F₁.bs.new
    have hm : ∀ a ∈ h₁.objs.size :: S, a ∉ S → h₁.get? a = none := fun a ha hn => by
      rcases List.mem_cons.mp ha with rfl | ha
      · exact hnew
      · exact absurd ha hn
    have hBn : B.get? h₁.objs.size = none := F₁.noB hnew (DD.ne hnS).1 (DD.ne hnS).2.1
    have hCn : C.B₀.get? h₁.objs.size = none := by
      cases e : C.B₀.get? h₁.objs.size with
      | none => rfl
      | some o => have := F₁.bs.top _ o e; rw [hnew] at this; cases this
    have g : Gr h₁ (h₁.push { cls := .type "list", data := .seq vs.toArray }) := Gr.push
    have F₂ : FS C B (h₁.objs.size :: S) ((h₁.objs.size, l) :: V) env nm ρ (h₁.push { cls := .type "list", data := .seq vs.toArray }) := by
      refine ⟨⟨⟨C.in F₁.bs.top g, fun a ha => ?_, g.tab F₁.tabs⟩, fun i y p hi hp => ?_⟩, F₁.b0, F₁.base.trans g, F₁.bl, fun q hq => ?_, ?_, .tail _ F₁.ls, ?_, fun y c a b => ?_, F₁.inj, F₁.frs⟩
      · rcases List.mem_cons.mp ha with rfl | ha
        · exact ⟨_, Heap.get?_push_size _ rfl⟩
        · exact (F₁.gr g).bs.off a ha
      · obtain ⟨v, n, r⟩ := F₁.inv.names i y p hi hp
        exact ⟨v, n.gr F₁.tabs g, (r.more hm).gr g⟩
      · rcases List.mem_cons.mp hq with rfl | hq
        · exact ⟨.head _, hBn, vs, 0, Heap.get?_push_size _ rfl, (rl.more hm).gr g⟩
        · obtain ⟨a, b, c⟩ := F₁.vol q hq
          exact ⟨.tail _ a, b, (c.more hm).gr F₁.tabs g⟩
      · rw [List.map_cons, List.nodup_cons]
        refine ⟨fun hq => ?_, F₁.vnd⟩
        obtain ⟨q, hq, e⟩ := List.mem_map.mp hq
        obtain ⟨a, _, _⟩ := F₁.vol q hq
        exact (DD.ne hnS).2.2 ((show q.1 = h₁.objs.size from e) ▸ a)
      · obtain ⟨m, hm⟩ := F₁.loc; exact ⟨m, ns_gr F₁.tabs g hm⟩
      · obtain ⟨d, e, v, f⟩ := F₁.cls y c a b; exact ⟨.tail _ d, e, v, cell_gr F₁.tabs g f⟩
    exact wp_store F₂ M (st _) (.raw _) hf fun h'' tk'' _ F' => (K _ h'' tk'' hnS hCn F').out) hs)⟩
/-- x[i] = e upon a list that may turn -/
theorem X.setat {o i e : PySem.Expr} {spos pos : Pos} {rest : List Stmt} {a : Addr} {l : List PV} {j : Nat} {p : PV} (F : FS C B S ((a, l) :: V) env nm ρ s.heap) (R : Room k A) (he : Ev C S env nm ρ k e p) (ho : Ev C S env nm ρ k o (.raw (.ref a))) (hi : Ev C S env nm ρ k i (.int j)) (hj : j < l.length) (hj2 : j < 2 ^ 62)
    (K : ∀ h' tk', FS C B S ((a, l.set j p) :: V) env nm ρ h' → X C A env rest Q E { s with heap := h', toks := tk' })
    (hs : swapsWith e (some (.Subscript o i spos)) pos.line env = pure false := by rfl) : X C A env (.Assign [.Subscript o i spos] e pos :: rest) Q E s :=
  ⟨wpAny_execs_cons (wpAny_Assign_Subscript (he.run A s _ E R F.inv fun v h₁ tk₁ g₁ rv => ho.run A _ _ E R (F.inv.gr g₁) fun w h₂ tk₂ g₂ rw => hi.run A _ _ E R ((F.inv.gr g₁).gr g₂) fun u h₃ tk₃ g₃ ru => by
    obtain ⟨_, rfl⟩ := rw.inv
    obtain ⟨_, rfl⟩ := ru.inv
    have F₃ := ((F.gr g₁).gr g₂).gr g₃
    obtain ⟨hS, hB, vs, n, ht, rl⟩ := F₃.vol _ (.head _)
    have rl : RelL S h₃ vs l := rl
    refine ki_setAt ht (by (first | lia | omega)) (by (first | lia | omega)) (by rw [List.size_toArray, rl.length]; (first | lia | omega)) ?_
    have hs := Heap.SameBut.update h₃ a (Obj.mapSeq (·.setIfInBounds ((j : Int).toNat) v))
    have g : GrB a h₃ (h₃.update a (Obj.mapSeq (·.setIfInBounds ((j : Int).toNat) v))) := .of hs fun o ws e q => by rw [ht] at e; cases e; cases q
    have kp : Kp S h₃ (h₃.update a (Obj.mapSeq (·.setIfInBounds ((j : Int).toNat) v))) := fun b o hb e => (hs.2 b fun q => (DD.ne hb).2.2 (q ▸ hS)).trans e
    refine (K _ tk₃ (F₃.turn g ⟨vs.set j v, _, by have := ht.update (·.setIfInBounds ((j : Int).toNat) v); simpa using this, ?_⟩)).out
    exact RelL.set (rl.kp kp) (((rv.gr g₂).gr g₃).kp kp) j) hs)⟩
theorem X.ret0 {pos : Pos} {rest : List Stmt} (K : Q (.ret .none) s) : X C A env (.Return none pos :: rest) Q E s := ⟨wpAny_execs_cons (wpAny_Return_none K)⟩

/-- a call that turns one list -/
structure CallV (C : Cx) (S : List Addr) (k : Nat) (a : Addr) (xs xs' : List PV) (f : Value) (l : List PV) (p : PV) : Prop where
  run : ∀ (A : Around) (s : Shared) (Q : Value → Shared → Prop) (E : Value → Shared → Prop) (vs : List Value), Room k A → Bs C S s.heap → a ∈ S → VL S s.heap a xs → RelL S s.heap vs l →
    (∀ v h' tk, GrB a s.heap h' → VL S h' a xs' → Rel S h' v p → Q v { s with heap := h', toks := tk }) → wpAny (model PW C.w) A (call f vs []) Q E s
theorem CallV.le {k' : Nat} {a : Addr} {xs xs' : List PV} {f : Value} {l : List PV} {p : PV} (h : CallV C S k a xs xs' f l p) (hk : k ≤ k') : CallV C S k' a xs xs' f l p := ⟨fun A s Q E vs R B ha v rl H => h.run A s Q E vs (R.le hk) B ha v rl H⟩
/-- such a call, for its effect -/
theorem X.callv {x : Str} {np pos ep : Pos} {d : PySem.Expr} {args : List PySem.Expr} {rest : List Stmt} {a f : Addr} {xs xs' : List PV} {l : List PV} {p : PV} (F : FS C B S ((a, xs) :: V) env nm ρ s.heap) (R : Room k A) (hf : Ev C S env nm ρ k (.Name x np) (.raw (.ref f))) (ha : EvL C S env nm ρ k pos (d :: args) l)
    (hfn : FnAt f C.B₀) (hc : CallV C S k a xs xs' (.ref f) l p)
    (K : ∀ h' tk', FS C B S ((a, xs') :: V) env nm ρ h' → X C A env rest Q E { s with heap := h', toks := tk' })
    (he : starEach (d :: args) env = (false, eval d env) :: starEach args env := by rfl) (hp : (backTo pos (starEach args env)).any (·.1) = false := by rfl)
    (hi : interactive env = false := by rfl) (hs : swapsWith (.Call (.Name x np) (d :: args) [] pos) none ep.line env = pure false := by rfl) : X C A env (.Expr (.Call (.Name x np) (d :: args) [] pos) ep :: rest) Q E s :=
  ⟨wpAny_execs_cons (wpAny_Expr_any (wpAny_Call_Name_kw (hf.run A s _ E R F.inv fun v h₁ tk₁ g₁ r => by
    obtain ⟨_, rfl⟩ := r.inv
    have fat : ∀ h : Heap, C.B₀.StaysIn h → FnAt f h := fun h t => let ⟨oc, od, fd, sl, e⟩ := hfn; ⟨oc, od, fd, sl, t _ _ e⟩
    refine callWith_F (fat _ (F.inv.gr g₁).top) (ha.run A _ _ E R (F.inv.gr g₁) fun vs h₂ tk₂ g₂ rl => ⟨fat _ ((F.inv.gr g₁).gr g₂).top, ?_⟩) he hp
    have F₂ := (F.gr g₁).gr g₂
    obtain ⟨hS, hB, vl⟩ := F₂.vol _ (.head _)
    exact hc.run A { s with heap := h₂, toks := tk₂ } _ E vs R F₂.bs hS vl rl fun v h₃ tk₃ g₃ vl₃ _ => (K h₃ tk₃ (F₂.turn g₃ vl₃)).out)) hi hs)⟩
/-- such a call of a made function: what the names hold is laid down -/
theorem X.callvU {x : Str} {np pos ep : Pos} {d : PySem.Expr} {args : List PySem.Expr} {rest : List Stmt} {a f : Addr} {xs xs' : List PV} {l : List PV} {p : PV} (F : FS C B S ((a, xs) :: V) env nm ρ s.heap) (R : Room k A) (hf : Ev C S env nm ρ k (.Name x np) (.raw (.ref f))) (ha : EvL C S env nm ρ k pos (d :: args) l)
    (hfn : FnAt f C.B₀) (hCa : C.B₀.get? a = none) (hc : ∀ C' : Cx, C'.w = C.w → C.B₀.StaysIn C'.B₀ → C'.B₀.get? a = none → Down C' S env nm ρ → CallV C' S k a xs xs' (.ref f) l p)
    (K : ∀ h' tk', FS C B S ((a, xs') :: V) env nm ρ h' → X C A env rest Q E { s with heap := h', toks := tk' })
    (he : starEach (d :: args) env = (false, eval d env) :: starEach args env := by rfl) (hp : (backTo pos (starEach args env)).any (·.1) = false := by rfl)
    (hi : interactive env = false := by rfl) (hs : swapsWith (.Call (.Name x np) (d :: args) [] pos) none ep.line env = pure false := by rfl) : X C A env (.Expr (.Call (.Name x np) (d :: args) [] pos) ep :: rest) Q E s :=
  ⟨wpAny_execs_cons (wpAny_Expr_any (wpAny_Call_Name_kw (hf.run A s _ E R F.inv fun v h₁ tk₁ g₁ r => by
    obtain ⟨_, rfl⟩ := r.inv
    have fat : ∀ h : Heap, C.B₀.StaysIn h → FnAt f h := fun h t => let ⟨oc, od, fd, sl, e⟩ := hfn; ⟨oc, od, fd, sl, t _ _ e⟩
    refine callWith_F (fat _ (F.inv.gr g₁).top) (ha.run A _ _ E R (F.inv.gr g₁) fun vs h₂ tk₂ g₂ rl => ⟨fat _ ((F.inv.gr g₁).gr g₂).top, ?_⟩) he hp
    have F₂ := (F.gr g₁).gr g₂
    obtain ⟨hS, hB, vl⟩ := F₂.vol _ (.head _)
    have hW : ∀ b ∈ [a], b ∈ S ∧ ∃ o its n, h₂.get? b = some o ∧ o.data = .seq its n := fun b hb => by
      rw [List.mem_singleton] at hb; subst hb
      obtain ⟨o, ho, its, n, hd⟩ := vl.seq
      exact ⟨hS, o, its, n, ho, hd⟩
    have hb : C.B₀.StaysIn (below h₂ [a]) := Cx.below F₂.bs.top fun b hb => by rw [List.mem_singleton] at hb; exact hb ▸ hCa
    have D := F₂.inv.down [a] hb hW
    exact (hc (C.up (below h₂ [a]) hb (hideAll_none _ (.head _)) (hideAll_none _ (.tail _ (.head _)))) rfl hb (hideAll_none _ (.tail _ (.tail _ (.head _)))) D).run A { s with heap := h₂, toks := tk₂ } _ E vs R ⟨below_stays, F₂.bs.off, F₂.bs.tabs⟩ hS vl rl
      fun v h₃ tk₃ g₃ vl₃ _ => (K h₃ tk₃ (F₂.turn g₃ vl₃)).out)) hi hs)⟩
/-- a list turns no more -/
theorem FS.freeze {a : Addr} {l : List PV} {x : Str} {ρ' : List (Option PV)} {h : Heap} (F : FS C B (a :: S) ((a, l) :: V) env nm ρ h) (M : Fm env nm) (haS : a ∉ DD S) (g : GetAt nm ρ x (.raw (.ref a))) (st : SetAt nm ρ x (.lst l) ρ') : FS C B S V env nm ρ' h := by
  have sub : ∀ b ∈ S, b ∈ a :: S := fun b hb => .tail _ hb
  obtain ⟨hS, hB, vs, n, ht, rl⟩ := F.vol _ (.head _)
  have hl : env.locals ≠ a := fun q => by
    obtain ⟨m, o, es, ep, ho, hd, _⟩ := F.loc
    have ht : h.get? a = some _ := ht
    rw [q, ht] at ho; cases ho; cases hd
  obtain ⟨i, hi, rfl⟩ := st.idx
  obtain ⟨i', hi', hp'⟩ := g.idx
  have hii : i' = i := by
    obtain ⟨lj, ej⟩ := List.getElem?_eq_some_iff.mp hi'
    obtain ⟨li, ei⟩ := List.getElem?_eq_some_iff.mp hi
    exact (List.getElem_inj M.nd).mp (ej.trans ei.symm)
  subst hii
  refine ⟨⟨⟨F.bs.top, fun b hb => F.bs.off b (sub b hb), F.tabs⟩, fun j y q hj hq => ?_⟩, F.b0, F.base, F.bl, fun q hq => ?_, ?_, ?_, F.loc, fun y c a b => ?_, F.inj, F.frs⟩
  · rcases set_other M hi hj hq with ⟨rfl, rfl⟩ | ⟨hne, hq⟩
    · obtain ⟨u, n', ru⟩ := F.inv.names _ y _ hj hp'
      obtain ⟨_, rfl⟩ := ru.inv
      exact ⟨_, n', .lst haS ht (rl.less sub)⟩
    · obtain ⟨u, n', ru⟩ := F.inv.names j y q hj hq
      exact ⟨u, n', ru.less sub⟩
  · obtain ⟨p, b, c⟩ := F.vol q (.tail _ hq)
    have nd := F.vnd
    rw [List.map_cons, List.nodup_cons] at nd
    refine ⟨?_, b, c.less sub⟩
    rcases List.mem_cons.mp p with e | p
    · exact absurd (List.mem_map_of_mem (f := (·.1)) hq) (by rw [e]; exact nd.1)
    · exact p
  · have nd := F.vnd
    rw [List.map_cons, List.nodup_cons] at nd
    exact nd.2
  · rcases List.mem_cons.mp F.ls with e | e
    · exact absurd e hl
    · exact e
  · obtain ⟨d, e, v, f⟩ := F.cls y c a b
    refine ⟨?_, e, v, f⟩
    rcases List.mem_cons.mp d with q | d
    · obtain ⟨o, ho, hd⟩ := f
      have ht : h.get? _ = some _ := ht
      rw [q, ht] at ho; cases ho; cases hd
    · exact d
/-- the same, the things handed over read while the list stands still -/
theorem X.callvI {S₀ : List Addr} {ρ₀ : List (Option PV)} {x : Str} {np pos ep : Pos} {d : PySem.Expr} {args : List PySem.Expr} {rest : List Stmt} {a f : Addr} {xs xs' : List PV} {l : List PV} {p : PV} (F : FS C B S ((a, xs) :: V) env nm ρ s.heap) (R : Room k A) (hf : Ev C S env nm ρ k (.Name x np) (.raw (.ref f)))
    (I₀ : Inv C S₀ env nm ρ₀ s.heap) (ha : EvL C S₀ env nm ρ₀ k pos (d :: args) l) (hpl : ∀ h vs, RelL S₀ h vs l → RelL S h vs l)
    (hfn : FnAt f C.B₀) (hCa : C.B₀.get? a = none) (hc : ∀ C' : Cx, C'.w = C.w → C.B₀.StaysIn C'.B₀ → C'.B₀.get? a = none → Down C' S env nm ρ → CallV C' S k a xs xs' (.ref f) l p)
    (K : ∀ h' tk', FS C B S ((a, xs') :: V) env nm ρ h' → X C A env rest Q E { s with heap := h', toks := tk' })
    (he : starEach (d :: args) env = (false, eval d env) :: starEach args env := by rfl) (hp : (backTo pos (starEach args env)).any (·.1) = false := by rfl)
    (hi : interactive env = false := by rfl) (hs : swapsWith (.Call (.Name x np) (d :: args) [] pos) none ep.line env = pure false := by rfl) : X C A env (.Expr (.Call (.Name x np) (d :: args) [] pos) ep :: rest) Q E s :=
  ⟨wpAny_execs_cons (wpAny_Expr_any (wpAny_Call_Name_kw (hf.run A s _ E R F.inv fun v h₁ tk₁ g₁ r => by
    obtain ⟨_, rfl⟩ := r.inv
    have fat : ∀ h : Heap, C.B₀.StaysIn h → FnAt f h := fun h t => let ⟨oc, od, fd, sl, e⟩ := hfn; ⟨oc, od, fd, sl, t _ _ e⟩
    refine callWith_F (fat _ (F.inv.gr g₁).top) (ha.run A _ _ E R (I₀.gr g₁) fun vs h₂ tk₂ g₂ rl => ⟨fat _ ((F.inv.gr g₁).gr g₂).top, ?_⟩) he hp
    have F₂ := (F.gr g₁).gr g₂
    obtain ⟨hS, hB, vl⟩ := F₂.vol _ (.head _)
    have hW : ∀ b ∈ [a], b ∈ S ∧ ∃ o its n, h₂.get? b = some o ∧ o.data = .seq its n := fun b hb => by
      rw [List.mem_singleton] at hb; subst hb
      obtain ⟨o, ho, its, n, hd⟩ := vl.seq
      exact ⟨hS, o, its, n, ho, hd⟩
    have hb : C.B₀.StaysIn (below h₂ [a]) := Cx.below F₂.bs.top fun b hb => by rw [List.mem_singleton] at hb; exact hb ▸ hCa
    have D := F₂.inv.down [a] hb hW
    exact (hc (C.up (below h₂ [a]) hb (hideAll_none _ (.head _)) (hideAll_none _ (.tail _ (.head _)))) rfl hb (hideAll_none _ (.tail _ (.tail _ (.head _)))) D).run A { s with heap := h₂, toks := tk₂ } _ E vs R ⟨below_stays, F₂.bs.off, F₂.bs.tabs⟩ hS vl (hpl _ _ rl)
      fun v h₃ tk₃ g₃ vl₃ _ => (K h₃ tk₃ (F₂.turn g₃ vl₃)).out)) hi hs)⟩
end
end Mine
end

section
open PySem PySem.W PyProof.Rows PySem.Calls
set_option maxRecDepth 100000
set_option maxHeartbeats 4000000
namespace Mine

noncomputable abbrev natL (l : List Nat) : List PV := l.map fun (d : Nat) => PV.int (d : Int)

theorem splice {α : Type} (xs u v : List α) (lo i j : Nat) (hu : u.length = i) (h : lo + i ≤ xs.length) :
    (xs.take lo ++ u ++ xs.drop (lo + i)).take (lo + i) ++ v ++ (xs.take lo ++ u ++ xs.drop (lo + i)).drop (lo + i + j) = xs.take lo ++ (u ++ v) ++ xs.drop (lo + i + j) := by
  have hl : (xs.take lo ++ u).length = lo + i := by rw [List.length_append, List.length_take, hu]; (first | lia | omega)
  rw [List.take_append_of_le_length (by (first | lia | omega)), List.take_of_length_le (by (first | lia | omega)), List.drop_append, hl, List.drop_eq_nil_of_le (by (first | lia | omega)), List.nil_append, List.drop_drop]
  rw [show lo + i + (lo + i + j - (lo + i)) = lo + i + j by (first | lia | omega)]
  simp [List.append_assoc]
theorem cell_offB {C : Cx} {S : List Addr} {h : Heap} {c a : Addr} {v : Option Value} (B : Bs C S h) (x : C.B₀.IsCell c v) (ha : C.B₀.get? a = none) : c ≠ 68 ∧ c ≠ 75 ∧ ∃ o, (hideAll h [a]).get? c = some o := by
  obtain ⟨o, e, hd⟩ := x
  have n := B.tabs.ne (B.top _ _ e) fun vs q => by rw [hd] at q; cases q
  exact ⟨n.1, n.2, o, hideAll_get _ (B.top _ _ e) fun q => by rw [List.mem_singleton] at q; rw [q, ha] at e; cases e⟩

theorem int2digits {C : Cx} {S : List Addr} {n a m : Nat} (hm : (Builtin.Int.intBits a + n - 1) / n = m) (hm2 : m ≤ 90) (hn : 0 < n) (hn2 : n ≤ 1000) (ha : a < 2 ^ (n * m)) : CallR C S 112 (.ref 73) [.int a, .int n] (.lst (natL (digs n m a))) := by
  refine CallR.ofBody ["a", "n"] ["a_digits", "inner"] rfl (by kernel_rfl) (fun s vs h => by apply vs2 h; intro a b; exact BindsTo.of_eq rfl) rfl rfl (by decide) (by decide) (fun n x hx => ?_) (by decide) (by decide) ?_
  · rcases List.mem_cons.mp hx with rfl | hx
    · exact .inl rfl
    rcases List.mem_cons.mp hx with rfl | hx
    · exact .inr ⟨rfl, rfl⟩
    rcases List.mem_cons.mp hx with rfl | hx
    · exact .inr ⟨rfl, rfl⟩
    rcases List.mem_cons.mp hx with rfl | hx
    · exact .inr ⟨rfl, rfl⟩
    cases hx
  intro A s B L S' Q R M hS F K
  have sub : ∀ a ∈ S, a ∈ S' := by subst hS; exact fun a ha => List.mem_append_right _ (.tail _ ha)
  dsimp only [List.map_cons, List.map_nil, List.cons_append, List.nil_append] at M F
  refine X.newl F M R (EvN.mul (x := (m : Int)) (Ev.list (EvL.cons Ev.cint EvL.nil) (small (Nat.le_of_ble_eq_true rfl))) ((Ev.bin (Ev.bin (Ev.bin (Ev.meth0 (Ev.loc M .z) Meth0.bitlen) (Ev.loc M (.s .z)) BinR.add_ii) Ev.cint BinR.sub_ii) (Ev.loc M (.s .z)) (BinR.floordiv_ii (by (first | lia | omega)) (PyProof.noPylong_small (by (first | lia | omega))))).cast ?_) (by nofun) (by (first | lia | omega)) (by (first | lia | omega)) (by simp; (first | lia | omega))) (fun f => .s (.s .z)) ?_
  · rw [Int.fdiv_eq_ediv_of_nonneg _ (by (first | lia | omega))]
    have e : ((Builtin.Int.intBits (a : Int) : Int) + n - 1) = ((Builtin.Int.intBits (a : Int) + n - 1 : Nat) : Int) := by (first | lia | omega)
    rw [e, ← hm, Int.natCast_ediv]
  intro ad h tk had hCad F
  refine X.defn Tab.a F M rfl ⟨rfl, rfl⟩ rfl rfl rfl rfl rfl ?_ (fun f => .s (.s (.s .z))) ?_
  · intro q hq _
    rcases List.mem_cons.mp hq with rfl | hq
    · rfl
    rcases List.mem_cons.mp hq with rfl | hq
    · rfl
    rcases List.mem_cons.mp hq with rfl | hq
    · rfl
    cases hq
  intro C' B' f c' ctv doc pm h tk hBB hf hrec hCV F
  have hCa := hCV _ (.head _)
  refine X.ifs F R (Tr.val (Ev.loc M .z) rfl rfl) (fun hb h tk F => ?_) (fun hb h tk F => ?_)
  · have hrep : (List.replicate (m : Int).toNat [PV.int 0]).flatten = List.replicate m (PV.int 0) := by simp
    have ha0 : 0 < a := by
      refine Nat.pos_of_ne_zero fun q => ?_
      subst q; simp at hb
    have hm0 : 0 < m := by
      refine Nat.pos_of_ne_zero fun q => ?_
      subst q; simp at ha; (first | lia | omega)
    refine X.callvI (S₀ := S') (ρ₀ := [some (.int a), some (.int n), some (.lst (List.replicate m (PV.int 0))), some (.raw (.ref f))]) (l := [.int a, .int 0, .int m]) (xs' := natL (digs n m a)) (p := .none) F R (Ev.loc M (.s (.s (.s .z)))) (FS.freeze (x := "a_digits") F M had (.s (.s .z)) (by rw [hrep]; exact .s (.s .z))).inv
      (EvL.cons (Ev.loc M .z) (EvL.cons Ev.cint (EvL.cons ((Ev.callB (Ev.bl M blt_len (by kernel_rfl)) (EvL.cons (Ev.loc M (.s (.s .z))) EvL.nil) (CallR.len_l (by simp; (first | lia | omega)))).cast (by simp)) EvL.nil)))
      (fun h vs rl => ?_) ⟨_, _, _, _, hf⟩ hCa (fun C hw hst hCad D => ?_) (fun h tk F => X.next (X.ret (FS.freeze (x := "a_digits") F M had (.s (.s .z)) (.s (.s .z))) R (Ev.loc M (.s (.s .z))) (fun v h tk F r => K v h tk ⟨fun b o n m e => F.base.k b o n m (hBB b o n m e), fun _ => F.tabs⟩ (r.less sub))))
    · obtain ⟨_, _, _, rfl⟩ := rl.ints3
      exact .cons (.int _ _) (.cons (.int _ _) (.cons (.int _ _) .nil))
    have inner : ∀ (m x lo : Nat) (S : List Addr) (xs : List PV), (∀ a ∈ ad :: S', a ∈ S) → (∀ a ∈ S, a ∉ ad :: S' → C.B₀.get? a = none) → 0 < m → lo + m ≤ xs.length → xs.length ≤ 90 → x < 2 ^ (n * m) →
        CallV C S (m + 6) ad xs (xs.take lo ++ natL (digs n m x) ++ xs.drop (lo + m)) (.ref f) [.int x, .int lo, .int ((lo + m : Nat) : Int)] .none := by
      intro m
      induction m using Nat.strongRecOn with
      | _ m ih =>
      intro x lo S xs hS' hnew hm hlen hlen2 hx
      obtain ⟨vn, nn, rn⟩ := D.names _ _ (.s .z)
      obtain ⟨vd, nd, rd⟩ := D.names _ _ (.s (.s .z))
      obtain ⟨vi, ni, ri⟩ := D.names _ _ (.s (.s (.s .z)))
      have cd := nd.cellOf rfl rfl
      have cn := nn.cellOf rfl rfl
      have ci := ni.cellOf rfl rfl
      cases ri
      cases rd
      have rn := rn.more hnew
      refine ⟨fun A s Q E vs R B ha vl rl H => wpAny_call (callClos (k := m + 5) (ps := ["x", "L", "R"]) (rest := ["mid", "shift", "upper", "lower"]) (fr := ["a_digits", "inner", "n"]) (fp := [.raw (.ref ad), .raw (.ref f), .int n]) (Ent.at B hCad ha vl) R (B.top _ _ (hst _ _ hf)) rfl (hrec.keeps fun b o e => B.top b o (hst b o e))
        (by apply vs3 rl.length; intro a b c; exact BindsTo.of_eq rfl) rl rfl rfl (by decide) (by decide) (by decide) (by decide) ?_ ?_ ?_ ?_ ?_)⟩
      · intro i x hi
        match i, hi with
        | 0, hi => cases hi; rfl
        | 1, hi => cases hi; rfl
        | 2, hi => cases hi; rfl
      · intro i x p hi hp
        match i, hi, hp with
        | 0, hi, hp => cases hi; cases hp; exact ⟨by decide, _, _, rfl, isCell_at cd fun o e => B.top _ _ e, .raw _⟩
        | 1, hi, hp => cases hi; cases hp; exact ⟨by decide, _, _, rfl, isCell_at ci fun o e => B.top _ _ e, .raw _⟩
        | 2, hi, hp => cases hi; cases hp; exact ⟨by decide, vn, _, rfl, isCell_at cn fun o e => B.top _ _ e, rn.kp fun b o _ e => B.top _ _ e⟩
      · refine clos3_inj ?_ ?_ ?_ <;> (first | exact addr_ne1 _ | exact addr_ne2 _ | exact (addr_ne1 _).symm | exact (addr_ne2 _).symm)
      · refine clos3_all ?_ ?_ ?_ <;> first | exact cell_offB B cd hCad | exact cell_offB B ci hCad | exact cell_offB B cn hCad
      intro A s' L' R M F hs
      obtain ⟨h, tk, rfl, hk⟩ := hs
      dsimp only [List.map_cons, List.map_nil, List.cons_append, List.nil_append] at M F
      have hL' : C.B₀.get? L' = none := by
        cases e : C.B₀.get? L' with
        | none => rfl
        | some o => have := F.b0 _ _ e; rw [F.bl] at this; cases this
      refine X.ifs F R (Tr.cmp (Ev.bin (Ev.loc M (.s .z)) Ev.cint BinR.add_ii) (Ev.loc M (.s (.s .z))) CmpR.eq_ii (by rfl)) (fun hb1 h tk F => ?_) (fun hb1 h tk F => ?_)
      · have hm1 : m = 1 := by have := beq_iff_eq.mp hb1; (first | lia | omega)
        subst hm1
        refine X.setat (j := lo) F R (Ev.loc M .z) (Ev.loc M (.s (.s (.s (.s (.s (.s (.s .z)))))))) (Ev.loc M (.s .z)) (by (first | lia | omega)) (by (first | lia | omega)) (fun h tk F => ?_)
        refine X.ret0 (H .none h tk (Gr.hid F.base F.tabs) ?_ .nn)
        have v := (F.vol _ (.head _)).2.2.less (S' := S) fun a ha => .tail _ ha
        rw [digs_one n x (by rwa [Nat.mul_one] at hx)]
        have e : xs.take lo ++ natL [x] ++ xs.drop (lo + 1) = xs.set lo (.int x) := by
          rw [List.set_eq_take_append_cons_drop, if_pos (by (first | lia | omega))]; simp
        rw [e]; exact v
      · have hm2 : 2 ≤ m := by have := beq_eq_false_iff_ne.mp hb1; (first | lia | omega)
        refine X.next ?_
        refine X.assign F M R ((Ev.bin (Ev.bin (Ev.loc M (.s .z)) (Ev.loc M (.s (.s .z))) BinR.add_ii) Ev.cint (BinR.rsh_ii (by decide))).cast (q := .int ((lo + m / 2 : Nat) : Int)) ?_) (.s (.s (.s .z))) ?_
        · rw [Int.fdiv_eq_ediv_of_nonneg _ (by decide)]
          show PV.int (((lo : Int) + ((lo + m : Nat) : Int)) / 2) = _
          congr 1; (first | lia | omega)
        intro h tk F
        refine X.assign F M R ((Ev.bin (Ev.bin (Ev.loc M (.s (.s (.s .z)))) (Ev.loc M (.s .z)) BinR.sub_ii) (Ev.loc M (.s (.s (.s (.s (.s (.s (.s (.s (.s .z)))))))))) (BinR.mul_ii ?_)).cast (q := .int ((m / 2 * n : Nat) : Int)) ?_) (.s (.s (.s (.s .z)))) ?_
        · exact .of_right (Nat.le_trans (intBits_le (k := 10) (by (first | lia | omega)) (show (n : Int) < 2 ^ 10 from (by have : (2 : Int) ^ 10 = 1024 := rfl; (first | lia | omega)))) (by decide))
        · congr 1; push_cast; congr 1; (first | lia | omega)
        intro h tk F
        refine X.assign F M R ((Ev.bin (Ev.loc M .z) (Ev.loc M (.s (.s (.s (.s .z))))) (BinR.rsh_ii (by (first | lia | omega)))).cast (q := .int ((x / 2 ^ (m / 2 * n) : Nat) : Int)) ?_) (.s (.s (.s (.s (.s .z))))) ?_
        · rw [Int.fdiv_eq_ediv_of_nonneg _ (Int.le_of_lt (Int.pow_pos (by decide))), Int.toNat_natCast]
          congr 1
          try (push_cast; rfl)
        intro h tk F
        have hxs : x / 2 ^ (m / 2 * n) < 2 ^ (n * m) := Nat.lt_of_le_of_lt (Nat.div_le_self _ _) hx
        have hbits : Builtin.Int.intBits ((x / 2 ^ (m / 2 * n) : Nat) : Int) ≤ n * m := intBits_le (Int.natCast_nonneg _) (by exact_mod_cast hxs)
        have hnm : n * m ≤ 1000 * 90 := Nat.mul_le_mul hn2 (by (first | lia | omega))
        have hs2 : m / 2 * n ≤ 90 * 1000 := Nat.mul_le_mul (by (first | lia | omega)) hn2
        refine X.assign F M R ((Ev.bin (Ev.loc M .z) (Ev.bin (Ev.loc M (.s (.s (.s (.s (.s .z)))))) (Ev.loc M (.s (.s (.s (.s .z))))) (BinR.lsh_ii (by (first | lia | omega)) (by (first | lia | omega)))) BinR.xor_ii).cast (q := .int ((x % 2 ^ (m / 2 * n) : Nat) : Int)) ?_) (.s (.s (.s (.s (.s (.s .z)))))) ?_
        · rw [← bitXor_high, Int.toNat_natCast]
          congr 2
          try (push_cast; rfl)
        intro h tk F
        have hlt : m / 2 < m := by (first | lia | omega)
        have hsub : ∀ a ∈ ad :: S', a ∈ L' :: S := fun a ha => .tail _ (hS' a ha)
        have hnw : ∀ a ∈ L' :: S, a ∉ ad :: S' → C.B₀.get? a = none := fun a ha hn => by
          rcases List.mem_cons.mp ha with rfl | ha
          · exact hL'
          · exact hnew a ha hn
        have ih1 := ih (m / 2) (by (first | lia | omega)) (x % 2 ^ (m / 2 * n)) lo (L' :: S) xs hsub hnw (by (first | lia | omega)) (by (first | lia | omega)) hlen2 (by rw [Nat.mul_comm n]; exact Nat.mod_lt _ (Nat.two_pow_pos _))
        have hd1 : (digs n (m / 2) (x % 2 ^ (m / 2 * n))).length = m / 2 := digs_length _ _ _
        have hl1 : (xs.take lo ++ natL (digs n (m / 2) (x % 2 ^ (m / 2 * n))) ++ xs.drop (lo + m / 2)).length = xs.length := by simp [hd1]; (first | lia | omega)
        have ih2 := ih (m - m / 2) (by (first | lia | omega)) (x / 2 ^ (m / 2 * n)) (lo + m / 2) (L' :: S) _ hsub hnw (by (first | lia | omega)) (by rw [hl1]; (first | lia | omega)) (by rw [hl1]; exact hlen2) (by
          rw [Nat.div_lt_iff_lt_mul (Nat.two_pow_pos _), ← Nat.pow_add]
          rwa [show n * (m - m / 2) + m / 2 * n = n * m by rw [Nat.mul_comm (m / 2), ← Nat.mul_add]; congr 1; (first | lia | omega)])
        rw [splice xs _ _ lo (m / 2) (m - m / 2) (by simp [hd1]) (by (first | lia | omega))] at ih2
        rw [show lo + m / 2 + (m - m / 2) = lo + m by (first | lia | omega)] at ih2
        refine X.callv F R (Ev.loc M (.s (.s (.s (.s (.s (.s (.s (.s .z))))))))) (EvL.cons (Ev.loc M (.s (.s (.s (.s (.s (.s .z))))))) (EvL.cons (Ev.loc M (.s .z)) (EvL.cons (Ev.loc M (.s (.s (.s .z)))) EvL.nil))) ⟨_, _, _, _, hst _ _ hf⟩ (ih1.le (show m / 2 + 6 ≤ m + 5 by (first | lia | omega))) (fun h tk F => ?_)
        refine X.callv F R (Ev.loc M (.s (.s (.s (.s (.s (.s (.s (.s .z))))))))) (EvL.cons (Ev.loc M (.s (.s (.s (.s (.s .z)))))) (EvL.cons (Ev.loc M (.s (.s (.s .z)))) (EvL.cons (Ev.loc M (.s (.s .z))) EvL.nil))) ⟨_, _, _, _, hst _ _ hf⟩ (ih2.le (show m - m / 2 + 6 ≤ m + 5 by (first | lia | omega))) (fun h tk F => ?_)
        refine X.nil (H .none h tk (Gr.hid F.base F.tabs) ?_ .nn)
        have v := (F.vol _ (.head _)).2.2.less (S' := S) fun a ha => .tail _ ha
        have e : natL (digs n m x) = natL (digs n (m / 2) (x % 2 ^ (m / 2 * n))) ++ natL (digs n (m - m / 2) (x / 2 ^ (m / 2 * n))) := by
          have := digs_append n (m / 2) (m - m / 2) x
          rw [show m / 2 + (m - m / 2) = m by (first | lia | omega), Nat.mul_comm n] at this
          rw [this]; simp
        rw [e]; exact v
    have := inner m a 0 (ad :: S') (List.replicate m (PV.int 0)) (fun _ h => h) (fun a h hn => absurd h hn) hm0 (by simp) (by simpa using hm2) ha
    rw [hrep]
    simp only [Nat.zero_add, List.take_zero, List.nil_append] at this
    rw [List.drop_eq_nil_of_le (by simp), List.append_nil] at this
    exact this.le (show m + 6 ≤ 111 by (first | lia | omega))
  · have ha0 : a = 0 := by simpa using hb
    subst ha0
    have hm0 : m = 0 := by
      rw [← hm]
      have : Builtin.Int.intBits ((0 : Nat) : Int) = 0 := rfl
      rw [this]
      exact Nat.div_eq_of_lt (by (first | lia | omega))
    subst hm0
    exact X.next (X.ret (FS.freeze (x := "a_digits") F M had (.s (.s .z)) (.s (.s .z))) R (Ev.loc M (.s (.s .z))) (fun v h tk F r => K v h tk ⟨fun b o n m e => F.base.k b o n m (hBB b o n m e), fun _ => F.tabs⟩ (r.less sub)))
end Mine
end

section
namespace Mine
open PySem

/-- long division, the lowest digit first -/
noncomputable def divR (n b : Nat) : List Nat → List Nat × Nat
  | [] => ([], 0)
  | d :: ds => (((divR n b ds).2 * 2 ^ n + d) / b :: (divR n b ds).1, ((divR n b ds).2 * 2 ^ n + d) % b)
theorem divR_lt (n b : Nat) (hb : 0 < b) : ∀ ds, (divR n b ds).2 < b
  | [] => hb
  | d :: ds => Nat.mod_lt _ hb
theorem divR_length (n b : Nat) : ∀ ds, (divR n b ds).1.length = ds.length
  | [] => rfl
  | d :: ds => by rw [divR, List.length_cons, List.length_cons, divR_length n b ds]
theorem divR_top (n b r d : Nat) (hr : r < b) (hd : d < 2 ^ n) : r * 2 ^ n + d < b * 2 ^ n := by
  have : (r + 1) * 2 ^ n ≤ b * 2 ^ n := Nat.mul_le_mul_right _ hr
  rw [Nat.add_mul] at this
  (first | lia | omega)
theorem divR_dig (n b : Nat) (hb : 0 < b) : ∀ ds : List Nat, (∀ d ∈ ds, d < 2 ^ n) → ∀ q ∈ (divR n b ds).1, q < 2 ^ n
  | [], _, q, h => by cases h
  | d :: ds, hd, q, h => by
    rw [divR] at h
    rcases List.mem_cons.mp h with rfl | h
    · rw [Nat.div_lt_iff_lt_mul hb, Nat.mul_comm (2 ^ n)]
      exact divR_top n b _ d (divR_lt n b hb ds) (hd d (.head _))
    · exact divR_dig n b hb ds (fun e he => hd e (.tail _ he)) q h
noncomputable abbrev toI (l : List Nat) : List Int := l.map fun (d : Nat) => (d : Int)
theorem divR_val (n b : Nat) : ∀ ds : List Nat, valD n (toI (divR n b ds).1) * b + (divR n b ds).2 = valD n (toI ds)
  | [] => by simp [divR, valD]
  | d :: ds => by
    have ih := divR_val n b ds
    rw [divR]
    simp only [toI, List.map_cons, valD]
    simp only [toI] at ih
    rw [← ih]
    have e : (((((divR n b ds).2 * 2 ^ n + d) / b : Nat) : Int) * b + ((((divR n b ds).2 * 2 ^ n + d) % b : Nat) : Int)) = (divR n b ds).2 * 2 ^ n + d := by
      have := Nat.div_add_mod ((divR n b ds).2 * 2 ^ n + d) b
      rw [Nat.mul_comm b] at this
      exact_mod_cast this
    rw [Int.add_mul, Int.mul_assoc, Int.add_right_comm, e, Int.mul_add, Int.mul_comm (2 ^ n) ((divR n b ds).2 : Int)]
    (first | lia | omega)
theorem divR_end (n b a : Nat) (m : Nat) (hb : 0 < b) (ha : a < 2 ^ (n * m)) : valD n (toI (divR n b (digs n m a)).1) = ((a / b : Nat) : Int) ∧ (divR n b (digs n m a)).2 = a % b := by
  have h := divR_val n b (digs n m a)
  rw [valD_digs n m a ha] at h
  have hr := divR_lt n b hb (digs n m a)
  obtain ⟨h0, _⟩ := valD_bound n (toI (divR n b (digs n m a)).1) (fun d hd => by
    obtain ⟨q, hq, rfl⟩ := List.mem_map.mp hd
    have := divR_dig n b hb (digs n m a) (digs_lt n m a) q hq
    exact ⟨Int.natCast_nonneg _, by exact_mod_cast this⟩)
  obtain ⟨q, hq⟩ := Int.eq_ofNat_of_zero_le h0
  rw [hq] at h ⊢
  have h' : q * b + (divR n b (digs n m a)).2 = a := by exact_mod_cast h
  generalize (divR n b (digs n m a)).2 = r at h' hr
  have h1 : a / b = q := by
    rw [← h', Nat.add_comm, Nat.add_mul_div_right _ _ hb, Nat.div_eq_of_lt hr, Nat.zero_add]
  have h2 : a % b = r := by
    rw [← h', Nat.add_comm, Nat.add_mul_mod_self_right, Nat.mod_eq_of_lt hr]
  exact ⟨by rw [h1], h2.symm⟩
theorem fdiv_nat (x b : Nat) : (x : Int).fdiv b = ((x / b : Nat) : Int) := by
  rw [Int.fdiv_eq_ediv_of_nonneg _ (Int.natCast_nonneg _)]; rfl
theorem fmod_nat (x b : Nat) : (x : Int).fmod b = ((x % b : Nat) : Int) := by
  rw [Int.fmod_eq_emod_of_nonneg _ (Int.natCast_nonneg _)]; rfl
theorem intBits_nat (b : Nat) (hb : 0 < b) : Builtin.Int.intBits (b : Int) = b.log2 + 1 := by
  unfold Builtin.Int.intBits
  rw [if_neg (by simp; (first | lia | omega))]
  simp
theorem bits_lt (a : Nat) : a < 2 ^ Builtin.Int.intBits (a : Int) := by
  rcases Nat.eq_zero_or_pos a with rfl | h
  · decide
  · rw [intBits_nat a h]; exact Nat.lt_log2_self
theorem bits_mul (a n : Nat) (hn : 0 < n) : a < 2 ^ (n * ((Builtin.Int.intBits (a : Int) + n - 1) / n)) := by
  refine Nat.lt_of_lt_of_le (bits_lt a) (Nat.pow_le_pow_right (by decide) ?_)
  have := Nat.div_add_mod (Builtin.Int.intBits (a : Int) + n - 1) n
  have := Nat.mod_lt (Builtin.Int.intBits (a : Int) + n - 1) hn
  (first | lia | omega)
end Mine
end

section
open PySem PySem.W PyProof.Rows PySem.Calls
namespace Mine

section
variable {C : Cx} {S : List Addr} {env : Env} {nm : List Str} {ρ : List (Option PV)} {k : Nat}
theorem EvIter.reversed {tgt : PySem.Expr} {x : Str} {np pos : Pos} {e : PySem.Expr} {l : List PV} (ht : plainTgt tgt = true) (hf : Ev C S env nm ρ k (.Name x np) (.raw (.type "reversed"))) (he : Ev C S env nm ρ k e (.lst l))
    (hs : starEach [e] env = (false, eval e env) :: starEach [] env := by rfl) (hp : (backTo pos (starEach [] env)).any (·.1) = false := by rfl) : EvIter C S env nm ρ k tgt (.Call (.Name x np) [e] [] pos) l.reverse := ⟨fun A s Q E R I H =>
  wpAny_Call_Name_kw (hf.run A s _ E R I fun v h₁ tk₁ g₁ r => by
    obtain ⟨_, rfl⟩ := r.inv
    refine PyProof.Rows.callWith_type1 ((EvL.cons he EvL.nil hs).run A _ _ E R (I.gr g₁) fun vs h₂ tk₂ g₂ rl => ?_) hs hp
    obtain ⟨_, rfl, r1⟩ := rl.inv1
    obtain ⟨a, vs, n, rfl, hn, hl, rl⟩ := r1.inv
    · skip
      · skip
        have B := ((I.gr g₁).gr g₂).bs
        have nI := DD.ne B.new
        refine call_reversed_list hl.isList ?_
        refine wpAny_pyIter_revIter (it := h₂.objs.size) ⟨_, Heap.get?_push_size _ rfl, rfl, rfl⟩ ?_
        have W := Walks.listRev (prog := PW) (w := C.w) R.hh h₂.objs.size a (Nat.ne_of_lt (Heap.lt_size hl)) vs.toArray
        have r0 := (rl.new1 (revObj a ((vs.toArray.size : Int) - 1))).reverse
        refine H _ _ _ _ _ tk₂ ((g₁.trans g₂).trans Gr.push) (.ofWalks ht W (by rw [List.size_toArray, rl.length, List.length_reverse]) (ex2 ⟨_, hl⟩) (fun i h st => ?_) fun i v p h T hP hp hT1 hT2 kp => ?_)
          ⟨Nat.zero_le _, ⟨_, Heap.get?_push_size _ rfl, rfl, by simp [revObj]⟩, hl.isList.push _⟩
          (fun b hb => by rw [List.mem_singleton] at hb; exact gr_none (g₁.trans g₂) (hb ▸ nI.1) (hb ▸ nI.2.1) (hb ▸ new_none _)) (fun b hb => by
            rcases List.mem_cons.mp hb with rfl | hb
            · exact B.new
            · rw [List.mem_singleton] at hb; exact hb ▸ hn)
        · obtain ⟨o, ho, hc, hd⟩ := st.2.1
          exact nc_iter (l := a) nI.1 nI.2.1 ho hd fun x t => by simp [rawInt]
        · obtain ⟨u, hu, ru⟩ := ((r0.more hT2).kp kp).get hp
          have hlt : i < l.length := by have := (List.getElem?_eq_some_iff.mp hp).1; simpa using this
          have hP : vs[vs.length - 1 - i]? = some v := by simpa using hP
          rw [List.getElem?_reverse (by rw [rl.length]; exact hlt), hP] at hu
          cases hu; exact ru)⟩
end
end Mine
end

section
open PySem PySem.W PyProof.Rows PySem.Calls
set_option maxRecDepth 100000
set_option maxHeartbeats 4000000
namespace Mine

theorem blt_reversed {C : Cx} : Blt C "reversed" (.type "reversed") := ⟨by kernel_rfl, by boot_fast, by decide, by decide⟩
theorem glb_int2digits {C : Cx} : Glb C "_int2digits" (.ref 73) := ⟨by kernel_rfl, by decide⟩
theorem glb_digits2int {C : Cx} : Glb C "_digits2int" (.ref 80) := ⟨by kernel_rfl, by decide⟩
theorem glb_div2n1n {C : Cx} : Glb C "_div2n1n" (.ref 59) := ⟨by kernel_rfl, by decide⟩
theorem glb_divmodpos {C : Cx} : Glb C "_divmod_pos" (.ref 87) := ⟨by kernel_rfl, by decide⟩
theorem glb_intdivmod {C : Cx} : Glb C "int_divmod" (.ref 94) := ⟨by kernel_rfl, by decide⟩

theorem EvIter.cast {C : Cx} {S : List Addr} {env : Env} {nm : List Str} {ρ : List (Option PV)} {k : Nat} {tgt e : PySem.Expr} {l l' : List PV} (h : EvIter C S env nm ρ k tgt e l) (q : l = l') : EvIter C S env nm ρ k tgt e l' := q ▸ h
/-- fewer names are known -/
inductive Wk : List (Option PV) → List (Option PV) → Prop
  | nil : Wk [] []
  | k {x : Option PV} {ρ ρ' : List (Option PV)} : Wk ρ ρ' → Wk (x :: ρ) (x :: ρ')
  | d {x : Option PV} {ρ ρ' : List (Option PV)} : Wk ρ ρ' → Wk (x :: ρ) (none :: ρ')
theorem Wk.at {ρ ρ' : List (Option PV)} (w : Wk ρ ρ') : ∀ (i : Nat) (p : PV), ρ'[i]? = some (some p) → ρ[i]? = some (some p) := by
  induction w with
  | nil => intro i p h; exact h
  | k _ ih => intro i p h; cases i with
    | zero => exact h
    | succ i => rw [List.getElem?_cons_succ] at h ⊢; exact ih i p h
  | d _ ih => intro i p h; cases i with
    | zero => simp at h
    | succ i => rw [List.getElem?_cons_succ] at h ⊢; exact ih i p h
theorem FS.weak {C : Cx} {B : Heap} {S : List Addr} {V : List (Addr × List PV)} {env : Env} {nm : List Str} {ρ ρ' : List (Option PV)} {h : Heap} (F : FS C B S V env nm ρ h) (w : Wk ρ ρ') : FS C B S V env nm ρ' h :=
  ⟨⟨F.inv.bs, fun i x p hi hp => F.inv.names i x p hi (w.at i p hp)⟩, F.b0, F.base, F.bl, F.vol, F.vnd, F.ls, F.loc, F.cls, F.inj, F.frs⟩

theorem divmod_pos {C : Cx} {S : List Addr} {a b : Nat} (hb : 0 < b) (hb2 : b < 2 ^ 999) (hm : (Builtin.Int.intBits (a : Int) + (b.log2 + 1) - 1) / (b.log2 + 1) ≤ 90) : CallR C S 114 (.ref 87) [.int a, .int b] (.tup [.int ((a / b : Nat) : Int), .int ((a % b : Nat) : Int)]) := by
  have hlog : b.log2 < 999 := (Nat.log2_lt (by (first | lia | omega))).mpr hb2
  obtain ⟨n, hn⟩ : ∃ n, n = b.log2 + 1 := ⟨_, rfl⟩
  obtain ⟨m, hmm⟩ : ∃ m, m = (Builtin.Int.intBits (a : Int) + n - 1) / n := ⟨_, rfl⟩
  have ha : a < 2 ^ (n * m) := by rw [hmm]; exact bits_mul a n (by (first | lia | omega))
  have hm90 : m ≤ 90 := by rw [hmm, hn]; exact hm
  obtain ⟨ds, hds⟩ : ∃ ds, ds = digs n m a := ⟨_, rfl⟩
  have hlen : ds.length = m := by rw [hds]; exact digs_length n m a
  have hdlt : ∀ d ∈ ds, d < 2 ^ n := by rw [hds]; exact digs_lt n m a
  refine CallR.ofBody ["a", "b"] ["n", "a_digits", "r", "q_digits", "a_digit", "q_digit", "q"] rfl (by kernel_rfl) (fun s vs h => by apply vs2 h; intro a b; exact BindsTo.of_eq rfl) rfl rfl (by decide) (by decide) (locs (by decide)) (by decide) (by decide) ?_
  intro A s B L S' Q R M hS F K
  have sub : ∀ a ∈ S, a ∈ S' := by subst hS; exact fun a ha => List.mem_append_right _ (.tail _ ha)
  dsimp only [List.map_cons, List.map_nil, List.cons_append, List.nil_append] at M F
  refine X.assign F M R ((Ev.meth0 (Ev.loc M (.s .z)) Meth0.bitlen).cast (q := .int (n : Int)) ?_) (.s (.s .z)) ?_
  · rw [intBits_nat b hb, hn]
  intro h tk F
  refine X.assign F M R (Ev.callD (Ev.gl M glb_int2digits (by kernel_rfl)) (EvL.cons (Ev.loc M .z) (EvL.cons (Ev.loc M (.s (.s .z))) EvL.nil)) ((int2digits (n := n) (a := a) (m := m) hmm.symm hm90 (by (first | lia | omega)) (by (first | lia | omega)) ha).le (by (first | lia | omega))) (by kernel_rfl)) (.s (.s (.s .z))) ?_
  intro h tk F
  refine X.assign F M R Ev.cint (.s (.s (.s (.s .z)))) ?_
  intro h tk F
  refine X.newl F M R (EvN.list EvL.nil (small (Nat.zero_le _))) (fun f => .s (.s (.s (.s (.s .z))))) ?_
  intro qd h tk hqd hCq F
  rw [← hds] at F
  have hnil : ds.drop (m - 0) = [] := List.drop_eq_nil_of_le (by (first | lia | omega))
  refine X.for (S := qd :: S') (B := B) (its := natL ds.reverse) (fun i => [(qd, natL (divR n b (ds.drop (m - i))).1.reverse)])
    (fun i => [some (.int a), some (.int b), some (.int n), some (.lst (natL ds)), some (.int (divR n b (ds.drop (m - i))).2), some (.raw (.ref qd)), none, none, none])
    (fun i => [some (.int a), some (.int b), some (.int n), some (.lst (natL ds)), some (.int (divR n b (ds.drop (m - i))).2), some (.raw (.ref qd)), some ((natL ds.reverse).getD i .none), none, none])
    ?_ M R ((EvIter.reversed (l := natL ds) (by rfl) (Ev.bl M blt_reversed (by kernel_rfl)) (Ev.loc M (.s (.s (.s .z))))).cast ?_) (fun _ => rfl) (fun i p hp => ?_) (fun i p S' B' s' E' hp hsub F => ?_) (fun h tk F => ?_)
  · rw [hnil]; exact F
  · simp [natL]
  · have e : (natL ds.reverse).getD i .none = p := by rw [List.getD_eq_getElem?_getD, hp]; rfl
    rw [e]
    exact Asg.name (.s (.s (.s (.s (.s (.s .z))))))
  · have e : (natL ds.reverse).getD i .none = p := by rw [List.getD_eq_getElem?_getD, hp]; rfl
    rw [e] at F
    have hi : i < m := by have := (List.getElem?_eq_some_iff.mp hp).1; simpa [natL, hlen] using this
    obtain ⟨d, hd⟩ : ∃ d, ds[m - 1 - i]? = some d := ⟨ds[m - 1 - i]'(by (first | lia | omega)), by simp⟩
    have hpd : p = .int d := by
      rw [natL, List.getElem?_map, List.getElem?_reverse (by (first | lia | omega)), hlen, hd] at hp
      cases hp; rfl
    subst hpd
    have hdrop : ds.drop (m - (i + 1)) = d :: ds.drop (m - i) := by
      rw [show m - (i + 1) = m - 1 - i by (first | lia | omega), show m - i = m - 1 - i + 1 by (first | lia | omega)]
      obtain ⟨h1, h2⟩ := List.getElem?_eq_some_iff.mp hd
      rw [List.drop_eq_getElem_cons h1, h2]
    rw [hdrop]
    have hr := divR_lt n b hb (ds.drop (m - i))
    have hql : (divR n b (ds.drop (m - i))).1.length ≤ m := by rw [divR_length, List.length_drop]; (first | lia | omega)
    simp only [divR]
    generalize divR n b (ds.drop (m - i)) = D at F hr hql ⊢
    have hX := divR_top n b D.2 d hr (hdlt d (List.mem_of_getElem? hd))
    have hXb : D.2 * 2 ^ n + d < 2 ^ (n + n) := by
      refine Nat.lt_of_lt_of_le hX ?_
      rw [Nat.pow_add]
      refine Nat.mul_le_mul_right _ ?_
      rw [hn]; exact Nat.le_of_lt Nat.lt_log2_self
    have hXbits : Builtin.Int.intBits ((D.2 * 2 ^ n + d : Nat) : Int) ≤ n + n := intBits_le (Int.natCast_nonneg _) (by exact_mod_cast hXb)
    have hrb : Builtin.Int.intBits (D.2 : Int) ≤ 999 := intBits_le (Int.natCast_nonneg _) (by exact_mod_cast (Nat.lt_trans hr hb2))
    refine X.tup F M R ((Ev.callD (Ev.gl M glb_div2n1n (by kernel_rfl)) (EvL.cons ((Ev.bin (Ev.bin (Ev.loc M (.s (.s (.s (.s .z))))) (Ev.loc M (.s (.s .z))) (BinR.lsh_ii (by (first | lia | omega)) (by (first | lia | omega)))) (Ev.loc M (.s (.s (.s (.s (.s (.s .z))))))) BinR.add_ii).cast (q := .int ((D.2 * 2 ^ n + d : Nat) : Int)) ?_) (EvL.cons (Ev.loc M (.s .z)) (EvL.cons (Ev.loc M (.s (.s .z))) EvL.nil)))
      ((div2n1n (by (first | lia | omega)) (by (first | lia | omega)) (PyProof.noPylong_of_log2 (by simp only [Int.natAbs_natCast]; (first | lia | omega)))).le (by (first | lia | omega))) (by kernel_rfl)).cast (q := .tup [.int (((D.2 * 2 ^ n + d) / b : Nat) : Int), .int (((D.2 * 2 ^ n + d) % b : Nat) : Int)]) ?_) (.cons (.s (.s (.s (.s (.s (.s (.s .z))))))) (.cons (.s (.s (.s (.s .z)))) .nil)) ?_
    · rw [Int.toNat_natCast]; congr 1
    · rw [fdiv_nat, fmod_nat]
    intro h tk F
    refine X.append F R (Ev.loc M (.s (.s (.s (.s (.s .z)))))) (Ev.loc M (.s (.s (.s (.s (.s (.s (.s .z)))))))) (small (by simp [natL]; (first | lia | omega))) (fun h tk F => ?_)
    refine X.nil ⟨rfl, _, _, rfl, ?_⟩
    have e2 : natL (((D.2 * 2 ^ n + d) / b) :: D.1).reverse = natL D.1.reverse ++ [.int (((D.2 * 2 ^ n + d) / b : Nat) : Int)] := by simp [natL]
    rw [e2]
    exact F.weak (.k (.k (.k (.k (.k (.k (.d (.d (.d .nil)))))))))
  · have hz : ds.drop (m - (natL ds.reverse).length) = ds := by simp [natL, hlen]
    rw [hz] at F
    obtain ⟨v1, v2⟩ := divR_end n b a m hb ha
    have hq := divR_dig n b hb ds hdlt
    have hql : (divR n b ds).1.length = m := by rw [divR_length, hlen]
    rw [← hds] at v1 v2
    refine X.reverse F R (Ev.loc M (.s (.s (.s (.s (.s .z)))))) (small (by simp [natL]; (first | lia | omega))) (fun h tk F => ?_)
    have e3 : (natL (divR n b ds).1.reverse).reverse = (toI (divR n b ds).1).map .int := by simp [natL, toI]
    rw [e3] at F
    have F := FS.freeze (x := "q_digits") F M hqd (.s (.s (.s (.s (.s .z))))) (.s (.s (.s (.s (.s .z)))))
    refine X.assign F M R ((Ev.callD (Ev.gl M glb_digits2int (by kernel_rfl)) (EvL.cons (Ev.loc M (.s (.s (.s (.s (.s .z)))))) (EvL.cons (Ev.loc M (.s (.s .z))) EvL.nil)) ((digits2int (n := n) (by simp [toI]; (first | lia | omega)) (by (first | lia | omega)) (fun d hd => ?_)).le (by (first | lia | omega))) (by kernel_rfl)).cast (congrArg PV.int v1)) (.s (.s (.s (.s (.s (.s (.s (.s .z)))))))) ?_
    · obtain ⟨q, hq', rfl⟩ := List.mem_map.mp hd
      exact ⟨Int.natCast_nonneg _, by exact_mod_cast hq q hq'⟩
    intro h tk F
    rw [v2] at F
    refine X.ret F R (Ev.tuple (EvL.cons (Ev.loc M (.s (.s (.s (.s (.s (.s (.s (.s .z))))))))) (EvL.cons (Ev.loc M (.s (.s (.s (.s .z))))) EvL.nil)) (small (Nat.le_of_ble_eq_true rfl))) (fun v h tk F r => K v h tk F.base (r.less sub))
end Mine
end

section
open PySem PySem.W PyProof.Rows PySem.Calls
set_option maxRecDepth 100000
set_option maxHeartbeats 4000000
namespace Mine

noncomputable abbrev DivOk (a b : Nat) : Prop := 0 < b ∧ b < 2 ^ 999 ∧ (Builtin.Int.intBits (a : Int) + (b.log2 + 1) - 1) / (b.log2 + 1) ≤ 90

theorem fdiv_neg1 (x b : Nat) (hb : 0 < b) : (-(x : Int) - 1).fdiv b = -((x / b : Nat) : Int) - 1 ∧ (-(x : Int) - 1).fmod b = (b : Int) + (-((x % b : Nat) : Int) - 1) := by
  have h1 := Nat.div_add_mod x b
  have h2 := Nat.mod_lt x hb
  have hu := (Int.ediv_emod_unique (a := -(x : Int) - 1) (b := b) (q := -((x / b : Nat) : Int) - 1) (r := (b : Int) + (-((x % b : Nat) : Int) - 1)) (by (first | lia | omega))).mpr ⟨by
    have e : (x : Int) = b * ((x / b : Nat) : Int) + ((x % b : Nat) : Int) := by exact_mod_cast h1.symm
    rw [Int.mul_sub, Int.mul_neg, Int.mul_one]
    (first | lia | omega), by (first | lia | omega), by (first | lia | omega)⟩
  rw [Int.fdiv_eq_ediv_of_nonneg _ (Int.natCast_nonneg _), Int.fmod_eq_emod_of_nonneg _ (Int.natCast_nonneg _)]
  exact hu


theorem intdivmod_pos {C : Cx} {S : List Addr} {a b : Nat} (ok : DivOk a b) : CallR C S 116 (.ref 94) [.int a, .int b] (.tup [.int ((a / b : Nat) : Int), .int ((a % b : Nat) : Int)]) := by
  obtain ⟨hb, hb2, hm⟩ := ok
  refine CallR.ofBody ["a", "b"] ["q", "r"] rfl (by kernel_rfl) (fun s vs h => by apply vs2 h; intro a b; exact BindsTo.of_eq rfl) rfl rfl (by decide) (by decide) (locs (by decide)) (by decide) (by decide) ?_
  intro A s B L S' Q R M hS F K
  have sub : ∀ a ∈ S, a ∈ S' := by subst hS; exact fun a ha => List.mem_append_right _ (.tail _ ha)
  dsimp only [List.map_cons, List.map_nil, List.cons_append, List.nil_append] at M F
  refine X.ifs F R (Tr.cmp (Ev.loc M (.s .z)) Ev.cint CmpR.eq_ii (by rfl)) (fun hb1 h tk F => ?_) (fun hb1 h tk F => ?_)
  · exact absurd (beq_iff_eq.mp hb1) (by (first | lia | omega))
  refine X.ifs F R (Tr.cmp (Ev.loc M (.s .z)) Ev.cint CmpR.lt_ii (by rfl)) (fun hb1 h tk F => ?_) (fun hb1 h tk F => ?_)
  · exact absurd (of_decide_eq_true hb1) (by (first | lia | omega))
  refine X.ifs F R (Tr.cmp (Ev.loc M .z) Ev.cint CmpR.lt_ii (by rfl)) (fun hb1 h tk F => ?_) (fun hb1 h tk F => ?_)
  · exact absurd (of_decide_eq_true hb1) (by (first | lia | omega))
  refine X.ret F R (Ev.callD (Ev.gl M glb_divmodpos (by kernel_rfl)) (EvL.cons (Ev.loc M .z) (EvL.cons (Ev.loc M (.s .z)) EvL.nil)) ((divmod_pos hb hb2 hm).le (by (first | lia | omega))) (by kernel_rfl)) (fun v h tk F r => K v h tk F.base (r.less sub))

theorem intdivmod_neg {C : Cx} {S : List Addr} {x b : Nat} (ok : DivOk x b) : CallR C S 118 (.ref 94) [.int (-(x : Int) - 1), .int b] (.tup [.int ((-(x : Int) - 1).fdiv b), .int ((-(x : Int) - 1).fmod b)]) := by
  obtain ⟨e1, e2⟩ := fdiv_neg1 x b ok.1
  have hb := ok.1
  refine CallR.ofBody ["a", "b"] ["q", "r"] rfl (by kernel_rfl) (fun s vs h => by apply vs2 h; intro a b; exact BindsTo.of_eq rfl) rfl rfl (by decide) (by decide) (locs (by decide)) (by decide) (by decide) ?_
  intro A s B L S' Q R M hS F K
  have sub : ∀ a ∈ S, a ∈ S' := by subst hS; exact fun a ha => List.mem_append_right _ (.tail _ ha)
  dsimp only [List.map_cons, List.map_nil, List.cons_append, List.nil_append] at M F
  refine X.ifs F R (Tr.cmp (Ev.loc M (.s .z)) Ev.cint CmpR.eq_ii (by rfl)) (fun hb1 h tk F => ?_) (fun hb1 h tk F => ?_)
  · exact absurd (beq_iff_eq.mp hb1) (by (first | lia | omega))
  refine X.ifs F R (Tr.cmp (Ev.loc M (.s .z)) Ev.cint CmpR.lt_ii (by rfl)) (fun hb1 h tk F => ?_) (fun hb1 h tk F => ?_)
  · exact absurd (of_decide_eq_true hb1) (by (first | lia | omega))
  refine X.ifs F R (Tr.cmp (Ev.loc M .z) Ev.cint CmpR.lt_ii (by rfl)) (fun hb1 h tk F => ?_) (fun hb1 h tk F => ?_)
  · refine X.tup F M R (Ev.callD (Ev.gl M glb_intdivmod (by kernel_rfl)) (EvL.cons ((Ev.inv (Ev.loc M .z)).cast (q := .int x) ?_) (EvL.cons (Ev.loc M (.s .z)) EvL.nil)) ((intdivmod_pos ok).le (by (first | lia | omega))) (by kernel_rfl)) (.cons (.s (.s .z)) (.cons (.s (.s (.s .z))) .nil)) ?_
    · congr 1; (first | lia | omega)
    intro h tk F
    refine X.ret F R (Ev.tuple (EvL.cons (Ev.inv (Ev.loc M (.s (.s .z)))) (EvL.cons (Ev.bin (Ev.loc M (.s .z)) (Ev.inv (Ev.loc M (.s (.s (.s .z))))) BinR.add_ii) EvL.nil)) (small (Nat.le_of_ble_eq_true rfl))) (fun v h tk F r => K v h tk F.base ((r.less sub).cast ?_))
    rw [e1, e2]
  · exact absurd (of_decide_eq_false hb1) (by (first | lia | omega))

theorem intdivmod_flip {C : Cx} {S : List Addr} {a : Int} {b : Nat} (hb : 0 < b) (hdm : ∀ S, CallR C S 118 (.ref 94) [.int a, .int b] (.tup [.int (a.fdiv b), .int (a.fmod b)])) :
    CallR C S 120 (.ref 94) [.int (-a), .int (-(b : Int))] (.tup [.int ((-a).fdiv (-(b : Int))), .int ((-a).fmod (-(b : Int)))]) := by
  refine CallR.ofBody ["a", "b"] ["q", "r"] rfl (by kernel_rfl) (fun s vs h => by apply vs2 h; intro a b; exact BindsTo.of_eq rfl) rfl rfl (by decide) (by decide) (locs (by decide)) (by decide) (by decide) ?_
  intro A s B L S' Q R M hS F K
  have sub : ∀ a ∈ S, a ∈ S' := by subst hS; exact fun a ha => List.mem_append_right _ (.tail _ ha)
  dsimp only [List.map_cons, List.map_nil, List.cons_append, List.nil_append] at M F
  refine X.ifs F R (Tr.cmp (Ev.loc M (.s .z)) Ev.cint CmpR.eq_ii (by rfl)) (fun hb1 h tk F => ?_) (fun hb1 h tk F => ?_)
  · exact absurd (beq_iff_eq.mp hb1) (by (first | lia | omega))
  refine X.ifs F R (Tr.cmp (Ev.loc M (.s .z)) Ev.cint CmpR.lt_ii (by rfl)) (fun hb1 h tk F => ?_) (fun hb1 h tk F => ?_)
  · refine X.tup F M R (Ev.callD (Ev.gl M glb_intdivmod (by kernel_rfl)) (EvL.cons ((Ev.neg (Ev.loc M .z)).cast (q := .int a) (by rw [Int.neg_neg])) (EvL.cons ((Ev.neg (Ev.loc M (.s .z))).cast (q := .int b) (by rw [Int.neg_neg])) EvL.nil)) ((hdm _).le (by (first | lia | omega))) (by kernel_rfl)) (.cons (.s (.s .z)) (.cons (.s (.s (.s .z))) .nil)) ?_
    intro h tk F
    refine X.ret F R (Ev.tuple (EvL.cons (Ev.loc M (.s (.s .z))) (EvL.cons (Ev.neg (Ev.loc M (.s (.s (.s .z))))) EvL.nil)) (small (Nat.le_of_ble_eq_true rfl))) (fun v h tk F r => K v h tk F.base ((r.less sub).cast ?_))
    rw [Int.neg_fdiv_neg, Int.fmod_def (-a), Int.fmod_def a, Int.neg_fdiv_neg, Int.neg_mul, Int.neg_sub, Int.sub_neg, Int.add_comm, ← Int.sub_eq_add_neg]
  · exact absurd (of_decide_eq_false hb1) (by (first | lia | omega))
end Mine
end

section
namespace Mine
open PySem PySem.Sre

noncomputable def nameCode : Array Nat := #[14, 10, 4, 1, 1, 22, 0, 31, 16, 127, 0, 13, 7, 22, 0, 31, 16, 127, 0, 1]
noncomputable def valueCode : Array Nat := #[14, 14, 4, 1, 1, 9, 4294966783, 0, 0, 2147483648, 0, 0, 0, 0, 0, 13, 11, 9, 4294966783, 0, 0, 2147483648, 0, 0, 0, 0, 0, 1]
noncomputable abbrev Plain (x : Str) : Prop := ∀ c ∈ x.cps, 32 ≤ c ∧ c < 127

theorem name_set {c : Nat} (h : 32 ≤ c ∧ c < 127) (seen : Seen) : ∃ seen', inSet nameCode c nameCode.size 5 true seen = .ok (false, seen') := by
  have h1 : (decide (0 ≤ c) && decide (c ≤ 31)) = false := by simp; (first | lia | omega)
  have h2 : (c == 127) = false := by simp; (first | lia | omega)
  refine ⟨((seen.add 22).add 16).add 0, ?_⟩
  show (if (decide (0 ≤ c) && decide (c ≤ 31)) = true then _ else (if (c == 127) = true then _ else _)) = _
  rw [h1, h2]
  rfl
theorem value_bit {c : Nat} (h : 32 ≤ c ∧ c < 127) : (valueCode.getD (5 + (1 + c / 32)) 0).testBit (c % 32) = false := by
  have : c / 32 = 1 ∨ c / 32 = 2 ∨ c / 32 = 3 := by (first | lia | omega)
  rcases this with e | e | e <;> rw [e]
  · exact Nat.zero_testBit _
  · exact Nat.zero_testBit _
  · show (2 ^ 31 : Nat).testBit (c % 32) = false
    rw [Nat.testBit_two_pow_of_ne]
    (first | lia | omega)
theorem value_set {c : Nat} (h : 32 ≤ c ∧ c < 127) (seen : Seen) : ∃ seen', inSet valueCode c valueCode.size 5 true seen = .ok (false, seen') := by
  have h1 : (decide (c < 256) && (valueCode.getD (5 + (1 + c / 32)) 0).testBit (c % 32)) = false := by rw [value_bit h, Bool.and_false]
  refine ⟨(seen.add 9).add 0, ?_⟩
  show (if (decide (c < 256) && (valueCode.getD (5 + (1 + c / 32)) 0).testBit (c % 32)) = true then _ else _) = _
  rw [h1]
  rfl
theorem admitted_none {m : M} (hs : ∀ i, i < m.lim → ∀ seen, ∃ seen', inSet m.code (m.text.getD i 0) m.code.size 5 true seen = .ok (false, seen')) : ∀ (fuel s : Nat) (seen : Seen), ∃ seen', m.admitted fuel s seen = .ok (none, seen')
  | 0, s, seen => ⟨seen, rfl⟩
  | fuel + 1, s, seen => by
    unfold M.admitted
    by_cases h : s ≥ m.lim
    · rw [if_pos h]; exact ⟨seen, rfl⟩
    · rw [if_neg h]
      obtain ⟨seen', e⟩ := hs s (by (first | lia | omega)) seen
      rw [e]
      exact admitted_none hs fuel (s + 1) seen'
theorem run_false {m : M} (h1 : m.outcome = none) (h2 : m.frames = []) (h3 : m.answer = some false) : (m.runFor 4).outcome = some .failed := by
  have e : m.step = { m with outcome := some .failed } := by
    unfold M.step
    rw [h1, h2, h3]; rfl
  show (if m.outcome.isSome then m else M.runFor 3 m.step).outcome = _
  rw [h1, e]
  rfl
theorem attempt_failed {m : M} {code text : Array Nat} (hc : m.code = code) (htx : m.text = text) (hl : m.lim = text.size) (h1 : m.outcome = none) (h2 : m.frames = []) (hf : (match ops[code.getD 0 0]? with | some .INFO => true | _ => false) && code.getD 2 0 == 4)
    (hset : ∀ c, 32 ≤ c ∧ c < 127 → ∀ seen, ∃ seen', inSet code c code.size 5 true seen = .ok (false, seen')) (ht : ∀ c ∈ text, 32 ≤ c ∧ c < 127) : ((m.attemptFrom 0 true).runFor 4).outcome = some .failed := by
  subst hc htx
  have hfs : m.hasFirstSet = true := hf
  unfold M.attemptFrom
  rw [if_neg (by rw [hfs]; decide)]
  obtain ⟨seen', e⟩ := admitted_none (m := m) (fun i hi seen => by
    refine hset _ ?_ seen
    have hi : i < m.text.size := hl ▸ hi
    rw [Array.getD_eq_getD_getElem?, Array.getElem?_eq_getElem hi]
    exact ht _ (Array.getElem_mem hi)) (m.lim + 1 - 0) 0 m.seen
  rw [e]
  exact run_false h1 h2 rfl
theorem search_failed {code text : Array Nat} (hh : header code = (1, 1 + code.getD 1 0)) (hf : (match ops[code.getD 0 0]? with | some .INFO => true | _ => false) && code.getD 2 0 == 4)
    (hset : ∀ c, 32 ≤ c ∧ c < 127 → ∀ seen, ∃ seen', inSet code c code.size 5 true seen = .ok (false, seen')) (ht : ∀ c ∈ text, 32 ≤ c ∧ c < 127) : ((forSearch code text 0 0 text.size false).runFor 4).outcome = some .failed := by
  unfold forSearch
  simp only [hh]
  by_cases hz : (decide (0 > text.size) || decide (text.size - 0 < 1)) = true
  · rw [if_pos hz]
    exact run_false rfl rfl rfl
  · rw [if_neg hz]
    exact attempt_failed rfl rfl rfl rfl rfl hf hset ht
end Mine
end

section
set_option maxRecDepth 100000
namespace Mine
open PySem PySem.Sre

theorem plainAttrs_re : PlainAttrs "re.Pattern" :=
  ⟨⟨"object.__getattribute__", by rw [typeLookup_type, builtinLookup_eq_fast]; kernel_rfl, by decide +kernel⟩, by rw [typeLookup_type, builtinLookup_eq_fast]; kernel_rfl⟩
theorem slot_re_search : Slot "re.Pattern" "search" "re.Pattern.search" :=
  .of (owner := "re.Pattern") (n := "search") (by rw [typeLookup_type, builtinLookup_eq_fast]; kernel_rfl) (by decide +kernel) (by decide +kernel) (by decide +kernel)
    (by first | exact .inl (by decide +kernel) | exact .inr (by decide +kernel)) (by rw [isSubtype_type]; kernel_rfl)
theorem type_re_search : typeOf (.builtin "re.Pattern.search") = pure (.type "method_descriptor") := by show builtinType _ = _; rw [builtinType_eq_fast]; kernel_rfl
theorem entry_re_search : entryFor table "re.Pattern.search" = some Builtin.«re.Pattern.search» := entryFor_of_tree (by kernel_rfl)
theorem args_re_search (a b : Value) : argsOk "re.Pattern.search" ⟨[a, b], []⟩ := by
  unfold argsOk; kernel_rfl
open Builtin Builtin.Re
theorem named_search (v : Value) : reNamed "re.Pattern.search" "search" ["string", "pos", "endpos"] 1 [v] [] = pure [some v, none, none] := rfl
section
variable {prog : Program} {w : World} {A : Around} {E : Value → Shared → Prop} {s : Shared}
theorem wp_seen {f : Nat → PUnit → Sem (ForInStep PUnit)} {seen : Seen} (hf : ∀ i u, f i u = (if seen.has i = true then (do rule (Sre.names.getD i ""); pure (.yield ⟨⟩)) else pure (.yield ⟨⟩))) : ∀ (l : List Nat) {Q : PUnit → Shared → Prop}, Q ⟨⟩ s → wpAny (model prog w) A (forIn l ⟨⟩ f) Q E s
  | [], Q, h => by rw [List.forIn_nil]; exact wpAny_pure h
  | i :: l, Q, h => by
    rw [List.forIn_cons, hf]
    split
    · exact wpAny_bind (wpAny_bind (wpAny_rule (wpAny_pure (wp_seen hf l h))))
    · exact wpAny_bind (wpAny_pure (wp_seen hf l h))
theorem runToEnd_failed {m : M} {Q : Option M → Shared → Prop} (hm : (m.runFor 4).outcome = some .failed) (h : Q none s) : wpAny (model prog w) A (reRunToEnd m) Q E s := by
  unfold reRunToEnd
  have e : reDrive (2 ^ 64) m = pure (m.runFor 4) := by
    rw [show (2 ^ 64 : Nat) = (2 ^ 64 - 1) + 1 from rfl]
    unfold reDrive
    show (if (m.runFor 4).outcome.isSome = true then _ else _) = _
    rw [hm]; rfl
  rw [e]
  refine wpAny_bind (wpAny_pure ?_)
  refine wpAny_bind (wp_seen (seen := (m.runFor 4).seen) (fun i u => ?_) _ ?_)
  · split <;> rfl
  · rw [hm]; exact wpAny_pure h
end
end Mine
end

section
set_option maxRecDepth 100000
namespace Mine
open PySem PySem.Sre Builtin Builtin.Re
section
variable {prog : Program} {w : World} {A : Around} {E : Value → Shared → Prop} {s : Shared}
theorem reItems {T : Addr} {oT : Obj} {items : Array Value} {n : Nat} {Q : Array Int → Shared → Prop} (hT : s.heap.get? T = some oT) (hTd : oT.data = .seq items n) (h : Q (items.map reRawOf) s) : wpAny (model prog w) A (reRawItems (.ref T)) Q E s := by
  unfold reRawItems
  exact wpAny_bind (wpAny_seqItems hT hTd (wpAny_pure h))
theorem search_none {P T : Addr} {o oT : Obj} {fs items : Array Value} {n : Nat} {x : Str} {t : Tok} {code : Array Nat} {Q : Fin → Shared → Prop} (hP : s.heap.get? P = some o) (hd : o.data = .fields fs) (h6 : reRawNat (fs.getD 6 .none) = 0) (h5 : fs.getD 5 .none = .ref T) (h2 : reRawNat (fs.getD 2 .none) = 0)
    (hT : s.heap.get? T = some oT) (hTd : oT.data = .seq items n) (hc : (items.map reRawOf).map (·.toNat) = code) (hz : x.cps.size < 2 ^ 62)
    (hm : ((forSearch code x.cps 0 0 x.cps.size false).runFor 4).outcome = some .failed) (h : Q (.done (.ret .none)) s) : wpAny (model prog w) A (Builtin.«re.Pattern.search» ⟨[.ref P, .str x t], []⟩) Q E s := by
  have tgt : ∀ Q' : ReTarget → Shared → Prop, (∀ tt : ReTarget, tt.code = code → tt.text = x.cps → tt.groups = 0 → tt.pos = 0 → tt.lim = x.cps.size → Q' tt s) → wpAny (model prog w) A (reTarget "re.Pattern.search" "search" ⟨[.ref P, .str x t], []⟩) Q' E s := fun Q' hQ => by
    unfold reTarget
    show wpAny _ _ (reNamed "re.Pattern.search" "search" ["string", "pos", "endpos"] 1 [.str x t] [] >>= _) _ _ s
    rw [named_search]
    refine wpAny_bind (wpAny_pure ?_)
    refine wpAny_bind (wpAny_pure ?_)
    refine wpAny_bind (wpAny_pure ?_)
    refine wpAny_bind (wpAny_fieldsOf hP hd ?_)
    refine wpAny_bind (m := reTextOf (.str x t)) (wpAny_of_eq (a := (x.cps, 0)) rfl ?_)
    dsimp only
    rw [h6]
    repeat (refine wpAny_bind (wpAny_of_eq (a := ()) rfl ?_))
    rw [h5]
    refine wpAny_bind (reItems hT hTd ?_)
    rw [h2]
    refine wpAny_pure (hQ _ hc rfl rfl (by simp) ?_)
    show min (2 ^ 63 - 1 : Int).toNat x.cps.size = x.cps.size
    (first | lia | omega)
  unfold Builtin.«re.Pattern.search»
  refine wpAny_bind (tgt _ fun tt e1 e2 e3 e4 e5 => ?_)
  rw [e1, e2, e3, e4, e5]
  unfold reAnswer
  refine wpAny_bind (runToEnd_failed hm ?_)
  exact wpAny_pure h
end
end Mine
end

section
open PySem PySem.W PyProof.Rows PySem.Calls
namespace Mine

section
variable {C : Cx} {S : List Addr} {env : Env} {nm : List Str} {ρ : List (Option PV)} {k : Nat}
theorem Meth1.search {P T : Addr} {fs items : Array Value} {n : Nat} {x : Str} {code : Array Nat} (hP : C.K.lookup P = some { cls := .type "re.Pattern", data := .fields fs }) (h6 : Builtin.Re.reRawNat (fs.getD 6 .none) = 0) (h5 : fs.getD 5 .none = .ref T) (h2 : Builtin.Re.reRawNat (fs.getD 2 .none) = 0)
    (hT : C.K.lookup T = some { cls := .type "tuple", data := .seq items n }) (hc : (items.map Builtin.Re.reRawOf).map (·.toNat) = code) (hz : x.cps.size < 2 ^ 62)
    (hm : ((Sre.forSearch code x.cps 0 0 x.cps.size false).runFor 4).outcome = some .failed) : Meth1 C S k "search" (.raw (.ref P)) (.str x) .none := ⟨fun A s Q E v pos e R B r he H => by
  obtain ⟨_, rfl⟩ := r.inv
  have kin := kIn B.top
  have ho := kin _ _ hP
  refine ⟨"re.Pattern", "re.Pattern.search", plainAttrs_re, slot_re_search, type_re_search, ⟨_, ho, rfl⟩, (fun b e => by cases e; exact ⟨_, ho, rfl⟩), ?_⟩
  refine Calls.callWith_builtin rfl (Calls.evalArgs_plain (Calls.spliced_cons (he _ fun v h' tk g rv => Calls.spliced_nil ?_)))
  obtain ⟨t, rfl⟩ := rv.inv
  · skip
    have kin' := kIn (C.in B.top g)
    refine wpAny_call_entry slot_re_search ⟨_, kin' _ _ hP, rfl⟩ entry_re_search ?_ (args_re_search _ _)
    refine search_none (kin' _ _ hP) rfl h6 h5 h2 (kin' _ _ hT) rfl hc hz hm ?_
    exact ⟨_, rfl, H _ _ _ g .nn⟩⟩
end
end Mine
end

section
open PySem PySem.W PyProof.Rows PySem.Calls
set_option maxRecDepth 100000
set_option maxHeartbeats 4000000
namespace Mine

theorem blt_type {C : Cx} : Blt C "type" (.type "type") := ⟨by kernel_rfl, by boot_fast, by decide, by decide⟩
theorem blt_str {C : Cx} : Blt C "str" (.type "str") := ⟨by kernel_rfl, by boot_fast, by decide, by decide⟩
theorem glb_nre {C : Cx} : Glb C "_name_disallowed_re" (.ref 121) := ⟨by kernel_rfl, by decide⟩
theorem glb_vre {C : Cx} : Glb C "_value_disallowed_re" (.ref 126) := ⟨by kernel_rfl, by decide⟩

theorem CallR.type_s {C : Cx} {S : List Addr} {k : Nat} {x : Str} : CallR C S k (.type "type") [.str x] (.raw (.type "str")) := ⟨fun A s Q E vs R B rl H => by
  obtain ⟨_, rfl, r1⟩ := rl.inv1
  obtain ⟨t, rfl⟩ := r1.inv
  exact call_type_of (typeIs_str s x t) (by decide) (H.now (.raw _))⟩
theorem CmpR.is_tt {C : Cx} {S : List Addr} {k : Nat} {T : String} : CmpR C S k .Is (.raw (.type T)) (.raw (.type T)) true := ⟨fun A s Q E va vb R B ra rb H => by
  obtain ⟨_, rfl⟩ := ra.inv
  obtain ⟨_, rfl⟩ := rb.inv
  exact wpAny_is_self rfl (H.now (.bool _))⟩

theorem Meth1.search_n {C : Cx} {S : List Addr} {k : Nat} {x : Str} (hx : Plain x) (hz : x.cps.size < 2 ^ 62) : Meth1 C S k "search" (.raw (.ref 121)) (.str x) .none :=
  Meth1.search (P := 121) (T := 120) rfl rfl rfl rfl rfl (code := nameCode) (by kernel_rfl) hz (search_failed (by kernel_rfl) (by kernel_rfl) (fun c h seen => name_set h seen) hx)
theorem Meth1.search_v {C : Cx} {S : List Addr} {k : Nat} {x : Str} (hx : Plain x) (hz : x.cps.size < 2 ^ 62) : Meth1 C S k "search" (.raw (.ref 126)) (.str x) .none :=
  Meth1.search (P := 126) (T := 125) rfl rfl rfl rfl rfl (code := valueCode) (by kernel_rfl) hz (search_failed (by kernel_rfl) (by kernel_rfl) (fun c h seen => value_set h seen) hx)

/-- a call with one thing handed over by name -/
structure CallKW (C : Cx) (S : List Addr) (k : Nat) (f : Value) (l : List PV) (kw : Str) (q p : PV) : Prop where
  run : ∀ (A : Around) (s : Shared) (Q : Value → Shared → Prop) (E : Value → Shared → Prop) (vs : List Value) (v : Value), Room k A → Bs C S s.heap → RelL S s.heap vs l → Rel S s.heap v q → Post S s p Q → wpAny (model PW C.w) A (call f vs [(kw, v)]) Q E s

theorem convert {C : Cx} {S : List Addr} {x : Str} {b : Bool} {self : PV} (hx : Plain x) (hz : x.cps.size < 2 ^ 62) : CallKW C S 6 (.ref 156) [self, .str x] "name" (.bool b) (.str x) := ⟨fun A s Q E vs v R B rl rv H => by
  have kin := kIn B.top
  refine wpAny_call (callBody (ps := ["self", "value", "name"]) (rest := ["regex"]) (vs := vs ++ [v]) (l := [self, .str x, .bool b]) (Ent.pure B) R (kin _ _ (by rfl)) (by rfl) (codeRec_of kin (by kernel_rfl)) (by apply vs2 rl.length; intro a b; exact BindsTo.of_eq rfl) (rl.append (.cons rv .nil)) rfl rfl (by decide) (by decide) (locs (by decide)) (by decide) (by decide) (fun A' s' L S' R M hS F hs => ?_))
  obtain ⟨h, tk, rfl⟩ := hs
  have sub : ∀ a ∈ S, a ∈ S' := by subst hS; exact fun a ha => List.mem_append_right _ (.tail _ ha)
  dsimp only [List.map_cons, List.map_nil, List.cons_append, List.nil_append] at M F
  refine X.ifs F R (Tr.cmp (Ev.callT (Ev.bl M blt_type (by kernel_rfl)) (EvL.cons (Ev.loc M (.s .z)) EvL.nil) CallR.type_s) (Ev.bl M blt_str (by kernel_rfl)) CmpR.is_tt (by rfl)) (fun hb1 h tk F => ?_) (fun hb1 h tk F => ?_)
  · have fin : ∀ (h : Heap) (tk : Tok) (v : Value), Gr s.heap h → Rel S' h v (.str x) → Q v { s with heap := h, toks := tk } := fun h tk v g r => H v h tk g (r.less sub)
    cases b with
    | true =>
      refine X.assign F M R (Ev.ite (Tr.val (Ev.loc M (.s (.s .z))) rfl rfl) (fun _ => Ev.gl M glb_nre (by kernel_rfl)) (fun e => by cases e)) (.s (.s (.s .z))) ?_
      intro h tk F
      refine X.ifs F R (Tr.val (Ev.meth1 (Ev.loc M (.s (.s (.s .z)))) (Ev.loc M (.s .z)) (Meth1.search_n hx hz)) rfl rfl) (fun hb2 h tk F => ?_) (fun hb2 h tk F => ?_)
      · cases hb2
      refine X.next ?_
      exact X.ret F R (Ev.loc M (.s .z)) (fun v h tk F r => fin h tk v F.base r)
    | false =>
      refine X.assign F M R (Ev.ite (Tr.val (Ev.loc M (.s (.s .z))) rfl rfl) (fun e => by cases e) (fun _ => Ev.gl M glb_vre (by kernel_rfl))) (.s (.s (.s .z))) ?_
      intro h tk F
      refine X.ifs F R (Tr.val (Ev.meth1 (Ev.loc M (.s (.s (.s .z)))) (Ev.loc M (.s .z)) (Meth1.search_v hx hz)) rfl rfl) (fun hb2 h tk F => ?_) (fun hb2 h tk F => ?_)
      · cases hb2
      refine X.next ?_
      exact X.ret F R (Ev.loc M (.s .z)) (fun v h tk F r => fin h tk v F.base r)
  · cases hb1⟩
end Mine
end

section
open PySem PySem.W PyProof.Rows PySem.Calls
open PyProof.Rows.KTD
set_option maxRecDepth 100000
set_option maxHeartbeats 4000000
namespace Mine
noncomputable def tokTab : List (Str × KTD.Dat) := [(Str.ofString "!", KTD.Dat.flat (PyData.int 54)), (Str.ofString "!=", KTD.Dat.flat (PyData.int 28)), (Str.ofString "%", KTD.Dat.flat (PyData.int 24)), (Str.ofString "%=", KTD.Dat.flat (PyData.int 40)), (Str.ofString "&", KTD.Dat.flat (PyData.int 19)), (Str.ofString "&=", KTD.Dat.flat (PyData.int 41)), (Str.ofString "(", KTD.Dat.flat (PyData.int 7)), (Str.ofString ")", KTD.Dat.flat (PyData.int 8)), (Str.ofString "*", KTD.Dat.flat (PyData.int 16)), (Str.ofString "**", KTD.Dat.flat (PyData.int 35)), (Str.ofString "**=", KTD.Dat.flat (PyData.int 46)), (Str.ofString "*=", KTD.Dat.flat (PyData.int 38)), (Str.ofString "+", KTD.Dat.flat (PyData.int 14)), (Str.ofString "+=", KTD.Dat.flat (PyData.int 36)), (Str.ofString ",", KTD.Dat.flat (PyData.int 12)), (Str.ofString "-", KTD.Dat.flat (PyData.int 15)), (Str.ofString "-=", KTD.Dat.flat (PyData.int 37)), (Str.ofString "->", KTD.Dat.flat (PyData.int 51)), (Str.ofString ".", KTD.Dat.flat (PyData.int 23)), (Str.ofString "...", KTD.Dat.flat (PyData.int 52)), (Str.ofString "/", KTD.Dat.flat (PyData.int 17)), (Str.ofString "//", KTD.Dat.flat (PyData.int 47)), (Str.ofString "//=", KTD.Dat.flat (PyData.int 48)), (Str.ofString "/=", KTD.Dat.flat (PyData.int 39)), (Str.ofString ":", KTD.Dat.flat (PyData.int 11)), (Str.ofString ":=", KTD.Dat.flat (PyData.int 53)), (Str.ofString ";", KTD.Dat.flat (PyData.int 13)), (Str.ofString "<", KTD.Dat.flat (PyData.int 20)), (Str.ofString "<<", KTD.Dat.flat (PyData.int 33)), (Str.ofString "<<=", KTD.Dat.flat (PyData.int 44)), (Str.ofString "<=", KTD.Dat.flat (PyData.int 29)), (Str.ofString "=", KTD.Dat.flat (PyData.int 22)), (Str.ofString "==", KTD.Dat.flat (PyData.int 27)), (Str.ofString ">", KTD.Dat.flat (PyData.int 21)), (Str.ofString ">=", KTD.Dat.flat (PyData.int 30)), (Str.ofString ">>", KTD.Dat.flat (PyData.int 34)), (Str.ofString ">>=", KTD.Dat.flat (PyData.int 45)), (Str.ofString "@", KTD.Dat.flat (PyData.int 49)), (Str.ofString "@=", KTD.Dat.flat (PyData.int 50)), (Str.ofString "[", KTD.Dat.flat (PyData.int 9)), (Str.ofString "]", KTD.Dat.flat (PyData.int 10)), (Str.ofString "^", KTD.Dat.flat (PyData.int 32)), (Str.ofString "^=", KTD.Dat.flat (PyData.int 43)), (Str.ofString "{", KTD.Dat.flat (PyData.int 25)), (Str.ofString "|", KTD.Dat.flat (PyData.int 18)), (Str.ofString "|=", KTD.Dat.flat (PyData.int 42)), (Str.ofString "}", KTD.Dat.flat (PyData.int 26)), (Str.ofString "~", KTD.Dat.flat (PyData.int 31))]
theorem glb_tok {C : Cx} : Glb C "EXACT_TOKEN_TYPES" (.ref 95) := ⟨by kernel_rfl, by decide⟩
theorem tok_here (C : Cx) {h : Heap} (t : C.B₀.StaysIn h) : Here C.B₀ h 95 tokTab := ⟨kt_text_in (K := C.K) C.X (by kernel_rfl), t⟩
section
variable {C : Cx} {S : List Addr} {k : Nat}
theorem ItemR.tok {x : Str} {i : Int} (hx : datumAt x tokTab = some (KTD.Dat.flat (.int i))) : ItemR C S k (.raw (.ref 95)) (.str x) (.int i) := ⟨fun A s Q E v w value slice R B rv rw_ H hs => by
  obtain ⟨_, rfl⟩ := rv.inv
  obtain ⟨tk, rfl⟩ := rw_.inv
  · skip
    have T := tok_here C B.top
    refine subscriptTail_builtin_flat T.typeIs slot_dict_getitem.lookup ?_ (hs _ _)
    unfold getItem
    try with_reducible refine wpAny_holding ?_
    refine wpAny_bind (wpAny_sequenceKey T.typeIs (by decide) ?_)
    refine wpAny_bind (wpAny_callSpecial?_slot (name := Str.ofString "__getitem__") T.typeIs slot_dict_getitem
      (wpAny_call_entry slot_dict_getitem T.typeIs entry_dict_getitem ?_ (args_dict_getitem _ _)))
    show wpAny _ _ (dictGet 95 (.str x tk) >>= _) _ _ s
    refine wpAny_bind (dictGet_text T (fun d v ha hv => wpAny_pure ⟨v, rfl, wpAny_pure ?_⟩) fun hn => by rw [hx] at hn; cases hn)
    rw [hx] at ha; cases ha
    have hv : PyProof.V.Flat v (.int i) := hv
    cases hv s.heap with
    | int _ t => exact ⟨(fun a e => by cases e), H.tok (.int _ _)⟩⟩
end
end Mine
end

section
open PySem PySem.W PyProof.Rows PySem.Calls
open Builtin Builtin.Str
set_option maxRecDepth 100000
set_option maxHeartbeats 1000000
namespace Mine
local macro_rules | `(tactic| walk_at "my omega") => `(tactic| first | omega | ((try dsimp only [Addr] at *); omega))

noncomputable abbrev IsTri (h : Heap) (T : Addr) (a b c : Value) : Prop := h.get? T = some { cls := .type "tuple", data := .seq #[a, b, c] }
theorem typeCall_zip_3 (a b c : Value) : checkTypeCall "zip" ⟨[a, b, c], []⟩ = pure () := by kernel_rfl
theorem newCall_zip_3 (a b c : Value) : checkBuiltinCall "zip.__new__" ⟨[.type "zip", a, b, c], []⟩ = pure () := by kernel_rfl
theorem args_object_init_4 (a b c d : Value) : argsOk "object.__init__" ⟨[a, b, c, d], []⟩ := by
  unfold argsOk; rw [signature?_of (id := "object.__init__") (n := ['_', '_', 't', 'i', 'n', 'i', '_', '_']) (o := ['t', 'c', 'e', 'j', 'b', 'o']) (by kernel_rfl) PySem.F.owner_object]; kernel_rfl

section
variable {prog : Program} {w : World} {A : Around} {E : Value → Shared → Prop} {s : Shared}
theorem updateSeq_tri {T : Addr} {a b c x : Value} {k : Nat} {Q : Unit → Shared → Prop} (hT : IsTri s.heap T a b c)
    (h : ∀ h', h'.get? T = some { cls := .type "tuple", data := .seq ((#[a, b, c] : Array Value).setIfInBounds k x) } → Heap.SameBut T s.heap h' → Q () { s with heap := h' }) :
    wpAny (model prog w) A (updateSeq T (·.setIfInBounds k x)) Q E s := by
  refine wpAny_updateSeq hT rfl (h _ ?_ (Heap.SameBut.update ..))
  rw [Heap.get?_update_self _ hT rfl]
  simp [Obj.mapSeq]

structure Zip3 (prog : Program) (w : World) (A : Around) (z TI TO i1 i2 i3 : Addr) (fp1 fp2 fp3 : List Addr) (n : Nat) (P1 P2 P3 : Nat → Value → Prop) (St1 St2 St3 : Nat → Heap → Prop) : Prop where
  D1 : Draws prog w A i1 fp1 n P1 St1
  D2 : Draws prog w A i2 fp2 n P2 St2
  D3 : Draws prog w A i3 fp3 n P3 St3
  m1 : i1 ∈ fp1
  m2 : i2 ∈ fp2
  m3 : i3 ∈ fp3
  z1 : z ∉ fp1
  z2 : z ∉ fp2
  z3 : z ∉ fp3
  t1 : TO ∉ fp1
  t2 : TO ∉ fp2
  t3 : TO ∉ fp3
  a12 : i1 ∉ fp2
  a13 : i1 ∉ fp3
  a21 : i2 ∉ fp1
  a23 : i2 ∉ fp3
  a31 : i3 ∉ fp1
  a32 : i3 ∉ fp2
  TOz : TO ≠ z
  TIz : TI ≠ z
  TITO : TI ≠ TO
  TI1 : TI ≠ i1
  TI2 : TI ≠ i2
  TI3 : TI ≠ i3
theorem ne_of5 {p q r u v d : Addr} (h : d ∉ [p, q, r, u, v]) : d ≠ p ∧ d ≠ q ∧ d ≠ r ∧ d ≠ u ∧ d ≠ v :=
  ⟨fun e => h (e ▸ .head _), fun e => h (e ▸ .tail _ (.head _)), fun e => h (e ▸ .tail _ (.tail _ (.head _))), fun e => h (e ▸ .tail _ (.tail _ (.tail _ (.head _)))), fun e => h (e ▸ .tail _ (.tail _ (.tail _ (.tail _ (.head _)))))⟩
theorem ne_add {N j k : Nat} (h : j ≠ k) : N + j ≠ N + k := fun e => h (Nat.add_left_cancel e)
theorem add_ne {N a : Nat} (k : Nat) (h : a < N) : N + k ≠ a := fun e => absurd h (Nat.not_lt.mpr (e ▸ Nat.le_add_right N k))
theorem all2 {P : Addr → Prop} {x y : Addr} (hx : P x) (hy : P y) : ∀ d ∈ [x, y], P d := all_cons hx (all_cons hy all_nil)
theorem nin2 {d x y : Addr} (hx : d ≠ x) (hy : d ≠ y) : d ∉ [x, y] := fun h => all2 (P := fun q => d ≠ q) hx hy d h rfl
theorem nin5 {p q r u v d : Addr} (h1 : d ≠ p) (h2 : d ≠ q) (h3 : d ≠ r) (h4 : d ≠ u) (h5 : d ≠ v) : d ∉ [p, q, r, u, v] := fun h =>
  all_cons (P := fun x => d ≠ x) h1 (all_cons h2 (all_cons h3 (all_cons h4 (all_cons h5 all_nil)))) d h rfl
theorem fp_ne {a b : Addr} {fp : List Addr} (ha : a ∈ fp) (hb : b ∉ fp) : a ≠ b := fun e => hb (e ▸ ha)

theorem zip3_next_item {z TI TO i1 i2 i3 : Addr} {fp1 fp2 fp3 : List Addr} {n k : Nat} {P1 P2 P3 : Nat → Value → Prop} {St1 St2 St3 : Nat → Heap → Prop} {a b c : Value} {Q : Value → Shared → Prop} (D : Zip3 prog w A z TI TO i1 i2 i3 fp1 fp2 fp3 n P1 P2 P3 St1 St2 St3)
    (hz : IsZip s.heap z TI TO .none) (hTI : IsTri s.heap TI (.ref i1) (.ref i2) (.ref i3)) (hTO : IsTri s.heap TO a b c) (s1 : St1 k s.heap) (s2 : St2 k s.heap) (s3 : St3 k s.heap) (hk : k < n)
    (hQ : ∀ x y v h' tk, P1 k x → P2 k y → P3 k v → IsZip h' z TI TO (rawInt s.heap.objs.size) → IsTri h' TO x y v → St1 (k + 1) h' → St2 (k + 1) h' → St3 (k + 1) h' → IsTri h' s.heap.objs.size x y v →
      Off [z, TO, i1, i2, i3] s.heap h' → Q (.ref s.heap.objs.size) { s with heap := h', toks := tk }) :
    wpAny (model prog w) A (Builtin.«zip.__next__» ⟨[.ref z], []⟩) (fun fin s' => ∃ v, fin = .done (.ret v) ∧ Q v s') E s := by
  have TO1 : TO ≠ i1 := (fp_ne D.m1 D.t1).symm
  have TO2 : TO ≠ i2 := (fp_ne D.m2 D.t2).symm
  have TO3 : TO ≠ i3 := (fp_ne D.m3 D.t3).symm
  have z1 : z ≠ i1 := (fp_ne D.m1 D.z1).symm
  have z2 : z ≠ i2 := (fp_ne D.m2 D.z2).symm
  have z3 : z ≠ i3 := (fp_ne D.m3 D.z3).symm
  have fr : ∀ {St : Nat → Heap → Prop} {it : Addr} {fp : List Addr} {P : Nat → Value → Prop} {j : Nat} {h h' : Heap} {q : Addr}, Draws prog w A it fp n P St → St j h → Heap.SameBut q h h' → q ∉ fp → St j h' := fun D st hs hq =>
    D.frame _ _ _ st fun b hb o e => hs.extBut b o (fun x => hq (x ▸ hb)) e
  show wpAny _ _ (field (.ref z) 2 >>= _) _ _ _
  refine wpAny_bind (wpAny_field hz rfl (x := .bool false) rfl ?_)
  show wpAny _ _ (field (.ref z) 3 >>= _) _ _ _
  refine wpAny_bind (wpAny_field hz rfl (x := .ref TI) rfl ?_)
  refine wpAny_bind (wpAny_seqItems hTI rfl ?_)
  show wpAny _ _ (Builtin.SmallTypes.ownedTupleIsFree (.ref z) >>= _) _ _ _
  refine wpAny_bind ?_
  unfold Builtin.SmallTypes.ownedTupleIsFree
  refine wpAny_bind (wpAny_field hz rfl (x := .none) rfl (wpAny_pure ?_))
  simp only [if_true]
  refine wpAny_bind (wpAny_rule ?_)
  refine wpAny_bind (wpAny_field hz rfl (x := .ref TO) rfl ?_)
  refine wpAny_bind (wpAny_setField_rec hz (by simp) fun h₁ hz₁ hs₁ => ?_)
  replace hz₁ : IsZip h₁ z TI TO .ellipsis := hz₁
  refine wpAny_bind ?_
  simp only [List.zipIdx_cons, List.zipIdx_nil, List.forIn_cons, List.forIn_nil]
  refine wpAny_bind (wpAny_bind (wpAny_onRaise ?_))
  show wpAny _ _ (Builtin.SmallTypes.nextOf (.ref i1) >>= _) _ _ _
  refine wpAny_bind (D.D1.item k _ _ _ hk (fr D.D1 s1 hs₁ D.z1) fun x h₂ tk₂ p1 s1₂ hs₂ => wpAny_pure ?_)
  have hTO₂ : IsTri h₂ TO a b c := hs₂.extBut _ _ TO1 (hs₁.extBut _ _ D.TOz hTO)
  refine wpAny_bind (wpAny_seqItems hTO₂ rfl ?_)
  refine wpAny_bind (updateSeq_tri hTO₂ fun h₃ hTO₃ hs₃ => ?_)
  replace hTO₃ : IsTri h₃ TO x b c := hTO₃
  refine wpAny_bind (wpAny_letGo (wpAny_pure ?_))
  refine wpAny_bind (wpAny_bind (wpAny_onRaise ?_))
  show wpAny _ _ (Builtin.SmallTypes.nextOf (.ref i2) >>= _) _ _ _
  refine wpAny_bind (D.D2.item k _ _ _ hk (fr D.D2 (fr D.D2 (fr D.D2 s2 hs₁ D.z2) hs₂ D.a12) hs₃ D.t2) fun y h₄ tk₄ p2 s2₄ hs₄ => wpAny_pure ?_)
  have hTO₄ : IsTri h₄ TO x b c := hs₄.extBut _ _ TO2 hTO₃
  refine wpAny_bind (wpAny_seqItems hTO₄ rfl ?_)
  refine wpAny_bind (updateSeq_tri hTO₄ fun h₅ hTO₅ hs₅ => ?_)
  replace hTO₅ : IsTri h₅ TO x y c := hTO₅
  refine wpAny_bind (wpAny_letGo (wpAny_pure ?_))
  refine wpAny_bind (wpAny_bind (wpAny_onRaise ?_))
  show wpAny _ _ (Builtin.SmallTypes.nextOf (.ref i3) >>= _) _ _ _
  refine wpAny_bind (D.D3.item k _ _ _ hk (fr D.D3 (fr D.D3 (fr D.D3 (fr D.D3 (fr D.D3 s3 hs₁ D.z3) hs₂ D.a13) hs₃ D.t3) hs₄ D.a23) hs₅ D.t3) fun v h₆ tk₆ p3 s3₆ hs₆ => wpAny_pure ?_)
  have hTO₆ : IsTri h₆ TO x y c := hs₆.extBut _ _ TO3 hTO₅
  refine wpAny_bind (wpAny_seqItems hTO₆ rfl ?_)
  refine wpAny_bind (updateSeq_tri hTO₆ fun h₇ hTO₇ hs₇ => ?_)
  replace hTO₇ : IsTri h₇ TO x y v := hTO₇
  refine wpAny_bind (wpAny_letGo (wpAny_pure (wpAny_pure ?_)))
  refine wpAny_bind (wpAny_seqItems hTO₇ rfl ?_)
  refine wpAny_bind (wpAny_newTuple ?_)
  have hsz : h₇.objs.size = s.heap.objs.size := by rw [hs₇.1, hs₆.1, hs₅.1, hs₄.1, hs₃.1, hs₂.1, hs₁.1]
  have hz₇ : IsZip h₇ z TI TO .ellipsis := hs₇.extBut _ _ D.TOz.symm (hs₆.extBut _ _ z3 (hs₅.extBut _ _ D.TOz.symm (hs₄.extBut _ _ z2 (hs₃.extBut _ _ D.TOz.symm (hs₂.extBut _ _ z1 hz₁)))))
  have hk₇ : Off [z, TO, i1, i2, i3] s.heap h₇ := fun c o hc e =>
    let ⟨c1, c2, c3, c4, c5⟩ := ne_of5 hc
    hs₇.extBut _ _ c2 (hs₆.extBut _ _ c5 (hs₅.extBut _ _ c2 (hs₄.extBut _ _ c4 (hs₃.extBut _ _ c2 (hs₂.extBut _ _ c3 (hs₁.extBut _ _ c1 e))))))
  have s1₇ : St1 (k + 1) h₇ := fr D.D1 (fr D.D1 (fr D.D1 (fr D.D1 (fr D.D1 s1₂ hs₃ D.t1) hs₄ D.a21) hs₅ D.t1) hs₆ D.a31) hs₇ D.t1
  have s2₇ : St2 (k + 1) h₇ := fr D.D2 (fr D.D2 (fr D.D2 s2₄ hs₅ D.t2) hs₆ D.a32) hs₇ D.t2
  have s3₇ : St3 (k + 1) h₇ := fr D.D3 s3₆ hs₇ D.t3
  have hzlt : z < h₇.objs.size := Heap.lt_size hz₇
  show wpAny _ _ (Builtin.SmallTypes.ownedTupleHandOut (.ref z) (.ref h₇.objs.size) >>= _) _ _ _
  refine wpAny_bind ?_
  unfold Builtin.SmallTypes.ownedTupleHandOut
  have hz₈ : IsZip (h₇.push { cls := .type "tuple", data := .seq #[x, y, v] }) z TI TO .ellipsis := Heap.get?_push_of_some _ hz₇
  refine wpAny_bind (wpAny_setField_rec hz₈ (by simp) fun h₉ hz₉ hs₉ => ?_)
  replace hz₉ : IsZip h₉ z TI TO (rawInt h₇.objs.size) := hz₉
  refine wpAny_setField_rec hz₉ (by simp) fun h₁₀ hz₁₀ hs₁₀ => ?_
  replace hz₁₀ : IsZip h₁₀ z TI TO (rawInt h₇.objs.size) := hz₁₀
  have up : ∀ c o, c ≠ z → h₇.get? c = some o → h₁₀.get? c = some o := fun c o c1 e => hs₁₀.extBut _ _ c1 (hs₉.extBut _ _ c1 (Heap.get?_push_of_some _ e))
  have hT : IsTri h₁₀ h₇.objs.size x y v := hs₁₀.extBut _ _ (Nat.ne_of_gt hzlt) (hs₉.extBut _ _ (Nat.ne_of_gt hzlt) (Heap.get?_push_size _ rfl))
  have fu : ∀ {St : Nat → Heap → Prop} {it : Addr} {fp : List Addr} {P : Nat → Value → Prop} {j : Nat}, Draws prog w A it fp n P St → St j h₇ → z ∉ fp → St j h₁₀ := fun D st hq =>
    D.frame _ _ _ st fun b hb o e => up b o (fun x => hq (x ▸ hb)) e
  rw [hsz] at hz₁₀ hT
  refine wpAny_pure ⟨_, rfl, ?_⟩
  show Q (.ref h₇.objs.size) _
  rw [hsz]
  exact hQ x y v h₁₀ tk₆ p1 p2 p3 hz₁₀ (up _ _ D.TOz hTO₇) (fu D.D1 s1₇ D.z1) (fu D.D2 s2₇ D.z2) (fu D.D3 s3₇ D.z3) hT fun c o hc e => up c o (ne_of5 hc).1 (hk₇ c o hc e)

theorem zip3_next_end {z TI TO i1 i2 i3 : Addr} {fp1 fp2 fp3 : List Addr} {n : Nat} {P1 P2 P3 : Nat → Value → Prop} {St1 St2 St3 : Nat → Heap → Prop} {a b c : Value} {Q : Fin → Shared → Prop} (D : Zip3 prog w A z TI TO i1 i2 i3 fp1 fp2 fp3 n P1 P2 P3 St1 St2 St3)
    (hz : IsZip s.heap z TI TO .none) (hTI : IsTri s.heap TI (.ref i1) (.ref i2) (.ref i3)) (hTO : IsTri s.heap TO a b c) (s1 : St1 n s.heap)
    (hE : ∀ h' e, Off [z, TO, i1, i2, i3] s.heap h' → (∃ o, h'.get? e = some o ∧ o.cls = .type "StopIteration") → E (.ref e) { s with heap := h' }) :
    wpAny (model prog w) A (Builtin.«zip.__next__» ⟨[.ref z], []⟩) Q E s := by
  have z1 : z ≠ i1 := (fp_ne D.m1 D.z1).symm
  show wpAny _ _ (field (.ref z) 2 >>= _) _ _ _
  refine wpAny_bind (wpAny_field hz rfl (x := .bool false) rfl ?_)
  show wpAny _ _ (field (.ref z) 3 >>= _) _ _ _
  refine wpAny_bind (wpAny_field hz rfl (x := .ref TI) rfl ?_)
  refine wpAny_bind (wpAny_seqItems hTI rfl ?_)
  show wpAny _ _ (Builtin.SmallTypes.ownedTupleIsFree (.ref z) >>= _) _ _ _
  refine wpAny_bind ?_
  unfold Builtin.SmallTypes.ownedTupleIsFree
  refine wpAny_bind (wpAny_field hz rfl (x := .none) rfl (wpAny_pure ?_))
  simp only [if_true]
  refine wpAny_bind (wpAny_rule ?_)
  refine wpAny_bind (wpAny_field hz rfl (x := .ref TO) rfl ?_)
  refine wpAny_bind (wpAny_setField_rec hz (by simp) fun h₁ hz₁ hs₁ => ?_)
  replace hz₁ : IsZip h₁ z TI TO .ellipsis := hz₁
  refine wpAny_bind ?_
  simp only [List.zipIdx_cons, List.zipIdx_nil, List.forIn_cons, List.forIn_nil]
  refine wpAny_bind (wpAny_bind (wpAny_onRaise ?_))
  show wpAny _ _ (Builtin.SmallTypes.nextOf (.ref i1) >>= _) _ _ _
  refine wpAny_bind (D.D1.done _ _ _ (D.D1.frame _ _ _ s1 fun b hb o e => hs₁.extBut b o (fun x => D.z1 (x ▸ hb)) e) fun h₂ e hs₂ he => ?_)
  obtain ⟨oe, hoe, hce⟩ := he
  have hz₂ : IsZip h₂ z TI TO .ellipsis := hs₂ _ _ z1 hz₁
  have hez : e ≠ z := fun x => by subst x; rw [hz₂] at hoe; cases hoe; simp at hce
  exact wpAny_setField_rec hz₂ (by simp) fun h₃ _ hs₃ => hE h₃ e (fun c o hc x => let ⟨c1, _, c3, _, _⟩ := ne_of5 hc; hs₃.extBut _ _ c1 (hs₂ _ _ c3 (hs₁.extBut _ _ c1 x))) ⟨oe, hs₃.extBut _ _ hez hoe, hce⟩
theorem pyNext_zip3_item {z TI TO i1 i2 i3 : Addr} {fp1 fp2 fp3 : List Addr} {n k : Nat} {P1 P2 P3 : Nat → Value → Prop} {St1 St2 St3 : Nat → Heap → Prop} {a b c : Value} {Q : Option Value → Shared → Prop} (D : Zip3 prog w A.in1 z TI TO i1 i2 i3 fp1 fp2 fp3 n P1 P2 P3 St1 St2 St3)
    (hz : IsZip s.heap z TI TO .none) (hTI : IsTri s.heap TI (.ref i1) (.ref i2) (.ref i3)) (hTO : IsTri s.heap TO a b c) (s1 : St1 k s.heap) (s2 : St2 k s.heap) (s3 : St3 k s.heap) (hk : k < n)
    (hQ : ∀ x y v h' tk, P1 k x → P2 k y → P3 k v → IsZip h' z TI TO (rawInt s.heap.objs.size) → IsTri h' TO x y v → St1 (k + 1) h' → St2 (k + 1) h' → St3 (k + 1) h' → IsTri h' s.heap.objs.size x y v →
      Off [z, TO, i1, i2, i3] s.heap h' → Q (some (.ref s.heap.objs.size)) { s with heap := h', toks := tk }) :
    wpAny (model prog w) A (pyNext (.ref z)) Q E s := by
  have hT : s.TypeIs (.ref z) "zip" := ⟨_, hz, rfl⟩
  unfold pyNext
  exact wpAny_bind (wpAny_attempt (wpAny_callSpecial?_slot (name := Str.ofString "__next__") hT PySem.F.slot_zip_next
    (wpAny_call_entry PySem.F.slot_zip_next hT PySem.F.entry_zip_next
      (zip3_next_item D hz hTI hTO s1 s2 s3 hk fun x y v h' tk a1 a2 a3 a4 a5 a6 a7 a8 a9 b1 => wpAny_pure (hQ x y v h' tk a1 a2 a3 a4 a5 a6 a7 a8 a9 b1)) (PySem.F.args_zip_next_1 _))))
theorem pyNext_zip3_end {z TI TO i1 i2 i3 : Addr} {fp1 fp2 fp3 : List Addr} {n : Nat} {P1 P2 P3 : Nat → Value → Prop} {St1 St2 St3 : Nat → Heap → Prop} {a b c : Value} {Q : Option Value → Shared → Prop} (D : Zip3 prog w A.in1 z TI TO i1 i2 i3 fp1 fp2 fp3 n P1 P2 P3 St1 St2 St3)
    (hz : IsZip s.heap z TI TO .none) (hTI : IsTri s.heap TI (.ref i1) (.ref i2) (.ref i3)) (hTO : IsTri s.heap TO a b c) (s1 : St1 n s.heap)
    (hQ : ∀ h', Off [z, TO, i1, i2, i3] s.heap h' → Q none { s with heap := h' }) : wpAny (model prog w) A (pyNext (.ref z)) Q E s := by
  have hT : s.TypeIs (.ref z) "zip" := ⟨_, hz, rfl⟩
  unfold pyNext
  refine wpAny_bind (wpAny_attempt (wpAny_callSpecial?_slot (name := Str.ofString "__next__") hT PySem.F.slot_zip_next
    (wpAny_call_entry PySem.F.slot_zip_next hT PySem.F.entry_zip_next (zip3_next_end D hz hTI hTO s1 fun h' e hk he => ?_) (PySem.F.args_zip_next_1 _))))
  obtain ⟨o, ho, hc⟩ := he
  refine wpAny_bind (wpAny_isInstance (T := "StopIteration") (b := true) ⟨o, ho, hc⟩ isSubtype_stop ?_)
  exact wpAny_pure (hQ _ hk)
end

noncomputable abbrev z3a (h : Heap) (l1 : Addr) : Heap := h.push { cls := .type "list_iterator", data := .fields #[.ref l1, .int 0 0] }
noncomputable abbrev z3b (h : Heap) (l1 l2 : Addr) : Heap := (z3a h l1).push { cls := .type "tuple_iterator", data := .fields #[.ref l2, .int 0 0] }
noncomputable abbrev z3c (h : Heap) (l1 l2 l3 : Addr) : Heap := (z3b h l1 l2).push { cls := .type "tuple_iterator", data := .fields #[.ref l3, .int 0 0] }
noncomputable abbrev z3d (h : Heap) (l1 l2 l3 : Addr) : Heap := (z3c h l1 l2 l3).push { cls := .type "tuple", data := .seq #[.ref h.objs.size, .ref (z3a h l1).objs.size, .ref (z3b h l1 l2).objs.size] }
noncomputable abbrev z3e (h : Heap) (l1 l2 l3 : Addr) : Heap := (z3d h l1 l2 l3).push { cls := .type "tuple", data := .seq #[.none, .none, .none] }
noncomputable abbrev z3f (h : Heap) (l1 l2 l3 : Addr) : Heap := (z3e h l1 l2 l3).push { cls := .type "zip", data := .fields #[.none, .bool false, .bool false, .ref (z3c h l1 l2 l3).objs.size, .ref (z3d h l1 l2 l3).objs.size] }
theorem meets_zip_new3 (l1 l2 l3 : Addr) (xs ys zs : Array Value) :
    Meets (Builtin.«zip.__new__» ⟨[.type "zip", .ref l1, .ref l2, .ref l3], []⟩) (fun _ R s => s.heap.IsList l1 xs ∧ s.heap.IsTuple l2 ys ∧ s.heap.IsTuple l3 zs ∧
      R (.ok (.ret (.ref (z3e s.heap l1 l2 l3).objs.size))) { s with heap := z3f s.heap l1 l2 l3 }) :=
  .of_wp fun prog w A R s h => by
    obtain ⟨hp, g, d, tk, os⟩ := s; obtain ⟨hl1, hl2, hl3, h⟩ := h
    have hsub := sub_zip
    have hL1 : Heap.IsList (Shared.heap ⟨hp, g, d, tk, os⟩) l1 xs := hl1
    have hL2 : Heap.IsTuple (Shared.heap ⟨z3a hp l1, g, d, tk, os⟩) l2 ys := Heap.IsTuple.push hl2 _
    have hL3 : Heap.IsTuple (Shared.heap ⟨z3b hp l1 l2, g, d, tk, os⟩) l3 zs := Heap.IsTuple.push (Heap.IsTuple.push hl3 _) _
    wp_walk using wpAny_pyIter_list hL1, wpAny_pyIter_tuple hL2, wpAny_pyIter_tuple hL3
    exact ⟨_, rfl, h⟩
section
variable {prog : Program} {w : World} {A : Around} {E : Value → Shared → Prop} {s : Shared}
theorem call_zip_3 {l1 l2 l3 : Addr} {xs ys zs : Array Value} {Q : Value → Shared → Prop} (hl1 : s.heap.IsList l1 xs) (hl2 : s.heap.IsTuple l2 ys) (hl3 : s.heap.IsTuple l3 zs)
    (h : ∀ h' (n : Nat), n = s.heap.objs.size → IsZip h' (n + 5) (n + 3) (n + 4) .none → IsTri h' (n + 3) (.ref n) (.ref (n + 1)) (.ref (n + 2)) →
      IsTri h' (n + 4) .none .none .none → h'.IsListIter n l1 0 → h'.IsTupleIter (n + 1) l2 0 → h'.IsTupleIter (n + 2) l3 0 →
      (∀ c o, s.heap.get? c = some o → h'.get? c = some o) → Q (.ref (n + 5)) { s with heap := h' }) :
    wpAny (model prog w) A (call (.type "zip") [.ref l1, .ref l2, .ref l3]) Q E s := by
  refine callType_new PySem.F.called_zip (by decide) (typeCall_zip_3 _ _ _) (newCall_zip_3 _ _ _) (fun obj => args_object_init_4 obj _ _ _) PySem.F.entry_zip_new
    (meets_zip_new3 l1 l2 l3 xs ys zs) ⟨hl1, hl2, hl3, ?_⟩
  have z1 : (z3a s.heap l1).objs.size = s.heap.objs.size + 1 := Heap.size_push ..
  have z2 : (z3b s.heap l1 l2).objs.size = s.heap.objs.size + 2 := by rw [Heap.size_push, z1]
  have z3 : (z3c s.heap l1 l2 l3).objs.size = s.heap.objs.size + 3 := by rw [Heap.size_push, z2]
  have z4 : (z3d s.heap l1 l2 l3).objs.size = s.heap.objs.size + 4 := by rw [Heap.size_push, z3]
  have z5 : (z3e s.heap l1 l2 l3).objs.size = s.heap.objs.size + 5 := by rw [Heap.size_push, z4]
  have g6 : (z3f s.heap l1 l2 l3).get? (z3e s.heap l1 l2 l3).objs.size = some _ := Heap.get?_push_size _ rfl
  have g5 : (z3f s.heap l1 l2 l3).get? (z3d s.heap l1 l2 l3).objs.size = some _ := Heap.get?_push_of_some _ (Heap.get?_push_size _ rfl)
  have g4 : (z3f s.heap l1 l2 l3).get? (z3c s.heap l1 l2 l3).objs.size = some _ := Heap.get?_push_of_some _ (Heap.get?_push_of_some _ (Heap.get?_push_size _ rfl))
  have g3 : (z3f s.heap l1 l2 l3).get? (z3b s.heap l1 l2).objs.size = some _ := Heap.get?_push_of_some _ (Heap.get?_push_of_some _ (Heap.get?_push_of_some _ (Heap.get?_push_size _ rfl)))
  have g2 : (z3f s.heap l1 l2 l3).get? (z3a s.heap l1).objs.size = some _ := Heap.get?_push_of_some _ (Heap.get?_push_of_some _ (Heap.get?_push_of_some _ (Heap.get?_push_of_some _ (Heap.get?_push_size _ rfl))))
  have g1 : (z3f s.heap l1 l2 l3).get? s.heap.objs.size = some _ := Heap.get?_push_of_some _ (Heap.get?_push_of_some _ (Heap.get?_push_of_some _ (Heap.get?_push_of_some _ (Heap.get?_push_of_some _ (Heap.get?_push_size _ rfl)))))
  show _ ∧ _
  rw [z5, z3, z4] at g6
  rw [z4] at g5
  rw [z3, z1, z2] at g4
  rw [z2] at g3
  rw [z1] at g2
  rw [z5]
  exact ⟨⟨_, g6, rfl⟩, h _ _ rfl g6 g4 g5 ⟨_, g1, rfl, rfl⟩ ⟨_, g2, rfl, rfl⟩ ⟨_, g3, rfl, rfl⟩ fun c o x =>
    Heap.get?_push_of_some _ (Heap.get?_push_of_some _ (Heap.get?_push_of_some _ (Heap.get?_push_of_some _ (Heap.get?_push_of_some _ (Heap.get?_push_of_some _ x)))))⟩
end

noncomputable def zip3L : List PV → List PV → List PV → List PV
  | a :: l, b :: m, c :: n => .tup [a, b, c] :: zip3L l m n
  | _, _, _ => []
theorem zip3L_get : ∀ {l m n : List PV} {i : Nat} {p : PV}, (zip3L l m n)[i]? = some p → ∃ a b c, l[i]? = some a ∧ m[i]? = some b ∧ n[i]? = some c ∧ p = .tup [a, b, c]
  | a :: l, b :: m, c :: n, 0, p, h => by simp [zip3L] at h; exact ⟨a, b, c, rfl, rfl, rfl, h.symm⟩
  | a :: l, b :: m, c :: n, i + 1, p, h => by simp [zip3L] at h; simpa using zip3L_get h
  | [], _, _, i, p, h => by simp [zip3L] at h
  | _ :: _, [], _, i, p, h => by simp [zip3L] at h
  | _ :: _, _ :: _, [], i, p, h => by simp [zip3L] at h
theorem zip3L_length : ∀ {l m n : List PV}, l.length = m.length → l.length = n.length → (zip3L l m n).length = l.length
  | [], _, _, _, _ => by simp [zip3L]
  | a :: l, b :: m, c :: n, h1, h2 => by simp [zip3L]; exact zip3L_length (by simpa using h1) (by simpa using h2)
  | _ :: _, [], _, h, _ => by simp at h
  | _ :: _, _ :: _, [], _, h => by simp at h

section
variable {C : Cx} {S : List Addr} {env : Env} {nm : List Str} {ρ : List (Option PV)} {k : Nat}
theorem EvIter.zip3 {elts : List PySem.Expr} {kk : Nat} {tp : Pos} {x : Str} {np pos : Pos} {e1 e2 e3 : PySem.Expr} {l m q : List PV} (hf : Ev C S env nm ρ k (.Name x np) (.raw (.type "zip"))) (ha : EvL C S env nm ρ k pos [e1, e2, e3] [.lst l, .tup m, .tup q]) (hlm : l.length = m.length) (hlq : l.length = q.length)
    (hs : starEach [e1, e2, e3] env = (false, eval e1 env) :: starEach [e2, e3] env := by rfl) (hp : (backTo pos (starEach [e2, e3] env)).any (·.1) = false := by rfl) : EvIter C S env nm ρ k (.Tuple elts kk tp) (.Call (.Name x np) [e1, e2, e3] [] pos) (zip3L l m q) := ⟨fun A s Q E R I H =>
  wpAny_Call_Name_kw (hf.run A s _ E R I fun v h₁ tk₁ g₁ r => by
    obtain ⟨_, rfl⟩ := r.inv
    refine PyProof.Rows.callWith_type1 (ha.run A _ _ E R (I.gr g₁) fun vs h₂ tk₂ g₂ rl => ?_) hs hp
    have B := ((I.gr g₁).gr g₂).bs
    have hz : ∀ a, h₂.objs.size ≤ a → a ∉ DD S ∧ h₂.get? a = none := fun a ha => by
      have hn : h₂.get? a = none := Heap.get?_none_of_le ha
      exact ⟨DD.of ⟨fun q => (by obtain ⟨_, e⟩ := B.tabs.a.data; rw [← q, hn] at e; cases e), fun q => (by obtain ⟨_, e⟩ := B.tabs.b.data; rw [← q, hn] at e; cases e), fun hm => (by obtain ⟨o, e⟩ := B.off a hm; rw [hn] at e; cases e)⟩, hn⟩
    have fresh : ∀ a, h₂.objs.size ≤ a → s.heap.get? a = none := fun a ha => gr_none (g₁.trans g₂) (DD.ne (hz a ha).1).1 (DD.ne (hz a ha).1).2.1 (hz a ha).2
    obtain ⟨_, _, _, rfl, r1, r2, r3⟩ := rl.inv3
    obtain ⟨a, us, n, rfl, hn, hl, rl1⟩ := r1.inv
    obtain ⟨b, ws, n2, rfl, hn2, hl2, rl2⟩ := r2.inv
    obtain ⟨c, ys, n3, rfl, hn3, hl3, rl3⟩ := r3.inv
    refine call_zip_3 hl.isList ⟨_, hl2, rfl, _, rfl⟩ ⟨_, hl3, rfl, _, rfl⟩ fun h' N hN z1 t1 t2 j1 j2 j3 hk => ?_
    have hN : @Eq Nat N h₂.objs.size := hN
    have la : @LT.lt Nat _ a N := hN ▸ Heap.lt_size hl
    have lb : @LT.lt Nat _ b N := hN ▸ Heap.lt_size hl2
    have lc : @LT.lt Nat _ c N := hN ▸ Heap.lt_size hl3
    have nd : ∀ k, N + k ∉ DD S := fun k => (hz (N + k) (hN ▸ Nat.le_add_right N k)).1
    have ge : ∀ d ∈ [N + 5, N + 4, N, N + 1, N + 2], @LE.le Nat _ N d := all_cons (Nat.le_add_right N 5) (all_cons (Nat.le_add_right N 4) (all_cons (Nat.le_add_right N 0) (all_cons (Nat.le_add_right N 1) (all_cons (Nat.le_add_right N 2) all_nil))))
    have e1 : us.toArray.size = l.length := by rw [List.size_toArray, rl1.length]
    have e2 : ws.toArray.size = l.length := by rw [List.size_toArray, rl2.length, hlm]
    have e3 : ys.toArray.size = l.length := by rw [List.size_toArray, rl3.length, hlq]
    have D1 := Draws.list (prog := PW) (w := C.w) (A := A.in1) R.hh N a (add_ne 0 la).symm us.toArray
    have D2 := Draws.tuple (prog := PW) (w := C.w) (A := A.in1) R.hh (N + 1) b (add_ne 1 lb).symm ws.toArray
    have D3 := Draws.tuple (prog := PW) (w := C.w) (A := A.in1) R.hh (N + 2) c (add_ne 2 lc).symm ys.toArray
    rw [e1] at D1; rw [e2] at D2; rw [e3] at D3
    have x0 : ∀ {j k : Nat}, j ≠ k → N + j ≠ N + k := ne_add
    have D : Zip3 PW C.w A.in1 (N + 5) (N + 3) (N + 4) N (N + 1) (N + 2) [N, a] [N + 1, b] [N + 2, c] l.length _ _ _ _ _ _ := ⟨D1, D2, D3, .head _, .head _, .head _,
      nin2 (x0 (k := 0) (by decide)) (add_ne 5 la), nin2 (x0 (by decide)) (add_ne 5 lb), nin2 (x0 (by decide)) (add_ne 5 lc),
      nin2 (x0 (k := 0) (by decide)) (add_ne 4 la), nin2 (x0 (by decide)) (add_ne 4 lb), nin2 (x0 (by decide)) (add_ne 4 lc),
      nin2 (x0 (j := 0) (by decide)) (add_ne 0 lb), nin2 (x0 (j := 0) (by decide)) (add_ne 0 lc), nin2 (x0 (k := 0) (by decide)) (add_ne 1 la), nin2 (x0 (by decide)) (add_ne 1 lc), nin2 (x0 (k := 0) (by decide)) (add_ne 2 la), nin2 (x0 (by decide)) (add_ne 2 lb),
      x0 (by decide), x0 (by decide), x0 (by decide), x0 (k := 0) (by decide), x0 (by decide), x0 (by decide)⟩
    have gk : Gr h₂ h' := .of hk
    have rr : ∀ {vs : List Value} {l : List PV} {T : List Addr} {h : Heap}, RelL S h₂ vs l → (∀ a ∈ T, a ∉ [N + 5, N + 4, N, N + 1, N + 2] ++ S → h'.get? a = none) → Kp T h' h → RelL T h vs l := fun rl hT2 kp =>
      ((rl.more fun a ha hn => by
        cases e : h₂.get? a with
        | none => rfl
        | some o =>
          have := hT2 a ha fun q => (List.mem_append.mp q).elim (fun q => absurd (hN ▸ Heap.lt_size e) (Nat.not_lt.mpr (ge a q))) hn
          rw [hk a o e] at this; cases this).gr gk).kp kp
    have W : Iter C S A (.Tuple elts kk tp) (zip3L l m q) (N + 5) [N + 5, N + 4, N, N + 1, N + 2, N + 3, a, b, c] [N + 5, N + 4, N, N + 1, N + 2] h'
        (fun i h => IsZip h (N + 5) (N + 3) (N + 4) .none ∧ IsTri h (N + 3) (.ref N) (.ref (N + 1)) (.ref (N + 2)) ∧ (∃ x y v, IsTri h (N + 4) x y v) ∧ (h.IsListIter N a i ∧ h.IsList a us.toArray) ∧ (h.IsTupleIter (N + 1) b i ∧ h.IsTuple b ws.toArray) ∧ (h.IsTupleIter (N + 2) c i ∧ h.IsTuple c ys.toArray)) := by
      refine ⟨fun d hd => List.mem_append_left [N + 3, a, b, c] hd, all_cons ⟨_, z1⟩ (all_cons ⟨_, t2⟩ (all_cons (j1.imp fun _ e => e.1) (all_cons (j2.imp fun _ e => e.1) (all_cons (j3.imp fun _ e => e.1) (all_cons ⟨_, t1⟩ (all_cons ⟨_, hk _ _ hl⟩ (all_cons ⟨_, hk _ _ hl2⟩ (all_cons ⟨_, hk _ _ hl3⟩ all_nil)))))))), fun i h st => ?_, fun i h h'' st kf => ?_, fun s Q E st hq => wpAny_pyIter_zip st.1 hq, fun i p T s Q E hp hT1 hT2 kp ex tb st K => ?_, fun s Q E st K => ?_⟩
      · obtain ⟨q1, q2, ⟨x, y, v, q3⟩, ⟨⟨_, q4, _, d4⟩, _⟩, ⟨⟨_, q5, _, d5⟩, _⟩, ⟨⟨_, q6, _, d6⟩, _⟩⟩ := st
        have nc : ∀ {k : Nat} {o : Obj}, h.get? (N + k) = some o → (∀ vs x t, o.data = .fields vs → vs[1]? ≠ some (.str x t)) → N + k ≠ 68 ∧ N + k ≠ 75 ∧ ∃ o, h.get? (N + k) = some o ∧ ∀ vs x t, o.data = .fields vs → vs[1]? ≠ some (.str x t) := fun {k _} e hd => ⟨(DD.ne (nd k)).1, (DD.ne (nd k)).2.1, _, e, hd⟩
        exact all_cons (nc q1 fun vs x t e => by cases e; exact fun q => nomatch q) (all_cons (nc q3 fun vs x t e => nomatch e) (all_cons (nc (k := 0) q4 fun vs x t e => by rw [d4] at e; cases e; exact fun q => nomatch q) (all_cons (nc q5 fun vs x t e => by rw [d5] at e; cases e; exact fun q => nomatch q) (all_cons (nc q6 fun vs x t e => by rw [d6] at e; cases e; exact fun q => nomatch q) all_nil))))
      · obtain ⟨q1, q2, ⟨x, y, v, q3⟩, q4, q5, q6⟩ := st
        have ⟨k1, kf⟩ := List.forall_mem_cons.mp kf
        have ⟨k2, kf⟩ := List.forall_mem_cons.mp kf
        have ⟨k3, kf⟩ := List.forall_mem_cons.mp kf
        have ⟨k4, kf⟩ := List.forall_mem_cons.mp kf
        have ⟨k5, kf⟩ := List.forall_mem_cons.mp kf
        have ⟨k6, kf⟩ := List.forall_mem_cons.mp kf
        have ⟨k7, kf⟩ := List.forall_mem_cons.mp kf
        have ⟨k8, kf⟩ := List.forall_mem_cons.mp kf
        exact ⟨k1 _ q1, k6 _ q2, ⟨x, y, v, k2 _ q3⟩, D1.frame _ _ _ q4 (all2 k3 k7), D2.frame _ _ _ q5 (all2 k4 k8), D3.frame _ _ _ q6 (all2 k5 (kf _ (.head _)))⟩
      · obtain ⟨q1, q2, ⟨x, y, v, q3⟩, q4, q5, q6⟩ := st
        obtain ⟨pa, pb, pc, ha, hb, hc, rfl⟩ := zip3L_get hp
        refine pyNext_zip3_item D q1 q2 q3 q4 q5 q6 (List.getElem?_eq_some_iff.mp ha).1 fun x y v h₃ tk₃ px py pv b1 b2 b3 b4 b5 b6 off => ?_
        have kp' : Kp T h' h₃ := fun d o hd e => off d o (fun q => (DD.ne hd).2.2 (hT1 _ (List.mem_append_left _ q))) (kp d o hd e)
        obtain ⟨_, ea⟩ := tb.a.data
        obtain ⟨_, eb⟩ := tb.b.data
        have hnew : s.heap.objs.size ∉ DD T := DD.of ⟨Nat.ne_of_gt (Heap.lt_size ea), Nat.ne_of_gt (Heap.lt_size eb), fun hm => let ⟨_, e⟩ := ex _ hm; Nat.lt_irrefl _ (Heap.lt_size e)⟩
        obtain ⟨ua, hua, ra⟩ := (rr rl1 hT2 kp').get ha
        obtain ⟨ub, hub, rb⟩ := (rr rl2 hT2 kp').get hb
        obtain ⟨uc, huc, rc⟩ := (rr rl3 hT2 kp').get hc
        have px : us[i]? = some x := (List.getElem?_toArray ..).symm.trans px
        have py : ws[i]? = some y := (List.getElem?_toArray ..).symm.trans py
        have pv : ys[i]? = some v := (List.getElem?_toArray ..).symm.trans pv
        cases px.symm.trans hua
        cases py.symm.trans hub
        cases pv.symm.trans huc
        refine K _ h₃ tk₃ off (.tup (vs := [x, y, v]) hnew b6 (.cons ra (.cons rb (.cons rc .nil)))) fun Q' E' hQ => ?_
        refine wpAny_letOwnedTupleGo_zip b1 fun h₄ c1 c2 => ?_
        have k4 : ∀ d, d ≠ N + 5 → ∀ o, h₃.get? d = some o → h₄.get? d = some o := fun d hd o e => c2.extBut _ _ hd e
        exact hQ h₄ (fun d o hd e => k4 d (ne_of5 hd).1 o e) ⟨c1, k4 _ D.TIz _ (off _ _ (fun q => absurd q (nin5 D.TIz D.TITO D.TI1 D.TI2 D.TI3)) q2), ⟨x, y, v, k4 _ D.TOz _ b2⟩, D1.frame _ _ _ b3 (all2 (k4 _ (x0 (j := 0) (by decide))) (k4 _ (add_ne 5 la).symm)), D2.frame _ _ _ b4 (all2 (k4 _ (x0 (by decide))) (k4 _ (add_ne 5 lb).symm)), D3.frame _ _ _ b5 (all2 (k4 _ (x0 (by decide))) (k4 _ (add_ne 5 lc).symm))⟩
      · obtain ⟨q1, q2, ⟨x, y, v, q3⟩, q4, q5, q6⟩ := st
        rw [zip3L_length hlm hlq] at q4
        exact pyNext_zip3_end D q1 q2 q3 q4 fun h₃ off => K h₃ s.toks off
    exact wpAny_pyIter_zip z1 (H _ _ _ _ h' tk₂ ((g₁.trans g₂).trans gk) W ⟨z1, t1, ⟨_, _, _, t2⟩, ⟨j1, hl.isList.at fun o e => hk _ _ e⟩, ⟨j2, _, hk _ _ hl2, rfl, _, rfl⟩, j3, _, hk _ _ hl3, rfl, _, rfl⟩ (fun d hd => fresh d (hN ▸ ge d hd))
      (all_cons (nd 5) (all_cons (nd 4) (all_cons (nd 0) (all_cons (nd 1) (all_cons (nd 2) (all_cons (nd 3) (all_cons hn (all_cons hn2 (all_cons hn3 all_nil)))))))))))⟩
end
end Mine
end

section
open PySem PySem.W PyProof.Rows PySem.Calls
namespace Mine
section
variable {C : Cx} {A : Around} {B : Heap} {S : List Addr} {V : List (Addr × List PV)} {env : Env} {nm : List Str} {ρ : List (Option PV)} {k : Nat} {s : Shared} {Q : Flow → Shared → Prop} {E : Value → Shared → Prop} {n : Nat}
theorem X.assignT {e : PySem.Expr} {x : Str} {px pos : Pos} {rest : List Stmt} {p : PV} {ρ' : List (Option PV)} (hn : n ≤ s.toks) (F : FS C B S V env nm ρ s.heap) (M : Fm env nm) (R : Room k A) (he : Ev C S env nm ρ k e p) (st : SetAt nm ρ x p ρ')
    (K : ∀ h' tk', FS C B S V env nm ρ' h' → n ≤ tk' → X C A env rest Q E { s with heap := h', toks := tk' })
    (hs : swapsWith e (some (.Name x px)) pos.line env = pure false := by rfl) (hf : (env.kindOf x == some .free) = false := by kernel_rfl) : X C A env (.Assign [.Name x px] e pos :: rest) Q E s :=
  ⟨wpAny_execs_cons (wpAny_with_toks hn (wpAny_Assign_Name (he.run A s _ _ R F.inv fun v h' tk g r => wp_store (s := { s with heap := h', toks := tk }) (F.gr g) M st r hf fun h'' tk'' _ F' => fun hn' => (K h'' tk'' F' hn').out) hs))⟩
theorem X.ifsT {test : PySem.Expr} {body orelse rest : List Stmt} {pos : Pos} {b : Bool} (hn : n ≤ s.toks) (F : FS C B S V env nm ρ s.heap) (R : Room k A) (ht : Tr C S env nm ρ k test b)
    (h1 : b = true → ∀ h' tk', FS C B S V env nm ρ h' → n ≤ tk' → X C A env body (Then C A env rest Q E) E { s with heap := h', toks := tk' })
    (h2 : b = false → ∀ h' tk', FS C B S V env nm ρ h' → n ≤ tk' → X C A env orelse (Then C A env rest Q E) E { s with heap := h', toks := tk' }) : X C A env (.If test body orelse pos :: rest) Q E s := by
  have key : ∀ (f : Flow) (s' : Shared), Then C A env rest Q E f s' → (match f with | .next => wpAny (model PW C.w) A (execs rest env) Q E s' | f => Q f s') := fun f s' h => by
    cases f <;> first | exact h | exact X.out h
  refine ⟨wpAny_execs_cons (wpAny_If (wpAny_with_toks hn (ht.run A s _ _ R F.inv fun h' tk g hn' => ?_)))⟩
  cases b with
  | true => exact wpAny_mono (h1 rfl h' tk (F.gr g) hn').out key fun _ _ e => e
  | false => exact wpAny_mono (h2 rfl h' tk (F.gr g) hn').out key fun _ _ e => e
/-- x = a % b upon floats: the thing made is new -/
theorem X.assignH {d e : PySem.Expr} {bp : Pos} {x : Str} {px pos : Pos} {rest : List Stmt} {a b : UInt64} {ρ' : Tok → List (Option PV)} (hn : n ≤ s.toks) (F : FS C B S V env nm ρ s.heap) (M : Fm env nm) (R : Room k A) (hd : Ev C S env nm ρ k d (.flt a)) (he : Ev C S env nm ρ k e (.flt b)) (hz : Float64.isZero b = false)
    (st : ∀ t, SetAt nm ρ x (.raw (.float (Float64.divmod a b).2 t)) (ρ' t))
    (K : ∀ t h' tk', FS C B S V env nm (ρ' t) h' → n ≤ t → t + 1 ≤ tk' → X C A env rest Q E { s with heap := h', toks := tk' })
    (hs : swapsWith (.BinOp d .Mod e bp) (some (.Name x px)) pos.line env = pure false := by rfl) (hf : (env.kindOf x == some .free) = false := by kernel_rfl) : X C A env (.Assign [.Name x px] (.BinOp d .Mod e bp) pos :: rest) Q E s :=
  ⟨wpAny_execs_cons (wpAny_Assign_Name (wpAny_BinOp (wpAny_with_toks hn (hd.run A s _ _ R F.inv fun va h₁ tk₁ g₁ ra => fun (hn₁ : n ≤ tk₁) => wpAny_with_toks (s := { s with heap := h₁, toks := tk₁ }) hn₁ (he.run A { s with heap := h₁, toks := tk₁ } _ _ R (F.inv.gr g₁) fun vb h₂ tk₂ g₂ rb => fun (hn₂ : n ≤ tk₂) => by
    obtain ⟨_, rfl⟩ := ra.inv
    obtain ⟨_, rfl⟩ := rb.inv
    refine AutoFloatOps.mod_1 (by rw [hz]; decide) ?_
    refine wpAny_with_toks (s := { s with heap := h₂, toks := tk₂ + 1 }) (n := tk₂ + 1) (Nat.le_refl _) ?_
    exact wp_store (s := { s with heap := h₂, toks := tk₂ + 1 }) ((F.gr g₁).gr g₂) M (st tk₂) (.raw _) hf fun h'' tk'' _ F' => fun hn' => (K tk₂ h'' tk'' F' hn₂ hn').out)))) hs)⟩
theorem X.retT {e : PySem.Expr} {pos : Pos} {rest : List Stmt} {p : PV} (hn : n ≤ s.toks) (F : FS C B S V env nm ρ s.heap) (R : Room k A) (he : Ev C S env nm ρ k e p)
    (K : ∀ v h' tk', FS C B S V env nm ρ h' → Rel S h' v p → n ≤ tk' → Q (.ret v) { s with heap := h', toks := tk' }) : X C A env (.Return (some e) pos :: rest) Q E s :=
  ⟨wpAny_execs_cons (wpAny_Return_some (wpAny_with_toks hn (he.run A s _ _ R F.inv fun v h' tk g r => fun hn' => K v h' tk (F.gr g) r hn')))⟩
/-- return (x, ...): a float written down is new -/
theorem X.retC {x : UInt64} {cn : Nat} {cp : Pos} {es : List PySem.Expr} {tn : Nat} {tp pos : Pos} {rest : List Stmt} {l : List PV} (hn : n ≤ s.toks) (F : FS C B S V env nm ρ s.heap) (R : Room k A) (he : EvL C S env nm ρ k tp es l) (hl : l.length < sizeLine)
    (K : ∀ t v h' tk', FS C B S V env nm ρ h' → Rel S h' v (.tup (.raw (.float x t) :: l)) → n ≤ t → t + 1 ≤ tk' → Q (.ret v) { s with heap := h', toks := tk' })
    (hc : starEach (.Constant (.float x) cn cp :: es) env = (false, eval (.Constant (.float x) cn cp) env) :: starEach es env := by rfl) : X C A env (.Return (some (.Tuple (.Constant (.float x) cn cp :: es) tn tp)) pos :: rest) Q E s :=
  ⟨wpAny_execs_cons (wpAny_Return_some (Tuple_ (spliced_more (PySem.wpAny_Constant_float (wpAny_with_toks (s := { s with toks := s.toks + 1 }) (n := s.toks + 1) (Nat.le_refl _) (he.run A { s with toks := s.toks + 1 } _ _ R F.inv fun vs h₁ tk₁ g₁ rl => fun hn' => wpAny_newObj_type (
    K s.toks _ _ _ ((F.gr g₁).gr Gr.push) (.tup (F.gr g₁).bs.new (Heap.get?_push_size _ rfl) (.cons (.raw _) (rl.gr Gr.push))) hn hn') (by show (_ :: vs).toArray.size ≤ sizeLine; rw [List.size_toArray, List.length_cons, rl.length]; exact hl)))) hc)))⟩
end

/-- a call that gives a float made in it, and what is with it -/
structure CallRT (C : Cx) (S : List Addr) (k : Nat) (f : Value) (args : List PV) (x : UInt64) (l : List PV) : Prop where
  run : ∀ (A : Around) (s : Shared) (Q : Value → Shared → Prop) (E : Value → Shared → Prop) (vs : List Value), Room k A → Bs C S s.heap → RelL S s.heap vs args →
    (∀ v h' tk t, Gr s.heap h' → s.toks ≤ t → t + 1 ≤ tk → Rel S h' v (.tup (.raw (.float x t) :: l)) → Q v { s with heap := h', toks := tk }) → wpAny (model PW C.w) A (call f vs []) Q E s
theorem CallRT.ofBody {C : Cx} {S : List Addr} {k : Nat} {name qual : Str} {params : Arguments} {body : List Stmt} {scope : Scope} {dV kV doc pm cdv ct oc : Value} {an od : Option Addr} {osl : Array (Option Value)} {f : Addr}
    (ps rest : List Str) {l : List PV} {x : UInt64} {q : List PV}
    (ho : C.K.lookup f = some ⟨oc, od, .func (fnOf name qual params body scope dV kV doc pm an cdv ct), osl⟩) (hcd : codeIn C.K cdv qual = true)
    (hbind : ∀ (s : Shared) (vs : List Value), vs.length = ps.length → BindsTo s (fnOf name qual params body scope dV kV doc pm an cdv ct) ⟨vs, []⟩ (ps.zip vs))
    (hll : l.length = ps.length) (hk : scope.kind = .function)
    (hdb : ∀ x ∈ ps ++ rest, (x == ("__debug__" : Str)) = false) (hnd : (ps ++ rest).Nodup)
    (hloc : ∀ n, ∀ x ∈ ps ++ rest, scope.names.lookup x = some .local ∨ (scope.names.lookup x = some .cell ∧ ((cellsFrom n scope.names []).lookup x).isSome = true))
    (hcn : ((cellsFrom 0 scope.names []).map (·.1)).Nodup) (hnf : ∀ x ∈ scope.names, x.2 ≠ .free)
    (hbody : ∀ (A : Around) (s : Shared) (B : Heap) (L : Addr) (S' : List Addr) (n : Nat) (Q : Flow → Shared → Prop), Room k A → Fm (envOfC qual scope L f cdv) (ps ++ rest) → S' = (cellsFrom (L + 1) scope.names []).map (·.2) ++ L :: S →
      FS C B S' [] (envOfC qual scope L f cdv) (ps ++ rest) (l.map some ++ rest.map fun _ => none) s.heap → n ≤ s.toks →
      (∀ v h' tk' t, Gr B h' → n ≤ t → t + 1 ≤ tk' → Rel S' h' v (.tup (.raw (.float x t) :: q)) → Q (.ret v) { s with heap := h', toks := tk' }) → X C A (envOfC qual scope L f cdv) body Q (fun _ _ => False) s)
    (hco : scope.isCoroutine = false := by rfl) (hgen : scope.isGenerator = false := by rfl) : CallRT C S (k + 1) (.ref f) l x q := ⟨fun A s Q E vs R B rl H => by
  have kin := kIn B.top
  refine wpAny_call (callBodyGT (Ent.pure B) R (kin _ _ ho) rfl (codeRec_of kin hcd) (hbind s vs (rl.length.trans hll)) rl hll hk hdb hnd hloc hcn hnf (fun A' s' L S' R' M hS F hs hn => ?_) hco hgen)
  obtain ⟨h, tk, rfl⟩ := hs
  have sub : ∀ a ∈ S, a ∈ S' := by subst hS; exact fun a ha => List.mem_append_right _ (.tail _ ha)
  refine hbody A' _ s.heap L S' s.toks _ R' M hS F hn fun v h' tk' t g h1 h2 r => ?_
  exact H v h' tk' t g h1 h2 (r.less sub)⟩
end Mine
end

section
open PySem PySem.W PyProof.Rows PySem.Calls
set_option maxRecDepth 100000
set_option maxHeartbeats 4000000
namespace Mine
local macro_rules | `(tactic| walk_at "my bin") => `(tactic| with_reducible (first
  | exact BinR.sub_ff | exact BinR.add_ff | exact BinR.mul_ff | exact BinR.sub_ii
  | exact BinR.div_ff (by with_reducible (first | assumption | exact isZ6 | exact isZ2 | exact isZ1)) | exact BinR.mod_ff (by with_reducible (first | assumption | exact isZ1))
  | exact BinR.div_ii (by with_reducible assumption) (by with_reducible assumption)))
local macro_rules | `(tactic| walk_at "my cmp") => `(tactic| with_reducible (first
  | exact CmpR.eq_ff | exact CmpR.le_ff | exact CmpR.eq_ii))
local macro_rules | `(tactic| walk_at "my size") => `(tactic| exact small (Nat.le_of_ble_eq_true rfl))
local macro_rules | `(tactic| walk_at "my call max") => `(tactic| with_reducible (first | exact CallR.max_fff | exact CallR.max_iii))
local macro_rules | `(tactic| walk_at "my call min") => `(tactic| with_reducible (first | exact CallR.min_fff | exact CallR.min_iii))

theorem SetAt.as {nm : List Str} {ρ ρ' : List (Option PV)} {x : Str} {p q : PV} (e : q = p) (h : SetAt nm ρ x p ρ') : SetAt nm ρ x q ρ' := e ▸ h
/-- the way on after a statement whose branches meet -/
noncomputable def Met (C : Cx) (B : Heap) (S : List Addr) (V : List (Addr × List PV)) (env : Env) (nm : List Str) (n : Nat) (ρ : List (Option PV)) (s : Shared) (fl : Flow) (s' : Shared) : Prop := fl = .next ∧ ∃ h tk, s' = { s with heap := h, toks := tk } ∧ FS C B S V env nm ρ h ∧ n ≤ tk
section
variable {C : Cx} {A : Around} {B : Heap} {S : List Addr} {V : List (Addr × List PV)} {env : Env} {nm : List Str} {ρ : List (Option PV)} {s : Shared} {k n : Nat} {Q : Flow → Shared → Prop} {E : Value → Shared → Prop}
theorem X.ifsJ {test : PySem.Expr} {body orelse rest : List Stmt} {pos : Pos} {b : Bool} (ρ' : List (Option PV)) (hn : n ≤ s.toks) (F : FS C B S V env nm ρ s.heap) (R : Room k A) (ht : Tr C S env nm ρ k test b)
    (h1 : b = true → ∀ h' tk', FS C B S V env nm ρ h' → n ≤ tk' → X C A env body (Met C B S V env nm n ρ' s) E { s with heap := h', toks := tk' })
    (h2 : b = false → ∀ h' tk', FS C B S V env nm ρ h' → n ≤ tk' → X C A env orelse (Met C B S V env nm n ρ' s) E { s with heap := h', toks := tk' })
    (K : ∀ h' tk', FS C B S V env nm ρ' h' → n ≤ tk' → X C A env rest Q E { s with heap := h', toks := tk' }) : X C A env (.If test body orelse pos :: rest) Q E s := by
  have key : ∀ fl s', Met C B S V env nm n ρ' s fl s' → Then C A env rest Q E fl s' := fun fl s' ⟨e, h, tk, e2, F, hn⟩ => by subst e e2; exact K h tk F hn
  exact X.ifsT hn F R ht (fun hb h tk F hn => ⟨wpAny_mono (h1 hb h tk F hn).out key fun _ _ e => e⟩) (fun hb h tk F hn => ⟨wpAny_mono (h2 hb h tk F hn).out key fun _ _ e => e⟩)
theorem X.met {ρ' : List (Option PV)} {h : Heap} {tk : Tok} (F : FS C B S V env nm ρ' h) (hn : n ≤ tk) : X C A env [] (Met C B S V env nm n ρ' s) E { s with heap := h, toks := tk } := X.nil ⟨rfl, h, tk, rfl, F, hn⟩
theorem X.metT {t₀ : Tok} {h₀ : Heap} {ρ' : List (Option PV)} {h : Heap} {tk : Tok} (F : FS C B S V env nm ρ' h) (hn : n ≤ tk) : X C A env [] (Then C A env [] (Met C B S V env nm n ρ' s) E) E { s with heap := h, toks := tk } := X.next (X.met F hn)
end
/-- the hue as it is told -/
noncomputable def hueFF (r g b : UInt64) : UInt64 := if feq (fmin3 r g b) (fmax3 r g b) = true then fl0 else hueF r g b
noncomputable def hueII (r g b : Int) : UInt64 := if (min3 r g b == max3 r g b) = true then fl0 else hueI r g b
noncomputable def hueN (eqR eqG : Bool) (rc gc bc : UInt64) : UInt64 := if eqR = true then Float64.sub bc gc else if eqG = true then Float64.sub (Float64.add fl2 rc) bc else Float64.sub (Float64.add fl4 gc) rc
theorem hueN1 {eqR eqG : Bool} {rc gc bc : UInt64} (h : eqR = true) : hueN eqR eqG rc gc bc = Float64.sub bc gc := if_pos h
theorem hueN2 {eqR eqG : Bool} {rc gc bc : UInt64} (h : eqR = false) (h2 : eqG = true) : hueN eqR eqG rc gc bc = Float64.sub (Float64.add fl2 rc) bc := by subst h; exact if_pos h2
theorem hueN3 {eqR eqG : Bool} {rc gc bc : UInt64} (h : eqR = false) (h2 : eqG = false) : hueN eqR eqG rc gc bc = Float64.sub (Float64.add fl4 gc) rc := by subst h h2; rfl
theorem hsv_ft {C : Cx} {S : List Addr} {r g b : UInt64} (hne : feq (fmin3 r g b) (fmax3 r g b) = false → Float64.isZero (Float64.sub (fmax3 r g b) (fmin3 r g b)) = false ∧ Float64.isZero (fmax3 r g b) = false) : CallRT C S 6 (.ref 52) [.flt r, .flt g, .flt b] (hueFF r g b) (hsvF r g b).tail := by
  refine CallRT.ofBody ["r", "g", "b"] ["maxc", "minc", "rangec", "v", "s", "rc", "gc", "bc", "h"] rfl (by kernel_rfl) (fun s vs h => by apply vs3 h; intro a b c; exact BindsTo.of_eq rfl) rfl rfl (by decide) (by decide) (locs (by decide)) (by decide) (by decide) ?_
  intro A s B L S' n Q R M hS F hn K
  have sub : ∀ a ∈ S, a ∈ S' := by subst hS; exact fun a ha => List.mem_append_right _ (.tail _ ha)
  dsimp only [List.map_cons, List.map_nil, List.cons_append, List.nil_append] at M F
  refine X.assignT hn F M R (Ev.callB (Ev.bl M blt_max (by kernel_rfl)) (EvL.cons (Ev.loc M .z) (EvL.cons (Ev.loc M (.s .z)) (EvL.cons (Ev.loc M (.s (.s .z))) EvL.nil))) (by walk_at "my call max")) (.s (.s (.s .z))) ?_
  intro h tk F hn
  refine X.assignT hn F M R (Ev.callB (Ev.bl M blt_min (by kernel_rfl)) (EvL.cons (Ev.loc M .z) (EvL.cons (Ev.loc M (.s .z)) (EvL.cons (Ev.loc M (.s (.s .z))) EvL.nil))) (by walk_at "my call min")) (.s (.s (.s (.s .z)))) ?_
  intro h tk F hn
  refine X.assignT hn F M R (Ev.bin (Ev.loc M (.s (.s (.s .z)))) (Ev.loc M (.s (.s (.s (.s .z))))) (by walk_at "my bin")) (.s (.s (.s (.s (.s .z))))) ?_
  intro h tk F hn
  refine X.assignT hn F M R (Ev.loc M (.s (.s (.s .z)))) (.s (.s (.s (.s (.s (.s .z)))))) ?_
  intro h tk F hn
  refine X.ifsT hn F R (Tr.cmp (Ev.loc M (.s (.s (.s (.s .z))))) (Ev.loc M (.s (.s (.s .z)))) (by walk_at "my cmp") (by rfl)) (fun hb1 h tk F hn => ?_) (fun hb1 h tk F hn => ?_)
  · refine X.retC hn F R (EvL.cons Ev.cflt (EvL.cons (Ev.loc M (.s (.s (.s (.s (.s (.s .z))))))) EvL.nil)) (by rw [sizeLine_eq]; exact Nat.le_of_ble_eq_true rfl) (fun t v h tk F r h1 h2 => K v h tk t F.base h1 h2 (r.cast ?_))
    rw [hueFF, hsvF, if_pos hb1, if_pos hb1]; rfl
  refine X.next ?_
  obtain ⟨q0, q1⟩ := hne hb1
  refine X.assignT hn F M R (Ev.bin (Ev.loc M (.s (.s (.s (.s (.s .z)))))) (Ev.loc M (.s (.s (.s .z)))) (by walk_at "my bin")) (.s (.s (.s (.s (.s (.s (.s .z))))))) ?_
  intro h tk F hn
  refine X.assignT hn F M R (Ev.bin (Ev.bin (Ev.loc M (.s (.s (.s .z)))) (Ev.loc M .z) (by walk_at "my bin")) (Ev.loc M (.s (.s (.s (.s (.s .z)))))) (by walk_at "my bin")) (.s (.s (.s (.s (.s (.s (.s (.s .z)))))))) ?_
  intro h tk F hn
  refine X.assignT hn F M R (Ev.bin (Ev.bin (Ev.loc M (.s (.s (.s .z)))) (Ev.loc M (.s .z)) (by walk_at "my bin")) (Ev.loc M (.s (.s (.s (.s (.s .z)))))) (by walk_at "my bin")) (.s (.s (.s (.s (.s (.s (.s (.s (.s .z))))))))) ?_
  intro h tk F hn
  refine X.assignT hn F M R (Ev.bin (Ev.bin (Ev.loc M (.s (.s (.s .z)))) (Ev.loc M (.s (.s .z))) (by walk_at "my bin")) (Ev.loc M (.s (.s (.s (.s (.s .z)))))) (by walk_at "my bin")) (.s (.s (.s (.s (.s (.s (.s (.s (.s (.s .z)))))))))) ?_
  intro h tk F hn
  refine X.ifsJ [some (.flt r), some (.flt g), some (.flt b), some (.flt (fmax3 r g b)), some (.flt (fmin3 r g b)), some (.flt (Float64.sub (fmax3 r g b) (fmin3 r g b))), some (.flt (fmax3 r g b)), some (.flt (Float64.div (Float64.sub (fmax3 r g b) (fmin3 r g b)) (fmax3 r g b))), some (.flt (Float64.div (Float64.sub (fmax3 r g b) r) (Float64.sub (fmax3 r g b) (fmin3 r g b)))), some (.flt (Float64.div (Float64.sub (fmax3 r g b) g) (Float64.sub (fmax3 r g b) (fmin3 r g b)))), some (.flt (Float64.div (Float64.sub (fmax3 r g b) b) (Float64.sub (fmax3 r g b) (fmin3 r g b)))), some (.flt (hueN (feq r (fmax3 r g b)) (feq g (fmax3 r g b)) (Float64.div (Float64.sub (fmax3 r g b) r) (Float64.sub (fmax3 r g b) (fmin3 r g b))) (Float64.div (Float64.sub (fmax3 r g b) g) (Float64.sub (fmax3 r g b) (fmin3 r g b))) (Float64.div (Float64.sub (fmax3 r g b) b) (Float64.sub (fmax3 r g b) (fmin3 r g b)))))] hn F R (Tr.cmp (Ev.loc M .z) (Ev.loc M (.s (.s (.s .z)))) (by walk_at "my cmp") (by rfl)) (fun hb3 h tk F hn => ?_) (fun hb3 h tk F hn => ?_) ?_
  · exact X.assignT hn F M R (Ev.bin (Ev.loc M (.s (.s (.s (.s (.s (.s (.s (.s (.s (.s .z))))))))))) (Ev.loc M (.s (.s (.s (.s (.s (.s (.s (.s (.s .z)))))))))) (by walk_at "my bin")) (.as (by rw [hueN1 hb3]) (.s (.s (.s (.s (.s (.s (.s (.s (.s (.s (.s .z)))))))))))) (fun h tk F hn => X.met F hn)
  · refine X.ifsT hn F R (Tr.cmp (Ev.loc M (.s .z)) (Ev.loc M (.s (.s (.s .z)))) (by walk_at "my cmp") (by rfl)) (fun hb4 h tk F hn => ?_) (fun hb4 h tk F hn => ?_)
    · exact X.assignT hn F M R (Ev.bin (Ev.bin Ev.cflt (Ev.loc M (.s (.s (.s (.s (.s (.s (.s (.s .z))))))))) (by walk_at "my bin")) (Ev.loc M (.s (.s (.s (.s (.s (.s (.s (.s (.s (.s .z))))))))))) (by walk_at "my bin")) (.as (by rw [hueN2 hb3 hb4]) (.s (.s (.s (.s (.s (.s (.s (.s (.s (.s (.s .z)))))))))))) (fun h tk F hn => X.next (X.met F hn))
    · exact X.assignT hn F M R (Ev.bin (Ev.bin Ev.cflt (Ev.loc M (.s (.s (.s (.s (.s (.s (.s (.s (.s .z)))))))))) (by walk_at "my bin")) (Ev.loc M (.s (.s (.s (.s (.s (.s (.s (.s .z))))))))) (by walk_at "my bin")) (.as (by rw [hueN3 hb3 hb4]) (.s (.s (.s (.s (.s (.s (.s (.s (.s (.s (.s .z)))))))))))) (fun h tk F hn => X.next (X.met F hn))
  intro h tk F hn
  refine X.assignH hn F M R (Ev.bin (Ev.loc M (.s (.s (.s (.s (.s (.s (.s (.s (.s (.s (.s .z)))))))))))) Ev.cflt (by walk_at "my bin")) Ev.cflt isZ1 (fun t => (.s (.s (.s (.s (.s (.s (.s (.s (.s (.s (.s .z)))))))))))) ?_
  intro t h tk F hnt ht
  refine X.retT ht F R (Ev.tuple (EvL.cons (Ev.loc M (.s (.s (.s (.s (.s (.s (.s (.s (.s (.s (.s .z)))))))))))) (EvL.cons (Ev.loc M (.s (.s (.s (.s (.s (.s (.s .z)))))))) (EvL.cons (Ev.loc M (.s (.s (.s (.s (.s (.s .z))))))) EvL.nil))) (by walk_at "my size")) (fun v h tk F r ht => K v h tk t F.base hnt ht (r.cast ?_))
  rw [hueFF, hsvF, if_neg (fun e => Bool.noConfusion (hb1.symm.trans e)), if_neg (fun e => Bool.noConfusion (hb1.symm.trans e))]; rfl
/-- what the call upon ints needs -/
noncomputable def NeOk (r g b : Int) : Prop := (min3 r g b == max3 r g b) = false → (max3 r g b - min3 r g b ≠ 0) ∧ max3 r g b ≠ 0 ∧ (max3 r g b - min3 r g b).natAbs < 2 ^ 1023 ∧ (max3 r g b - r).natAbs < 2 ^ 1023 ∧ (max3 r g b - g).natAbs < 2 ^ 1023 ∧ (max3 r g b - b).natAbs < 2 ^ 1023
theorem hsv_it {C : Cx} {S : List Addr} {r g b : Int} (hne : NeOk r g b) : CallRT C S 6 (.ref 52) [.int r, .int g, .int b] (hueII r g b) (hsvI r g b).tail := by
  refine CallRT.ofBody ["r", "g", "b"] ["maxc", "minc", "rangec", "v", "s", "rc", "gc", "bc", "h"] rfl (by kernel_rfl) (fun s vs h => by apply vs3 h; intro a b c; exact BindsTo.of_eq rfl) rfl rfl (by decide) (by decide) (locs (by decide)) (by decide) (by decide) ?_
  intro A s B L S' n Q R M hS F hn K
  have sub : ∀ a ∈ S, a ∈ S' := by subst hS; exact fun a ha => List.mem_append_right _ (.tail _ ha)
  dsimp only [List.map_cons, List.map_nil, List.cons_append, List.nil_append] at M F
  refine X.assignT hn F M R (Ev.callB (Ev.bl M blt_max (by kernel_rfl)) (EvL.cons (Ev.loc M .z) (EvL.cons (Ev.loc M (.s .z)) (EvL.cons (Ev.loc M (.s (.s .z))) EvL.nil))) (by walk_at "my call max")) (.s (.s (.s .z))) ?_
  intro h tk F hn
  refine X.assignT hn F M R (Ev.callB (Ev.bl M blt_min (by kernel_rfl)) (EvL.cons (Ev.loc M .z) (EvL.cons (Ev.loc M (.s .z)) (EvL.cons (Ev.loc M (.s (.s .z))) EvL.nil))) (by walk_at "my call min")) (.s (.s (.s (.s .z)))) ?_
  intro h tk F hn
  refine X.assignT hn F M R (Ev.bin (Ev.loc M (.s (.s (.s .z)))) (Ev.loc M (.s (.s (.s (.s .z))))) (by walk_at "my bin")) (.s (.s (.s (.s (.s .z))))) ?_
  intro h tk F hn
  refine X.assignT hn F M R (Ev.loc M (.s (.s (.s .z)))) (.s (.s (.s (.s (.s (.s .z)))))) ?_
  intro h tk F hn
  refine X.ifsT hn F R (Tr.cmp (Ev.loc M (.s (.s (.s (.s .z))))) (Ev.loc M (.s (.s (.s .z)))) (by walk_at "my cmp") (by rfl)) (fun hb1 h tk F hn => ?_) (fun hb1 h tk F hn => ?_)
  · refine X.retC hn F R (EvL.cons Ev.cflt (EvL.cons (Ev.loc M (.s (.s (.s (.s (.s (.s .z))))))) EvL.nil)) (by rw [sizeLine_eq]; exact Nat.le_of_ble_eq_true rfl) (fun t v h tk F r h1 h2 => K v h tk t F.base h1 h2 (r.cast ?_))
    rw [hueII, hsvI, if_pos hb1, if_pos hb1]; rfl
  refine X.next ?_
  obtain ⟨q0, q1, q2, q3, q4, q5⟩ := hne hb1
  refine X.assignT hn F M R (Ev.bin (Ev.loc M (.s (.s (.s (.s (.s .z)))))) (Ev.loc M (.s (.s (.s .z)))) (by walk_at "my bin")) (.s (.s (.s (.s (.s (.s (.s .z))))))) ?_
  intro h tk F hn
  refine X.assignT hn F M R (Ev.bin (Ev.bin (Ev.loc M (.s (.s (.s .z)))) (Ev.loc M .z) (by walk_at "my bin")) (Ev.loc M (.s (.s (.s (.s (.s .z)))))) (by walk_at "my bin")) (.s (.s (.s (.s (.s (.s (.s (.s .z)))))))) ?_
  intro h tk F hn
  refine X.assignT hn F M R (Ev.bin (Ev.bin (Ev.loc M (.s (.s (.s .z)))) (Ev.loc M (.s .z)) (by walk_at "my bin")) (Ev.loc M (.s (.s (.s (.s (.s .z)))))) (by walk_at "my bin")) (.s (.s (.s (.s (.s (.s (.s (.s (.s .z))))))))) ?_
  intro h tk F hn
  refine X.assignT hn F M R (Ev.bin (Ev.bin (Ev.loc M (.s (.s (.s .z)))) (Ev.loc M (.s (.s .z))) (by walk_at "my bin")) (Ev.loc M (.s (.s (.s (.s (.s .z)))))) (by walk_at "my bin")) (.s (.s (.s (.s (.s (.s (.s (.s (.s (.s .z)))))))))) ?_
  intro h tk F hn
  refine X.ifsJ [some (.int r), some (.int g), some (.int b), some (.int (max3 r g b)), some (.int (min3 r g b)), some (.int ((max3 r g b) - (min3 r g b))), some (.int (max3 r g b)), some (.flt (divI ((max3 r g b) - (min3 r g b)) (max3 r g b))), some (.flt (divI ((max3 r g b) - r) ((max3 r g b) - (min3 r g b)))), some (.flt (divI ((max3 r g b) - g) ((max3 r g b) - (min3 r g b)))), some (.flt (divI ((max3 r g b) - b) ((max3 r g b) - (min3 r g b)))), some (.flt (hueN (r == (max3 r g b)) (g == (max3 r g b)) (divI ((max3 r g b) - r) ((max3 r g b) - (min3 r g b))) (divI ((max3 r g b) - g) ((max3 r g b) - (min3 r g b))) (divI ((max3 r g b) - b) ((max3 r g b) - (min3 r g b)))))] hn F R (Tr.cmp (Ev.loc M .z) (Ev.loc M (.s (.s (.s .z)))) (by walk_at "my cmp") (by rfl)) (fun hb3 h tk F hn => ?_) (fun hb3 h tk F hn => ?_) ?_
  · exact X.assignT hn F M R (Ev.bin (Ev.loc M (.s (.s (.s (.s (.s (.s (.s (.s (.s (.s .z))))))))))) (Ev.loc M (.s (.s (.s (.s (.s (.s (.s (.s (.s .z)))))))))) (by walk_at "my bin")) (.as (by rw [hueN1 hb3]) (.s (.s (.s (.s (.s (.s (.s (.s (.s (.s (.s .z)))))))))))) (fun h tk F hn => X.met F hn)
  · refine X.ifsT hn F R (Tr.cmp (Ev.loc M (.s .z)) (Ev.loc M (.s (.s (.s .z)))) (by walk_at "my cmp") (by rfl)) (fun hb4 h tk F hn => ?_) (fun hb4 h tk F hn => ?_)
    · exact X.assignT hn F M R (Ev.bin (Ev.bin Ev.cflt (Ev.loc M (.s (.s (.s (.s (.s (.s (.s (.s .z))))))))) (by walk_at "my bin")) (Ev.loc M (.s (.s (.s (.s (.s (.s (.s (.s (.s (.s .z))))))))))) (by walk_at "my bin")) (.as (by rw [hueN2 hb3 hb4]) (.s (.s (.s (.s (.s (.s (.s (.s (.s (.s (.s .z)))))))))))) (fun h tk F hn => X.next (X.met F hn))
    · exact X.assignT hn F M R (Ev.bin (Ev.bin Ev.cflt (Ev.loc M (.s (.s (.s (.s (.s (.s (.s (.s (.s .z)))))))))) (by walk_at "my bin")) (Ev.loc M (.s (.s (.s (.s (.s (.s (.s (.s .z))))))))) (by walk_at "my bin")) (.as (by rw [hueN3 hb3 hb4]) (.s (.s (.s (.s (.s (.s (.s (.s (.s (.s (.s .z)))))))))))) (fun h tk F hn => X.next (X.met F hn))
  intro h tk F hn
  refine X.assignH hn F M R (Ev.bin (Ev.loc M (.s (.s (.s (.s (.s (.s (.s (.s (.s (.s (.s .z)))))))))))) Ev.cflt (by walk_at "my bin")) Ev.cflt isZ1 (fun t => (.s (.s (.s (.s (.s (.s (.s (.s (.s (.s (.s .z)))))))))))) ?_
  intro t h tk F hnt ht
  refine X.retT ht F R (Ev.tuple (EvL.cons (Ev.loc M (.s (.s (.s (.s (.s (.s (.s (.s (.s (.s (.s .z)))))))))))) (EvL.cons (Ev.loc M (.s (.s (.s (.s (.s (.s (.s .z)))))))) (EvL.cons (Ev.loc M (.s (.s (.s (.s (.s (.s .z))))))) EvL.nil))) (by walk_at "my size")) (fun v h tk F r ht => K v h tk t F.base hnt ht (r.cast ?_))
  rw [hueII, hsvI, if_neg (fun e => Bool.noConfusion (hb1.symm.trans e)), if_neg (fun e => Bool.noConfusion (hb1.symm.trans e))]; rfl
theorem hls_ft {C : Cx} {S : List Addr} {r g b : UInt64} (hne : feq (fmin3 r g b) (fmax3 r g b) = false → Float64.isZero (Float64.sub (fmax3 r g b) (fmin3 r g b)) = false ∧ Float64.isZero (Float64.add (fmax3 r g b) (fmin3 r g b)) = false ∧ Float64.isZero (Float64.sub (Float64.sub fl2 (fmax3 r g b)) (fmin3 r g b)) = false) : CallRT C S 6 (.ref 45) [.flt r, .flt g, .flt b] (hueFF r g b) (hlsF r g b).tail := by
  refine CallRT.ofBody ["r", "g", "b"] ["maxc", "minc", "sumc", "rangec", "l", "s", "rc", "gc", "bc", "h"] rfl (by kernel_rfl) (fun s vs h => by apply vs3 h; intro a b c; exact BindsTo.of_eq rfl) rfl rfl (by decide) (by decide) (locs (by decide)) (by decide) (by decide) ?_
  intro A s B L S' n Q R M hS F hn K
  have sub : ∀ a ∈ S, a ∈ S' := by subst hS; exact fun a ha => List.mem_append_right _ (.tail _ ha)
  dsimp only [List.map_cons, List.map_nil, List.cons_append, List.nil_append] at M F
  refine X.assignT hn F M R (Ev.callB (Ev.bl M blt_max (by kernel_rfl)) (EvL.cons (Ev.loc M .z) (EvL.cons (Ev.loc M (.s .z)) (EvL.cons (Ev.loc M (.s (.s .z))) EvL.nil))) (by walk_at "my call max")) (.s (.s (.s .z))) ?_
  intro h tk F hn
  refine X.assignT hn F M R (Ev.callB (Ev.bl M blt_min (by kernel_rfl)) (EvL.cons (Ev.loc M .z) (EvL.cons (Ev.loc M (.s .z)) (EvL.cons (Ev.loc M (.s (.s .z))) EvL.nil))) (by walk_at "my call min")) (.s (.s (.s (.s .z)))) ?_
  intro h tk F hn
  refine X.assignT hn F M R (Ev.bin (Ev.loc M (.s (.s (.s .z)))) (Ev.loc M (.s (.s (.s (.s .z))))) (by walk_at "my bin")) (.s (.s (.s (.s (.s .z))))) ?_
  intro h tk F hn
  refine X.assignT hn F M R (Ev.bin (Ev.loc M (.s (.s (.s .z)))) (Ev.loc M (.s (.s (.s (.s .z))))) (by walk_at "my bin")) (.s (.s (.s (.s (.s (.s .z)))))) ?_
  intro h tk F hn
  refine X.assignT hn F M R (Ev.bin (Ev.loc M (.s (.s (.s (.s (.s .z)))))) Ev.cflt (by walk_at "my bin")) (.s (.s (.s (.s (.s (.s (.s .z))))))) ?_
  intro h tk F hn
  refine X.ifsT hn F R (Tr.cmp (Ev.loc M (.s (.s (.s (.s .z))))) (Ev.loc M (.s (.s (.s .z)))) (by walk_at "my cmp") (by rfl)) (fun hb1 h tk F hn => ?_) (fun hb1 h tk F hn => ?_)
  · refine X.retC hn F R (EvL.cons (Ev.loc M (.s (.s (.s (.s (.s (.s (.s .z)))))))) (EvL.cons Ev.cflt EvL.nil)) (by rw [sizeLine_eq]; exact Nat.le_of_ble_eq_true rfl) (fun t v h tk F r h1 h2 => K v h tk t F.base h1 h2 (r.cast ?_))
    rw [hueFF, hlsF, if_pos hb1, if_pos hb1]; rfl
  refine X.next ?_
  obtain ⟨q0, q1, q2⟩ := hne hb1
  refine X.ifsJ [some (.flt r), some (.flt g), some (.flt b), some (.flt (fmax3 r g b)), some (.flt (fmin3 r g b)), some (.flt (Float64.add (fmax3 r g b) (fmin3 r g b))), some (.flt (Float64.sub (fmax3 r g b) (fmin3 r g b))), some (.flt (Float64.div (Float64.add (fmax3 r g b) (fmin3 r g b)) fl2)), some (.flt (if fle (Float64.div (Float64.add (fmax3 r g b) (fmin3 r g b)) fl2) flh = true then Float64.div (Float64.sub (fmax3 r g b) (fmin3 r g b)) (Float64.add (fmax3 r g b) (fmin3 r g b)) else Float64.div (Float64.sub (fmax3 r g b) (fmin3 r g b)) (Float64.sub (Float64.sub fl2 (fmax3 r g b)) (fmin3 r g b)))), none, none, none, none] hn F R (Tr.cmp (Ev.loc M (.s (.s (.s (.s (.s (.s (.s .z)))))))) Ev.cflt (by walk_at "my cmp") (by rfl)) (fun hb2 h tk F hn => ?_) (fun hb2 h tk F hn => ?_) ?_
  · refine X.assignT hn F M R (Ev.bin (Ev.loc M (.s (.s (.s (.s (.s (.s .z))))))) (Ev.loc M (.s (.s (.s (.s (.s .z)))))) (by walk_at "my bin")) (.as (congrArg PV.flt (if_pos hb2).symm) (.s (.s (.s (.s (.s (.s (.s (.s .z))))))))) (fun h tk F hn => X.met F hn)
  · refine X.assignT hn F M R (Ev.bin (Ev.loc M (.s (.s (.s (.s (.s (.s .z))))))) (Ev.bin (Ev.bin Ev.cflt (Ev.loc M (.s (.s (.s .z)))) (by walk_at "my bin")) (Ev.loc M (.s (.s (.s (.s .z))))) (by walk_at "my bin")) (by walk_at "my bin")) (.as (congrArg PV.flt (if_neg (fun e => Bool.noConfusion (hb2.symm.trans e))).symm) (.s (.s (.s (.s (.s (.s (.s (.s .z))))))))) (fun h tk F hn => X.met F hn)
  intro h tk F hn
  refine X.assignT hn F M R (Ev.bin (Ev.bin (Ev.loc M (.s (.s (.s .z)))) (Ev.loc M .z) (by walk_at "my bin")) (Ev.loc M (.s (.s (.s (.s (.s (.s .z))))))) (by walk_at "my bin")) (.s (.s (.s (.s (.s (.s (.s (.s (.s .z))))))))) ?_
  intro h tk F hn
  refine X.assignT hn F M R (Ev.bin (Ev.bin (Ev.loc M (.s (.s (.s .z)))) (Ev.loc M (.s .z)) (by walk_at "my bin")) (Ev.loc M (.s (.s (.s (.s (.s (.s .z))))))) (by walk_at "my bin")) (.s (.s (.s (.s (.s (.s (.s (.s (.s (.s .z)))))))))) ?_
  intro h tk F hn
  refine X.assignT hn F M R (Ev.bin (Ev.bin (Ev.loc M (.s (.s (.s .z)))) (Ev.loc M (.s (.s .z))) (by walk_at "my bin")) (Ev.loc M (.s (.s (.s (.s (.s (.s .z))))))) (by walk_at "my bin")) (.s (.s (.s (.s (.s (.s (.s (.s (.s (.s (.s .z))))))))))) ?_
  intro h tk F hn
  refine X.ifsJ [some (.flt r), some (.flt g), some (.flt b), some (.flt (fmax3 r g b)), some (.flt (fmin3 r g b)), some (.flt (Float64.add (fmax3 r g b) (fmin3 r g b))), some (.flt (Float64.sub (fmax3 r g b) (fmin3 r g b))), some (.flt (Float64.div (Float64.add (fmax3 r g b) (fmin3 r g b)) fl2)), some (.flt (if fle (Float64.div (Float64.add (fmax3 r g b) (fmin3 r g b)) fl2) flh = true then Float64.div (Float64.sub (fmax3 r g b) (fmin3 r g b)) (Float64.add (fmax3 r g b) (fmin3 r g b)) else Float64.div (Float64.sub (fmax3 r g b) (fmin3 r g b)) (Float64.sub (Float64.sub fl2 (fmax3 r g b)) (fmin3 r g b)))), some (.flt (Float64.div (Float64.sub (fmax3 r g b) r) (Float64.sub (fmax3 r g b) (fmin3 r g b)))), some (.flt (Float64.div (Float64.sub (fmax3 r g b) g) (Float64.sub (fmax3 r g b) (fmin3 r g b)))), some (.flt (Float64.div (Float64.sub (fmax3 r g b) b) (Float64.sub (fmax3 r g b) (fmin3 r g b)))), some (.flt (hueN (feq r (fmax3 r g b)) (feq g (fmax3 r g b)) (Float64.div (Float64.sub (fmax3 r g b) r) (Float64.sub (fmax3 r g b) (fmin3 r g b))) (Float64.div (Float64.sub (fmax3 r g b) g) (Float64.sub (fmax3 r g b) (fmin3 r g b))) (Float64.div (Float64.sub (fmax3 r g b) b) (Float64.sub (fmax3 r g b) (fmin3 r g b)))))] hn F R (Tr.cmp (Ev.loc M .z) (Ev.loc M (.s (.s (.s .z)))) (by walk_at "my cmp") (by rfl)) (fun hb3 h tk F hn => ?_) (fun hb3 h tk F hn => ?_) ?_
  · exact X.assignT hn F M R (Ev.bin (Ev.loc M (.s (.s (.s (.s (.s (.s (.s (.s (.s (.s (.s .z)))))))))))) (Ev.loc M (.s (.s (.s (.s (.s (.s (.s (.s (.s (.s .z))))))))))) (by walk_at "my bin")) (.as (by rw [hueN1 hb3]) (.s (.s (.s (.s (.s (.s (.s (.s (.s (.s (.s (.s .z))))))))))))) (fun h tk F hn => X.met F hn)
  · refine X.ifsT hn F R (Tr.cmp (Ev.loc M (.s .z)) (Ev.loc M (.s (.s (.s .z)))) (by walk_at "my cmp") (by rfl)) (fun hb4 h tk F hn => ?_) (fun hb4 h tk F hn => ?_)
    · exact X.assignT hn F M R (Ev.bin (Ev.bin Ev.cflt (Ev.loc M (.s (.s (.s (.s (.s (.s (.s (.s (.s .z)))))))))) (by walk_at "my bin")) (Ev.loc M (.s (.s (.s (.s (.s (.s (.s (.s (.s (.s (.s .z)))))))))))) (by walk_at "my bin")) (.as (by rw [hueN2 hb3 hb4]) (.s (.s (.s (.s (.s (.s (.s (.s (.s (.s (.s (.s .z))))))))))))) (fun h tk F hn => X.next (X.met F hn))
    · exact X.assignT hn F M R (Ev.bin (Ev.bin Ev.cflt (Ev.loc M (.s (.s (.s (.s (.s (.s (.s (.s (.s (.s .z))))))))))) (by walk_at "my bin")) (Ev.loc M (.s (.s (.s (.s (.s (.s (.s (.s (.s .z)))))))))) (by walk_at "my bin")) (.as (by rw [hueN3 hb3 hb4]) (.s (.s (.s (.s (.s (.s (.s (.s (.s (.s (.s (.s .z))))))))))))) (fun h tk F hn => X.next (X.met F hn))
  intro h tk F hn
  refine X.assignH hn F M R (Ev.bin (Ev.loc M (.s (.s (.s (.s (.s (.s (.s (.s (.s (.s (.s (.s .z))))))))))))) Ev.cflt (by walk_at "my bin")) Ev.cflt isZ1 (fun t => (.s (.s (.s (.s (.s (.s (.s (.s (.s (.s (.s (.s .z))))))))))))) ?_
  intro t h tk F hnt ht
  refine X.retT ht F R (Ev.tuple (EvL.cons (Ev.loc M (.s (.s (.s (.s (.s (.s (.s (.s (.s (.s (.s (.s .z))))))))))))) (EvL.cons (Ev.loc M (.s (.s (.s (.s (.s (.s (.s .z)))))))) (EvL.cons (Ev.loc M (.s (.s (.s (.s (.s (.s (.s (.s .z))))))))) EvL.nil))) (by walk_at "my size")) (fun v h tk F r ht => K v h tk t F.base hnt ht (r.cast ?_))
  rw [hueFF, hlsF, if_neg (fun e => Bool.noConfusion (hb1.symm.trans e)), if_neg (fun e => Bool.noConfusion (hb1.symm.trans e))]; rfl
noncomputable def neOkB (r g b : Int) : Bool := (min3 r g b == max3 r g b) || (decide (max3 r g b - min3 r g b ≠ 0) && decide (max3 r g b ≠ 0) && decide ((max3 r g b - min3 r g b).natAbs < 1000) && decide ((max3 r g b - r).natAbs < 1000) && decide ((max3 r g b - g).natAbs < 1000) && decide ((max3 r g b - b).natAbs < 1000))
theorem lt_big {n : Nat} (h : n < 1000) : n < 2 ^ 1023 := Nat.lt_of_lt_of_le (Nat.lt_trans h (by decide : 1000 < 2 ^ 10)) (Nat.pow_le_pow_right (by decide) (by decide))
theorem neOk_of {r g b : Int} (h : neOkB r g b = true) : NeOk r g b := fun e => by
  unfold neOkB at h
  rw [e, Bool.false_or] at h
  simp only [Bool.and_eq_true] at h
  obtain ⟨⟨⟨⟨⟨h1, h2⟩, h3⟩, h4⟩, h5⟩, h6⟩ := h
  exact ⟨of_decide_eq_true h1, of_decide_eq_true h2, lt_big (of_decide_eq_true h3), lt_big (of_decide_eq_true h4), lt_big (of_decide_eq_true h5), lt_big (of_decide_eq_true h6)⟩
theorem CallRT.toR {C : Cx} {S : List Addr} {k : Nat} {f : Value} {args : List PV} {x : UInt64} {l : List PV} (h : CallRT C S k f args x l) : CallR C S k f args (.tup (.flt x :: l)) := ⟨fun A s Q E vs R B rl H => h.run A s Q E vs R B rl fun v h' tk t g _ _ r => by
  obtain ⟨a, vs, n, rfl, hn, ht, rl⟩ := r.inv
  obtain ⟨_, us, rfl, r1, rl'⟩ := rl.inv
  obtain ⟨_, rfl⟩ := r1.inv
  exact H _ _ _ g (.tup hn ht (.cons (.flt _ _) rl'))⟩
end Mine
end

section
open PySem PySem.W PyProof.Rows PySem.Calls
set_option maxRecDepth 100000
namespace Mine
/-- a check over a stretch, at one place -/
theorem all_at0 {p : Int → Bool} {k : Nat} {n : Int} (h : (List.range k).all (fun i : Nat => p i) = true) (h1 : 0 ≤ n) (h2 : n < k) : p n = true := by
  have h := List.all_eq_true.mp h n.toNat (List.mem_range.mpr ((Int.toNat_lt h1).mpr h2))
  rw [Int.toNat_of_nonneg h1] at h
  exact h
theorem all_at {p : Int → Bool} {n : Int} (h : (List.range 48).all (fun i : Nat => p (7 + (i : Int))) = true) (hn : 7 ≤ n ∧ n ≤ 54) : p n = true := by
  have h := all_at0 (p := fun i => p (7 + i)) (n := n - 7) h (by (first | lia | omega)) (by (first | lia | omega))
  rw [show 7 + (n - 7) = n by (first | lia | omega)] at h
  exact h
/-- a check in twelve parts -/
noncomputable def part (p : Int → Bool) (j : Nat) : Bool := (List.range 4).all fun i : Nat => p (7 + ((4 * j + i : Nat) : Int))
theorem lt0 {P : Nat → Prop} : ∀ j < 0, P j := fun _ h => nomatch h
theorem ltS {P : Nat → Prop} {k : Nat} (t : ∀ j < k, P j) (h : P k) : ∀ j < k + 1, P j := fun j hj => (Nat.lt_succ_iff_lt_or_eq.mp hj).elim (t j) fun e => e ▸ h
theorem of_parts {p : Int → Bool} (h : ∀ j < 12, part p j = true) : (List.range 48).all (fun i : Nat => p (7 + (i : Int))) = true :=
  List.all_eq_true.mpr fun i hi => by
    have h := List.all_eq_true.mp (h (i / 4) (Nat.div_lt_of_lt_mul (List.mem_range.mp hi))) (i % 4) (List.mem_range.mpr (Nat.mod_lt _ (by decide)))
    rw [Nat.div_add_mod] at h
    exact h

noncomputable abbrev FX (a : Int) : UInt64 := divI a 64
/-- all of a triple -/
noncomputable def perms (a b c : Int) : List (Int × Int × Int) := [(a, b, c), (b, c, a), (c, a, b), (c, b, a), (b, a, c), (a, c, b)]
noncomputable def sF {α : Type} (d : α) (x : UInt64) (k : UInt64 → α) : α := match x.toNat + 1 with
  | 0 => d
  | n + 1 => k (UInt64.ofNat n)
theorem sF_eq {α : Type} (d : α) (x : UInt64) (k : UInt64 → α) : sF d x k = k x := by
  show k (UInt64.ofNat x.toNat) = k x
  simp
noncomputable def sI {α : Type} (d : α) (x : Int) (k : Int → α) : α := match x with
  | .ofNat n => (match n + 1 with | 0 => d | m + 1 => k (.ofNat m))
  | .negSucc n => (match n + 1 with | 0 => d | m + 1 => k (.negSucc m))
theorem sI_eq {α : Type} (d : α) (x : Int) (k : Int → α) : sI d x k = k x := by cases x <;> rfl

noncomputable def shareF (r g b : UInt64) : UInt64 := if feq (fmin3 r g b) (fmax3 r g b) = true then fl0 else Float64.div (Float64.sub (fmax3 r g b) (fmin3 r g b)) (fmax3 r g b)
noncomputable def lightF (r g b : UInt64) : UInt64 := Float64.div (Float64.add (fmax3 r g b) (fmin3 r g b)) fl2
noncomputable def depthF (r g b : UInt64) : UInt64 := if feq (fmin3 r g b) (fmax3 r g b) = true then fl0 else
  if fle (lightF r g b) flh = true then Float64.div (Float64.sub (fmax3 r g b) (fmin3 r g b)) (Float64.add (fmax3 r g b) (fmin3 r g b)) else Float64.div (Float64.sub (fmax3 r g b) (fmin3 r g b)) (Float64.sub (Float64.sub fl2 (fmax3 r g b)) (fmin3 r g b))
theorem hsvF_tail (r g b : UInt64) : (hsvF r g b).tail = [.flt (shareF r g b), .flt (fmax3 r g b)] := by unfold hsvF shareF; split <;> rfl
theorem hlsF_tail (r g b : UInt64) : (hlsF r g b).tail = [.flt (lightF r g b), .flt (depthF r g b)] := by unfold hlsF depthF lightF; split <;> rfl

/-- the six corners' hues -/
noncomputable def corn : List UInt64 := [hueII 1 0 0, hueII 1 1 0, hueII 0 1 0, hueII 0 1 1, hueII 0 0 1, hueII 1 0 1]
noncomputable def cornL : List UInt64 := [0, 4595172819793696085, 4599676419421066581, 4602678819172646912, 4604180019048437077, 4605681218924227243]
noncomputable def inC (h : UInt64) : Bool := (corn.map fun x => Float64.cmp x h == some Ordering.eq).any id
noncomputable def inL (h : UInt64) : Bool := (cornL.map fun x => Float64.cmp x h == some Ordering.eq).any id
theorem corn_eq : corn = cornL := by kernel_rfl
theorem inC_eq (h : UInt64) : inC h = inL h := by unfold inC inL; rw [corn_eq]
noncomputable def mid3 (x y z : Int) : Int := x + y + z - max3 x y z - min3 x y z
noncomputable def edge (x y z : Int) : Bool := mid3 x y z == max3 x y z || mid3 x y z == min3 x y z
noncomputable def twiceI (x y z : Int) : Bool := min3 x y z != 0 && !edge x y z
noncomputable def weightI (x y z : Int) : Int := if max3 x y z == min3 x y z then 4 else if min3 x y z == 0 && edge x y z then 6 else 12
noncomputable def spotI (x y z : Int) : Int := (2 * (max3 x y z - min3 x y z) * (if x = max3 x y z then 0 else if y = max3 x y z then 1 else 2) + (if x = max3 x y z then y - z else if y = max3 x y z then z - x else x - y)).fmod (if 1 > 6 * (max3 x y z - min3 x y z) then 1 else 6 * (max3 x y z - min3 x y z))
noncomputable abbrev isEq (o : Option Ordering) : Bool := o == some Ordering.eq
noncomputable abbrev oI (n : Int) : UInt64 := Float64.ofInt n

noncomputable def rnd (h : UInt64) (n : Int) : Bool := Float64.isFinite h && PySem.Flt.toInt Float64.nearestOf h == n
noncomputable def hueQ (X Y M qx qy qz : UInt64) (k : UInt64 → Bool) : Bool :=
  sF false (if feq X M = true then Float64.sub qz qy else if feq Y M = true then Float64.sub (Float64.add fl2 qx) qz else Float64.sub (Float64.add fl4 qy) qx) fun u =>
  sF false (Float64.div u fl6) fun v => sF false (Float64.divmod v fl1).2 k
/-- what hangs on the greatest and the least alone -/
noncomputable def goodA (mx mn : Int) (M m sh : UInt64) : Bool :=
  (feq m M || (!Float64.isZero (Float64.sub M m) && !Float64.isZero M)) &&
  (feq m M || (!Float64.isZero (Float64.sub M m) && !Float64.isZero (Float64.add M m) && !Float64.isZero (Float64.sub (Float64.sub fl2 M) m))) &&
  isEq (Float64.cmpInt (Float64.mul (Float64.div (Float64.add M m) fl2) (oI 128)) (mx + mn)) && isEq (Float64.cmpInt (Float64.mul M (oI 64)) mx) &&
  rnd (Float64.mul (Float64.mul sh M) (oI (2 ^ 26))) ((mx - mn) * 2 ^ 20) &&
  rnd (Float64.mul (Float64.mul (if feq m M = true then fl0 else if fle (Float64.div (Float64.add M m) fl2) flh = true then Float64.div (Float64.sub M m) (Float64.add M m) else Float64.div (Float64.sub M m) (Float64.sub (Float64.sub fl2 M) m))
    (oI (if 128 - (mx + mn) < mx + mn then 128 - (mx + mn) else mx + mn))) (oI (2 ^ 20))) ((mx - mn) * 2 ^ 20)
/-- what hangs on the hue: of the parts, of the shade -/
noncomputable def goodHS (x y z mx mn : Int) (h : UInt64) : Bool := feq h h && rnd (Float64.mul (Float64.mul (Float64.mul h (oI 6)) (oI (mx - mn))) (oI (2 ^ 20))) (spotI x y z * 2 ^ 20)
noncomputable def goodHP (x y z : Int) (h sh : UInt64) : Bool :=
  ((!isEq (Float64.cmpInt sh 1) && !inL h) == twiceI x y z) && ((if isEq (Float64.cmpInt sh 0) = true then (4 : Int) else if (isEq (Float64.cmpInt sh 1) && inL h) = true then 6 else 12) == weightI x y z)
noncomputable def permQ (x y z mx mn : Int) (X Y Z qx qy qz M m : UInt64) (k : UInt64 → Bool) : Bool :=
  fmax3 X Y Z == M && fmin3 X Y Z == m && max3 x y z == mx && min3 x y z == mn && (if feq m M = true then k fl0 else hueQ X Y M qx qy qz k)
noncomputable def shQ (M m : UInt64) : UInt64 := if feq m M = true then fl0 else Float64.div (Float64.sub M m) M
noncomputable def chkT (p : Bool) (a b c : Int) : Bool :=
  sI false (max3 a b c) fun mx => sI false (min3 a b c) fun mn =>
  sF false (FX a) fun X => sF false (FX b) fun Y => sF false (FX c) fun Z => sF false (fmax3 X Y Z) fun M => sF false (fmin3 X Y Z) fun m => sF false (shQ M m) fun sh =>
  sF false (Float64.div (Float64.sub M X) (Float64.sub M m)) fun qx => sF false (Float64.div (Float64.sub M Y) (Float64.sub M m)) fun qy => sF false (Float64.div (Float64.sub M Z) (Float64.sub M m)) fun qz =>
  goodA mx mn M m sh &&
  permQ a b c mx mn X Y Z qx qy qz M m (fun h => goodHS a b c mx mn h && (!p || goodHP a b c h sh)) &&
  permQ b c a mx mn Y Z X qy qz qx M m (fun h => goodHS b c a mx mn h && (!p || goodHP b c a h sh)) &&
  permQ c a b mx mn Z X Y qz qx qy M m (fun h => goodHS c a b mx mn h && (!p || goodHP c a b h sh)) &&
  permQ c b a mx mn Z Y X qz qy qx M m (fun h => goodHS c b a mx mn h && (!p || goodHP c b a h sh)) &&
  permQ b a c mx mn Y X Z qy qx qz M m (fun h => goodHS b a c mx mn h && (!p || goodHP b a c h sh)) &&
  permQ a c b mx mn X Z Y qx qz qy M m (fun h => goodHS a c b mx mn h && (!p || goodHP a c b h sh))
theorem rnd_of {h : UInt64} {n : Int} (e : rnd h n = true) : Float64.isFinite h = true ∧ PySem.Flt.toInt Float64.nearestOf h = n := by
  unfold rnd at e; rw [Bool.and_eq_true] at e; exact ⟨e.1, by simpa using e.2⟩
theorem permQ_sound {x y z mx mn : Int} {X Y Z M m : UInt64} {k : UInt64 → Bool} (h : permQ x y z mx mn X Y Z (Float64.div (Float64.sub M X) (Float64.sub M m)) (Float64.div (Float64.sub M Y) (Float64.sub M m)) (Float64.div (Float64.sub M Z) (Float64.sub M m)) M m k = true) :
    fmax3 X Y Z = M ∧ fmin3 X Y Z = m ∧ max3 x y z = mx ∧ min3 x y z = mn ∧ k (hueFF X Y Z) = true := by
  unfold permQ at h
  simp only [Bool.and_eq_true] at h
  obtain ⟨⟨⟨⟨h1, h2⟩, h3⟩, h4⟩, h5⟩ := h
  have h1 := eq_of_beq h1
  have h2 := eq_of_beq h2
  refine ⟨h1, h2, eq_of_beq h3, eq_of_beq h4, ?_⟩
  unfold hueFF hueF hue
  rw [h1, h2]
  split at h5
  · rename_i e; rw [if_pos e]; exact h5
  · rename_i e; rw [if_neg e]
    unfold hueQ at h5
    simp only [sF_eq] at h5
    exact h5

structure GoodS (x y z : Int) : Prop where
  ok : feq (fmin3 (FX x) (FX y) (FX z)) (fmax3 (FX x) (FX y) (FX z)) = false → Float64.isZero (Float64.sub (fmax3 (FX x) (FX y) (FX z)) (fmin3 (FX x) (FX y) (FX z))) = false ∧ Float64.isZero (fmax3 (FX x) (FX y) (FX z)) = false
  okl : feq (fmin3 (FX x) (FX y) (FX z)) (fmax3 (FX x) (FX y) (FX z)) = false → Float64.isZero (Float64.sub (fmax3 (FX x) (FX y) (FX z)) (fmin3 (FX x) (FX y) (FX z))) = false ∧ Float64.isZero (Float64.add (fmax3 (FX x) (FX y) (FX z)) (fmin3 (FX x) (FX y) (FX z))) = false ∧ Float64.isZero (Float64.sub (Float64.sub fl2 (fmax3 (FX x) (FX y) (FX z))) (fmin3 (FX x) (FX y) (FX z))) = false
  hh : feq (hueFF (FX x) (FX y) (FX z)) (hueFF (FX x) (FX y) (FX z)) = true
  e2 : isEq (Float64.cmpInt (Float64.mul (lightF (FX x) (FX y) (FX z)) (oI 128)) (max3 x y z + min3 x y z)) = true
  e3 : isEq (Float64.cmpInt (Float64.mul (fmax3 (FX x) (FX y) (FX z)) (oI 64)) (max3 x y z)) = true
  f1 : Float64.isFinite (Float64.mul (Float64.mul (Float64.mul (hueFF (FX x) (FX y) (FX z)) (oI 6)) (oI (max3 x y z - min3 x y z))) (oI (2 ^ 20))) = true
  r1 : PySem.Flt.toInt Float64.nearestOf (Float64.mul (Float64.mul (Float64.mul (hueFF (FX x) (FX y) (FX z)) (oI 6)) (oI (max3 x y z - min3 x y z))) (oI (2 ^ 20))) = spotI x y z * 2 ^ 20
  f2 : Float64.isFinite (Float64.mul (Float64.mul (shareF (FX x) (FX y) (FX z)) (fmax3 (FX x) (FX y) (FX z))) (oI (2 ^ 26))) = true
  r2 : PySem.Flt.toInt Float64.nearestOf (Float64.mul (Float64.mul (shareF (FX x) (FX y) (FX z)) (fmax3 (FX x) (FX y) (FX z))) (oI (2 ^ 26))) = (max3 x y z - min3 x y z) * 2 ^ 20
  f3 : Float64.isFinite (Float64.mul (Float64.mul (depthF (FX x) (FX y) (FX z)) (oI (if 128 - (max3 x y z + min3 x y z) < max3 x y z + min3 x y z then 128 - (max3 x y z + min3 x y z) else max3 x y z + min3 x y z))) (oI (2 ^ 20))) = true
  r3 : PySem.Flt.toInt Float64.nearestOf (Float64.mul (Float64.mul (depthF (FX x) (FX y) (FX z)) (oI (if 128 - (max3 x y z + min3 x y z) < max3 x y z + min3 x y z then 128 - (max3 x y z + min3 x y z) else max3 x y z + min3 x y z))) (oI (2 ^ 20))) = (max3 x y z - min3 x y z) * 2 ^ 20
structure GoodP (x y z : Int) : Prop where
  tw : (!isEq (Float64.cmpInt (shareF (FX x) (FX y) (FX z)) 1) && !inC (hueFF (FX x) (FX y) (FX z))) = twiceI x y z
  wt : (if isEq (Float64.cmpInt (shareF (FX x) (FX y) (FX z)) 0) = true then (4 : Int) else if (isEq (Float64.cmpInt (shareF (FX x) (FX y) (FX z)) 1) && inC (hueFF (FX x) (FX y) (FX z))) = true then 6 else 12) = weightI x y z
theorem shQ_eq (X Y Z : UInt64) : shQ (fmax3 X Y Z) (fmin3 X Y Z) = shareF X Y Z := rfl
theorem good_of {p : Bool} {x y z mx mn : Int} {M m : UInt64} (hA : goodA mx mn M m (shQ M m) = true)
    (h : fmax3 (FX x) (FX y) (FX z) = M ∧ fmin3 (FX x) (FX y) (FX z) = m ∧ max3 x y z = mx ∧ min3 x y z = mn ∧ (goodHS x y z mx mn (hueFF (FX x) (FX y) (FX z)) && (!p || goodHP x y z (hueFF (FX x) (FX y) (FX z)) (shQ M m))) = true) : GoodS x y z ∧ (p = true → GoodP x y z) := by
  obtain ⟨rfl, rfl, rfl, rfl, h5⟩ := h
  unfold goodA at hA
  simp only [Bool.and_eq_true] at hA
  obtain ⟨⟨⟨⟨⟨a1, a2⟩, a3⟩, a4⟩, a5⟩, a6⟩ := hA
  rw [Bool.and_eq_true] at h5
  obtain ⟨b1, b2⟩ := h5
  unfold goodHS at b1
  rw [Bool.and_eq_true] at b1
  refine ⟨⟨fun e => ?_, fun e => ?_, b1.1, a3, a4, (rnd_of b1.2).1, (rnd_of b1.2).2, (rnd_of a5).1, (rnd_of a5).2, (rnd_of a6).1, (rnd_of a6).2⟩, fun hp => ?_⟩
  · rw [e] at a1; simpa using a1
  · rw [e] at a2; simpa [and_assoc] using a2
  · subst hp
    unfold goodHP at b2
    rw [Bool.not_true, Bool.false_or, Bool.and_eq_true] at b2
    exact ⟨by rw [inC_eq]; exact eq_of_beq b2.1, by rw [inC_eq]; exact eq_of_beq b2.2⟩
theorem chkT_sound {p : Bool} {a b c : Int} (h : chkT p a b c = true) : ∀ t ∈ perms a b c, GoodS t.1 t.2.1 t.2.2 ∧ (p = true → GoodP t.1 t.2.1 t.2.2) := by
  unfold chkT at h
  simp only [sF_eq, sI_eq] at h
  simp only [Bool.and_eq_true] at h
  obtain ⟨⟨⟨⟨⟨⟨hA, h1⟩, h2⟩, h3⟩, h4⟩, h5⟩, h6⟩ := h
  intro t ht
  simp only [perms, List.mem_cons, List.mem_nil_iff, or_false] at ht
  rcases ht with rfl | rfl | rfl | rfl | rfl | rfl
  · exact good_of hA (permQ_sound h1)
  · exact good_of hA (permQ_sound h2)
  · exact good_of hA (permQ_sound h3)
  · exact good_of hA (permQ_sound h4)
  · exact good_of hA (permQ_sound h5)
  · exact good_of hA (permQ_sound h6)
/-- the greatest part -/
noncomputable def most (n l m : Int) : Int := (n - l * m).fdiv (l + m)
noncomputable def fits (n l m : Int) : Bool := decide (1 ≤ l + m) && decide (l ≤ m) && decide (m * m + 2 * l * m ≤ n) && (n - l * m).fmod (l + m) == 0
end Mine
end

section
open PySem PySem.W PyProof.Rows PySem.Calls
namespace Mine

/-- floats made from lo on and before hi -/
inductive FlR (lo hi : Tok) : List UInt64 → List PV → Prop
  | nil : FlR lo hi [] []
  | cons {x : UInt64} {t : Tok} {xs : List UInt64} {r : List PV} : lo ≤ t → t < hi → FlR lo hi xs r → FlR lo hi (x :: xs) (.raw (.float x t) :: r)
theorem FlR.mono {lo hi hi' : Tok} {xs : List UInt64} {r : List PV} (f : FlR lo hi xs r) (h : hi ≤ hi') : FlR lo hi' xs r := by
  induction f with
  | nil => exact .nil
  | cons a b _ ih => exact .cons a (Nat.lt_of_lt_of_le b h) ih
theorem FlR.snoc {lo hi : Tok} {xs : List UInt64} {r : List PV} {x : UInt64} {t : Tok} (f : FlR lo hi xs r) (h1 : lo ≤ t) (h2 : t < hi) : FlR lo hi (xs ++ [x]) (r ++ [.raw (.float x t)]) := by
  induction f with
  | nil => exact .cons h1 h2 .nil
  | cons a b _ ih => exact .cons a b ih
theorem FlR.len {lo hi : Tok} {xs : List UInt64} {r : List PV} (f : FlR lo hi xs r) : r.length = xs.length := by
  induction f with
  | nil => rfl
  | cons _ _ _ ih => simp [ih]
/-- a float made later is looked for among them -/
theorem FlR.inL {lo hi : Tok} {xs : List UInt64} {r : List PV} {y : UInt64} {u : Tok} (f : FlR lo hi xs r) (h0 : 0 < lo) (hu : hi ≤ u) (hxy : ∀ x ∈ xs, x = y → (Float64.cmp x y == some Ordering.eq) = true) :
    InL (.raw (.float y u)) r (xs.map fun x => Float64.cmp x y == some Ordering.eq) := by
  induction f with
  | nil => exact .nil
  | @cons x t xs r a b f ih => exact .cons (.ff x y t u (Nat.lt_of_lt_of_le h0 a) (Nat.lt_of_lt_of_le (Nat.lt_of_le_of_lt (Nat.zero_le _) b) hu) (Nat.ne_of_lt (Nat.lt_of_lt_of_le b hu)) (hxy x (.head _))) (ih fun x hx => hxy x (.tail _ hx))

section
variable {C : Cx} {S : List Addr} {env : Env} {nm : List Str} {ρ : List (Option PV)} {k : Nat}
/-- the expression makes a float -/
structure EvT (C : Cx) (S : List Addr) (env : Env) (nm : List Str) (ρ : List (Option PV)) (k : Nat) (e : PySem.Expr) (x : UInt64) : Prop where
  run : ∀ (A : Around) (s : Shared) (Q : Value → Shared → Prop) (E : Value → Shared → Prop), Room k A → Inv C S env nm ρ s.heap →
    (∀ t h' tk, Gr s.heap h' → s.toks ≤ t → t + 1 ≤ tk → Q (.float x t) { s with heap := h', toks := tk }) → wpAny (model PW C.w) A (eval e env) Q E s
/-- the expression makes a tuple that opens with a float it makes -/
structure EvTT (C : Cx) (S : List Addr) (env : Env) (nm : List Str) (ρ : List (Option PV)) (k : Nat) (e : PySem.Expr) (x : UInt64) (q : List PV) : Prop where
  run : ∀ (A : Around) (s : Shared) (Q : Value → Shared → Prop) (E : Value → Shared → Prop), Room k A → Inv C S env nm ρ s.heap →
    (∀ t v h' tk, Gr s.heap h' → s.toks ≤ t → t + 1 ≤ tk → Rel S h' v (.tup (.raw (.float x t) :: q)) → Q v { s with heap := h', toks := tk }) → wpAny (model PW C.w) A (eval e env) Q E s
theorem EvTT.call {x : Str} {np pos : Pos} {d : PySem.Expr} {args : List PySem.Expr} {f : Addr} {l q : List PV} {y : UInt64} (hf : Ev C S env nm ρ k (.Name x np) (.raw (.ref f))) (ha : EvL C S env nm ρ k pos (d :: args) l) (hc : CallRT C S k (.ref f) l y q) (hk : keepIn C.K (.ref f) = true)
    (he : starEach (d :: args) env = (false, eval d env) :: starEach args env := by rfl) (hp : (backTo pos (starEach args env)).any (·.1) = false := by rfl) : EvTT C S env nm ρ k (.Call (.Name x np) (d :: args) [] pos) y q := ⟨fun A s Q E R I H =>
  wpAny_Call_Name_kw (wpAny_with_toks (Nat.le_refl s.toks) (hf.run A s _ _ R I fun v h₁ tk₁ g₁ r => fun (hn : s.toks ≤ tk₁) => by
    obtain ⟨_, rfl⟩ := r.inv
    exact callWith_K (kIn I.top) hk (wpAny_with_toks (s := { s with heap := h₁, toks := tk₁ }) hn (ha.run A _ _ _ R (I.gr g₁) fun vs h₂ tk₂ g₂ rl => fun (hn₂ : s.toks ≤ tk₂) => ⟨kIn ((I.gr g₁).gr g₂).top, hc.run A _ Q E vs R ((I.gr g₁).gr g₂).bs rl fun v h' tk t g a b r =>
      H t v h' tk ((g₁.trans g₂).trans g) (Nat.le_trans hn₂ a) b r⟩)) he hp))⟩
theorem EvT.item0 {e : PySem.Expr} {cn : Nat} {cp pos : Pos} {x : UInt64} {q : List PV} (h : EvTT C S env nm ρ k e x q)
    (hs : ∀ o i, subscripted (.Constant (.int 0) cn cp) false o i = operate [o, i] (getItem o i) := by intro _ _; rfl) : EvT C S env nm ρ k (.Subscript e (.Constant (.int 0) cn cp) pos) x := ⟨fun A s Q E R I H =>
  Subscript_ (h.run A s _ E R I fun t v h₁ tk₁ g₁ a b r => wpAny_toks1 (s := { s with heap := h₁, toks := tk₁ }) b ((Ev.cint (nm := nm) (ρ := ρ)).run A { s with heap := h₁, toks := tk₁ } _ E R (I.gr g₁) fun w h₂ tk₂ g₂ rw_ => fun (b₂ : t + 1 ≤ tk₂) => by
    have hi : idxL (PV.raw (.float x t) :: q) 0 = some (.raw (.float x t)) := by
      unfold idxL seqIndex?
      simp
    exact wpAny_toks1 (s := { s with heap := h₂, toks := tk₂ }) b₂ ((ItemR.tup hi (by decide) (by decide)).run A { s with heap := h₂, toks := tk₂ } _ E v w e _ R ((I.gr g₁).gr g₂).bs (r.gr g₂) rw_ (fun u h₃ tk₃ g₃ ru => by
      obtain ⟨_, rfl⟩ := ru.inv
      exact fun (b₃ : t + 1 ≤ tk₃) => H t h₃ tk₃ ((g₁.trans g₂).trans g₃) a b₃) hs)))⟩
end
section
variable {C : Cx} {A : Around} {B : Heap} {S : List Addr} {V : List (Addr × List PV)} {env : Env} {nm : List Str} {ρ : List (Option PV)} {k : Nat} {s : Shared} {Q : Flow → Shared → Prop} {E : Value → Shared → Prop} {n : Nat}
/-- h, s, v = f(...): the first is new -/
theorem X.tupT {e : PySem.Expr} {elts : List PySem.Expr} {tn : Nat} {tpos pos : Pos} {rest : List Stmt} {x : UInt64} {q : List PV} {ρ' : Tok → List (Option PV)} (hn : n ≤ s.toks) (F : FS C B S V env nm ρ s.heap) (M : Fm env nm) (R : Room k A) (he : EvTT C S env nm ρ k e x q) (ht : ∀ t, Tgt env nm elts (.raw (.float x t) :: q) ρ (ρ' t))
    (K : ∀ t h' tk', FS C B S V env nm (ρ' t) h' → n ≤ t → t + 1 ≤ tk' → X C A env rest Q E { s with heap := h', toks := tk' })
    (hs : swapsWithSole [.Tuple elts tn tpos] e pos.line env = pure false := by rfl) (hw : swappedStores [.Tuple elts tn tpos] e env = pure none := by rfl) : X C A env (.Assign [.Tuple elts tn tpos] e pos :: rest) Q E s :=
  ⟨wpAny_execs_cons (Assign_Tuple (he.run A s _ E R F.inv fun t v h' tk g a b r => by
    obtain ⟨_, _, _, rfl, hn', ht', rl⟩ := r.inv
    · skip
      obtain ⟨c, d⟩ := tgt_assignEach (env := env) (ht t)
      refine wpAny_with_toks (s := { s with heap := h', toks := tk }) (n := t + 1) b ?_
      refine assign_Tuple_tuple R.hh ⟨_, ht', rfl, _, rfl⟩ (by rw [c, (ht t).len, List.size_toArray, rl.length]) d fun h'' he' => ?_
      have g' : Gr h' h'' := .of fun b o e => he' b o (Nat.ne_of_lt (Heap.lt_size e)) e
      exact wp_storeAll M (s := { s with heap := h'', toks := tk }) ((F.gr g).gr g') (ht t) (rl.gr g') fun h3 tk3 F3 => fun hn₃ => (K t h3 tk3 F3 (Nat.le_trans hn a) hn₃).out) hs hw)⟩
end
section
variable {C : Cx} {env : Env} {scope : Scope} {cl : List (Str × Addr)} {xs cs : List Str} {A : Around} {B : Heap} {S T : List Addr} {V : List (Addr × List PV)} {L : Addr} {s : Shared} {k : Nat} {E : Value → Shared → Prop} {nm : List Str} {ρ : List (Option PV)}
/-- a row of floats made by a comprehension -/
structure CompT (C : Cx) (S : List Addr) (env : Env) (nm : List Str) (ρ : List (Option PV)) (k : Nat) (e : PySem.Expr) (ys : List UInt64) : Prop where
  run : ∀ (A : Around) (s : Shared) (Q : Value → Shared → Prop) (E : Value → Shared → Prop) (n : Nat), n ≤ s.toks → Room k A → Inv C S env nm ρ s.heap →
    (∀ r v h' tk, Gr s.heap h' → FlR n tk ys r → Rel S h' v (.lst r) → Q v { s with heap := h', toks := tk }) → wpAny (model PW C.w) A (eval e env) Q E s
theorem CompT.mk' {elt tgt iter : PySem.Expr} {pos : Pos} {its ps : List PV} {g : PV → UInt64} (K : CompScope env scope cl xs cs) (hinj : ∀ x y c, env.cells.lookup x = some c → env.cells.lookup y = some c → x = y) (cap : Caps nm ρ cs ps)
    (he : EvIter C S env nm ρ k tgt iter its) (hn : its.length ≤ sizeLine) (bs : PV → List PV) (hb : ∀ p ∈ its, (bs p).length = xs.length)
    (asg : ∀ p ρx, p ∈ its → ρx.length = xs.length → AsgC C env scope cl xs cs tgt p (ρx ++ ps.map some) ((bs p).map some ++ ps.map some))
    (hel : ∀ p L S', p ∈ its → (∀ a ∈ S, a ∈ S') → EvT C S' (cEnv scope cl L env) (xs ++ cs) ((bs p).map some ++ ps.map some) k elt (g p))
    (hs : ∀ x, foldedSetIterable iter env x = pure x := by intro _; rfl) : CompT C S env nm ρ k (.ListComp elt [⟨tgt, iter, [], 0⟩] scope pos) (its.map g) := ⟨fun A s Q E n hnt R I H => by
  rw [eval_ListComp]
  refine comp_coreG (emit := fun L D => emit1 elt D (cEnv scope cl L env)) (use := none) K hinj I cap (V := []) (fun q hq => by cases hq) (by simp) R he
    (fun i tk r V' => V' = [] ∧ n ≤ tk ∧ FlR n tk ((its.take i).map g) r) (fun tk h => ⟨rfl, Nat.le_trans hnt h, .nil⟩) (stAt bs its xs.length ps) (fun i => rowAt bs its xs.length i ++ ps.map some) ?_ (fun i tk r V' h => by rw [h.1]) (fun i tk tk' r V' h hle => ⟨h.1, Nat.le_trans h.2.1 hle, h.2.2.mono hle⟩) (fun L D it => rfl) (fun i p hp => ?_) (fun L D S' i p B' r V' s' E' hp sub hv F => ?_) (fun L D h' tk' m r V' hv k T _ hD hL hLD hD0 hL0 vl ns => ?_) hs
  · show List.replicate _ none ++ _ = _
    rw [List.map_const']
  · have hm := List.mem_of_getElem? hp
    simp only [rowAt_some hp]
    cases i with
    | zero => exact asg p _ hm (by simp)
    | succ i => exact asg p _ hm (rowAt_len hb)
  · have hm := List.mem_of_getElem? hp
    obtain ⟨rfl, hle, fl⟩ := hv
    have e1 : rowAt bs its xs.length i ++ ps.map some = (bs p).map some ++ ps.map some := by rw [rowAt_some hp]
    have e2 : stAt bs its xs.length ps (i + 1) = (bs p).map some ++ ps.map some := e1
    have F : FS C B' S' _ _ _ (rowAt bs its xs.length i ++ ps.map some) s'.heap := F
    rw [e1] at F
    rw [e2]
    have e3 : (its.take (i + 1)).map g = (its.take i).map g ++ [g p] := by rw [List.take_add_one, hp, List.map_append]; rfl
    have hlr : r.length ≤ sizeLine := by
      rw [fl.len, List.length_map, List.length_take]
      exact Nat.le_trans (Nat.min_le_right _ _) hn
    refine ⟨?_⟩
    show wpAny _ _ (testsOf [] _) _ _ _
    unfold testsOf
    rw [List.forIn_nil]
    refine wpAny_pure ?_
    simp only [if_true]
    refine wpAny_bind ((hel p L S' hm sub).run A s' _ E' R (K.inv F.inv) fun t h₂ tk₂ g₂ a b => wpAny_bind ?_)
    have F₂ := F.gr g₂
    obtain ⟨hS, hB, vs, m, ht, rl⟩ := F₂.vol _ (.head _)
    refine append_any ht (by rw [List.size_toArray, rl.length]; exact hlr) (wpAny_pure ?_)
    have hs := Heap.SameBut.update h₂ D (Obj.mapSeq fun xs => xs.push (.float (g p) t))
    have gb : GrB D h₂ (h₂.update D (Obj.mapSeq fun xs => xs.push (.float (g p) t))) := .of hs fun o ws e q => by rw [ht] at e; cases e; cases q
    have kp : Kp S' h₂ (h₂.update D (Obj.mapSeq fun xs => xs.push (.float (g p) t))) := fun b o hb e => (hs.2 b fun q => (DD.ne hb).2.2 (q ▸ hS)).trans e
    refine ⟨_, tk₂, _, rfl, ⟨r ++ [.raw (.float (g p) t)], [], rfl, rfl, Nat.le_trans hle (Nat.le_trans a (Nat.le_trans (Nat.le_succ t) b)), ?_⟩, F₂.turn gb ⟨vs ++ [.float (g p) t], _, by have := ht.update (fun xs => xs.push (.float (g p) t)); simpa using this, (rl.append (.cons (.raw _) .nil)).kp kp⟩⟩
    rw [e3]
    exact (fl.mono (Nat.le_trans a (Nat.le_trans (Nat.le_succ t) b))).snoc (Nat.le_trans hle a) b
  · obtain ⟨rfl, hle, fl⟩ := hv
    rw [List.take_length] at fl
    refine ⟨m, ns, fun h'' hs => ?_⟩
    obtain ⟨oL, es, ep, hoL, hdL, _⟩ := id ns
    have g0 : Gr s.heap h' := ⟨fun b o n1 n2 e => k b o (by simp) n1 n2 e, fun _ => T⟩
    have n68 := T.ne hoL fun vs q => by rw [hdL] at q; cases q
    have g' : Gr s.heap h'' := ⟨fun b o n1 n2 e => (hs.2 b fun q => by rw [q, hL0] at e; cases e).trans (g0.k b o n1 n2 e), fun t => (g0.tab t).but (fun b o n e => (hs.2 b n).trans e) fun o vs e q => by rw [hoL] at e; cases e; rw [hdL] at q; cases q⟩
    obtain ⟨vs, n', hl, rl⟩ := vl
    exact H r _ h'' tk' g' fl (.lst hD ((hs.2 D fun q => hLD q.symm).trans hl) ((rl.kp fun b o hb e => (hs.2 b fun q => (DD.ne hb).2.2 (q ▸ .head _)).trans e).less fun b hb => .tail _ hb))⟩
end
section
variable {C : Cx} {A : Around} {B : Heap} {S : List Addr} {V : List (Addr × List PV)} {env : Env} {nm : List Str} {ρ : List (Option PV)} {k : Nat} {s : Shared} {Q : Flow → Shared → Prop} {E : Value → Shared → Prop} {n : Nat}
theorem X.assignFl {e : PySem.Expr} {x : Str} {px pos : Pos} {rest : List Stmt} {ys : List UInt64} {ρ' : List PV → List (Option PV)} (hn : n ≤ s.toks) (F : FS C B S V env nm ρ s.heap) (M : Fm env nm) (R : Room k A) (he : CompT C S env nm ρ k e ys) (st : ∀ r, SetAt nm ρ x (.lst r) (ρ' r))
    (K : ∀ r h' tk', FS C B S V env nm (ρ' r) h' → FlR n tk' ys r → n ≤ tk' → X C A env rest Q E { s with heap := h', toks := tk' })
    (hs : swapsWith e (some (.Name x px)) pos.line env = pure false := by rfl) (hf : (env.kindOf x == some .free) = false := by kernel_rfl) : X C A env (.Assign [.Name x px] e pos :: rest) Q E s :=
  ⟨wpAny_execs_cons (wpAny_toks1 hn (wpAny_Assign_Name (wpAny_toks1 (Nat.le_refl s.toks) (he.run A s _ E n hn R F.inv fun r v h' tk g fl rl => fun (hle : s.toks ≤ tk) => wpAny_toks1 (s := { s with heap := h', toks := tk }) (Nat.le_refl tk) (wp_store (s := { s with heap := h', toks := tk }) (F.gr g) M (st r) rl hf fun h'' tk'' _ F' => fun (h1 : tk ≤ tk'') (h2 : n ≤ tk'') => (K r h'' tk'' F' (fl.mono h1) h2).out))) hs))⟩
end
end Mine
end

section
open PySem PySem.W PyProof.Rows PySem.Calls
set_option maxRecDepth 100000
namespace Mine

/-- a method of the class, written in it -/
structure Mth (C : Cx) (name : Str) (f : Addr) : Prop where
  hf : findIn C.K (.ref HC) name = some (some (.ref f))
  ht : typeIn C.K (.ref f) = some (.type "function")
  hs : ∀ (e : DictEntry) (n : Nat) (tk : Tok), e.key = .str "_headers" tk → shadowIn (some (dictOf [e] n)) name = some false
  hk : keepIn C.K (.ref f) = true

section
variable {C : Cx} {S : List Addr} {env : Env} {nm : List Str} {ρ : List (Option PV)} {k : Nat}
theorem hdr_plain {C : Cx} {name : Str} : plainGet C.K HC name = true := by kernel_rfl
theorem hdr_own {C : Cx} : hasDictIn C.K HC = true := by kernel_rfl
theorem hdr_none {C : Cx} : findIn C.K (.ref HC) "_headers" = some none := by kernel_rfl
/-- self._headers -/
theorem Ev.hdrs {x : Str} {np pos : Pos} {a : Addr} (ho : Ev C S env nm ρ k (.Name x np) (.hdr a)) : Ev C S env nm ρ k (.Attribute (.Name x np) "_headers" pos) (.raw (.ref a)) := ⟨fun A s Q E R I H =>
  Attribute_name (ho.run A s _ E R I fun v h₁ tk₁ g₁ r => by
    obtain ⟨t, d, e, n, tk, rfl, h1, h2, h3, h4, h5, h6⟩ := r.inv
    · skip
      have hl : lookIn "_headers" (dictOf [e] n) = some (some (.ref a)) := by
        rw [lookIn_dict]
        have hk : e.key.isStr "_headers" = true := by rw [h5]; rfl
        unfold getL
        rw [List.find?_cons, hk]
        simp [h6]
      exact get_value (kIn (I.gr g₁).top) ⟨h3, rfl, rfl, h4⟩ (plainGet_of (name := "_headers") hdr_plain).1 (findObj_own hdr_own hdr_none rfl hl) rfl (H _ _ _ g₁ (.raw _)))⟩
/-- self.m(e, kw=q) -/
theorem Ev.methKW {x : Str} {np apos pos kpos : Pos} {name kw : Str} {e qe : PySem.Expr} {a f : Addr} {p q r : PV} (ho : Ev C S env nm ρ k (.Name x np) (.hdr a)) (he : Ev C S env nm ρ k e p) (hq : Ev C S env nm ρ k qe q) (m : Mth C name f) (hc : CallKW C S k (.ref f) [.hdr a, p] kw q r)
    (hs : starEach [e] env = [(false, eval e env)] := by rfl) (hkw : backToKw pos (keywordEach [⟨some kw, qe, kpos⟩] env) = [(some kw, eval qe env >>= fun v => standAt pos >>= fun _ => pure v)] := by rfl) {pl : Sem Bool}
    (hcl : eval (.Call (.Attribute (.Name x np) name apos) [e] [⟨some kw, qe, kpos⟩] pos) env = (do
      let ov ← eval (.Name x np) env
      standAt apos.atName
      let (f, first) ← holding [ov] (getMethod ov name pl)
      callWith pos f first (backTo pos (starEach [e] env)) (backToKw pos (keywordEach [⟨some kw, qe, kpos⟩] env))) := by rfl) :
    Ev C S env nm ρ k (.Call (.Attribute (.Name x np) name apos) [e] [⟨some kw, qe, kpos⟩] pos) r := ⟨fun A s Q E R I H =>
  methodCall_KW (ho.run A s _ E R I fun v h₁ tk₁ g₁ rv => by
    have rv0 := rv
    obtain ⟨t, d, en, n, tk, rfl, h1, h2, h3, h4, h5, h6⟩ := rv.inv
    · skip
      refine method_fn (kIn (I.gr g₁).top) ⟨h3, rfl, rfl, h4⟩ (plainGet_of (name := name) hdr_plain).1 (plainGet_of (name := name) hdr_plain).2 m.hf m.ht (m.hs _ _ _ h5) ?_
      refine callWith_KW (kIn (I.gr g₁).top) m.hk (by rw [hkw]; rfl) ((EvL.cons he EvL.nil (hs.trans rfl)).run A _ _ E R (I.gr g₁) fun vs h₂ tk₂ g₂ rl => ?_) (by rw [hs, hkw]; rfl) (hs.trans rfl)
      rw [hkw]
      refine wpAny_evalAll_cons (wpAny_bind (hq.run A _ _ E R ((I.gr g₁).gr g₂) fun u h₃ tk₃ g₃ ru => wpAny_bind (wpAny_standAt (wpAny_pure (wpAny_evalAll_nil ⟨kIn (((I.gr g₁).gr g₂).gr g₃).top, ?_⟩)))))
      have rl' : RelL S h₃ (.ref t :: vs) [.hdr a, p] := .cons ((rv0.gr g₂).gr g₃) (rl.gr g₃)
      exact hc.run A { s with heap := h₃, toks := tk₃ } Q E (.ref t :: vs) u R (((I.gr g₁).gr g₂).gr g₃).bs rl' ru (H.gr ((g₁.trans g₂).trans g₃))) hcl⟩
end
end Mine
end

section
open PySem PySem.W PyProof.Rows PySem.Calls
set_option maxRecDepth 100000
namespace Mine

section
variable {prog : Program} {w : World} {A : Around} {K : Frag} {Cl x : Addr} {s : Shared} {R : Result → Shared → Prop}
theorem osa_free {ox od od' : Obj} {dx : Addr} {name : Str} {tk : Tok} {v : Value} {es : List DictEntry} {n : Nat} (X : K.In s.heap)
    (I : InstAt s.heap x ox Cl (some od)) (hd : ox.dict = some dx) (D : s.heap.get? dx = some od) (hp : plainOver K Cl = true) (ht : takerIn K Cl name = some none) (hh : (clsIn K Cl).any (·.hasDict) = true)
    (hl : (lookIn name od).isSome = true)
    (e : Obj.putName name (PyData.keyHash w.params name) (.str name s.toks) v od = od') (e' : od'.data = .dict es.toArray n) (hz : es.length ≤ 1000)
    (h : (s.heap.update dx (Obj.putName name (PyData.keyHash w.params name) (.str name s.toks) v)).get? dx = some od' → R (.ok (.ret .none)) { s with heap := s.heap.update dx (Obj.putName name (PyData.keyHash w.params name) (.str name s.toks) v), toks := s.toks + 1 }) :
    codeAny (model prog w) A (.call (.builtin "object.__setattr__") ⟨[.ref x, .str name tk, v], []⟩) R s := by
  refine osa_open X I hp ht fun b => ?_
  obtain ⟨cd, hc, hd'⟩ := any_some hh
  have D' : (s.heap.update dx (Obj.putName name (PyData.keyHash w.params name) (.str name s.toks) v)).get? dx = some od' := by
    rw [Heap.get?_update_self _ D (by rw [e]; obtain ⟨_, _, dd, _⟩ := od'; cases e'; rfl), e]
  have h := h D'
  obtain ⟨hx, hcl, hn, -⟩ := I
  obtain ⟨oc, odi, oda, osl⟩ := ox
  dsimp only at hcl hd
  subst hcl hd
  refine wpAny_bind (wpAny_pure (wpAny_bind (wpAny_bind (wpAny_loadPart hx (wpAny_bind ((looks_clsIn X hc).here ?_))))))
  rw [hd']
  refine wpAny_pure (a := some dx) (wpAny_bind (wpAny_pure (wpAny_bind ?_)))
  unfold nsSet
  refine wpAny_bind (wpAny_bind (wpAny_askSetting (wpAny_pure (wpAny_bind (wpAny_mkText (wpAny_bind (wpAny_loadPart D ?_)))))))
  unfold lookIn at hl
  split at hl
  · rename_i es₀ n₀ q
    rw [q]
    dsimp only
    have c : (!es₀.any (·.key.isStr name) && es₀.any (·.refKey)) = false := by
      rw [← Array.any_toList, ← Array.any_toList]
      split at hl
      · rename_i en he
        rw [List.any_eq_true.mpr ⟨en, List.mem_of_find?_eq_some he, List.find?_some he⟩]; rfl
      · split at hl
        · cases hl
        · rename_i z; rw [Bool.not_eq_true] at z; rw [z, Bool.and_false]
    rw [aRefKeyMayBeTheName_at, c]
    refine wpAny_updatePart D ?_
    refine wpAny_bind (wpAny_lookBehind D' (by rw [e']; exact pastItsLine_dict (by rw [List.size_toArray, sizeLine_eq]; (first | lia | omega))) ?_)
    exact wpAny_pure h
  · cases hl
end

section
variable {C : Cx} {A : Around} {B : Heap} {S : List Addr} {V : List (Addr × List PV)} {env : Env} {nm : List Str} {ρ : List (Option PV)} {k : Nat} {s : Shared} {Q : Flow → Shared → Prop} {E : Value → Shared → Prop}
/-- a test that reads the lists that may turn -/
structure TrV (C : Cx) (B : Heap) (S : List Addr) (V : List (Addr × List PV)) (env : Env) (nm : List Str) (ρ : List (Option PV)) (k : Nat) (e : PySem.Expr) (b : Bool) : Prop where
  run : ∀ (A : Around) (s : Shared) (Q : Bool → Shared → Prop) (E : Value → Shared → Prop), Room k A → FS C B S V env nm ρ s.heap → (∀ h' tk, Gr s.heap h' → Q b { s with heap := h', toks := tk }) → wpAny (model PW C.w) A (isTrue e env (eval e env)) Q E s
theorem X.ifsV {test : PySem.Expr} {body orelse rest : List Stmt} {pos : Pos} {b : Bool} (F : FS C B S V env nm ρ s.heap) (R : Room k A) (ht : TrV C B S V env nm ρ k test b)
    (h1 : b = true → ∀ h' tk', FS C B S V env nm ρ h' → X C A env body (Then C A env rest Q E) E { s with heap := h', toks := tk' })
    (h2 : b = false → ∀ h' tk', FS C B S V env nm ρ h' → X C A env orelse (Then C A env rest Q E) E { s with heap := h', toks := tk' }) : X C A env (.If test body orelse pos :: rest) Q E s := by
  have key : ∀ (f : Flow) (s' : Shared), Then C A env rest Q E f s' → (match f with | .next => wpAny (model PW C.w) A (execs rest env) Q E s' | f => Q f s') := fun f s' h => by
    cases f <;> first | exact h | exact X.out h
  refine ⟨wpAny_execs_cons (wpAny_If (ht.run A s _ E R F fun h' tk g => ?_))⟩
  cases b with
  | true => exact wpAny_mono (h1 rfl h' tk (F.gr g)).out key fun _ _ e => e
  | false => exact wpAny_mono (h2 rfl h' tk (F.gr g)).out key fun _ _ e => e
theorem TrV.tyList {x : Str} {np lp cp pos : Pos} {d : PySem.Expr} {a : Addr} {l : List PV} (hm : (a, l) ∈ V) (hf : Ev C S env nm ρ k (.Name x np) (.raw (.type "type"))) (hd : Ev C S env nm ρ k d (.raw (.ref a))) (hr : Ev C S env nm ρ k (.Name "list" lp) (.raw (.type "list")))
    (he : starEach [d] env = (false, eval d env) :: starEach [] env := by rfl) (hp' : (backTo cp (starEach [] env)).any (·.1) = false := by rfl) : TrV C B S V env nm ρ k (.Compare (.Call (.Name x np) [d] [] cp) [.IsNot] [.Name "list" lp] pos) false := ⟨fun A s Q E R F H =>
  wpAny_isTrue_Compare1 (wpAny_Call_Name_kw (hf.run A s _ E R F.inv fun v h₁ tk₁ g₁ r => by
    obtain ⟨_, rfl⟩ := r.inv
    refine PyProof.Rows.callWith_type1 ((EvL.cons hd EvL.nil he).run A _ _ E R (F.inv.gr g₁) fun vs h₂ tk₂ g₂ rl => ?_) he hp'
    obtain ⟨_, rfl, r1⟩ := rl.inv1
    obtain ⟨_, rfl⟩ := r1.inv
    · skip
      have F₂ := (F.gr g₁).gr g₂
      obtain ⟨_, _, ws, n, hl, _⟩ := F₂.vol _ hm
      refine call_type_of (Heap.IsList.typeIs (s := { s with heap := h₂, toks := tk₂ }) hl.isList) (by decide) ?_
      refine hr.run A { s with heap := h₂, toks := tk₂ } _ E R F₂.inv fun u h₃ tk₃ g₃ ru => ?_
      obtain ⟨_, rfl⟩ := ru.inv
      exact wpAny_isNot_self rfl (wpAny_truthy_bool (H _ _ ((g₁.trans g₂).trans g₃))))) rfl⟩
theorem Tr.debug {pos : Pos} : Tr C S env nm ρ k (.Name "__debug__" pos) true := ⟨fun A s Q E R I H => by
  refine isTrue_plain ?_ rfl
  show wpAny _ _ (standAt pos >>= fun _ => debugConstant) _ _ _
  refine wpAny_bind (wpAny_standAt (wpAny_bind (wpAny_rule (wpAny_pure ?_))))
  exact wpAny_truthy_bool (H _ _ Gr.rfl)⟩
/-- nothing to walk over -/
theorem IterR.none {tgt : PySem.Expr} : IterR C S k tgt (.lst []) [] := ⟨fun A s v Q E R B r H => by
  obtain ⟨a, vs, n, rfl, hn, hl, rl⟩ := r.inv
  · skip
    obtain rfl := rl.inv0
    refine wpAny_pyIter_list hl.isList ?_
    have nI := DD.ne B.new
    have W := Walks.list (prog := PW) (w := C.w) R.hh s.heap.objs.size a (Nat.ne_of_lt (Heap.lt_size hl)) ([] : List Value).toArray
    refine H _ _ _ _ _ s.toks Gr.push ⟨W.sub, ex2 ⟨_, hl⟩, fun i h st => ?_, W.frame, fun s Q E st h => W.self 0 s Q E st h, fun i p T s Q E hp => by simp at hp, fun s Q E st K => W.done s Q E st K⟩ ⟨⟨_, Heap.get?_push_size _ rfl, rfl, rfl⟩, hl.isList.push _⟩
      (fun b hb => by rw [List.mem_singleton] at hb; exact hb ▸ new_none _) (fun b hb => by
        rcases List.mem_cons.mp hb with rfl | hb
        · exact B.new
        · rw [List.mem_singleton] at hb; exact hb ▸ hn)
    obtain ⟨o, ho, hc, hd⟩ := st.1
    exact nc_iter (l := a) nI.1 nI.2.1 ho hd fun x t => by simp [rawInt]⟩
/-- back to a lower base -/
theorem FS.lower {B' h : Heap} (F : FS C B S V env nm ρ h) (hb : ∀ b o, B'.get? b = some o → B.get? b = some o) (h0 : C.B₀.StaysIn B') (hf : ∀ x c, env.kindOf x = some .free → env.cells.lookup x = some c → False) : FS C B' S V env nm ρ h := by
  have nn : ∀ a, B.get? a = none → B'.get? a = none := fun a ha => by
    cases e : B'.get? a with
    | none => rfl
    | some o => rw [hb a o e] at ha; cases ha
  exact ⟨F.inv, h0, ⟨fun b o n m e => F.base.k b o n m (hb b o e), fun _ => F.tabs⟩, nn _ F.bl, fun q hq => let ⟨a, b, c⟩ := F.vol q hq; ⟨a, nn _ b, c⟩, F.vnd, F.ls, F.loc, fun x c a b => let ⟨d, e, f⟩ := F.cls x c a b; ⟨d, nn _ e, f⟩, F.inj, fun x c a b => (hf x c a b).elim⟩
/-- a place of S, of no list and not the frame's own, is overwritten -/
theorem FS.poke {h h' : Heap} {a : Addr} {o₀ o : Obj} (F : FS C B S V env nm ρ h) (ha : a ∈ S) (hB : B.get? a = none) (ho₀ : h.get? a = some o₀) (hs : Heap.SameBut a h h') (ho : h'.get? a = some o)
    (hd : ∀ vs, o₀.data ≠ .fields vs) (hl : env.locals ≠ a) (hc : ∀ x c, env.cells.lookup x = some c → c ≠ a) (hv : ∀ q ∈ V, q.1 ≠ a) : FS C B S V env nm ρ h' := by
  have g : GrB a h h' := .of hs fun o vs e q => by rw [ho₀] at e; cases e; exact hd _ q
  obtain ⟨bs, gb, kp⟩ := F.core g ha hB ⟨o, ho⟩
  refine ⟨⟨bs, fun i x p hi hp => ?_⟩, F.b0, gb, F.bl, fun q hq => ?_, F.vnd, F.ls, ?_, fun x c p q => ?_, F.inj, F.frs⟩
  · obtain ⟨u, m, r⟩ := F.inv.names i x p hi hp
    exact ⟨u, m.grb F.tabs g (fun _ => hl) fun c w e _ => hc _ c e, r.kp kp⟩
  · obtain ⟨p, q', r⟩ := F.vol q hq
    exact ⟨p, q', r.grb F.tabs g (hv q hq) kp⟩
  · obtain ⟨m, hm⟩ := F.loc
    obtain ⟨o, es, ep, ho, hd, _⟩ := id hm
    have u := F.tabs.ne ho fun vs q => by rw [hd] at q; cases q
    exact ⟨m, ns_at hm fun o e => g.k _ o hl u.1 u.2 e⟩
  · obtain ⟨d, e, v, f⟩ := F.cls x c p q
    obtain ⟨o, ho, hd⟩ := id f
    have u := F.tabs.ne ho fun vs q => by rw [hd] at q; cases q
    exact ⟨d, e, v, isCell_at f fun o e => g.k _ o (hc x c q) u.1 u.2 e⟩
end
end Mine
end

section
open PySem PySem.W PyProof.Rows PySem.Calls
set_option maxRecDepth 100000
set_option maxHeartbeats 4000000
namespace Mine
section
variable {C : Cx} {A : Around} {B : Heap} {S : List Addr} {V : List (Addr × List PV)} {env : Env} {nm : List Str} {ρ : List (Option PV)} {k : Nat} {s : Shared} {Q : Flow → Shared → Prop} {E : Value → Shared → Prop}
theorem X.sethdr {B' : Heap} {t d a : Addr} {o e : PySem.Expr} {apos pos : Pos} {rest : List Stmt} (F : FS C B S V env nm ρ s.heap) (R : Room k A) (ho : Ev C S env nm ρ k o (.raw (.ref t))) (he : Ev C S env nm ρ k e (.raw (.ref a)))
    (nt : t ≠ 68 ∧ t ≠ 75) (nd : d ≠ 68 ∧ d ≠ 75) (ntd : t ≠ d) (ht : B.get? t = some (instObj HC d)) (hd : B.get? d = some emptyDict) (hdS : d ∈ S) (hb : ∀ b o, B'.get? b = some o → B.get? b = some o) (h0 : C.B₀.StaysIn B') (hB' : B'.get? d = none) (hnc : env.cells = [])
    (K : ∀ h' tk' en n tkk, FS C B' S V env nm ρ h' → h'.get? t = some (instObj HC d) → h'.get? d = some (dictOf [en] n) → en.key = .str "_headers" tkk → en.val = .ref a → X C A env rest Q E { s with heap := h', toks := tk' })
    (hs : swapsWith e (some (.Attribute o "_headers" apos)) pos.line env = pure false := by rfl) : X C A env (.Assign [.Attribute o "_headers" apos] e pos :: rest) Q E s :=
  ⟨wpAny_execs_cons (plainObj_wpAny_Assign_Attribute (he.run A s _ E R F.inv fun v h₁ tk₁ g₁ rv => ho.run A _ _ E R (F.inv.gr g₁) fun w h₂ tk₂ g₂ rw_ => by
    obtain ⟨_, rfl⟩ := rv.inv
    obtain ⟨_, rfl⟩ := rw_.inv
    have F₂ := (F.gr g₁).gr g₂
    have D : h₂.get? d = some emptyDict := F₂.base.k d _ nd.1 nd.2 hd
    have T : h₂.get? t = some (instObj HC d) := F₂.base.k t _ nt.1 nt.2 ht
    have I : InstAt h₂ t (instObj HC d) HC (some emptyDict) := ⟨T, rfl, rfl, D⟩
    have X := kIn F₂.inv.top
    refine set_plain (s := { s with heap := h₂, toks := tk₂ }) X I (by kernel_rfl) (osa_free (s := { s with heap := h₂, toks := tk₂ + 1 }) (od' := dictOf [⟨PyData.keyHash C.w.params "_headers", .str "_headers" (tk₂ + 1), .ref a⟩] 1) X I rfl D (by kernel_rfl) (by kernel_rfl) (by kernel_rfl) (by rfl) (putName_dict _ _ _ _ [] 0) rfl (Nat.le_of_ble_eq_true rfl) fun D' => ?_)
    have sb := Heap.SameBut.update h₂ d (Obj.putName "_headers" (PyData.keyHash C.w.params "_headers") (.str "_headers" (tk₂ + 1)) (.ref a))
    have FL := F₂.lower hb h0 fun x c _ hc => by rw [hnc] at hc; cases hc
    have neV : ∀ q ∈ V, q.1 ≠ d := fun q hq e => by obtain ⟨_, b, _⟩ := F.vol q hq; rw [e, hd] at b; cases b
    have neL : env.locals ≠ d := fun e => by have := F.bl; rw [e, hd] at this; cases this
    have FP := FL.poke hdS hB' D sb D' (fun vs => by simp) neL (fun x c hc => by rw [hnc] at hc; cases hc) neV
    exact (K _ _ _ _ _ FP ((sb.2 t ntd).trans T) D' rfl rfl).out) hs)⟩
end
section
variable {C : Cx} {S : List Addr} {env : Env} {nm : List Str} {ρ : List (Option PV)} {k : Nat}
theorem EvN.iteF {t x y : PySem.Expr} {pos : Pos} {l : List PV} (ht : Tr C S env nm ρ k t false) (hy : EvN C S env nm ρ k y l) : EvN C S env nm ρ k (.IfExp t x y pos) l := ⟨fun A s Q E R I H =>
  IfExp_ (ht.run A s _ E R I fun h₁ tk₁ g₁ => hy.run A _ Q E R (I.gr g₁) fun vs h₂ tk g rl => H vs h₂ tk (g₁.trans g) rl)⟩
theorem CmpR.isnot_nn : CmpR C S k .IsNot .none .none false := ⟨fun A s Q E va vb R B ra rb H => by
  obtain ⟨_, rfl⟩ := ra.inv
  obtain ⟨_, rfl⟩ := rb.inv
  exact wpAny_isNot_self rfl (H.now (.bool _))⟩
end
theorem FS.anew {C : Cx} {B : Heap} {S : List Addr} {env : Env} {nm : List Str} {ρ : List (Option PV)} {h : Heap} (F : FS C B S [] env nm ρ h) (hc : env.cells = []) : ∃ B', FS C B' S [] env nm ρ h ∧ ∀ b o, b ≠ env.locals → h.get? b = some o → B'.get? b = some o := by
  obtain ⟨own, F3⟩ := F.rebase (fun q hq => by rw [hc] at hq; cases hq)
  refine ⟨_, F3, fun b o hb e => hideAll_get _ e fun q => ?_⟩
  unfold ownAt at q
  rw [hc] at q
  rcases List.mem_cons.mp q with q | q
  · exact hb q
  · simp at q
theorem blt_list {C : Cx} : Blt C "list" (.type "list") := ⟨by kernel_rfl, by boot_fast, by decide, by decide⟩

/-- Headers() -/
theorem headers_new {C : Cx} {S : List Addr} {A : Around} {s : Shared} {Q : Value → Shared → Prop} {E : Value → Shared → Prop} (R : Room 8 A) (B : Bs C S s.heap)
    (H : ∀ t d a en n m tkk h' tk, Gr s.heap h' → s.heap.get? t = none → s.heap.get? d = none → s.heap.get? a = none → h'.get? t = some (instObj HC d) → h'.get? d = some (dictOf [en] n) → en.key = .str "_headers" tkk → en.val = .ref a → IsL h' a #[] m → Q (.ref t) { s with heap := h', toks := tk }) :
    wpAny (model PW C.w) A (call (.ref 255) [] []) Q E s := by
  refine wpAny_call ?_
  have KX := kIn B.top
  obtain ⟨hh, g, dr, tk, os⟩ := s
  refine make_core (makes_of KX (by kernel_rfl)) (looks_findIn KX (show findIn C.K (.ref HC) "__init__" = some (some (.ref 149)) by kernel_rfl)) (fun self => bind_fn KX self (by kernel_rfl)) (.inl rfl) ?_
  have hn0 : hh.get? hh.objs.size = none := new_none _
  have hn1 : hh.get? (hh.objs.size + 1) = none := Heap.get?_none_of_le (Nat.le_succ _)
  obtain ⟨d, hd⟩ : ∃ d, d = hh.objs.size := ⟨_, rfl⟩
  obtain ⟨t, ht⟩ : ∃ t, t = hh.objs.size + 1 := ⟨_, rfl⟩
  rw [← ht, ← hd]
  rw [← hd] at hn0
  rw [← ht] at hn1
  have kp : ∀ b o, hh.get? b = some o → ((hh.push emptyDict).push (instObj HC d)).get? b = some o := fun b o e => Heap.get?_push_of_some _ (Heap.get?_push_of_some _ e)
  have gD : ((hh.push emptyDict).push (instObj HC d)).get? d = some emptyDict := Heap.get?_push_of_some _ (hd ▸ Heap.get?_push_size _ rfl)
  have gT : ((hh.push emptyDict).push (instObj HC d)).get? t = some (instObj HC d) := by
    have := Heap.get?_push_size (hh.push emptyDict) (o := instObj HC d) rfl
    rw [Heap.size_push, ← ht] at this; exact this
  generalize hH : (hh.push emptyDict).push (instObj HC d) = h₁ at kp gD gT ⊢
  have g₁ : Gr hh h₁ := .of kp
  have T₁ := (B.gr g₁).tabs
  have nd := T₁.ne gD fun vs q => by cases q
  have nt := T₁.ne gT fun vs q => by cases q
  have B₁ : Bs C (d :: S) h₁ := ⟨(B.gr g₁).top, fun a ha => by
    rcases List.mem_cons.mp ha with rfl | ha
    · exact ⟨_, gD⟩
    · exact (B.gr g₁).off a ha, T₁⟩
  have kin := kIn B₁.top
  have hw : (Code.builtin "type.__call__" ⟨[.ref 255], []⟩).weight = 1 := by rfl
  have hu : (Code.builtin "type.__call__" ⟨[.ref 255], []⟩).cUnits = 1 := by rfl
  have RU : Room 7 (A.under (.builtin "type.__call__" ⟨[.ref 255], []⟩)) := ⟨R.hh, (by
    have := R.depth; show A.depth + (Code.builtin "type.__call__" ⟨[.ref 255], []⟩).weight + 7 < 1000; rw [hw]; (first | lia | omega)), (by
    have := R.units; show A.units + (Code.builtin "type.__call__" ⟨[.ref 255], []⟩).cUnits + 50 * 7 < 9900; rw [hu]; (first | lia | omega))⟩
  refine callBody (C := C) (k := 6) (ps := ["self", "headers"]) (rest := ["k", "v"]) (vs := [.ref t, .none]) (l := [.raw (.ref t), .none]) (Ent.pure B₁) RU (kin 149 _ (by rfl)) (by rfl) (codeRec_of kin (by kernel_rfl)) (binds_K (K := C.K) kin rfl (by rfl) rfl rfl rfl) (.cons (.raw _) (.cons .nn .nil)) rfl rfl (by decide) (by decide) (locs (by decide)) (by decide) (by decide) (fun A' s' L S' R M hS F hs => ?_)
  obtain ⟨h, tk, rfl⟩ := hs
  dsimp only [List.map_cons, List.map_nil, List.cons_append, List.nil_append] at M F
  have neL : d ≠ L := fun e => by have := F.bl; rw [show (envOfC _ _ L _ _).locals = L from rfl, ← e, gD] at this; cases this
  have hdS : d ∈ S' := by subst hS; exact List.mem_append_right _ (.tail _ (.head _))
  refine X.newl F M R (EvN.iteF (Tr.cmp (Ev.loc M (.s .z)) Ev.cnone CmpR.isnot_nn (by rfl)) (EvN.list EvL.nil (small (Nat.zero_le _)))) (fun f => .s .z) ?_
  intro a h tk haS haC F
  have ha0 : hh.get? a = none := by
    obtain ⟨_, b, _⟩ := F.vol _ (.head _)
    cases e : hh.get? a with
    | none => rfl
    | some o => rw [kp a o e] at b; cases b
  refine X.ifsV F R (TrV.tyList (.head _) (Ev.bl M blt_type (by kernel_rfl)) (Ev.loc M (.s .z)) (Ev.bl M blt_list (by kernel_rfl))) (fun hb => by cases hb) (fun hb h tk F => ?_)
  refine X.next ?_
  refine X.sethdr (B' := hh) F R (Ev.loc M .z) (Ev.loc M (.s .z)) nt nd (fun e => by rw [e] at gT; rw [gD] at gT; cases gT) gT gD (.tail _ hdS) kp B.top hn0 (by rfl) ?_
  intro h tk en n tkk F hT hD hk hv
  obtain ⟨_, _, ws, m, hl, rl⟩ := F.vol _ (.head _)
  obtain rfl := rl.inv0
  have F2 := F.freeze M haS (.s .z) (.s .z)
  obtain ⟨B', F3, up⟩ := F2.anew rfl
  have na := F.tabs.ne hl fun vs q => by cases q
  obtain ⟨mL, oL, _, _, hoL, hdL, _⟩ := F2.loc
  have bl2 := F2.bl
  have base : ∀ b o, hh.get? b = some o → b ≠ 68 → b ≠ 75 → B'.get? b = some o := fun b o e n1 n2 => up b o (fun q => by rw [q, bl2] at e; cases e) (F2.base.k b o n1 n2 e)
  have bT := up t _ (fun q => by rw [q, hoL] at hT; injection hT with hT; rw [hT] at hdL; cases hdL) hT
  have bD := up d _ neL hD
  have hl : h.get? a = _ := hl
  have bA := up a _ (fun q => by rw [q, hoL] at hl; injection hl with hl; rw [hl] at hdL; cases hdL) hl
  refine X.ifs (b := true) F3 R (Tr.val Ev.cbool rfl rfl) (fun hb h tk F => ?_) (fun hb => nomatch hb)
  refine X.forNone F R F.inv (EvIter.of (Ev.loc M (.s .z)) IterR.none) ?_
  intro h tk F
  refine X.next ?_
  refine X.nil ?_
  exact ⟨rfl, H t d a en n m tkk h tk ⟨fun b o n1 n2 e => F.base.k b o n1 n2 (base b o e n1 n2), fun _ => F.tabs⟩ hn1 hn0 ha0 (F.base.k t _ nt.1 nt.2 bT) (F.base.k d _ nd.1 nd.2 bD) hk hv (F.base.k a _ na.1 na.2 bA)⟩
end Mine
end

section
open PySem PySem.W PyProof.Rows PySem.Calls
set_option maxRecDepth 100000
set_option maxHeartbeats 4000000
namespace Mine
section
variable {C : Cx} {A : Around} {B : Heap} {S : List Addr} {V : List (Addr × List PV)} {env : Env} {nm : List Str} {ρ : List (Option PV)} {k : Nat} {s : Shared} {Q : Flow → Shared → Prop} {E : Value → Shared → Prop}
/-- for ... in x.items(), x an empty dict -/
theorem X.forItems0 {d : Addr} {x : Str} {np apos cp pos : Pos} {tgt : PySem.Expr} {body rest : List Stmt} (F : FS C B S V env nm ρ s.heap) (M : Fm env nm) (R : Room k A) (g : GetAt nm ρ x (.raw (.ref d))) (hd : B.get? d = some emptyDict) (nd : d ≠ 68 ∧ d ≠ 75) (hd1 : (d == sysModules) = false)
    (K : ∀ h' tk', FS C B S V env nm ρ h' → X C A env rest Q E { s with heap := h', toks := tk' })
    (hbase : attributeBase (.Name x np) "items" env (eval (.Name x np) env) = eval (.Name x np) env := by rfl) (hline : (apos.endLine == cp.line) = true := by rfl)
    (hs : ∀ y, foldedSetIterable (.Call (.Attribute (.Name x np) "items" apos) [] [] cp) env y = pure y := by intro _; rfl) : X C A env (.For tgt (.Call (.Attribute (.Name x np) "items" apos) [] [] cp) body [] pos :: rest) Q E s := ⟨by
  have D : s.heap.get? d = some emptyDict := F.base.k d _ nd.1 nd.2 hd
  have da : ∀ h : Heap, h.get? d = some emptyDict → h.DictAt (PySem.intKind PW C.w) d [] 0 := fun h e => ⟨_, #[], e, ⟨rfl, rfl, rfl⟩, rfl, fun e h => by simp at h, .nil, by simp⟩
  obtain ⟨i, hi, hp⟩ := g.idx
  refine wpAny_execs_cons (wpAny_For (wpAny_Call_items hd1 (kvs := []) (knd := PySem.intKind PW C.w) ?_ hbase hline (fun Q' hq => ?_) ?_) hs)
  · exact ⟨_, #[], 0, D, ⟨rfl, rfl, rfl⟩, rfl, fun e h => by simp at h, .nil, by simp⟩
  · obtain ⟨v, n, r⟩ := F.inv.names i x _ hi hp
    obtain ⟨_, rfl⟩ := r.inv
    exact n.load M.kind (M.dbg x (List.mem_of_getElem? hi)) hq
  · have D1 : (s.heap.push { cls := .type "dict_items", data := .fields #[.ref d] }).get? d = some emptyDict := Heap.get?_push_of_some _ D
    have hv : (s.heap.push { cls := .type "dict_items", data := .fields #[.ref d] }).IsItemsView s.heap.objs.size d := ⟨_, Heap.get?_push_size _ rfl, rfl, rfl⟩
    refine wpAny_pyIter_items (knd := PySem.intKind PW C.w) (s := { s with heap := s.heap.push { cls := .type "dict_items", data := .fields #[.ref d] } }) hv (da _ D1) ?_
    generalize hH : s.heap.push { cls := .type "dict_items", data := .fields #[.ref d] } = h₁ at D1 ⊢
    have g1 : Gr s.heap h₁ := hH ▸ Gr.push
    have g2 : Gr h₁ (h₁.push { cls := .type "dict_itemiterator", data := .fields #[.none, .bool false, .ref d, .int 0 0, .int (([] : List (Int × Value)).length) 0, .int (0 : Nat) 0, .none, .none] }) := Gr.push
    have D2 := Heap.get?_push_of_some { cls := .type "dict_itemiterator", data := .fields #[.none, .bool false, .ref d, .int 0 0, .int (([] : List (Int × Value)).length) 0, .int (0 : Nat) 0, .none, .none] } D1
    have hit : IsItemIter (h₁.push { cls := .type "dict_itemiterator", data := .fields #[.none, .bool false, .ref d, .int 0 0, .int (([] : List (Int × Value)).length) 0, .int (0 : Nat) 0, .none, .none] }) h₁.objs.size d 0 ([] : List (Int × Value)).length 0 .none .none := Heap.get?_push_size _ rfl
    have hI0 : h₁.get? h₁.objs.size = none := new_none _
    have F1 := (F.gr g1)
    dsimp only at hit D2 g2 ⊢
    generalize hH2 : h₁.push { cls := .type "dict_itemiterator", data := .fields #[.none, .bool false, .ref d, .int 0 0, .int (([] : List (Int × Value)).length) 0, .int (0 : Nat) 0, .none, .none] } = h₂ at hit D2 g2 ⊢
    refine codeAny_forLoop_any (fun n s' => n = 0 ∧ s' = { s with heap := h₂ }) ?_ 0 ⟨rfl, rfl⟩
    rintro n s' ⟨rfl, rfl⟩
    refine wpAny_pyNext_items_end (knd := PySem.intKind PW C.w) R.hh hit (da _ D2) (by simp) fun h₃ he => wpAny_execs_nil ?_
    have nI := DD.ne F1.bs.new
    have g3 : Gr h₁ h₃ := ⟨fun b o n m e => he b o (fun q => by rw [q, hI0] at e; cases e) (g2.k b o n m e), fun t => (g2.tab t).off (wr := [h₁.objs.size]) (fun b o hb e => he b o (fun q => hb (q ▸ .head _)) e) (nc_iter (l := 0) nI.1 nI.2.1 hit rfl fun x t => by simp)⟩
    exact (K h₃ _ (F1.gr g3)).out⟩
end

theorem CallKW.le {C : Cx} {S : List Addr} {k k' : Nat} {f : Value} {l : List PV} {kw : Str} {q p : PV} (h : CallKW C S k f l kw q p) (hk : k ≤ k') : CallKW C S k' f l kw q p := ⟨fun A s Q E vs v R B rl rv H => h.run A s Q E vs v (R.le hk) B rl rv H⟩
theorem CmpR.isnot_sn {C : Cx} {S : List Addr} {k : Nat} {x : Str} : CmpR C S k .IsNot (.str x) .none true := ⟨fun A s Q E va vb R B ra rb H => by
  obtain ⟨_, rfl⟩ := ra.inv
  obtain ⟨_, rfl⟩ := rb.inv
  exact wpAny_isNot_plain rfl (H.now (.bool _))⟩
theorem mth_convert {C : Cx} : Mth C "_convert_string_type" 156 := ⟨by kernel_rfl, by kernel_rfl, fun e n tk he => by
  have hk : e.key.isStr "_convert_string_type" = false := by rw [he]; rfl
  have hr : e.refKey = false := by unfold DictEntry.refKey; rw [he]
  show (lookIn _ (dictOf [e] n)).map _ = _
  rw [lookIn_dict]
  unfold getL
  rw [List.find?_cons, hk]
  simp [hr], by kernel_rfl⟩
/-- the header that add_header lays -/
theorem add_header {C : Cx} {S : List Addr} {a : Addr} {xs : List PV} {n v : Str} (hn : Plain n) (hnz : n.cps.size < 2 ^ 62) (hv : Plain v) (hvz : v.cps.size < 2 ^ 62) (hvl : v.length ≤ 1000) (hxl : xs.length ≤ 10000) (hCa : C.B₀.get? a = none) :
    CallV C S 10 a xs (xs ++ [.tup [.str n, .str v]]) (.ref 252) [.hdr a, .str n, .str v] .none := ⟨fun A s Q E vs R B ha vl rl H => by
  have kin0 := kIn B.top
  obtain ⟨hh, gg, dr, tk, os⟩ := s
  have g₁ : Gr hh (hh.push emptyDict) := Gr.push
  have B₁ := B.gr g₁
  have hdp : (hh.push emptyDict).get? hh.objs.size = some emptyDict := Heap.get?_push_size _ rfl
  obtain ⟨dp, hdpe⟩ : ∃ dp, dp = hh.objs.size := ⟨_, rfl⟩
  have ndp := DD.ne (hdpe ▸ B.new : dp ∉ DD S)
  have hd1 : (dp == sysModules) = false := by
    have : 252 < dp := hdpe ▸ Heap.lt_size (kin0 252 _ (by rfl))
    rw [beq_eq_false_iff_ne]; intro q; rw [q] at this; exact absurd this (by decide)
  rw [← hdpe] at hdp
  have vl1 : VL S (hh.push emptyDict) a xs := vl.gr B.tabs g₁
  have rl1 : RelL S (hh.push emptyDict) vs [.hdr a, .str n, .str v] := rl.gr g₁
  have hda : dp ≠ a := fun q => by obtain ⟨o, ho, _⟩ := vl.seq; exact absurd (Heap.lt_size ho) (by rw [← q, hdpe]; exact Nat.lt_irrefl _)
  refine wpAny_call (callBodyG (C := C) (B := hideAll (hh.push emptyDict) [a]) (s₁ := ⟨hh.push emptyDict, gg, dr, tk, os⟩) (k := 9) (ps := ["self", "_name", "_value", "_params"]) (rest := ["parts", "k", "v"]) (vs := vs ++ [.ref dp]) (l := [.hdr a, .str n, .str v, .raw (.ref dp)]) (Ent.at B₁ hCa ha vl1) R
    (kin0 _ _ (by rfl)) (by rfl) (codeRec_of kin0 (by kernel_rfl)) (fun M A' E' Q' hq => ?_) (rl1.append (.cons (.raw _) .nil)) rfl rfl (by decide) (by decide) (locs (by decide)) (by decide) (by decide) (fun A' s' L S' R M hS F hs => ?_))
  · revert hq
    apply vs3 rl.length; intro x y z hq
    · skip
      show wpAny M A' (alloc emptyDict >>= fun d => pure ([("self", x), ("_name", y), ("_value", z), ("_params", .ref d)] : List (Str × Value))) Q' E' _
      refine wpAny_bind (wpAny_alloc (wpAny_pure ?_))
      subst hdpe
      exact hq
  obtain ⟨h, tk, rfl⟩ := hs
  have sub : ∀ a ∈ S, a ∈ S' := by subst hS; exact fun a ha => List.mem_append_right _ (.tail _ ha)
  have bD : (hideAll (hh.push emptyDict) [a]).get? dp = some emptyDict := hideAll_get _ hdp fun q => hda (List.mem_singleton.mp q)
  dsimp only [List.map_cons, List.map_nil, List.cons_append, List.nil_append] at M F
  refine X.newl F M R (EvN.list EvL.nil (small (Nat.zero_le _))) (fun f => .s (.s (.s (.s .z)))) ?_
  intro pl h tk hpS hpC F
  refine X.ifs F R (Tr.cmp (Ev.loc M (.s (.s .z))) Ev.cnone CmpR.isnot_sn (by rfl)) (fun hb h tk F => ?_) (fun hb => nomatch hb)
  refine X.assign F M R (Ev.methKW (Ev.loc M .z) (Ev.loc M (.s (.s .z))) Ev.cbool mth_convert ((convert hv hvz).le (by (first | lia | omega)))) (.s (.s .z)) ?_
  intro h tk F
  refine X.append F R (Ev.loc M (.s (.s (.s (.s .z))))) (Ev.loc M (.s (.s .z))) (small (Nat.zero_le _)) ?_
  intro h tk F
  refine X.next ?_
  refine X.forItems0 F M R (.s (.s (.s .z))) bD ⟨ndp.1, ndp.2.1⟩ hd1 ?_
  intro h tk F
  have F := F.freeze M hpS (.s (.s (.s (.s .z)))) (.s (.s (.s (.s .z))))
  refine X.append F R (Ev.hdrs (Ev.loc M .z)) (Ev.tuple (EvL.cons (Ev.methKW (Ev.loc M .z) (Ev.loc M (.s .z)) Ev.cbool mth_convert ((convert hn hnz).le (by (first | lia | omega)))) (EvL.cons (Ev.meth1 Ev.cstr (Ev.loc M (.s (.s (.s (.s .z))))) (Meth1.join (ys := [v]) (by decide) (by simp; (first | lia | omega)))) EvL.nil)) (small (Nat.le_of_ble_eq_true rfl))) (small (by (first | lia | omega))) ?_
  intro h tk F
  refine X.nil ?_
  obtain ⟨_, _, vl⟩ := F.vol _ (.head _)
  refine H .none h tk ⟨fun b o n1 n2 n3 e => F.base.k b o n2 n3 (hideAll_get _ (g₁.k b o n2 n3 e) fun q => n1 (List.mem_singleton.mp q)), fun _ => F.tabs⟩ ?_ .nn
  have e : Txt.join "; " [v] = v := by rfl
  rw [e] at vl
  exact vl.less sub⟩
end Mine
end

section
open PySem PySem.W PyProof.Rows PySem.Calls
set_option maxRecDepth 100000
set_option maxHeartbeats 4000000
namespace Mine
local macro_rules | `(tactic| walk_at "my caps") => `(tactic| first | exact all_nil | (refine all_cons ⟨rfl, rfl, rfl, rfl, _, rfl⟩ ?_; walk_at "my caps"))
local macro_rules | `(tactic| walk_at "my subs") => `(tactic| first | exact lk_nil | (refine lk_cons ⟨by decide, rfl⟩ ?_; walk_at "my subs"))
local macro_rules | `(tactic| walk_at "my scope") => `(tactic| exact ⟨rfl, rfl, rfl, rfl, rfl, by decide, by decide, by decide, (by walk_at "my caps"), (by walk_at "my subs"), by decide, by decide⟩)
local macro_rules | `(tactic| walk_at "my cells") => `(tactic| first | exact all_nil | (refine all_cons (by first | exact .inl rfl | exact .inr ⟨rfl, rfl⟩) ?_; walk_at "my cells"))
/-- the table, its list turning or not -/
inductive IsHdr : PV → Prop
  | t (a : Addr) : IsHdr (.hdr a)
  | f (xs : List PV) : IsHdr (.hdrL xs)
theorem IsHdr.inst {S : List Addr} {h : Heap} {v : Value} {p : PV} (i : IsHdr p) (r : Rel S h v p) : ∃ t d e n tk, v = .ref t ∧ h.get? t = some (instObj HC d) ∧ h.get? d = some (dictOf [e] n) ∧ e.key = .str "_headers" tk := by
  cases i with
  | t a => obtain ⟨_, _, _, _, _, rfl, h1, h2, h3, h4, h5, h6⟩ := r.inv; exact ⟨_, _, _, _, _, rfl, h3, h4, h5⟩
  | f xs => obtain ⟨_, _, _, _, _, _, _, _, rfl, h1, h2, h3, h4, h5, h6, h7, h8, hl⟩ := r.inv; exact ⟨_, _, _, _, _, rfl, h4, h5, h6⟩
section
variable {C : Cx} {S : List Addr} {env : Env} {nm : List Str} {ρ : List (Option PV)} {k : Nat}
/-- self._headers, standing still -/
theorem Ev.hdrsL {x : Str} {np pos : Pos} {xs : List PV} (ho : Ev C S env nm ρ k (.Name x np) (.hdrL xs)) : Ev C S env nm ρ k (.Attribute (.Name x np) "_headers" pos) (.lst xs) := ⟨fun A s Q E R I H =>
  Attribute_name (ho.run A s _ E R I fun v h₁ tk₁ g₁ r => by
    obtain ⟨t, d, a, e, n, m, tk, vs, rfl, h1, h2, h3, h4, h5, h6, h7, h8, hl⟩ := r.inv
    · skip
      have hl' : lookIn "_headers" (dictOf [e] n) = some (some (.ref a)) := by
        rw [lookIn_dict]
        have hk : e.key.isStr "_headers" = true := by rw [h6]; rfl
        unfold getL
        rw [List.find?_cons, hk]
        simp [h7]
      exact get_value (kIn (I.gr g₁).top) ⟨h4, rfl, rfl, h5⟩ (plainGet_of (name := "_headers") hdr_plain).1 (findObj_own hdr_own hdr_none rfl hl') rfl (H _ _ _ g₁ (.lst h3 h8 hl)))⟩
/-- x.m(e, ...) of the class -/
theorem Ev.meth {x : Str} {np apos pos : Pos} {name : Str} {e : PySem.Expr} {es : List PySem.Expr} {f : Addr} {p0 r : PV} {l : List PV} (ho : Ev C S env nm ρ k (.Name x np) p0) (hp : IsHdr p0) (he : EvL C S env nm ρ k pos (e :: es) l) (m : Mth C name f) (hc : CallR C S k (.ref f) (p0 :: l) r)
    (hs : starEach (e :: es) env = (false, eval e env) :: starEach es env := by rfl) (hpl : ((backTo pos (starEach (e :: es) env)).any (·.1) || (backToKw pos (keywordEach [] env)).any (·.1.isNone)) = false := by rfl) {pl : Sem Bool}
    (hcl : eval (.Call (.Attribute (.Name x np) name apos) (e :: es) [] pos) env = (do
      let ov ← eval (.Name x np) env
      standAt apos.atName
      let (f, first) ← holding [ov] (getMethod ov name pl)
      callWith pos f first (backTo pos (starEach (e :: es) env)) (backToKw pos (keywordEach [] env))) := by rfl) :
    Ev C S env nm ρ k (.Call (.Attribute (.Name x np) name apos) (e :: es) [] pos) r := ⟨fun A s Q E R I H =>
  methodCall_KW (ho.run A s _ E R I fun v h₁ tk₁ g₁ rv => by
    obtain ⟨t, d, en, n, tk, rfl, h3, h4, h5⟩ := hp.inst rv
    refine method_fn (kIn (I.gr g₁).top) ⟨h3, rfl, rfl, h4⟩ (plainGet_of (name := name) hdr_plain).1 (plainGet_of (name := name) hdr_plain).2 m.hf m.ht (m.hs _ _ _ h5) ?_
    refine callWith_KW (kIn (I.gr g₁).top) m.hk rfl (he.run A _ _ E R (I.gr g₁) fun vs h₂ tk₂ g₂ rl => ?_) hpl hs
    refine wpAny_evalAll_nil ⟨kIn ((I.gr g₁).gr g₂).top, ?_⟩
    exact hc.run A { s with heap := h₂, toks := tk₂ } Q E (.ref t :: vs) R ((I.gr g₁).gr g₂).bs (.cons (rv.gr g₂) rl) (H.gr (g₁.trans g₂))) hcl⟩
/-- self.m(e, kw=q), the table standing still -/
theorem Ev.methKWL {x : Str} {np apos pos kpos : Pos} {name kw : Str} {e qe : PySem.Expr} {f : Addr} {p0 p q r : PV} (ho : Ev C S env nm ρ k (.Name x np) p0) (hp : IsHdr p0) (he : Ev C S env nm ρ k e p) (hq : Ev C S env nm ρ k qe q) (m : Mth C name f) (hc : CallKW C S k (.ref f) [p0, p] kw q r)
    (hs : starEach [e] env = [(false, eval e env)] := by rfl) (hkw : backToKw pos (keywordEach [⟨some kw, qe, kpos⟩] env) = [(some kw, eval qe env >>= fun v => standAt pos >>= fun _ => pure v)] := by rfl) {pl : Sem Bool}
    (hcl : eval (.Call (.Attribute (.Name x np) name apos) [e] [⟨some kw, qe, kpos⟩] pos) env = (do
      let ov ← eval (.Name x np) env
      standAt apos.atName
      let (f, first) ← holding [ov] (getMethod ov name pl)
      callWith pos f first (backTo pos (starEach [e] env)) (backToKw pos (keywordEach [⟨some kw, qe, kpos⟩] env))) := by rfl) :
    Ev C S env nm ρ k (.Call (.Attribute (.Name x np) name apos) [e] [⟨some kw, qe, kpos⟩] pos) r := ⟨fun A s Q E R I H =>
  methodCall_KW (ho.run A s _ E R I fun v h₁ tk₁ g₁ rv => by
    obtain ⟨t, d, en, n, tk, rfl, h3, h4, h5⟩ := hp.inst rv
    refine method_fn (kIn (I.gr g₁).top) ⟨h3, rfl, rfl, h4⟩ (plainGet_of (name := name) hdr_plain).1 (plainGet_of (name := name) hdr_plain).2 m.hf m.ht (m.hs _ _ _ h5) ?_
    refine callWith_KW (kIn (I.gr g₁).top) m.hk (by rw [hkw]; rfl) ((EvL.cons he EvL.nil (hs.trans rfl)).run A _ _ E R (I.gr g₁) fun vs h₂ tk₂ g₂ rl => ?_) (by rw [hs, hkw]; rfl) (hs.trans rfl)
    rw [hkw]
    refine wpAny_evalAll_cons (wpAny_bind (hq.run A _ _ E R ((I.gr g₁).gr g₂) fun u h₃ tk₃ g₃ ru => wpAny_bind (wpAny_standAt (wpAny_pure (wpAny_evalAll_nil ⟨kIn (((I.gr g₁).gr g₂).gr g₃).top, ?_⟩)))))
    have rl' : RelL S h₃ (.ref t :: vs) [p0, p] := .cons ((rv.gr g₂).gr g₃) (rl.gr g₃)
    exact hc.run A { s with heap := h₃, toks := tk₃ } Q E (.ref t :: vs) u R (((I.gr g₁).gr g₂).gr g₃).bs rl' ru (H.gr ((g₁.trans g₂).trans g₃))) hcl⟩
end
section
variable {C : Cx} {A : Around} {B : Heap} {S : List Addr} {V : List (Addr × List PV)} {env : Env} {nm : List Str} {ρ : List (Option PV)} {k : Nat} {s : Shared} {Q : Flow → Shared → Prop} {E : Value → Shared → Prop}
/-- x.m(e, ...), for what it does to the table's list -/
theorem X.methV {x : Str} {np apos pos ep : Pos} {name : Str} {e : PySem.Expr} {es : List PySem.Expr} {rest : List Stmt} {f a : Addr} {xs xs' l : List PV} {p : PV} (F : FS C B S ((a, xs) :: V) env nm ρ s.heap) (R : Room k A) (ho : Ev C S env nm ρ k (.Name x np) (.hdr a)) (he : EvL C S env nm ρ k pos (e :: es) l) (m : Mth C name f) (hc : CallV C S k a xs xs' (.ref f) (.hdr a :: l) p)
    (K : ∀ h' tk', FS C B S ((a, xs') :: V) env nm ρ h' → X C A env rest Q E { s with heap := h', toks := tk' })
    (hs : starEach (e :: es) env = (false, eval e env) :: starEach es env := by rfl) (hpl : ((backTo pos (starEach (e :: es) env)).any (·.1) || (backToKw pos (keywordEach [] env)).any (·.1.isNone)) = false := by rfl) {pl : Sem Bool}
    (hcl : eval (.Call (.Attribute (.Name x np) name apos) (e :: es) [] pos) env = (do
      let ov ← eval (.Name x np) env
      standAt apos.atName
      let (f, first) ← holding [ov] (getMethod ov name pl)
      callWith pos f first (backTo pos (starEach (e :: es) env)) (backToKw pos (keywordEach [] env))) := by rfl)
    (hi : interactive env = false := by rfl) (hsw : swapsWith (.Call (.Attribute (.Name x np) name apos) (e :: es) [] pos) none ep.line env = pure false := by rfl) : X C A env (.Expr (.Call (.Attribute (.Name x np) name apos) (e :: es) [] pos) ep :: rest) Q E s :=
  ⟨wpAny_execs_cons (wpAny_Expr_any (methodCall_KW (ho.run A s _ E R F.inv fun v h₁ tk₁ g₁ rv => by
    obtain ⟨t, d, en, n, tk, rfl, h3, h4, h5⟩ := (IsHdr.t a).inst rv
    refine method_fn (kIn (F.inv.gr g₁).top) ⟨h3, rfl, rfl, h4⟩ (plainGet_of (name := name) hdr_plain).1 (plainGet_of (name := name) hdr_plain).2 m.hf m.ht (m.hs _ _ _ h5) ?_
    refine callWith_KW (kIn (F.inv.gr g₁).top) m.hk rfl (he.run A _ _ E R (F.inv.gr g₁) fun vs h₂ tk₂ g₂ rl => ?_) hpl hs
    refine wpAny_evalAll_nil ⟨kIn ((F.inv.gr g₁).gr g₂).top, ?_⟩
    have F₂ := (F.gr g₁).gr g₂
    obtain ⟨hS, hB, vl⟩ := F₂.vol _ (.head _)
    exact hc.run A { s with heap := h₂, toks := tk₂ } _ E (.ref t :: vs) R F₂.bs hS vl (.cons (rv.gr g₂) rl) fun v h₃ tk₃ g₃ vl₃ _ => (K h₃ tk₃ (F₂.turn g₃ vl₃)).out) hcl) hi hsw)⟩
theorem FS.noTop {h : Heap} {a : Addr} {l : List PV} (F : FS C B S ((a, l) :: V) env nm ρ h) : C.B₀.get? a = none := by
  obtain ⟨_, hB, _⟩ := F.vol _ (.head _)
  cases e : C.B₀.get? a with
  | none => rfl
  | some o => rw [F.b0 a o e] at hB; cases hB
end

/-- the entries of the table -/
noncomputable def entryP (q : Str × Str) : PV := .tup [.str q.1, .str q.2]
noncomputable def fitsP (key : Str) : PV → Bool
  | .tup [.str x, .str y] => Txt.lower x == key
  | _ => false
noncomputable def pickP : PV → PV
  | .tup [.str x, .str y] => .str y
  | _ => .none
theorem mth_getall {C : Cx} : Mth C "get_all" 194 := ⟨by kernel_rfl, by kernel_rfl, fun e n tk he => by
  have hk : e.key.isStr "get_all" = false := by rw [he]; rfl
  have hr : e.refKey = false := by unfold DictEntry.refKey; rw [he]
  show (lookIn _ (dictOf [e] n)).map _ = _
  rw [lookIn_dict]
  unfold getL
  rw [List.find?_cons, hk]
  simp [hr], by kernel_rfl⟩
theorem mth_addheader {C : Cx} : Mth C "add_header" 252 := ⟨by kernel_rfl, by kernel_rfl, fun e n tk he => by
  have hk : e.key.isStr "add_header" = false := by rw [he]; rfl
  have hr : e.refKey = false := by unfold DictEntry.refKey; rw [he]
  show (lookIn _ (dictOf [e] n)).map _ = _
  rw [lookIn_dict]
  unfold getL
  rw [List.find?_cons, hk]
  simp [hr], by kernel_rfl⟩
theorem CmpR.eq_ss {C : Cx} {S : List Addr} {k : Nat} {x y : Str} : CmpR C S k .Eq (.str x) (.str y) (x == y) := ⟨fun A s Q E va vb R B ra rb H => by obtain ⟨_, rfl⟩ := ra.inv; obtain ⟨_, rfl⟩ := rb.inv; exact PyProof.Rows.eq_str (H.now (.bool _))⟩

theorem get_all {C : Cx} {S : List Addr} {hs : List (Str × Str)} {x : Str} (hx : Plain (Txt.lower x)) (hz : (Txt.lower x).cps.size < 2 ^ 62) (hxl : x.length ≤ 1000) (hl : hs.length ≤ 10000) (hk : ∀ q ∈ hs, q.1.length ≤ 1000) :
    CallR C S 10 (.ref 194) [.hdrL (hs.map entryP), .str x] (.lst ((hs.map entryP).filterMap (keepF (fitsP (Txt.lower x)) pickP))) := by
  refine CallR.ofBody ["self", "name"] [] rfl (by kernel_rfl) (fun s vs h => by apply vs2 h; intro a b; exact BindsTo.of_eq rfl) rfl rfl (by decide) (by decide) (fun n => by walk_at "my cells") (by decide) (by decide) ?_
  intro A s B L S' Q R M hS F K
  have sub : ∀ a ∈ S, a ∈ S' := by subst hS; exact fun a ha => List.mem_append_right _ (.tail _ ha)
  dsimp only [List.map_cons, List.map_nil, List.cons_append, List.nil_append] at M F
  refine X.assign F M R (Ev.methKWL (Ev.loc M .z) (IsHdr.f _) (Ev.meth0 (Ev.loc M (.s .z)) (Meth0.lower (by (first | lia | omega)))) Ev.cbool mth_convert ((convert hx hz).le (by (first | lia | omega)))) (.s .z) ?_
  intro h tk F
  refine X.ret F R (Ev.comp (t := fitsP (Txt.lower x)) (g := pickP) (Comp1.mk' (xs := ["kv"]) (cs := ["name"]) (cl := [("name", L + 1)]) (ps := [.str (Txt.lower x)]) ?KS F.inj (.cons (.s .z) .nil) (EvIter.of (Ev.hdrsL (Ev.loc M .z)) (IterR.lst rfl)) (small (by rw [List.length_map]; (first | lia | omega))) (fun p => [p]) (fun p _ => rfl) (fun p ρx _ hρ => ?asg) (fun p L' S'' hp hsub => ?tst) (fun p L' S'' hp ht hsub => ?elt))) (fun v h tk F r => K v h tk F.base (r.less sub))
  case KS => walk_at "my scope"
  case asg =>
    obtain ⟨q, rfl⟩ := List.length_eq_one_iff.mp hρ
    exact AsgC.name (by walk_at "my scope") .z
  case tst =>
    obtain ⟨q, hq, rfl⟩ := List.mem_map.mp hp
    exact Tests.one (Tr.cmp (Ev.meth0 (Ev.item (Ev.loc (CompScope.fm (by walk_at "my scope")) .z) Ev.cint (ItemR.tup (r := .str q.1) rfl (by decide) (by decide))) (Meth0.lower (by have := hk q hq; (first | lia | omega)))) (Ev.loc (CompScope.fm (by walk_at "my scope")) (.s .z)) CmpR.eq_ss (by rfl))
  case elt =>
    obtain ⟨q, hq, rfl⟩ := List.mem_map.mp hp
    exact Ev.item (Ev.loc (CompScope.fm (by walk_at "my scope")) .z) Ev.cint (ItemR.tup (r := .str q.2) rfl (by decide) (by decide))
end Mine
end

section
open PySem PySem.W PyProof.Rows PySem.Calls
set_option maxRecDepth 100000
namespace Mine

noncomputable abbrev strI (i : Int) : Str := Str.ofString (toString i)
/-- the parts in their order -/
noncomputable def baseI (l m M o : Int) : List Int := if (o.fmod 2 != 0) = true then [M, m, l] else [l, m, M]
noncomputable def partsI (l m M o : Int) : List Int := pickL (baseI l m M o) (some (o.fdiv 2)) none none ++ pickL (baseI l m M o) none (some (o.fdiv 2)) none
theorem pick3 (a b c : Int) (lo hi : Option Int) : pickL [a, b, c] lo hi none = (pickL [0, 1, 2] lo hi none).map (fun i : Nat => if i = 0 then a else if i = 1 then b else c) := by
  rw [← pickL_map]; rfl
theorem rot3 (x y z : Int) : (pickL [x, y, z] (some 0) none none ++ pickL [x, y, z] none (some 0) none = [x, y, z]) ∧ (pickL [x, y, z] (some 1) none none ++ pickL [x, y, z] none (some 1) none = [y, z, x]) ∧ (pickL [x, y, z] (some 2) none none ++ pickL [x, y, z] none (some 2) none = [z, x, y]) := by
  have a0 : pickL [0, 1, 2] (some 0) none none = ([0, 1, 2] : List Nat) := by decide +kernel
  have a1 : pickL [0, 1, 2] (some 1) none none = ([1, 2] : List Nat) := by decide +kernel
  have a2 : pickL [0, 1, 2] (some 2) none none = ([2] : List Nat) := by decide +kernel
  have b0 : pickL [0, 1, 2] none (some 0) none = ([] : List Nat) := by decide +kernel
  have b1 : pickL [0, 1, 2] none (some 1) none = ([0] : List Nat) := by decide +kernel
  have b2 : pickL [0, 1, 2] none (some 2) none = ([0, 1] : List Nat) := by decide +kernel
  simp only [pick3]
  rw [a0, a1, a2, b0, b1, b2]
  exact ⟨rfl, rfl, rfl⟩
theorem partsI_perm {l m M o : Int} (h0 : 0 ≤ o) (h6 : o < 6) : ∃ x y z, partsI l m M o = [x, y, z] ∧ (x, y, z) ∈ perms l m M := by
  have : o = 0 ∨ o = 1 ∨ o = 2 ∨ o = 3 ∨ o = 4 ∨ o = 5 := by (first | lia | omega)
  rcases this with rfl | rfl | rfl | rfl | rfl | rfl
  · exact ⟨l, m, M, (rot3 l m M).1, by simp [perms]⟩
  · exact ⟨M, m, l, (rot3 M m l).1, by simp [perms]⟩
  · exact ⟨m, M, l, (rot3 l m M).2.1, by simp [perms]⟩
  · exact ⟨m, l, M, (rot3 M m l).2.1, by simp [perms]⟩
  · exact ⟨M, l, m, (rot3 l m M).2.2, by simp [perms]⟩
  · exact ⟨l, M, m, (rot3 M m l).2.2, by simp [perms]⟩
noncomputable def wordOf (P : List Int) : Str := Txt.join " " (P.map strI)
noncomputable def orderI (l m : Int) (ns : List Int) : Int := (l + m + (pickL ns (some (8 * l + m)) (some (8 * l + m + 1)) none).sum).fmod 6
noncomputable def tripP (n l m : Int) (ns : List Int) : List Int := partsI l m (most n l m) (orderI l m ns)
noncomputable def twiceP : List Int → Bool
  | [x, y, z] => twiceI x y z
  | _ => false
/-- what a turn lays -/
noncomputable def turnW (n l m : Int) (ns : List Int) : List Str := if fits n l m = true then (wordOf (tripP n l m ns) :: if twiceP (tripP n l m ns) = true then [wordOf (tripP n l m ns)] else []) else []
noncomputable def turnE (n l m : Int) (ns : List Int) : List (Str × Str) := if fits n l m = true then (((Str.ofString "n" ++ strI n, wordOf (tripP n l m ns)) : Str × Str) :: if twiceP (tripP n l m ns) = true then [(Str.ofString "N" ++ strI n, wordOf (tripP n l m ns))] else []) else []
theorem turnE_words (n l m : Int) (ns : List Int) : (turnE n l m ns).map (·.2) = turnW n l m ns := by
  unfold turnE turnW
  split
  · split <;> rfl
  · rfl

/-- small numerals -/
theorem strI_small : ∀ i : Nat, i < 60 → (∀ c ∈ (strI (i : Int)).cps, 32 ≤ c ∧ c < 127) ∧ (strI (i : Int)).cps.size ≤ 2 ∧ (strI (i : Int)).length ≤ 2 := by
  decide +kernel
theorem strI_plain {i : Int} (h0 : 0 ≤ i) (h1 : i < 60) : Plain (strI i) ∧ (strI i).length ≤ 2 := by
  have h := strI_small i.toNat (by (first | lia | omega))
  rw [show ((i.toNat : Nat) : Int) = i by (first | lia | omega)] at h
  exact ⟨h.1, h.2.2⟩
theorem Plain.app {x y : Str} (a : Plain x) (b : Plain y) : Plain (x ++ y) := fun c hc => by
  have hc : c ∈ x.cps ++ y.cps := hc
  rcases Array.mem_append.mp hc with h | h
  · exact a c h
  · exact b c h
theorem len_app (x y : Str) : (x ++ y).length = x.length + y.length := by
  show (x.cps ++ y.cps).size = _
  rw [Array.size_append]; rfl
theorem word_plain {x y z : Int} (hx : 0 ≤ x ∧ x < 60) (hy : 0 ≤ y ∧ y < 60) (hz : 0 ≤ z ∧ z < 60) : Plain (wordOf [x, y, z]) ∧ (wordOf [x, y, z]).length ≤ 8 := by
  obtain ⟨a1, a2⟩ := strI_plain hx.1 hx.2
  obtain ⟨b1, b2⟩ := strI_plain hy.1 hy.2
  obtain ⟨c1, c2⟩ := strI_plain hz.1 hz.2
  have hs : Plain (Str.ofString " ") := by unfold Plain; decide +kernel
  have hl : (Str.ofString " ").length = 1 := by decide +kernel
  have e : wordOf [x, y, z] = strI x ++ Str.ofString " " ++ (strI y ++ Str.ofString " " ++ strI z) := (StrLaws.glued_eq_join (Str.ofString " ") [strI x, strI y, strI z])
  rw [e]
  refine ⟨((a1.app hs).app ((b1.app hs).app c1)), ?_⟩
  simp only [len_app, hl]
  (first | lia | omega)
theorem name_plain {c : Str} {n : Int} (hc : Plain c) (hl : c.length = 1) (h0 : 0 ≤ n) (h1 : n < 60) : Plain (c ++ strI n) ∧ (c ++ strI n).length ≤ 3 := by
  obtain ⟨a1, a2⟩ := strI_plain h0 h1
  refine ⟨hc.app a1, ?_⟩
  rw [len_app]; (first | lia | omega)
end Mine
end

section
open PySem PySem.W PyProof.Rows PySem.Calls
set_option maxRecDepth 100000
namespace Mine
noncomputable def chkWm (n l m : Int) : Bool := !(fits n l m) || (perms l m (most n l m)).all fun t => decide (Txt.words (wordOf [t.1, t.2.1, t.2.2]) = [strI t.1, strI t.2.1, strI t.2.2])
noncomputable def chkWl (n l : Int) : Bool := (List.range 8).all fun m : Nat => chkWm n l m
noncomputable def chkW (n : Int) : Bool := (List.range 5).all fun l : Nat => chkWl n l
theorem partW0 : part chkW 0 = true := by kernel_rfl
theorem partW1 : part chkW 1 = true := by kernel_rfl
theorem partW2 : part chkW 2 = true := by kernel_rfl
theorem partW3 : part chkW 3 = true := by kernel_rfl
theorem partW4 : part chkW 4 = true := by kernel_rfl
theorem partW5 : part chkW 5 = true := by kernel_rfl
theorem partW6 : part chkW 6 = true := by kernel_rfl
theorem partW7 : part chkW 7 = true := by kernel_rfl
theorem partW8 : part chkW 8 = true := by kernel_rfl
theorem partW9 : part chkW 9 = true := by kernel_rfl
theorem partW10 : part chkW 10 = true := by kernel_rfl
theorem partW11 : part chkW 11 = true := by kernel_rfl
theorem allWords_ok : (List.range 48).all (fun i : Nat => chkW (7 + (i : Int))) = true := of_parts (p := chkW) (ltS (ltS (ltS (ltS (ltS (ltS (ltS (ltS (ltS (ltS (ltS (ltS lt0 partW0) partW1) partW2) partW3) partW4) partW5) partW6) partW7) partW8) partW9) partW10) partW11)
theorem words_of {n l m : Int} (hn : 7 ≤ n ∧ n ≤ 54) (hl : 0 ≤ l ∧ l < 5) (hm : 0 ≤ m ∧ m < 8) (hf : fits n l m = true) {x y z : Int} (ht : (x, y, z) ∈ perms l m (most n l m)) : Txt.words (wordOf [x, y, z]) = [strI x, strI y, strI z] := by
  have h := all_at0 (p := chkWm n l) (all_at0 (p := chkWl n) (all_at (p := chkW) allWords_ok hn) hl.1 hl.2) hm.1 hm.2
  unfold chkWm at h
  rw [hf] at h
  rw [Bool.not_true, Bool.false_or, List.all_eq_true] at h
  have h2 := h _ ht
  with_reducible exact of_decide_eq_true h2
end Mine
end

section
open PySem PySem.W PyProof.Rows PySem.Calls
set_option maxRecDepth 100000
set_option maxHeartbeats 4000000
namespace Mine
section
variable {C : Cx} {A : Around} {B : Heap} {S : List Addr} {V : List (Addr × List PV)} {env : Env} {nm : List Str} {ρ : List (Option PV)} {k : Nat} {s : Shared} {Q : Flow → Shared → Prop} {E : Value → Shared → Prop} {n : Nat}
theorem X.tupN {e : PySem.Expr} {elts : List PySem.Expr} {tn : Nat} {tpos pos : Pos} {rest : List Stmt} {ps : List PV} {ρ' : List (Option PV)} (hn : n ≤ s.toks) (F : FS C B S V env nm ρ s.heap) (M : Fm env nm) (R : Room k A) (he : Ev C S env nm ρ k e (.tup ps)) (ht : Tgt env nm elts ps ρ ρ')
    (K : ∀ h' tk', FS C B S V env nm ρ' h' → n ≤ tk' → X C A env rest Q E { s with heap := h', toks := tk' })
    (hs : swapsWithSole [.Tuple elts tn tpos] e pos.line env = pure false := by rfl) (hw : swappedStores [.Tuple elts tn tpos] e env = pure none := by rfl) : X C A env (.Assign [.Tuple elts tn tpos] e pos :: rest) Q E s :=
  ⟨wpAny_execs_cons (wpAny_toks1 hn (Assign_Tuple (he.run A s _ E R F.inv fun v h' tk g r => by
    obtain ⟨_, _, _, rfl, hn', ht', rl⟩ := r.inv
    · skip
      obtain ⟨c, d⟩ := tgt_assignEach (env := env) ht
      refine assign_Tuple_tuple R.hh ⟨_, ht', rfl, _, rfl⟩ (by rw [c, ht.len, List.size_toArray, rl.length]) d fun h'' he' => ?_
      have g' : Gr h' h'' := .of fun b o e => he' b o (Nat.ne_of_lt (Heap.lt_size e)) e
      exact wp_storeAll M (s := { s with heap := h'', toks := tk }) ((F.gr g).gr g') ht (rl.gr g') fun h3 tk3 F3 => fun hn₃ => (K h3 tk3 F3 hn₃).out) hs hw))⟩
/-- what is read of lists that may turn -/
structure EvV (C : Cx) (B : Heap) (S : List Addr) (V : List (Addr × List PV)) (env : Env) (nm : List Str) (ρ : List (Option PV)) (k : Nat) (e : PySem.Expr) (p : PV) : Prop where
  run : ∀ (A : Around) (s : Shared) (Q : Value → Shared → Prop) (E : Value → Shared → Prop), Room k A → FS C B S V env nm ρ s.heap → Post S s p Q → wpAny (model PW C.w) A (eval e env) Q E s
theorem EvV.of {e : PySem.Expr} {p : PV} (h : Ev C S env nm ρ k e p) : EvV C B S V env nm ρ k e p := ⟨fun A s Q E R F H => h.run A s Q E R F.inv H⟩
theorem EvV.last {o i : PySem.Expr} {pos : Pos} {b : Addr} {l : List PV} {p : PV} (hm : (b, l ++ [p]) ∈ V) (ho : Ev C S env nm ρ k o (.raw (.ref b))) (hi : Ev C S env nm ρ k i (.int (-1)))
    (hs : ∀ o j, subscripted i false o j = operate [o, j] (getItem o j) := by intro _ _; rfl) : EvV C B S V env nm ρ k (.Subscript o i pos) p := ⟨fun A s Q E R F H =>
  Subscript_ (ho.run A s _ E R F.inv fun v h₁ tk₁ g₁ rv => hi.run A _ _ E R (F.inv.gr g₁) fun w h₂ tk₂ g₂ rw_ => by
    obtain ⟨_, rfl⟩ := rv.inv
    obtain ⟨_, rfl⟩ := rw_.inv
    obtain ⟨_, _, vs, n, hl, rl⟩ := ((F.gr g₁).gr g₂).vol _ hm
    have hlen := rl.length
    rw [List.length_append, List.length_singleton] at hlen
    obtain ⟨u, hu, ru⟩ := rl.get (i := l.length) (p := p) (by simp)
    refine tail_any hl.isList.typeIs slot_list_getitem.lookup ?_ (hs _ _)
    refine kde_getNeg hl.isList (by (first | lia | omega)) (by (first | lia | omega)) (j := l.length) ?_ hu (H _ _ _ (g₁.trans g₂) ru)
    unfold seqIndex?
    rw [hlen]
    simp
    try (first | lia | omega))⟩
structure EvVL (C : Cx) (B : Heap) (S : List Addr) (V : List (Addr × List PV)) (env : Env) (nm : List Str) (ρ : List (Option PV)) (k : Nat) (pos : Pos) (es : List PySem.Expr) (l : List PV) : Prop where
  run : ∀ (A : Around) (s : Shared) (Q : List Value → Shared → Prop) (E : Value → Shared → Prop), Room k A → FS C B S V env nm ρ s.heap → (∀ vs h' tk, Gr s.heap h' → RelL S h' vs l → Q vs { s with heap := h', toks := tk }) → wpAny (model PW C.w) A (spliced (backTo pos (starEach es env))) Q E s
theorem EvVL.nil {pos : Pos} : EvVL C B S V env nm ρ k pos [] [] := ⟨fun _ s _ _ _ _ H => spliced_none (H [] s.heap s.toks Gr.rfl .nil)⟩
theorem EvVL.cons {pos : Pos} {e : PySem.Expr} {es : List PySem.Expr} {p : PV} {l : List PV} (h : EvV C B S V env nm ρ k e p) (t : EvVL C B S V env nm ρ k pos es l) (he : starEach (e :: es) env = (false, eval e env) :: starEach es env := by rfl) : EvVL C B S V env nm ρ k pos (e :: es) (p :: l) := ⟨
  fun A s Q E R F H => spliced_more (h.run A s _ E R F fun v h₁ tk₁ g₁ r => t.run A _ _ E R (F.gr g₁) fun vs h₂ tk₂ g₂ rl => H _ _ _ (g₁.trans g₂) (.cons (r.gr g₂) rl)) he⟩
/-- x.m(e, ...), for what it does to the table's list; what is handed over may be read of lists that may turn -/
theorem X.methVV {x : Str} {np apos pos ep : Pos} {name : Str} {e : PySem.Expr} {es : List PySem.Expr} {rest : List Stmt} {f a : Addr} {xs xs' l : List PV} {p : PV} (F : FS C B S ((a, xs) :: V) env nm ρ s.heap) (R : Room k A) (ho : Ev C S env nm ρ k (.Name x np) (.hdr a)) (he : EvVL C B S ((a, xs) :: V) env nm ρ k pos (e :: es) l) (m : Mth C name f) (hc : CallV C S k a xs xs' (.ref f) (.hdr a :: l) p)
    (K : ∀ h' tk', FS C B S ((a, xs') :: V) env nm ρ h' → X C A env rest Q E { s with heap := h', toks := tk' })
    (hs : starEach (e :: es) env = (false, eval e env) :: starEach es env := by rfl) (hpl : ((backTo pos (starEach (e :: es) env)).any (·.1) || (backToKw pos (keywordEach [] env)).any (·.1.isNone)) = false := by rfl) {pl : Sem Bool}
    (hcl : eval (.Call (.Attribute (.Name x np) name apos) (e :: es) [] pos) env = (do
      let ov ← eval (.Name x np) env
      standAt apos.atName
      let (f, first) ← holding [ov] (getMethod ov name pl)
      callWith pos f first (backTo pos (starEach (e :: es) env)) (backToKw pos (keywordEach [] env))) := by rfl)
    (hi : interactive env = false := by rfl) (hsw : swapsWith (.Call (.Attribute (.Name x np) name apos) (e :: es) [] pos) none ep.line env = pure false := by rfl) : X C A env (.Expr (.Call (.Attribute (.Name x np) name apos) (e :: es) [] pos) ep :: rest) Q E s :=
  ⟨wpAny_execs_cons (wpAny_Expr_any (methodCall_KW (ho.run A s _ E R F.inv fun v h₁ tk₁ g₁ rv => by
    obtain ⟨t, d, en, n, tk, rfl, h3, h4, h5⟩ := (IsHdr.t a).inst rv
    refine method_fn (kIn (F.inv.gr g₁).top) ⟨h3, rfl, rfl, h4⟩ (plainGet_of (name := name) hdr_plain).1 (plainGet_of (name := name) hdr_plain).2 m.hf m.ht (m.hs _ _ _ h5) ?_
    refine callWith_KW (kIn (F.inv.gr g₁).top) m.hk rfl (he.run A _ _ E R (F.gr g₁) fun vs h₂ tk₂ g₂ rl => ?_) hpl hs
    refine wpAny_evalAll_nil ⟨kIn ((F.inv.gr g₁).gr g₂).top, ?_⟩
    have F₂ := (F.gr g₁).gr g₂
    obtain ⟨hS, hB, vl⟩ := F₂.vol _ (.head _)
    exact hc.run A { s with heap := h₂, toks := tk₂ } _ E (.ref t :: vs) R F₂.bs hS vl (.cons (rv.gr g₂) rl) fun v h₃ tk₃ g₃ vl₃ _ => (K h₃ tk₃ (F₂.turn g₃ vl₃)).out) hcl) hi hsw)⟩
end
end Mine
end

section
open PySem PySem.W PyProof.Rows PySem.Calls
set_option maxRecDepth 100000
namespace Mine
noncomputable def chkM (n l m : Int) : Bool := !(fits n l m) || sI false (most n l m) fun M => chkT true l m M && chkT false (64 - l) (64 - m) (64 - M)
noncomputable def chkL (n l : Int) : Bool := (List.range 8).all fun m : Nat => chkM n l m
noncomputable def chkN (n : Int) : Bool := (List.range 5).all fun l : Nat => chkL n l
theorem partN0 : part chkN 0 = true := by kernel_rfl
theorem partN1 : part chkN 1 = true := by kernel_rfl
theorem partN2 : part chkN 2 = true := by kernel_rfl
theorem partN3 : part chkN 3 = true := by kernel_rfl
theorem partN4 : part chkN 4 = true := by kernel_rfl
theorem partN5 : part chkN 5 = true := by kernel_rfl
theorem partN6 : part chkN 6 = true := by kernel_rfl
theorem partN7 : part chkN 7 = true := by kernel_rfl
theorem partN8 : part chkN 8 = true := by kernel_rfl
theorem partN9 : part chkN 9 = true := by kernel_rfl
theorem partN10 : part chkN 10 = true := by kernel_rfl
theorem partN11 : part chkN 11 = true := by kernel_rfl
theorem allT_ok : (List.range 48).all (fun i : Nat => chkN (7 + (i : Int))) = true := of_parts (p := chkN) (ltS (ltS (ltS (ltS (ltS (ltS (ltS (ltS (ltS (ltS (ltS (ltS lt0 partN0) partN1) partN2) partN3) partN4) partN5) partN6) partN7) partN8) partN9) partN10) partN11)
theorem all_good {n l m : Int} (hn : 7 ≤ n ∧ n ≤ 54) (hl : 0 ≤ l ∧ l < 5) (hm : 0 ≤ m ∧ m < 8) (hf : fits n l m = true) : (∀ t ∈ perms l m (most n l m), GoodS t.1 t.2.1 t.2.2 ∧ GoodP t.1 t.2.1 t.2.2) ∧ ∀ t ∈ perms (64 - l) (64 - m) (64 - most n l m), GoodS t.1 t.2.1 t.2.2 := by
  have h := all_at0 (p := chkM n l) (all_at0 (p := chkL n) (all_at (p := chkN) allT_ok hn) hl.1 hl.2) hm.1 hm.2
  unfold chkM at h
  rw [hf, sI_eq] at h
  rw [Bool.not_true, Bool.false_or, Bool.and_eq_true] at h
  exact ⟨fun t ht => ⟨(chkT_sound h.1 t ht).1, (chkT_sound h.1 t ht).2 rfl⟩, fun t ht => (chkT_sound h.2 t ht).1⟩
end Mine
end

section
open PySem PySem.W PyProof.Rows PySem.Calls
set_option maxRecDepth 100000
set_option maxHeartbeats 4000000
namespace Mine
local macro_rules | `(tactic| walk_at "my caps") => `(tactic| first | exact all_nil | (refine all_cons ⟨rfl, rfl, rfl, rfl, _, rfl⟩ ?_; walk_at "my caps"))
local macro_rules | `(tactic| walk_at "my subs") => `(tactic| first | exact lk_nil | (refine lk_cons ⟨by decide, rfl⟩ ?_; walk_at "my subs"))
local macro_rules | `(tactic| walk_at "my scope") => `(tactic| exact ⟨rfl, rfl, rfl, rfl, rfl, by decide, by decide, by decide, (by walk_at "my caps"), (by walk_at "my subs"), by decide, by decide⟩)
local macro_rules | `(tactic| walk_at "my cells") => `(tactic| first | exact all_nil | (refine all_cons (by first | exact .inl rfl | exact .inr ⟨rfl, rfl⟩) ?_; walk_at "my cells"))

theorem execs_split {st : Stmt} {rest : List Stmt} {env : Env} : execs (st :: rest) env = execs [st] env >>= fun f => match f with | .next => execs rest env | f => pure f := by
  rw [execs_cons, execs_cons, bind_assoc]
  congr 1
  funext f
  cases f <;> rfl
noncomputable def CarryQ (C : Cx) (A : Around) (env : Env) (n : Nat) (rest : List Stmt) (Q : Flow → Shared → Prop) (E : Value → Shared → Prop) (fl : Flow) (s : Shared) : Prop := match fl with
  | .next => n ≤ s.toks → X C A env rest Q E s
  | f => Q f s
theorem X.carry {C : Cx} {A : Around} {env : Env} {n : Nat} {st : Stmt} {rest : List Stmt} {Q : Flow → Shared → Prop} {E : Value → Shared → Prop} {s : Shared} (hn : n ≤ s.toks) (h : X C A env [st] (CarryQ C A env n rest Q E) E s) : X C A env (st :: rest) Q E s := ⟨by
  rw [execs_split]
  refine wpAny_bind (wpAny_toks1 hn (wpAny_mono h.out (fun fl s' q hn' => ?_) fun _ _ e => e))
  cases fl <;> first | exact (q hn').out | exact wpAny_pure q⟩
theorem X.done {C : Cx} {A : Around} {env : Env} {n : Nat} {rest : List Stmt} {Q : Flow → Shared → Prop} {E : Value → Shared → Prop} {s : Shared} (h : n ≤ s.toks → X C A env rest Q E s) : X C A env [] (CarryQ C A env n rest Q E) E s := X.nil h

theorem blt_range {C : Cx} : Blt C "range" (.type "range") := ⟨by kernel_rfl, by boot_fast, by decide, by decide⟩
theorem blt_sum {C : Cx} : Blt C "sum" (.builtin "sum") := ⟨by kernel_rfl, by boot_fast, by decide, by decide⟩
theorem glb_hsv {C : Cx} : Glb C "rgb_to_hsv" (.ref 52) := ⟨by kernel_rfl, by decide⟩
theorem glb_hls {C : Cx} : Glb C "rgb_to_hls" (.ref 45) := ⟨by kernel_rfl, by decide⟩

noncomputable def mid0 (l : Int) : Int := if 1 > l then 1 else l
noncomputable def cntM (l : Int) : Nat := (8 - mid0 l).toNat
noncomputable def rowW (n l : Int) (ns : List Int) (j : Nat) : List Str := (List.range j).flatMap fun q : Nat => turnW n l (mid0 l + (q : Int)) ns
noncomputable def rowE (n l : Int) (ns : List Int) (j : Nat) : List (Str × Str) := (List.range j).flatMap fun q : Nat => turnE n l (mid0 l + (q : Int)) ns
noncomputable def allW (n : Int) (ns : List Int) (i : Nat) : List Str := (List.range i).flatMap fun l : Nat => rowW n l ns (cntM l)
noncomputable def allE (n : Int) (ns : List Int) (i : Nat) : List (Str × Str) := (List.range i).flatMap fun l : Nat => rowE n l ns (cntM l)
theorem rowW_succ (n l : Int) (ns : List Int) (j : Nat) : rowW n l ns (j + 1) = rowW n l ns j ++ turnW n l (mid0 l + (j : Int)) ns := by simp [rowW, List.range_succ]
theorem rowE_succ (n l : Int) (ns : List Int) (j : Nat) : rowE n l ns (j + 1) = rowE n l ns j ++ turnE n l (mid0 l + (j : Int)) ns := by simp [rowE, List.range_succ]
theorem allW_succ (n : Int) (ns : List Int) (i : Nat) : allW n ns (i + 1) = allW n ns i ++ rowW n i ns (cntM i) := by simp [allW, List.range_succ]
theorem allE_succ (n : Int) (ns : List Int) (i : Nat) : allE n ns (i + 1) = allE n ns i ++ rowE n i ns (cntM i) := by simp [allE, List.range_succ]
theorem turnW_len (n l m : Int) (ns : List Int) : (turnW n l m ns).length ≤ 2 := by unfold turnW; split <;> (try split) <;> simp
theorem turnE_len (n l m : Int) (ns : List Int) : (turnE n l m ns).length ≤ 2 := by unfold turnE; split <;> (try split) <;> simp
theorem rowW_len (n l : Int) (ns : List Int) : ∀ j, (rowW n l ns j).length ≤ 2 * j
  | 0 => by simp [rowW]
  | j + 1 => by rw [rowW_succ, List.length_append]; have := rowW_len n l ns j; have := turnW_len n l (mid0 l + (j : Int)) ns; (first | lia | omega)
theorem rowE_len (n l : Int) (ns : List Int) : ∀ j, (rowE n l ns j).length ≤ 2 * j
  | 0 => by simp [rowE]
  | j + 1 => by rw [rowE_succ, List.length_append]; have := rowE_len n l ns j; have := turnE_len n l (mid0 l + (j : Int)) ns; (first | lia | omega)
theorem cntM_le (l : Nat) : cntM l ≤ 8 := by unfold cntM mid0; split <;> (first | lia | omega)
theorem allW_len (n : Int) (ns : List Int) : ∀ i, (allW n ns i).length ≤ 16 * i
  | 0 => by simp [allW]
  | i + 1 => by rw [allW_succ, List.length_append]; have := allW_len n ns i; have := rowW_len n i ns (cntM i); have := cntM_le i; (first | lia | omega)
theorem allE_len (n : Int) (ns : List Int) : ∀ i, (allE n ns i).length ≤ 16 * i
  | 0 => by simp [allE]
  | i + 1 => by rw [allE_succ, List.length_append]; have := allE_len n ns i; have := rowE_len n i ns (cntM i); have := cntM_le i; (first | lia | omega)

/-- a call that turns one list, of floats made before -/
structure CallVT (C : Cx) (S : List Addr) (k : Nat) (hi : Tok) (a : Addr) (xs xs' : List PV) (f : Value) (l : List PV) (p : PV) : Prop where
  run : ∀ (A : Around) (s : Shared) (Q : Value → Shared → Prop) (E : Value → Shared → Prop) (vs : List Value), hi ≤ s.toks → Room k A → Bs C S s.heap → a ∈ S → VL S s.heap a xs → RelL S s.heap vs l →
    (∀ v h' tk, GrB a s.heap h' → VL S h' a xs' → Rel S h' v p → Q v { s with heap := h', toks := tk }) → wpAny (model PW C.w) A (call f vs []) Q E s
theorem divmod_small {C : Cx} {S : List Addr} {a b : Int} (ha : 0 ≤ a) (ha2 : a < 1000) (hb : 1 ≤ b) (hb2 : b < 1000) : CallR C S 116 (.ref 94) [.int a, .int b] (.tup [.int (a.fdiv b), .int (a.fmod b)]) := by
  have hbits : Builtin.Int.intBits ((a.toNat : Nat) : Int) ≤ 10 := intBits_le (Int.natCast_nonneg _) (by (first | lia | omega))
  have ok : DivOk a.toNat b.toNat := ⟨by (first | lia | omega), Nat.lt_of_lt_of_le (show b.toNat < 2 ^ 10 by (first | lia | omega)) (Nat.pow_le_pow_right (by (first | lia | omega)) (by (first | lia | omega))), Nat.le_trans (Nat.div_le_div_right (c := b.toNat.log2 + 1) (show _ ≤ b.toNat.log2 + 1 + 9 by (first | lia | omega))) (by
    refine Nat.le_trans (Nat.div_le_self _ _) ?_
    have : b.toNat.log2 < 10 := (Nat.log2_lt (by (first | lia | omega))).mpr (by (first | lia | omega))
    (first | lia | omega))⟩
  have h := intdivmod_pos (C := C) (S := S) ok
  rw [← fdiv_nat, ← fmod_nat] at h
  rw [show ((a.toNat : Nat) : Int) = a by (first | lia | omega), show ((b.toNat : Nat) : Int) = b by (first | lia | omega)] at h
  exact h
theorem mulOk {x y : Int} (h0 : 0 ≤ x) (h1 : x < 1000) : IntMulOk x y := .of_left (Nat.le_trans (intBits_le (k := 10) h0 (by (first | lia | omega))) (by (first | lia | omega)))
theorem runL_get {a b : Int} {i : Nat} {p : PV} (h : (runL a b)[i]? = some p) : p = .int (a + (i : Int)) := by
  unfold runL at h
  rw [List.getElem?_map] at h
  obtain ⟨j, hj, e⟩ := Option.map_eq_some_iff.mp h
  rw [List.getElem?_range (by have := (List.getElem?_eq_some_iff.mp hj).1; simpa using this)] at hj
  cases hj; exact e.symm
theorem natAbs_ok {x : Int} (h0 : 0 ≤ x) (h1 : x < 1000) : x.natAbs < 2 ^ 1023 := Nat.lt_of_lt_of_le (show x.natAbs < 2 ^ 10 by (first | lia | omega)) (Nat.pow_le_pow_right (by (first | lia | omega)) (by (first | lia | omega)))
theorem noPy {x y : Int} (h0 : 1 ≤ y) (h1 : y < 1000) : Builtin.divisionGoesByPylong x y = false :=
  PyProof.noPylong_of_log2 (by have : y.natAbs.log2 < 10 := (Nat.log2_lt (by (first | lia | omega))).mpr (by (first | lia | omega)); (first | lia | omega))
theorem most_dim {n l m : Int} (hn : 7 ≤ n ∧ n ≤ 54) (hl : 0 ≤ l ∧ l < 5) (hm : 1 ≤ m ∧ m < 8 ∧ l ≤ m) (hf : fits n l m = true) : 0 ≤ most n l m ∧ most n l m ≤ 54 := by
  have hlm : 0 ≤ l * m := Int.mul_nonneg hl.1 (by (first | lia | omega))
  have hmm : 0 ≤ m * m := Int.mul_nonneg (by (first | lia | omega)) (by (first | lia | omega))
  have e : 2 * l * m = l * m + l * m := by rw [Int.mul_assoc, Int.two_mul]
  unfold fits at hf
  simp only [Bool.and_eq_true, decide_eq_true_eq] at hf
  have h1 : 0 ≤ n - l * m := by (first | lia | omega)
  unfold most
  rw [Int.fdiv_eq_ediv_of_nonneg _ (by (first | lia | omega))]
  refine ⟨Int.ediv_nonneg h1 (by (first | lia | omega)), ?_⟩
  refine Int.le_trans (Int.ediv_le_self _ h1) (by (first | lia | omega))
theorem perms_dim {n l m x y z : Int} (hn : 7 ≤ n ∧ n ≤ 54) (hl : 0 ≤ l ∧ l < 5) (hm : 1 ≤ m ∧ m < 8 ∧ l ≤ m) (hf : fits n l m = true) (h : (x, y, z) ∈ perms l m (most n l m)) : (0 ≤ x ∧ x < 60) ∧ (0 ≤ y ∧ y < 60) ∧ (0 ≤ z ∧ z < 60) := by
  have hM := most_dim hn hl hm hf
  simp only [perms, List.mem_cons, Prod.mk.injEq, List.mem_nil_iff, or_false] at h
  (first | lia | omega)
local macro_rules | `(tactic| walk_at "my bin") => `(tactic| with_reducible (first
  | exact BinR.add_ii | exact BinR.sub_ii | exact BinR.mul_ii (mulOk (by (first | lia | omega)) (by (first | lia | omega))) | exact BinR.floordiv_ii (by decide) (noPy (by (first | lia | omega)) (by (first | lia | omega))) | exact BinR.mod_ii (by decide)
  | exact BinR.div_ii (by decide) (natAbs_ok (by (first | lia | omega)) (by (first | lia | omega))) | exact BinR.add_ib | exact BinR.add_ll (small (Nat.le_trans (Nat.add_le_add (pickL_length_le _ _ _ _) (pickL_length_le _ _ _ _)) (by simp only [List.length_map]; (first | lia | omega))))))
local macro_rules | `(tactic| walk_at "my cmp") => `(tactic| with_reducible (first | exact CmpR.le_ii | exact CmpR.eq_ii | exact CmpR.ne_fi | exact CmpR.notin_lst (by assumption)))
local macro_rules | `(tactic| walk_at "my size") => `(tactic| exact small (Nat.le_of_ble_eq_true rfl))
local macro_rules | `(tactic| walk_at "my call sum") => `(tactic| exact CallR.sum_l)
local macro_rules | `(tactic| walk_at "my call int_divmod") => `(tactic| exact (divmod_small (by (first | lia | omega)) (by (first | lia | omega)) (by (first | lia | omega)) (by (first | lia | omega))).le (by (first | lia | omega)))
local macro_rules | `(tactic| walk_at "my item") => `(tactic| exact ItemR.lst rfl (by decide) (by decide))
local macro_rules | `(tactic| walk_at "my slice") => `(tactic| first | exact SliceR.scr (by decide) (small (by (first | lia | omega))) | exact SliceR.lst (by decide) (small (by first | (first | lia | omega) | (simp only [List.length_map]; (first | lia | omega)))))
theorem CallRT.le {C : Cx} {S : List Addr} {k k' : Nat} {f : Value} {args : List PV} {x : UInt64} {l : List PV} (h : CallRT C S k f args x l) (hk : k ≤ k') : CallRT C S k' f args x l := ⟨fun A s Q E vs R B rl H => h.run A s Q E vs (R.le hk) B rl H⟩
theorem hsv_P {C : Cx} {S : List Addr} {k : Nat} {x y z : Int} (gs : GoodS x y z) (hk : 6 ≤ k) : CallRT C S k (.ref 52) [.flt (divI x 64), .flt (divI y 64), .flt (divI z 64)] (hueFF (FX x) (FX y) (FX z)) [.flt (shareF (FX x) (FX y) (FX z)), .flt (fmax3 (FX x) (FX y) (FX z))] := by
  have h := (hsv_ft (C := C) (S := S) gs.ok).le hk
  rw [hsvF_tail] at h
  exact h
theorem hls_P {C : Cx} {S : List Addr} {k : Nat} {x y z : Int} (gs : GoodS x y z) (hk : 6 ≤ k) : CallRT C S k (.ref 45) [.flt (divI x 64), .flt (divI y 64), .flt (divI z 64)] (hueFF (FX x) (FX y) (FX z)) [.flt (lightF (FX x) (FX y) (FX z)), .flt (depthF (FX x) (FX y) (FX z))] := by
  have h := (hls_ft (C := C) (S := S) gs.okl).le hk
  rw [hlsF_tail] at h
  exact h
noncomputable def lets (b : Bool) : List PV := if b = true then [.str (Str.ofString "n"), .str (Str.ofString "N")] else [.str (Str.ofString "n")]
theorem letN {b c : Bool} (h : b = c) : PV.int (1 + if b = true then 1 else 0) = .int ((if c = true then 2 else 1 : Nat) : Int) := by subst h; cases b <;> rfl
theorem letT (b : Bool) : ([.str (Str.ofString "n"), .str (Str.ofString "N")] : List PV).take (if b = true then 2 else 1) = lets b := by cases b <;> rfl
noncomputable def letE (n : Int) (w : Str) : List (Str × Str) := [(Str.ofString "n" ++ strI n, w), (Str.ofString "N" ++ strI n, w)]
noncomputable def strP : PV → PV
  | .int i => .str (strI i)
  | _ => .none
theorem lt62 {x : Str} {b : Nat} (h : x.length ≤ b) (hb : b ≤ 1000 := by decide) : x.cps.size < 2 ^ 62 := Nat.lt_of_le_of_lt (Nat.le_trans h hb) (by decide)
theorem log_ok {i : Int} (h0 : 0 ≤ i) (h1 : i < 1000) : i.natAbs.log2 < 1920 := by
  by_cases h : i = 0
  · subst h; decide
  · have : i.natAbs.log2 < 10 := (Nat.log2_lt (by (first | lia | omega))).mpr (by (first | lia | omega))
    (first | lia | omega)
theorem ints3 {x y z : Int} {p : PV} (hd : (0 ≤ x ∧ x < 60) ∧ (0 ≤ y ∧ y < 60) ∧ (0 ≤ z ∧ z < 60)) (hp : p ∈ [PV.int x, PV.int y, PV.int z]) : ∃ i, p = .int i ∧ 0 ≤ i ∧ i < 1000 := by
  simp only [List.mem_cons, List.mem_nil_iff, or_false] at hp
  rcases hp with rfl | rfl | rfl
  · exact ⟨x, rfl, by (first | lia | omega), by (first | lia | omega)⟩
  · exact ⟨y, rfl, by (first | lia | omega), by (first | lia | omega)⟩
  · exact ⟨z, rfl, by (first | lia | omega), by (first | lia | omega)⟩
theorem plain_n : Plain (Str.ofString "n") := by unfold Plain; decide +kernel
theorem plain_N : Plain (Str.ofString "N") := by unfold Plain; decide +kernel
theorem lets_get {b : Bool} {q : Nat} {p : PV} {n : Int} {w : Str} (h : (lets b)[q]? = some p) : ∃ c : Str, True ∧ p = .str c ∧ q < 2 ∧ c.length = 1 ∧ Plain c ∧ (letE n w).take (q + 1) = (letE n w).take q ++ [(c ++ strI n, w)] := by
  unfold lets at h
  have : (q = 0 ∧ p = .str (Str.ofString "n")) ∨ (q = 1 ∧ p = .str (Str.ofString "N")) := by
    match q, h with
    | 0, h => left; refine ⟨rfl, ?_⟩; split at h <;> simpa using h.symm
    | 1, h => right; refine ⟨rfl, ?_⟩; split at h <;> simp at h; exact h.symm
    | q + 2, h => split at h <;> simp at h
  rcases this with ⟨rfl, rfl⟩ | ⟨rfl, rfl⟩
  · exact ⟨_, trivial, rfl, by (first | lia | omega), by decide +kernel, plain_n, rfl⟩
  · exact ⟨_, trivial, rfl, by (first | lia | omega), by decide +kernel, plain_N, rfl⟩

theorem law_laid {C : Cx} {S : List Addr} {a : Addr} {hs : List (Str × Str)} {n : Int} {ns : List Int} {r : List PV} {lo hi : Tok} (hn : 7 ≤ n ∧ n ≤ 54) (hsc : ns.length ≤ 63) (h0 : 0 < lo) (fl : FlR lo hi corn r) (hhs : hs.length ≤ 5000) (hCa : C.B₀.get? a = none) :
    CallVT C S 130 hi a (hs.map entryP) ((hs ++ allE n ns 5).map entryP) (.ref 264) [.hdr a, .int n, .lst r, .scr ns] (.lst ((allW n ns 5).map .str)) := ⟨fun A s Q E vs hti R B ha vl rl H => by
  have kin := kIn B.top
  refine wpAny_call (callBodyGT (k := 129) (ps := ["table", "size", "corners", "script"]) (rest := ["laid", "least", "middle", "most", "rest", "place", "order", "parts", "hue", "share", "value", "letter"]) (Ent.at B hCa ha vl) R (kin 264 _ (by rfl)) (by rfl) (codeRec_of kin (by kernel_rfl)) (fun M A' E' Q' hq => (vs4 (P := fun vs => BindsTo s _ ⟨vs, []⟩ ((["table", "size", "corners", "script"] : List Str).zip vs)) rl.length fun x y z u => BindsTo.of_eq rfl) M A' E' Q' hq) rl rfl rfl (by decide) (by decide) (locs (by decide)) (by decide) (by decide) (fun A' s' L S' R M hS F hs' hnk => ?_))
  obtain ⟨h, tk, rfl⟩ := hs'
  have hti : hi ≤ tk := Nat.le_trans hti hnk
  have sub : ∀ a ∈ S, a ∈ S' := by subst hS; exact fun a ha => List.mem_append_right _ (.tail _ ha)
  dsimp only [List.map_cons, List.map_nil, List.cons_append, List.nil_append] at M F
  refine X.carry (n := hi) hti ?_
  refine X.newl F M R (EvN.list EvL.nil (small (Nat.zero_le _))) (fun f => (.s (.s (.s (.s .z))))) ?_
  intro la h tk hlaS hlaC F
  refine X.done fun hti => ?_
  refine X.forT (n₀ := hi) (B := hideAll s.heap [a]) (S := la :: S') (its := runL 0 5) (fun i => [(la, (allW n ns i).map .str), (a, (hs ++ allE n ns i).map entryP)])
    (fun i => [some (.hdr a), some (.int n), some (.lst r), some (.scr ns), some (.raw (.ref la)), none, none, none, none, none, none, none, none, none, none, none])
    (fun i => [some (.hdr a), some (.int n), some (.lst r), some (.scr ns), some (.raw (.ref la)), some (.int i), none, none, none, none, none, none, none, none, none, none])
    hti ?_ M R (EvIter.range1 rfl (Ev.bl M blt_range (by kernel_rfl)) Ev.cint (by decide)) (fun _ => rfl) (fun i p hp => ?_) (fun i p S₁ B₁ s₁ E₁ hp hsub F hti => ?_) (fun h tk F hti => ?_)
  · simpa [allW, allE] using F
  · have e : p = .int i := by rw [runL_get hp, Int.zero_add]
    subst e
    exact Asg.name (.s (.s (.s (.s (.s .z)))))
  · have hi5 : i < 5 := by have := (List.getElem?_eq_some_iff.mp hp).1; simpa [runL] using this
    refine X.forT (n₀ := hi) (B := B₁) (S := S₁) (its := runL (mid0 i) 8) (fun j => [(la, (allW n ns i ++ rowW n i ns j).map .str), (a, (hs ++ allE n ns i ++ rowE n i ns j).map entryP)])
      (fun j => [some (.hdr a), some (.int n), some (.lst r), some (.scr ns), some (.raw (.ref la)), some (.int i), none, none, none, none, none, none, none, none, none, none])
      (fun j => [some (.hdr a), some (.int n), some (.lst r), some (.scr ns), some (.raw (.ref la)), some (.int i), some (.int (mid0 i + (j : Int))), none, none, none, none, none, none, none, none, none])
      hti ?_ M R (EvIter.range2 rfl (Ev.bl M blt_range (by kernel_rfl)) (Ev.callB (Ev.bl M blt_max (by kernel_rfl)) (EvL.cons (Ev.loc M (.s (.s (.s (.s (.s .z)))))) (EvL.cons Ev.cint EvL.nil)) CallR.max_ii) Ev.cint (by unfold mid0; constructor <;> split <;> (first | lia | omega)) (by decide)) (fun _ => rfl) (fun j p hp => ?_) (fun j p S₂ B₂ s₂ E₂ hp hsub₂ F hti => ?_) (fun h tk F hti => ?_)
    · simpa [rowW, rowE] using F
    · have e : p = .int (mid0 i + j) := runL_get hp
      subst e
      exact Asg.name (.s (.s (.s (.s (.s (.s .z))))))
    · have hj8 : mid0 i + j < 8 ∧ 1 ≤ mid0 (i : Int) ∧ (i : Int) ≤ mid0 i := by
        have := (List.getElem?_eq_some_iff.mp hp).1
        have h1 : 1 ≤ mid0 (i : Int) := by unfold mid0; split <;> (first | lia | omega)
        have h2 : (i : Int) ≤ mid0 i := by unfold mid0; split <;> (first | lia | omega)
        simp [runL] at this
        exact ⟨by (first | lia | omega), h1, h2⟩
      rw [rowW_succ, rowE_succ, ← List.append_assoc, ← List.append_assoc]
      have hlenW : (allW n ns i ++ rowW n i ns j).length ≤ 100 := by rw [List.length_append]; have := allW_len n ns i; have := rowW_len n i ns j; (first | lia | omega)
      have hlenE : (hs ++ allE n ns i ++ rowE n i ns j).length ≤ 5100 := by rw [List.length_append, List.length_append]; have := allE_len n ns i; have := rowE_len n i ns j; (first | lia | omega)
      generalize allW n ns i ++ rowW n i ns j = W at F hlenW ⊢
      generalize hs ++ allE n ns i ++ rowE n i ns j = En at F hlenE ⊢
      generalize hmm : mid0 (i : Int) + (j : Int) = m at F hj8 ⊢
      have hm1 : 1 ≤ m ∧ m < 8 ∧ (i : Int) ≤ m := by (first | lia | omega)
      generalize hll : (i : Int) = l at F hm1 ⊢
      have hl5 : 0 ≤ l ∧ l < 5 := by (first | lia | omega)
      have hlm : 0 ≤ l * m := Int.mul_nonneg hl5.1 (by (first | lia | omega))
      have hmmn : 0 ≤ m * m := Int.mul_nonneg (by (first | lia | omega)) (by (first | lia | omega))
      have e2lm : 2 * l * m = l * m + l * m := by rw [Int.mul_assoc, Int.two_mul]
      refine X.ifsT hti F R (Tr.cmp (Ev.bin (Ev.bin (Ev.loc M (.s (.s (.s (.s (.s (.s .z))))))) (Ev.loc M (.s (.s (.s (.s (.s (.s .z))))))) (by walk_at "my bin")) (Ev.bin (Ev.bin Ev.cint (Ev.loc M (.s (.s (.s (.s (.s .z)))))) (by walk_at "my bin")) (Ev.loc M (.s (.s (.s (.s (.s (.s .z))))))) (by walk_at "my bin")) (by walk_at "my bin")) (Ev.loc M (.s .z)) (by walk_at "my cmp") (by rfl)) (fun hb h tk F hti => ?_) (fun hb h tk F hti => ?_)
      · have hb := of_decide_eq_true hb
        refine X.tupN hti F M R (Ev.callD (Ev.gl M glb_intdivmod (by kernel_rfl)) (EvL.cons (Ev.bin (Ev.loc M (.s .z)) (Ev.bin (Ev.loc M (.s (.s (.s (.s (.s .z)))))) (Ev.loc M (.s (.s (.s (.s (.s (.s .z))))))) (by walk_at "my bin")) (by walk_at "my bin")) (EvL.cons (Ev.bin (Ev.loc M (.s (.s (.s (.s (.s .z)))))) (Ev.loc M (.s (.s (.s (.s (.s (.s .z))))))) (by walk_at "my bin")) EvL.nil)) (by walk_at "my call int_divmod") (by kernel_rfl)) (.cons (.s (.s (.s (.s (.s (.s (.s .z))))))) (.cons (.s (.s (.s (.s (.s (.s (.s (.s .z)))))))) .nil)) ?_
        intro h tk F hti
        refine X.ifsT hti F R (Tr.cmp (Ev.loc M (.s (.s (.s (.s (.s (.s (.s (.s .z))))))))) Ev.cint (by walk_at "my cmp") (by rfl)) (fun hb2 h tk F hti => ?_) (fun hb2 h tk F hti => ?_)
        · have hfit : fits n l m = true := by
            unfold fits
            rw [hb2, decide_eq_true (by (first | lia | omega)), decide_eq_true (by (first | lia | omega)), decide_eq_true hb]; rfl
          have hW : turnW n l m ns = (wordOf (tripP n l m ns) :: if twiceP (tripP n l m ns) = true then [wordOf (tripP n l m ns)] else []) := by unfold turnW; rw [if_pos hfit]
          have hE : turnE n l m ns = (((Str.ofString "n" ++ strI n, wordOf (tripP n l m ns)) : Str × Str) :: if twiceP (tripP n l m ns) = true then [(Str.ofString "N" ++ strI n, wordOf (tripP n l m ns))] else []) := by unfold turnE; rw [if_pos hfit]
          rw [hW, hE]
          obtain ⟨gP, _⟩ := all_good hn hl5 ⟨by (first | lia | omega), hm1.2.1⟩ hfit
          refine X.assignT hti F M R (Ev.bin (Ev.bin Ev.cint (Ev.loc M (.s (.s (.s (.s (.s .z)))))) (by walk_at "my bin")) (Ev.loc M (.s (.s (.s (.s (.s (.s .z))))))) (by walk_at "my bin")) (.s (.s (.s (.s (.s (.s (.s (.s (.s .z))))))))) ?_
          intro h tk F hti
          refine X.assignT hti F M R (Ev.bin (Ev.bin (Ev.bin (Ev.loc M (.s (.s (.s (.s (.s .z)))))) (Ev.loc M (.s (.s (.s (.s (.s (.s .z))))))) (by walk_at "my bin")) (Ev.callB (Ev.bl M blt_sum (by kernel_rfl)) (EvL.cons (Ev.slice (Ev.loc M (.s (.s (.s .z)))) (EvO.some (Ev.loc M (.s (.s (.s (.s (.s (.s (.s (.s (.s .z))))))))))) (EvO.some (Ev.bin (Ev.loc M (.s (.s (.s (.s (.s (.s (.s (.s (.s .z)))))))))) Ev.cint (by walk_at "my bin"))) EvO.none (by walk_at "my slice")) EvL.nil) (by walk_at "my call sum")) (by walk_at "my bin")) Ev.cint (by walk_at "my bin")) (.s (.s (.s (.s (.s (.s (.s (.s (.s (.s .z)))))))))) ?_
          intro h tk F hti
          have ho0 : 0 ≤ orderI l m ns ∧ orderI l m ns < 6 := by
            unfold orderI
            exact ⟨Int.fmod_nonneg_of_pos _ (by decide), Int.fmod_lt_of_pos _ (by decide)⟩
          obtain ⟨x, y, z, hxyz, hmem⟩ := partsI_perm (l := l) (m := m) (M := most n l m) ho0.1 ho0.2
          have htrip : tripP n l m ns = [x, y, z] := hxyz
          rw [htrip]
          obtain ⟨gs, gp⟩ := gP _ hmem
          dsimp only at gs gp
          have hdim := perms_dim hn hl5 hm1 hfit hmem
          unfold orderI at ho0 hxyz
          generalize hord : (l + m + (pickL ns (some (8 * l + m)) (some (8 * l + m + 1)) none).sum).fmod 6 = o at F ho0 hxyz
          have hbl : (baseI l m (most n l m) o).length = 3 := by unfold baseI; split <;> rfl
          refine X.assignT hti F M R (Ev.ite (Tr.val (Ev.bin (Ev.loc M (.s (.s (.s (.s (.s (.s (.s (.s (.s (.s .z))))))))))) Ev.cint (by walk_at "my bin")) rfl rfl) (fun hb => ((Ev.list (EvL.cons (Ev.loc M (.s (.s (.s (.s (.s (.s (.s .z)))))))) (EvL.cons (Ev.loc M (.s (.s (.s (.s (.s (.s .z))))))) (EvL.cons (Ev.loc M (.s (.s (.s (.s (.s .z)))))) EvL.nil))) (by walk_at "my size"))).cast (q := .lst ((baseI l m (most n l m) o).map .int)) (by rw [show baseI l m (most n l m) o = _ from if_pos hb]; rfl)) (fun hb => ((Ev.list (EvL.cons (Ev.loc M (.s (.s (.s (.s (.s .z)))))) (EvL.cons (Ev.loc M (.s (.s (.s (.s (.s (.s .z))))))) (EvL.cons (Ev.loc M (.s (.s (.s (.s (.s (.s (.s .z)))))))) EvL.nil))) (by walk_at "my size"))).cast (by rw [show baseI l m (most n l m) o = _ from if_neg (by rw [hb]; decide)]; rfl))) (.s (.s (.s (.s (.s (.s (.s (.s (.s (.s (.s .z))))))))))) ?_
          intro h tk F hti
          refine X.assignT hti F M R ((Ev.bin (Ev.slice (Ev.loc M (.s (.s (.s (.s (.s (.s (.s (.s (.s (.s (.s .z)))))))))))) (EvO.some (Ev.bin (Ev.loc M (.s (.s (.s (.s (.s (.s (.s (.s (.s (.s .z))))))))))) Ev.cint (by walk_at "my bin"))) EvO.none EvO.none (by walk_at "my slice")) (Ev.slice (Ev.loc M (.s (.s (.s (.s (.s (.s (.s (.s (.s (.s (.s .z)))))))))))) EvO.none (EvO.some (Ev.bin (Ev.loc M (.s (.s (.s (.s (.s (.s (.s (.s (.s (.s .z))))))))))) Ev.cint (by walk_at "my bin"))) EvO.none (by walk_at "my slice")) (by walk_at "my bin")).cast (q := .lst [.int x, .int y, .int z]) (by rw [pickL_map, pickL_map, ← List.map_append]; exact congrArg (fun q : List Int => PV.lst (q.map .int)) hxyz)) (.s (.s (.s (.s (.s (.s (.s (.s (.s (.s (.s .z))))))))))) ?_
          intro h tk F hti
          refine X.tupT hti F M R (EvTT.call (Ev.gl M glb_hsv (by kernel_rfl)) (EvL.cons (Ev.bin (Ev.item (Ev.loc M (.s (.s (.s (.s (.s (.s (.s (.s (.s (.s (.s .z)))))))))))) Ev.cint (by walk_at "my item")) Ev.cint (by walk_at "my bin")) (EvL.cons (Ev.bin (Ev.item (Ev.loc M (.s (.s (.s (.s (.s (.s (.s (.s (.s (.s (.s .z)))))))))))) Ev.cint (by walk_at "my item")) Ev.cint (by walk_at "my bin")) (EvL.cons (Ev.bin (Ev.item (Ev.loc M (.s (.s (.s (.s (.s (.s (.s (.s (.s (.s (.s .z)))))))))))) Ev.cint (by walk_at "my item")) Ev.cint (by walk_at "my bin")) EvL.nil))) (hsv_P gs (by (first | lia | omega))) (by kernel_rfl)) (fun t => .cons (.s (.s (.s (.s (.s (.s (.s (.s (.s (.s (.s (.s .z)))))))))))) (.cons (.s (.s (.s (.s (.s (.s (.s (.s (.s (.s (.s (.s (.s .z))))))))))))) (.cons (.s (.s (.s (.s (.s (.s (.s (.s (.s (.s (.s (.s (.s (.s .z)))))))))))))) .nil))) ?_
          intro t h tk F hnt ht
          have hin : InL (.raw (.float (hueFF (FX x) (FX y) (FX z)) t)) r (corn.map fun q => Float64.cmp q (hueFF (FX x) (FX y) (FX z)) == some Ordering.eq) := fl.inL h0 hnt fun q _ hq => hq ▸ gs.hh
          have htw := gp.tw
          refine X.for (B := B₂) (S := S₂) (its := lets (twiceI x y z)) (fun q => [(la, (W ++ List.replicate q (wordOf [x, y, z])).map .str), (a, (En ++ (letE n (wordOf [x, y, z])).take q).map entryP)])
            (fun q => [some (.hdr a), some (.int n), some (.lst r), some (.scr ns), some (.raw (.ref la)), some (.int l), none, none, none, none, none, some (.lst [.int x, .int y, .int z]), some (.raw (.float (hueFF (FX x) (FX y) (FX z)) t)), some (.flt (shareF (FX x) (FX y) (FX z))), none, none])
            (fun q => [some (.hdr a), some (.int n), some (.lst r), some (.scr ns), some (.raw (.ref la)), some (.int l), none, none, none, none, none, some (.lst [.int x, .int y, .int z]), some (.raw (.float (hueFF (FX x) (FX y) (FX z)) t)), some (.flt (shareF (FX x) (FX y) (FX z))), none, some ((lets (twiceI x y z)).getD q .none)])
            ?_ M R ((EvIter.of (Ev.slice (Ev.tuple (EvL.cons Ev.cstr (EvL.cons Ev.cstr EvL.nil)) (small (Nat.le_of_ble_eq_true rfl))) EvO.none (EvO.some ((Ev.bin Ev.cint (Ev.and (Ev.cmp (Ev.loc M (.s (.s (.s (.s (.s (.s (.s (.s (.s (.s (.s (.s (.s .z)))))))))))))) Ev.cint CmpR.ne_fi (by rfl)) (fun _ => Ev.cmp (Ev.loc M (.s (.s (.s (.s (.s (.s (.s (.s (.s (.s (.s (.s .z))))))))))))) (Ev.loc M (.s (.s .z))) (CmpR.notin_lst hin) (by rfl))) BinR.add_ib).cast (q := .int ((if twiceI x y z = true then 2 else 1 : Nat) : Int)) (letN htw))) EvO.none (SliceR.tup_to (b := if twiceI x y z = true then 2 else 1) (by split <;> decide) (small (Nat.le_of_ble_eq_true rfl)))) (IterR.tup rfl)).cast (letT _)) (fun _ => rfl) (fun q p hp => ?_) (fun q p S₃ B₃ s₃ E₃ hp hsub₃ F => ?_) (fun h tk F => ?_)
          · have F := F.weak (.k (.k (.k (.k (.k (.k (.d (.d (.d (.d (.d (.k (.k (.k (.d (.d .nil))))))))))))))))
            simpa using F
          · have e : (lets (twiceI x y z)).getD q .none = p := by rw [List.getD_eq_getElem?_getD, hp]; rfl
            rw [e]
            exact Asg.name (.s (.s (.s (.s (.s (.s (.s (.s (.s (.s (.s (.s (.s (.s (.s .z)))))))))))))))
          · have e : (lets (twiceI x y z)).getD q .none = p := by rw [List.getD_eq_getElem?_getD, hp]; rfl
            rw [e] at F
            obtain ⟨c, hc, rfl, hq2, hcl, hcP, htk⟩ := lets_get (n := n) (w := wordOf [x, y, z]) hp
            obtain ⟨hwP, hwl⟩ := word_plain hdim.1 hdim.2.1 hdim.2.2
            obtain ⟨hnP, hnl⟩ := name_plain (n := n) hcP hcl (by (first | lia | omega)) (by (first | lia | omega))
            refine X.append F R (Ev.loc M (.s (.s (.s (.s .z))))) (Ev.meth1 Ev.cstr ((Ev.comp (t := fun _ => true) (g := strP) (Comp1.mk' (xs := ["part"]) (cs := []) (cl := []) (ps := []) (by walk_at "my scope") F.inj .nil (EvIter.of (Ev.loc M (.s (.s (.s (.s (.s (.s (.s (.s (.s (.s (.s .z)))))))))))) (IterR.lst rfl)) (small (Nat.le_of_ble_eq_true rfl)) (fun p => [p]) (fun p _ => rfl) (fun p ρx _ hρ => by
                obtain ⟨q, rfl⟩ := List.length_eq_one_iff.mp hρ
                exact AsgC.name (by walk_at "my scope") .z) (fun p L' S'' hp hsub => Tests.none) (fun p L' S'' hp ht hsub => by
                obtain ⟨i, rfl, hi0, hi1⟩ := ints3 hdim hp
                exact Ev.callT (Ev.bl (CompScope.fm (by walk_at "my scope")) blt_str (by kernel_rfl)) (EvL.cons (Ev.loc (CompScope.fm (by walk_at "my scope")) .z) EvL.nil) (CallR.str_i (log_ok hi0 hi1))))).cast (q := .lst (([x, y, z].map strI).map .str)) rfl) (Meth1.join (by decide) (by simp only [List.map_cons, List.map_nil, List.sum_cons, List.sum_nil, List.length_cons, List.length_nil]; have := (strI_plain hdim.1.1 hdim.1.2).2; have := (strI_plain hdim.2.1.1 hdim.2.1.2).2; have := (strI_plain hdim.2.2.1 hdim.2.2.2).2; (first | lia | omega)))) (small (by simp only [List.length_map, List.length_append, List.length_replicate]; (first | lia | omega))) ?_
            intro h tk F
            have F := F.perm (List.Perm.swap _ _ _)
            refine X.methVV F R (Ev.loc M .z) (EvVL.cons (EvV.of (Ev.bin (Ev.loc M (.s (.s (.s (.s (.s (.s (.s (.s (.s (.s (.s (.s (.s (.s (.s .z)))))))))))))))) (Ev.callT (Ev.bl M blt_str (by kernel_rfl)) (EvL.cons (Ev.loc M (.s .z)) EvL.nil) (CallR.str_i (log_ok (by (first | lia | omega)) (by (first | lia | omega))))) (BinR.add_ss (small (by rw [len_app] at hnl; exact Nat.le_trans hnl (by (first | lia | omega))))))) (EvVL.cons (EvV.last (.tail _ (.head _)) (Ev.loc M (.s (.s (.s (.s .z))))) (Ev.neg Ev.cint)) EvVL.nil)) mth_addheader
              ((add_header (C := C) (S := S₃) (n := c ++ strI n) (v := wordOf [x, y, z]) hnP (lt62 hnl) hwP (lt62 hwl) (by (first | lia | omega)) (by simp only [List.length_map, List.length_append, List.length_take]; (first | lia | omega)) hCa).le (by (first | lia | omega))) ?_
            intro h tk F
            have F := F.perm (List.Perm.swap _ _ _)
            refine X.nil ⟨rfl, _, _, rfl, ?_⟩
            have e1 : (W ++ List.replicate (q + 1) (wordOf [x, y, z])).map PV.str = (W ++ List.replicate q (wordOf [x, y, z])).map PV.str ++ [.str (wordOf [x, y, z])] := by simp [List.replicate_succ']
            have e2 : (En ++ (letE n (wordOf [x, y, z])).take (q + 1)).map entryP = (En ++ (letE n (wordOf [x, y, z])).take q).map entryP ++ [.tup [.str (c ++ strI n), .str (wordOf [x, y, z])]] := by rw [htk]; simp [entryP]
            rw [e1, e2]
            exact F.weak (.k (.k (.k (.k (.k (.k (.d (.d (.d (.d (.d (.k (.k (.k (.d (.d .nil))))))))))))))))
          · refine X.next ?_
            refine X.next ?_
            refine X.nil ⟨rfl, _, _, rfl, ?_⟩
            have hlen : (lets (twiceI x y z)).length = if twiceI x y z = true then 2 else 1 := by unfold lets; split <;> rfl
            have F := F.weak (.k (.k (.k (.k (.k (.k (.d (.d (.d (.d (.d (.d (.d (.d (.d (.d .nil))))))))))))))))
            rw [hlen] at F
            have t3 : twiceP [x, y, z] = twiceI x y z := rfl
            rw [t3]
            cases htw2 : twiceI x y z <;> rw [htw2] at F <;> exact F
        · have hfit : fits n l m = false := by
            unfold fits; rw [hb2]; simp
          have hW : turnW n l m ns = [] := by unfold turnW; rw [hfit]; rfl
          have hE : turnE n l m ns = [] := by unfold turnE; rw [hfit]; rfl
          rw [hW, hE, List.append_nil, List.append_nil]
          refine X.next ?_
          refine X.next ?_
          exact X.nil ⟨rfl, _, _, rfl, F.weak (.k (.k (.k (.k (.k (.k (.d (.d (.d (.d (.d (.d (.d (.d (.d (.d .nil))))))))))))))))⟩
      · have hfit : fits n l m = false := by
          unfold fits; rw [hb]; simp
        have hW : turnW n l m ns = [] := by unfold turnW; rw [hfit]; rfl
        have hE : turnE n l m ns = [] := by unfold turnE; rw [hfit]; rfl
        rw [hW, hE, List.append_nil, List.append_nil]
        refine X.next ?_
        exact X.nil ⟨rfl, _, _, rfl, F.weak (.k (.k (.k (.k (.k (.k (.d (.d (.d (.d (.d (.d (.d (.d (.d (.d .nil))))))))))))))))⟩
    · have e8 : (runL (mid0 i) 8).length = cntM i := by simp [runL, cntM]
      rw [e8] at F
      refine X.nil ⟨rfl, _, _, rfl, ?_⟩
      rw [allW_succ, allE_succ, ← List.append_assoc]
      exact F.weak (.k (.k (.k (.k (.k (.d (.d (.d (.d (.d (.d (.d (.d (.d (.d (.d .nil))))))))))))))))
  · have e5 : (runL 0 5).length = 5 := by simp [runL]
    rw [e5] at F
    have F := F.freeze M hlaS (.s (.s (.s (.s .z)))) (.s (.s (.s (.s .z))))
    refine X.ret F R (Ev.loc M (.s (.s (.s (.s .z))))) (fun v h tk F r => ?_)
    obtain ⟨_, _, vl⟩ := F.vol _ (.head _)
    exact H v h tk ⟨fun b o n1 n2 n3 e => F.base.k b o n2 n3 (hideAll_get _ e fun q => n1 (List.mem_singleton.mp q)), fun _ => F.tabs⟩ (vl.less sub) (r.less sub)⟩
end Mine
end

section

open PySem PySem.W PyProof.Rows PySem.Calls
set_option maxRecDepth 100000
set_option maxHeartbeats 4000000
namespace Mine
local macro_rules | `(tactic| walk_at "my caps") => `(tactic| first | exact all_nil | (refine all_cons ⟨rfl, rfl, rfl, rfl, _, rfl⟩ ?_; walk_at "my caps"))
local macro_rules | `(tactic| walk_at "my subs") => `(tactic| first | exact lk_nil | (refine lk_cons ⟨by decide, rfl⟩ ?_; walk_at "my subs"))
local macro_rules | `(tactic| walk_at "my scope") => `(tactic| exact ⟨rfl, rfl, rfl, rfl, rfl, by decide, by decide, by decide, (by walk_at "my caps"), (by walk_at "my subs"), by decide, by decide⟩)
local macro_rules | `(tactic| walk_at "my cells") => `(tactic| first | exact all_nil | (refine all_cons (by first | exact .inl rfl | exact .inr ⟨rfl, rfl⟩) ?_; walk_at "my cells"))
theorem blt_enumerate {C : Cx} : Blt C "enumerate" (.type "enumerate") := ⟨by kernel_rfl, by boot_fast, by decide, by decide⟩
theorem blt_int {C : Cx} : Blt C "int" (.type "int") := ⟨by kernel_rfl, by boot_fast, by decide, by decide⟩
theorem blt_round {C : Cx} : Blt C "round" (.builtin "round") := ⟨by kernel_rfl, by boot_fast, by decide, by decide⟩
/-- a call upon floats made before -/
structure CallRN (C : Cx) (S : List Addr) (k : Nat) (hi : Tok) (f : Value) (l : List PV) (p : PV) : Prop where
  run : ∀ (A : Around) (s : Shared) (Q : Value → Shared → Prop) (E : Value → Shared → Prop) (vs : List Value), hi ≤ s.toks → Room k A → Bs C S s.heap → RelL S s.heap vs l → Post S s p Q → wpAny (model PW C.w) A (call f vs []) Q E s
theorem BinR.mul_ri {C : Cx} {S : List Addr} {k : Nat} {x : UInt64} {t : Tok} {n : Int} (h : n.natAbs < 2 ^ 1023) : BinR C S k .Mult (.raw (.float x t)) (.int n) (.flt (Float64.mul x (Float64.ofInt n))) := ⟨fun A s Q E va vb R B ra rb H => by obtain ⟨_, rfl⟩ := ra.inv; obtain ⟨_, rfl⟩ := rb.inv; with_reducible exact mul_fi_fits h (H.tok (.flt _ _))⟩
noncomputable def sh3 (b : Bool) (x : Int) : Int := if b = true then 64 - x else x
noncomputable def topI (x y z : Int) : Nat := if x = max3 x y z then 0 else if y = max3 x y z then 1 else 2
noncomputable def p2I (x y z : Int) (j : Nat) : Int := if j = 0 then y else if j = 1 then z else x
noncomputable def p1I (x y z : Int) (j : Nat) : Int := if j = 0 then z else if j = 1 then x else y
theorem topI_lt (x y z : Int) : topI x y z < 3 := by unfold topI; split <;> (try split) <;> (first | lia | omega)
theorem topI_idx (x y z : Int) : ([x, y, z] : List Int).findIdx? (· == max3 x y z) = some (topI x y z) := by
  have h : x = max3 x y z ∨ y = max3 x y z ∨ z = max3 x y z := by unfold max3; split <;> split <;> simp
  unfold topI
  by_cases h1 : x = max3 x y z
  · rw [if_pos h1]; simp [List.findIdx?_cons, ← h1]
  · rw [if_neg h1]
    have e1 : (x == max3 x y z) = false := beq_eq_false_iff_ne.mpr h1
    by_cases h2 : y = max3 x y z
    · rw [if_pos h2]
      have e2 : (y == max3 x y z) = true := beq_iff_eq.mpr h2
      rw [List.findIdx?_cons, e1, List.findIdx?_cons, e2]; rfl
    · rw [if_neg h2]
      have e2 : (y == max3 x y z) = false := beq_eq_false_iff_ne.mpr h2
      have e3 : (z == max3 x y z) = true := beq_iff_eq.mpr (by rcases h with h | h | h; exact absurd h h1; exact absurd h h2; exact h)
      rw [List.findIdx?_cons, e1, List.findIdx?_cons, e2, List.findIdx?_cons, e3]; rfl
theorem idx2 (x y z : Int) {j : Nat} (hj : j < 3) : idxL [PV.int x, .int y, .int z] ((j : Int) - 2) = some (.int (p2I x y z j)) := by
  have : j = 0 ∨ j = 1 ∨ j = 2 := by (first | lia | omega)
  rcases this with rfl | rfl | rfl <;> rfl
theorem idx1 (x y z : Int) {j : Nat} (hj : j < 3) : idxL [PV.int x, .int y, .int z] ((j : Int) - 1) = some (.int (p1I x y z j)) := by
  have : j = 0 ∨ j = 1 ∨ j = 2 := by (first | lia | omega)
  rcases this with rfl | rfl | rfl <;> rfl
theorem spot_eq (x y z : Int) : (2 * (max3 x y z - min3 x y z) * (topI x y z : Int) + p2I x y z (topI x y z) - p1I x y z (topI x y z)).fmod (if 1 > 6 * (max3 x y z - min3 x y z) then 1 else 6 * (max3 x y z - min3 x y z)) = spotI x y z := by
  unfold spotI
  congr 1
  unfold topI
  by_cases h1 : x = max3 x y z
  · simp only [if_pos h1, p2I, p1I]; simp only [if_true]; (first | lia | omega)
  · by_cases h2 : y = max3 x y z
    · simp only [if_neg h1, if_pos h2, p2I, p1I]; simp only [if_true, if_neg (show ¬ ((1 : Nat) = 0) by decide)]; (first | lia | omega)
    · simp only [if_neg h1, if_neg h2, p2I, p1I]; simp only [if_neg (show ¬ ((2 : Nat) = 0) by decide), if_neg (show ¬ ((2 : Nat) = 1) by decide)]; (first | lia | omega)
noncomputable def shareI (r g b : Int) : UInt64 := if (min3 r g b == max3 r g b) = true then fl0 else divI (max3 r g b - min3 r g b) (max3 r g b)
theorem hsvI_list (r g b : Int) : hsvI r g b = [.flt (hueII r g b), .flt (shareI r g b), .int (max3 r g b)] := by unfold hsvI hueII shareI; split <;> rfl
/-- all even or all odd -/
noncomputable def parI (x y z : Int) : Bool := min3 (x.fmod 2) (y.fmod 2) (z.fmod 2) == max3 (x.fmod 2) (y.fmod 2) (z.fmod 2)
theorem fmod2 (x : Int) : x.fmod 2 = 0 ∨ x.fmod 2 = 1 := by
  have h1 := Int.fmod_nonneg_of_pos x (show (0 : Int) < 2 by decide)
  have h2 := Int.fmod_lt_of_pos x (show (0 : Int) < 2 by decide)
  (first | lia | omega)
theorem fmod2m (x : Int) : x.fmod 2 ∈ [(0 : Int), 1] := by
  rcases fmod2 x with h | h <;> rw [h]
  · exact .head _
  · exact .tail _ (.head _)
theorem par_tab : ∀ a ∈ [(0 : Int), 1], ∀ b ∈ [(0 : Int), 1], ∀ c ∈ [(0 : Int), 1], isEq (Float64.cmpInt (shareI a b c) 0) = (min3 a b c == max3 a b c) := by decide +kernel
theorem par_ok (x y z : Int) : isEq (Float64.cmpInt (shareI (x.fmod 2) (y.fmod 2) (z.fmod 2)) 0) = parI x y z := par_tab _ (fmod2m x) _ (fmod2m y) _ (fmod2m z)
theorem par_ne : ∀ a ∈ [(0 : Int), 1], ∀ b ∈ [(0 : Int), 1], ∀ c ∈ [(0 : Int), 1], neOkB a b c = true := by decide +kernel
theorem hsv_par {C : Cx} {S : List Addr} {k : Nat} {x y z : Int} (hk : 6 ≤ k) : CallR C S k (.ref 52) [.int (x.fmod 2), .int (y.fmod 2), .int (z.fmod 2)] (.tup [.flt (hueII (x.fmod 2) (y.fmod 2) (z.fmod 2)), .flt (shareI (x.fmod 2) (y.fmod 2) (z.fmod 2)), .int (max3 (x.fmod 2) (y.fmod 2) (z.fmod 2))]) := by
  have h := (hsv_it (C := C) (S := S) (neOk_of (par_ne _ (fmod2m x) _ (fmod2m y) _ (fmod2m z)))).toR.le hk
  rw [hsvI_list] at h
  exact h
/-- what is known of a word -/
structure GoodW (x y z : Int) : Prop where
  dim : (0 ≤ x ∧ x < 60) ∧ (0 ≤ y ∧ y < 60) ∧ (0 ≤ z ∧ z < 60)
  s : GoodS x y z
  p : GoodP x y z
  c : GoodS (64 - x) (64 - y) (64 - z)
  w : Txt.words (wordOf [x, y, z]) = [strI x, strI y, strI z]
noncomputable def sgnW (x y z : Int) : Int := if parI x y z = true then -weightI x y z else weightI x y z
noncomputable def sgnT (t : Int × Int × Int) : Int := sgnW t.1 t.2.1 t.2.2
noncomputable def wordT (t : Int × Int × Int) : Str := wordOf [t.1, t.2.1, t.2.2]
noncomputable def cntTo (Ps : List (Int × Int × Int)) (i : Nat) : Int := ((Ps.take i).map sgnT).sum
noncomputable def numP : PV → PV
  | .str x => .int (match [x] with | [y] => ((List.range 60).find? fun i : Nat => strI (i : Int) == y).getD 0 | _ => 0)
  | _ => .none
noncomputable def compP : PV → PV
  | .int i => .int (64 - i)
  | _ => .none
theorem num_find : ∀ i : Nat, i < 60 → ((List.range 60).find? fun j : Nat => strI (j : Int) == strI (i : Int)).getD 0 = i := by decide +kernel
theorem numP_eq {i : Int} (h0 : 0 ≤ i) (h1 : i < 60) : numP (.str (strI i)) = .int i := by
  have h := num_find i.toNat (by (first | lia | omega))
  rw [show ((i.toNat : Nat) : Int) = i by (first | lia | omega)] at h
  show PV.int _ = _
  congr 1
  dsimp only
  (first | lia | omega)
theorem good_sh {x y z : Int} (g : GoodW x y z) (b : Bool) : GoodS (sh3 b x) (sh3 b y) (sh3 b z) := by cases b <;> first | exact g.s | exact g.c
theorem dim_sh {x : Int} (h : 0 ≤ x ∧ x < 60) (b : Bool) : 0 ≤ sh3 b x ∧ sh3 b x ≤ 64 := by unfold sh3; split <;> (first | lia | omega)
theorem mm_dim {x y z : Int} (hx : 0 ≤ x ∧ x ≤ 64) (hy : 0 ≤ y ∧ y ≤ 64) (hz : 0 ≤ z ∧ z ≤ 64) : 0 ≤ min3 x y z ∧ min3 x y z ≤ max3 x y z ∧ max3 x y z ≤ 64 := by unfold max3 min3; split <;> split <;> split <;> split <;> (first | lia | omega)
theorem mulOk' {x y : Int} (h0 : 0 ≤ x) (h1 : x < 2 ^ 40) : IntMulOk x y := .of_left (Nat.le_trans (intBits_le (k := 40) h0 (by (first | lia | omega))) (by (first | lia | omega)))
theorem natAbs_ok' {x : Int} (h0 : 0 ≤ x) (h1 : x < 2 ^ 40) : x.natAbs < 2 ^ 1023 := Nat.lt_of_lt_of_le (show x.natAbs < 2 ^ 40 by (first | lia | omega)) (Nat.pow_le_pow_right (by (first | lia | omega)) (by (first | lia | omega)))
theorem Ev.p20 {C : Cx} {S : List Addr} {env : Env} {nm : List Str} {ρ : List (Option PV)} {k n m : Nat} {p1 p2 p3 : Pos} : Ev C S env nm ρ k (.BinOp (.Constant (.int 2) n p1) .Pow (.Constant (.int 20) m p2) p3) (.int (2 ^ 20)) := (Ev.bin Ev.cint Ev.cint (BinR.pow_ii (by decide) (by decide))).cast rfl
theorem Ev.p26 {C : Cx} {S : List Addr} {env : Env} {nm : List Str} {ρ : List (Option PV)} {k n m : Nat} {p1 p2 p3 : Pos} : Ev C S env nm ρ k (.BinOp (.Constant (.int 2) n p1) .Pow (.Constant (.int 26) m p2) p3) (.int (2 ^ 26)) := (Ev.bin Ev.cint Ev.cint (BinR.pow_ii (by decide) (by decide))).cast rfl
theorem bits20 : Builtin.Int.intBits (2 ^ 20) ≤ 64 := by decide +kernel
local macro_rules | `(tactic| walk_at "my bin") => `(tactic| with_reducible (first
  | exact BinR.add_ii | exact BinR.sub_ii | exact BinR.mod_ii (by first | decide | (split <;> (first | lia | omega)))
  | exact BinR.div_ii (by decide) (natAbs_ok (by (first | lia | omega)) (by (first | lia | omega))) | exact BinR.mul_ff
  | exact BinR.pow_ii (by decide) (by decide) | exact BinR.mul_fi (natAbs_ok' (by (first | lia | omega)) (by (first | lia | omega))) | exact BinR.mul_ri (natAbs_ok' (by (first | lia | omega)) (by (first | lia | omega))) | exact BinR.mul_ii (mulOk' (by (first | lia | omega)) (by (first | lia | omega))) | exact BinR.mul_ii (.of_right bits20)))
local macro_rules | `(tactic| walk_at "my size") => `(tactic| exact small (Nat.le_of_ble_eq_true rfl))
local macro_rules | `(tactic| walk_at "my call max") => `(tactic| with_reducible (first | exact CallR.max_l3 | exact CallR.max_ii))
local macro_rules | `(tactic| walk_at "my call min") => `(tactic| with_reducible (first | exact CallR.min_l3 | exact CallR.min_ii))
local macro_rules | `(tactic| walk_at "my item") => `(tactic| first | exact ItemR.lst rfl (by decide) (by decide))
theorem CmpR.cast {C : Cx} {S : List Addr} {k : Nat} {op : CmpOp} {a b : PV} {c d : Bool} (h : CmpR C S k op a b c) (e : c = d) : CmpR C S k op a b d := e ▸ h
theorem nums3 {x y z : Int} {p : PV} (hd : (0 ≤ x ∧ x < 60) ∧ (0 ≤ y ∧ y < 60) ∧ (0 ≤ z ∧ z < 60)) (hp : p ∈ [strI x, strI y, strI z].map PV.str) : ∃ i, p = .str (strI i) ∧ 0 ≤ i ∧ i < 60 := by
  simp only [List.map_cons, List.map_nil, List.mem_cons, List.mem_nil_iff, or_false] at hp
  rcases hp with rfl | rfl | rfl
  · exact ⟨x, rfl, by (first | lia | omega), by (first | lia | omega)⟩
  · exact ⟨y, rfl, by (first | lia | omega), by (first | lia | omega)⟩
  · exact ⟨z, rfl, by (first | lia | omega), by (first | lia | omega)⟩
theorem sat3 {nm : List Str} {ρ ρ' : List (Option PV)} {q : Str} {x y z : Int} (hd : (0 ≤ x ∧ x < 60) ∧ (0 ≤ y ∧ y < 60) ∧ (0 ≤ z ∧ z < 60)) (h : SetAt nm ρ q (.lst [.int x, .int y, .int z]) ρ') : SetAt nm ρ q (.lst (([strI x, strI y, strI z].map PV.str).filterMap (keepF (fun _ => true) numP))) ρ' := by
  have e : ([strI x, strI y, strI z].map PV.str).filterMap (keepF (fun _ => true) numP) = [.int x, .int y, .int z] := by
    show [numP (.str (strI x)), numP (.str (strI y)), numP (.str (strI z))] = _
    rw [numP_eq hd.1.1 hd.1.2, numP_eq hd.2.1.1 hd.2.1.2, numP_eq hd.2.2.1 hd.2.2.2]
  rw [e]; exact h

theorem law_count {C : Cx} {S : List Addr} {Ps : List (Int × Int × Int)} {r : List PV} {lo hi : Tok} (hg : ∀ t ∈ Ps, GoodW t.1 t.2.1 t.2.2) (hl : Ps.length ≤ 1000) (h0 : 0 < lo) (fl : FlR lo hi corn r) :
    CallRN C S 60 hi (.ref 269) [.lst (Ps.map fun t => .str (wordT t)), .lst r] (.int ((Ps.map sgnT).sum)) := ⟨fun A s Q E vs hti R B rl H => by
  have kin := kIn B.top
  have hhi : 0 < hi := by cases fl with | cons a b _ => exact Nat.lt_of_le_of_lt (Nat.zero_le _) b
  refine wpAny_call (callBodyGT (k := 59) (ps := ["words", "corners"]) (rest := ["count", "k", "word", "parts", "shade", "hue", "share", "value", "shown", "light", "depth", "both", "apart", "top", "spot", "weight"]) (Ent.pure B) R (kin 269 _ (by rfl)) (by rfl) (codeRec_of kin (by kernel_rfl)) (fun M A' E' Q' hq => (vs2 (P := fun vs => BindsTo s _ ⟨vs, []⟩ ((["words", "corners"] : List Str).zip vs)) rl.length fun x y => BindsTo.of_eq rfl) M A' E' Q' hq) rl rfl rfl (by decide) (by decide) (locs (by decide)) (by decide) (by decide) (fun A' s' L S' R M hS F hs' hnk => ?_))
  obtain ⟨h, tk, rfl⟩ := hs'
  have hti : hi ≤ tk := Nat.le_trans hti hnk
  have sub : ∀ a ∈ S, a ∈ S' := by subst hS; exact fun a ha => List.mem_append_right _ (.tail _ ha)
  dsimp only [List.map_cons, List.map_nil, List.cons_append, List.nil_append] at M F
  refine X.assignT hti F M R Ev.cint (.s (.s .z)) ?_
  intro h tk F hti
  refine X.forT (n₀ := hi) (B := s.heap) (S := S') (its := enumL (Ps.map fun t => .str (wordT t))) (fun i => [])
    (fun i => [some (.lst (Ps.map fun t => .str (wordT t))), some (.lst r), some (.int (cntTo Ps i)), none, none, none, none, none, none, none, none, none, none, none, none, none, none, none])
    (fun i => [some (.lst (Ps.map fun t => .str (wordT t))), some (.lst r), some (.int (cntTo Ps i)), some (.int i), some (.str (wordT (Ps.getD i (0, 0, 0)))), none, none, none, none, none, none, none, none, none, none, none, none, none])
    hti ?_ M R (EvIter.enum (Ev.bl M blt_enumerate (by kernel_rfl)) (Ev.loc M .z) (.inl rfl)) (fun _ => rfl) (fun i p hp => ?_) (fun i p S₁ B₁ s₁ E₁ hp hsub F hti => ?_) (fun h tk F hti => ?_)
  · exact F
  · obtain ⟨q, hq, rfl⟩ := enumL_get hp
    rw [List.getElem?_map] at hq
    obtain ⟨t, ht, rfl⟩ := Option.map_eq_some_iff.mp hq
    have e : Ps.getD i (0, 0, 0) = t := by rw [List.getD_eq_getElem?_getD, ht]; rfl
    rw [e]
    exact Asg.tup (.cons (.s (.s (.s .z))) (.cons (.s (.s (.s (.s .z)))) .nil))
  · obtain ⟨q, hq, rfl⟩ := enumL_get hp
    rw [List.getElem?_map] at hq
    obtain ⟨t, ht, rfl⟩ := Option.map_eq_some_iff.mp hq
    have e : Ps.getD i (0, 0, 0) = t := by rw [List.getD_eq_getElem?_getD, ht]; rfl
    rw [e] at F
    have g := hg t (List.mem_of_getElem? ht)
    have hcn : cntTo Ps (i + 1) = cntTo Ps i + sgnT t := by unfold cntTo; rw [List.take_add_one, ht]; simp
    rw [hcn]
    obtain ⟨x, y, z⟩ := t
    dsimp only at g
    have hdim := g.dim
    obtain ⟨hwP, hwl⟩ := word_plain hdim.1 hdim.2.1 hdim.2.2
    refine X.carry (n := hi) hti ?_
    refine X.assignC F M R (Comp1.mk' (xs := ["numeral"]) (cs := []) (cl := []) (ps := []) (t := fun _ => true) (g := numP) (its := ([strI x, strI y, strI z]).map .str) (by walk_at "my scope") F.inj .nil (EvIter.of ((Ev.meth0 (Ev.loc M (.s (.s (.s (.s .z))))) (Meth0.split (small (show (wordOf [x, y, z]).length + 2 ≤ 16000 by (first | lia | omega))))).cast (by rw [g.w])) (IterR.lst rfl)) (small (Nat.le_of_ble_eq_true rfl)) (fun p => [p]) (fun p _ => rfl) (fun p ρx _ hρ => by
        obtain ⟨q, rfl⟩ := List.length_eq_one_iff.mp hρ
        exact AsgC.name (by walk_at "my scope") .z) (fun p L' S'' hp hsub => Tests.none) (fun p L' S'' hp ht hsub => by
        obtain ⟨i, rfl, hi0, hi1⟩ := nums3 hdim hp
        rw [numP_eq hi0 hi1]
        exact Ev.callT (Ev.bl (CompScope.fm (by walk_at "my scope")) blt_int (by kernel_rfl)) (EvL.cons (Ev.loc (CompScope.fm (by walk_at "my scope")) .z) EvL.nil) (CallR.int_s hi0 (by (first | lia | omega))))) (sat3 hdim (.s (.s (.s (.s (.s .z)))))) ?_
    intro h tk F
    refine X.done fun hti => ?_
    obtain ⟨b, hb⟩ : ∃ b : Bool, b = ((i : Int).fmod 2 != 0) := ⟨_, rfl⟩
    have gS := good_sh g b
    have du := dim_sh hdim.1 b
    have dv := dim_sh hdim.2.1 b
    have dw := dim_sh hdim.2.2 b
    refine X.assignT hti F M R (Ev.ite (b := b) (Tr.val ((Ev.bin (Ev.loc M (.s (.s (.s .z)))) Ev.cint (BinR.mod_ii (by decide)))) (by rw [hb]; rfl) rfl) (fun hb' => ((Ev.comp (t := fun _ => true) (g := compP) (Comp1.mk' (xs := ["part"]) (cs := []) (cl := []) (ps := []) (by walk_at "my scope") F.inj .nil (EvIter.of (Ev.loc M (.s (.s (.s (.s (.s .z)))))) (IterR.lst rfl)) (small (Nat.le_of_ble_eq_true rfl)) (fun p => [p]) (fun p _ => rfl) (fun p ρx _ hρ => by
        obtain ⟨q, rfl⟩ := List.length_eq_one_iff.mp hρ
        exact AsgC.name (by walk_at "my scope") .z) (fun p L' S'' hp hsub => Tests.none) (fun p L' S'' hp ht hsub => by
        obtain ⟨i, rfl, hi0, hi1⟩ := ints3 hdim hp
        exact Ev.bin Ev.cint (Ev.loc (CompScope.fm (by walk_at "my scope")) .z) BinR.sub_ii)))).cast (q := .lst [.int (sh3 b x), .int (sh3 b y), .int (sh3 b z)]) (by rw [hb']; rfl)) (fun hb' => (Ev.loc M (.s (.s (.s (.s (.s .z)))))).cast (by rw [hb']; rfl))) (.s (.s (.s (.s (.s (.s .z)))))) ?_
    intro h tk F hti
    generalize sh3 b x = u at F gS du
    generalize sh3 b y = v at F gS dv
    generalize sh3 b z = w at F gS dw
    have hmm := mm_dim du dv dw
    have htp := topI_lt u v w
    refine X.tupT hti F M R (EvTT.call (Ev.gl M glb_hsv (by kernel_rfl)) (EvL.cons (Ev.bin (Ev.item (Ev.loc M (.s (.s (.s (.s (.s (.s .z))))))) Ev.cint (by walk_at "my item")) Ev.cint (by walk_at "my bin")) (EvL.cons (Ev.bin (Ev.item (Ev.loc M (.s (.s (.s (.s (.s (.s .z))))))) Ev.cint (by walk_at "my item")) Ev.cint (by walk_at "my bin")) (EvL.cons (Ev.bin (Ev.item (Ev.loc M (.s (.s (.s (.s (.s (.s .z))))))) Ev.cint (by walk_at "my item")) Ev.cint (by walk_at "my bin")) EvL.nil))) (hsv_P gS (by (first | lia | omega))) (by kernel_rfl)) (fun t => .cons (.s (.s (.s (.s (.s (.s (.s .z))))))) (.cons (.s (.s (.s (.s (.s (.s (.s (.s .z)))))))) (.cons (.s (.s (.s (.s (.s (.s (.s (.s (.s .z))))))))) .nil))) ?_
    intro t1 h tk F hnt1 ht1
    refine X.tupT ht1 F M R (EvTT.call (Ev.gl M glb_hls (by kernel_rfl)) (EvL.cons (Ev.bin (Ev.item (Ev.loc M (.s (.s (.s (.s (.s (.s .z))))))) Ev.cint (by walk_at "my item")) Ev.cint (by walk_at "my bin")) (EvL.cons (Ev.bin (Ev.item (Ev.loc M (.s (.s (.s (.s (.s (.s .z))))))) Ev.cint (by walk_at "my item")) Ev.cint (by walk_at "my bin")) (EvL.cons (Ev.bin (Ev.item (Ev.loc M (.s (.s (.s (.s (.s (.s .z))))))) Ev.cint (by walk_at "my item")) Ev.cint (by walk_at "my bin")) EvL.nil))) (hls_P gS (by (first | lia | omega))) (by kernel_rfl)) (fun t => .cons (.s (.s (.s (.s (.s (.s (.s (.s (.s (.s .z)))))))))) (.cons (.s (.s (.s (.s (.s (.s (.s (.s (.s (.s (.s .z))))))))))) (.cons (.s (.s (.s (.s (.s (.s (.s (.s (.s (.s (.s (.s .z)))))))))))) .nil))) ?_
    intro t2 h tk F hnt2 ht2
    have hti : hi ≤ tk := Nat.le_trans hnt1 (Nat.le_trans (Nat.le_succ t1) (Nat.le_trans hnt2 (Nat.le_trans (Nat.le_succ t2) ht2)))
    refine X.carry (n := hi) hti ?_
    refine X.swp F M R (Ev.tuple (EvL.cons (Ev.bin (Ev.callB (Ev.bl M blt_max (by kernel_rfl)) (EvL.cons (Ev.loc M (.s (.s (.s (.s (.s (.s .z))))))) EvL.nil) (by walk_at "my call max")) (Ev.callB (Ev.bl M blt_min (by kernel_rfl)) (EvL.cons (Ev.loc M (.s (.s (.s (.s (.s (.s .z))))))) EvL.nil) (by walk_at "my call min")) (by walk_at "my bin")) (EvL.cons (Ev.bin (Ev.callB (Ev.bl M blt_max (by kernel_rfl)) (EvL.cons (Ev.loc M (.s (.s (.s (.s (.s (.s .z))))))) EvL.nil) (by walk_at "my call max")) (Ev.callB (Ev.bl M blt_min (by kernel_rfl)) (EvL.cons (Ev.loc M (.s (.s (.s (.s (.s (.s .z))))))) EvL.nil) (by walk_at "my call min")) (by walk_at "my bin")) (EvL.cons (Ev.meth1 (Ev.loc M (.s (.s (.s (.s (.s (.s .z))))))) (Ev.callB (Ev.bl M blt_max (by kernel_rfl)) (EvL.cons (Ev.loc M (.s (.s (.s (.s (.s (.s .z))))))) EvL.nil) (by walk_at "my call max")) (Meth1.index3 (topI_idx u v w))) EvL.nil))) (small (Nat.le_of_ble_eq_true rfl))) rfl (.cons (.s (.s (.s (.s (.s (.s (.s (.s (.s (.s (.s (.s (.s (.s (.s .z))))))))))))))) (.cons (.s (.s (.s (.s (.s (.s (.s (.s (.s (.s (.s (.s (.s (.s .z)))))))))))))) (.cons (.s (.s (.s (.s (.s (.s (.s (.s (.s (.s (.s (.s (.s .z))))))))))))) .nil))) ?_
    intro h tk F
    refine X.done fun hti => ?_
    refine X.assignT hti F M R ((Ev.bin (Ev.bin (Ev.bin (Ev.bin (Ev.bin Ev.cint (Ev.loc M (.s (.s (.s (.s (.s (.s (.s (.s (.s (.s (.s (.s (.s (.s .z))))))))))))))) (by walk_at "my bin")) (Ev.loc M (.s (.s (.s (.s (.s (.s (.s (.s (.s (.s (.s (.s (.s (.s (.s .z)))))))))))))))) (by walk_at "my bin")) (Ev.item (Ev.loc M (.s (.s (.s (.s (.s (.s .z))))))) (Ev.bin (Ev.loc M (.s (.s (.s (.s (.s (.s (.s (.s (.s (.s (.s (.s (.s (.s (.s .z)))))))))))))))) Ev.cint BinR.sub_ii) (ItemR.lst (idx2 u v w htp) (by (first | lia | omega)) (by (first | lia | omega)))) (by walk_at "my bin")) (Ev.item (Ev.loc M (.s (.s (.s (.s (.s (.s .z))))))) (Ev.bin (Ev.loc M (.s (.s (.s (.s (.s (.s (.s (.s (.s (.s (.s (.s (.s (.s (.s .z)))))))))))))))) Ev.cint BinR.sub_ii) (ItemR.lst (idx1 u v w htp) (by (first | lia | omega)) (by (first | lia | omega)))) (by walk_at "my bin")) (Ev.callB (Ev.bl M blt_max (by kernel_rfl)) (EvL.cons (Ev.bin Ev.cint (Ev.loc M (.s (.s (.s (.s (.s (.s (.s (.s (.s (.s (.s (.s (.s (.s .z))))))))))))))) (by walk_at "my bin")) (EvL.cons Ev.cint EvL.nil)) (by walk_at "my call max")) (by walk_at "my bin")).cast (q := .int (spotI u v w)) (congrArg PV.int (spot_eq u v w))) (.s (.s (.s (.s (.s (.s (.s (.s (.s (.s (.s (.s (.s (.s (.s (.s .z)))))))))))))))) ?_
    intro h tk F hti
    have hq1 : 0 < t1 := Nat.lt_of_lt_of_le hhi hnt1
    have hq2 : 0 < t2 := Nat.lt_of_lt_of_le hq1 (Nat.le_trans (Nat.le_succ t1) hnt2)
    have hq3 : t2 ≠ t1 := fun e => absurd hnt2 (by rw [e]; exact Nat.not_succ_le_self t1)
    have eqs : EqL [.raw (.float (hueFF (FX u) (FX v) (FX w)) t2), .flt (Float64.mul (lightF (FX u) (FX v) (FX w)) (oI 128)), .flt (Float64.mul (fmax3 (FX u) (FX v) (FX w)) (oI 64))] [.raw (.float (hueFF (FX u) (FX v) (FX w)) t1), .int (max3 u v w + min3 u v w), .int (max3 u v w)] [true, true, true] := by
      refine .cons ?_ (.cons ?_ (.cons ?_ .nil))
      · rw [← gS.hh]; exact .ff _ _ _ _ hq2 hq1 hq3 (fun _ => gS.hh)
      · rw [← gS.e2]; exact .fi _ _
      · rw [← gS.e3]; exact .fi _ _
    refine X.ifsT (b := false) hti F R (Tr.or (b := false) (c := false) (Tr.cmp (Ev.list (EvL.cons (Ev.loc M (.s (.s (.s (.s (.s (.s (.s (.s (.s (.s .z))))))))))) (EvL.cons (Ev.bin (Ev.loc M (.s (.s (.s (.s (.s (.s (.s (.s (.s (.s (.s .z)))))))))))) Ev.cint (by walk_at "my bin")) (EvL.cons (Ev.bin (Ev.loc M (.s (.s (.s (.s (.s (.s (.s (.s (.s .z)))))))))) Ev.cint (by walk_at "my bin")) EvL.nil))) (by walk_at "my size")) (Ev.list (EvL.cons (Ev.loc M (.s (.s (.s (.s (.s (.s (.s .z)))))))) (EvL.cons (Ev.loc M (.s (.s (.s (.s (.s (.s (.s (.s (.s (.s (.s (.s (.s .z)))))))))))))) (EvL.cons (Ev.callB (Ev.bl M blt_max (by kernel_rfl)) (EvL.cons (Ev.loc M (.s (.s (.s (.s (.s (.s .z))))))) EvL.nil) (by walk_at "my call max")) EvL.nil))) (by walk_at "my size")) (CmpR.ne_ll eqs) (by rfl)) (fun _ => (Tr.cmp (Ev.callB (Ev.bl M blt_round (by kernel_rfl)) (EvL.cons (Ev.bin (Ev.bin (Ev.bin (Ev.loc M (.s (.s (.s (.s (.s (.s (.s .z)))))))) Ev.cint (by walk_at "my bin")) (Ev.loc M (.s (.s (.s (.s (.s (.s (.s (.s (.s (.s (.s (.s (.s (.s .z))))))))))))))) (by walk_at "my bin")) Ev.p20 (by walk_at "my bin")) EvL.nil) (CallR.round_f gS.f1)) (Ev.bin (Ev.loc M (.s (.s (.s (.s (.s (.s (.s (.s (.s (.s (.s (.s (.s (.s (.s (.s .z))))))))))))))))) Ev.p20 (by walk_at "my bin")) (CmpR.ne_ii.cast (by rw [gS.r1]; simp)) (by rfl)))) (fun hb => nomatch hb) (fun hb h tk F hti => ?_)
    refine X.next ?_
    refine X.ifsT (b := false) hti F R (Tr.cmp (Ev.list (EvL.cons (Ev.callB (Ev.bl M blt_round (by kernel_rfl)) (EvL.cons (Ev.bin (Ev.bin (Ev.loc M (.s (.s (.s (.s (.s (.s (.s (.s .z))))))))) (Ev.loc M (.s (.s (.s (.s (.s (.s (.s (.s (.s .z)))))))))) (by walk_at "my bin")) Ev.p26 (by walk_at "my bin")) EvL.nil) (CallR.round_f gS.f2)) (EvL.cons (Ev.callB (Ev.bl M blt_round (by kernel_rfl)) (EvL.cons (Ev.bin (Ev.bin (Ev.loc M (.s (.s (.s (.s (.s (.s (.s (.s (.s (.s (.s (.s .z))))))))))))) (Ev.callB (Ev.bl M blt_min (by kernel_rfl)) (EvL.cons (Ev.loc M (.s (.s (.s (.s (.s (.s (.s (.s (.s (.s (.s (.s (.s .z)))))))))))))) (EvL.cons (Ev.bin Ev.cint (Ev.loc M (.s (.s (.s (.s (.s (.s (.s (.s (.s (.s (.s (.s (.s .z)))))))))))))) (by walk_at "my bin")) EvL.nil)) (by walk_at "my call min")) (by walk_at "my bin")) Ev.p20 (by walk_at "my bin")) EvL.nil) (CallR.round_f gS.f3)) EvL.nil)) (small (Nat.le_of_ble_eq_true rfl))) (Ev.bin Ev.cint (Ev.list (EvL.cons (Ev.bin (Ev.loc M (.s (.s (.s (.s (.s (.s (.s (.s (.s (.s (.s (.s (.s (.s .z))))))))))))))) Ev.p20 (by walk_at "my bin")) EvL.nil) (by walk_at "my size")) (BinR.mul_il (by simp) (by decide) (by decide) (Nat.le_of_ble_eq_true rfl))) ((CmpR.ne_ll (.cons (.int _ _) (.cons (.int _ _) .nil))).cast (by rw [gS.r2, gS.r3]; simp)) (by rfl)) (fun hb => nomatch hb) (fun hb h tk F hti => ?_)
    refine X.next ?_
    refine X.tupT hti F M R (EvTT.call (Ev.gl M glb_hsv (by kernel_rfl)) (EvL.cons (Ev.bin (Ev.item (Ev.loc M (.s (.s (.s (.s (.s .z)))))) Ev.cint (by walk_at "my item")) Ev.cint (by walk_at "my bin")) (EvL.cons (Ev.bin (Ev.item (Ev.loc M (.s (.s (.s (.s (.s .z)))))) Ev.cint (by walk_at "my item")) Ev.cint (by walk_at "my bin")) (EvL.cons (Ev.bin (Ev.item (Ev.loc M (.s (.s (.s (.s (.s .z)))))) Ev.cint (by walk_at "my item")) Ev.cint (by walk_at "my bin")) EvL.nil))) (hsv_P g.s (by (first | lia | omega))) (by kernel_rfl)) (fun t => .cons (.s (.s (.s (.s (.s (.s (.s .z))))))) (.cons (.s (.s (.s (.s (.s (.s (.s (.s .z)))))))) (.cons (.s (.s (.s (.s (.s (.s (.s (.s (.s .z))))))))) .nil))) ?_
    intro t3 h tk F hnt3 ht3
    have hti : hi ≤ tk := Nat.le_trans hnt3 (Nat.le_trans (Nat.le_succ t3) ht3)
    have hin : InL (.raw (.float (hueFF (FX x) (FX y) (FX z)) t3)) r (corn.map fun q => Float64.cmp q (hueFF (FX x) (FX y) (FX z)) == some Ordering.eq) := fl.inL h0 hnt3 fun q _ hq => hq ▸ g.s.hh
    have hwt := g.p.wt
    refine X.assignT hti F M R (Ev.ite (Tr.cmp (Ev.loc M (.s (.s (.s (.s (.s (.s (.s (.s .z))))))))) Ev.cint CmpR.eq_fi (by rfl)) (fun hb => Ev.cint.cast (q := .int (weightI x y z)) (by rw [← hwt, if_pos hb])) (fun hb => Ev.ite (Tr.and (Tr.cmp (Ev.loc M (.s (.s (.s (.s (.s (.s (.s (.s .z))))))))) Ev.cint CmpR.eq_fi (by rfl)) (fun _ => Tr.cmp (Ev.loc M (.s (.s (.s (.s (.s (.s (.s .z)))))))) (Ev.loc M (.s .z)) (CmpR.in_lst hin) (by rfl))) (fun hb2 => Ev.cint.cast (by rw [← hwt, if_neg (fun e => Bool.noConfusion (hb.symm.trans e)), if_pos (show (isEq (Float64.cmpInt (shareF (FX x) (FX y) (FX z)) 1) && inC (hueFF (FX x) (FX y) (FX z))) = true from hb2)])) (fun hb2 => Ev.cint.cast (by rw [← hwt, if_neg (fun e => Bool.noConfusion (hb.symm.trans e)), if_neg (fun e => Bool.noConfusion ((show (isEq (Float64.cmpInt (shareF (FX x) (FX y) (FX z)) 1) && inC (hueFF (FX x) (FX y) (FX z))) = false from hb2).symm.trans e))])))) (.s (.s (.s (.s (.s (.s (.s (.s (.s (.s (.s (.s (.s (.s (.s (.s (.s .z))))))))))))))))) ?_
    intro h tk F hti
    refine X.assignT hti F M R (Ev.bin (Ev.loc M (.s (.s .z))) (Ev.ite (b := parI x y z) (Tr.cmp (Ev.item (Ev.callD (Ev.gl M glb_hsv (by kernel_rfl)) (EvL.cons (Ev.bin (Ev.item (Ev.loc M (.s (.s (.s (.s (.s .z)))))) Ev.cint (by walk_at "my item")) Ev.cint (by walk_at "my bin")) (EvL.cons (Ev.bin (Ev.item (Ev.loc M (.s (.s (.s (.s (.s .z)))))) Ev.cint (by walk_at "my item")) Ev.cint (by walk_at "my bin")) (EvL.cons (Ev.bin (Ev.item (Ev.loc M (.s (.s (.s (.s (.s .z)))))) Ev.cint (by walk_at "my item")) Ev.cint (by walk_at "my bin")) EvL.nil))) (hsv_par (by (first | lia | omega))) (by kernel_rfl)) Ev.cint (ItemR.tup (r := .flt (shareI (x.fmod 2) (y.fmod 2) (z.fmod 2))) rfl (by decide) (by decide))) Ev.cint (CmpR.eq_fi.cast (par_ok x y z)) (by rfl)) (fun hb => (Ev.neg (Ev.loc M (.s (.s (.s (.s (.s (.s (.s (.s (.s (.s (.s (.s (.s (.s (.s (.s (.s .z))))))))))))))))))).cast (q := .int (sgnT (x, y, z))) (by show _ = PV.int (sgnW x y z); unfold sgnW; rw [hb]; rfl)) (fun hb => (Ev.loc M (.s (.s (.s (.s (.s (.s (.s (.s (.s (.s (.s (.s (.s (.s (.s (.s (.s .z)))))))))))))))))).cast (by show _ = PV.int (sgnW x y z); unfold sgnW; rw [hb]; rfl))) BinR.add_ii) (.s (.s .z)) ?_
    intro h tk F hti
    exact X.nil ⟨rfl, _, _, rfl, F.weak (.k (.k (.k (.d (.d (.d (.d (.d (.d (.d (.d (.d (.d (.d (.d (.d (.d (.d .nil))))))))))))))))))⟩
  · have e : cntTo Ps (enumL (Ps.map fun t => PV.str (wordT t))).length = (Ps.map sgnT).sum := by
      unfold cntTo; rw [enumL_length, List.length_map, List.take_length]
    rw [e] at F
    exact X.ret F R (Ev.loc M (.s (.s .z))) (fun v h tk F r => H v h tk F.base (r.less sub))⟩
end Mine
end

section
open PySem PySem.W PyProof.Rows PySem.Calls
set_option maxRecDepth 100000
namespace Mine
section
variable {C : Cx} {env : Env} {scope : Scope} {cl : List (Str × Addr)} {xs cs : List Str} {A : Around} {B : Heap} {S T : List Addr} {V : List (Addr × List PV)} {L : Addr} {s : Shared} {k : Nat} {E : Value → Shared → Prop}
noncomputable abbrev emit2 (e : PySem.Expr) (iter2 : PySem.Expr) (D : Addr) (env : Env) : Sem Unit := do
  let x ← eval iter2 env
  standAt iter2.pos
  let x ← foldedSetIterable iter2 env x
  let _ ← runOwn (.compStart e 1 (← holding [x] (pyIter x)) (.ref D) env) env

theorem compTurn_two {elt tgt iter tgt2 iter2 : PySem.Expr} {ifs ifs2 : List PySem.Expr} {sc : Scope} {pos : Pos} {it : Value} {D : Addr} {env : Env} :
    compTurn (.ListComp elt [⟨tgt, iter, ifs, 0⟩, ⟨tgt2, iter2, ifs2, 0⟩] sc pos) 0 it (.ref D) env = (do
      standAt iter.pos
      match ← pyNext it with
      | none => pure (.done .next)
      | some v =>
        letOwnedTupleGo tgt it v
        PySem.assign tgt env v
        let mut ok := true
        for c in ifs do
          if ok then ok ← PySem.isTrue c env (eval c env)
        if ok then
          emit2 (.ListComp elt [⟨tgt, iter, ifs, 0⟩, ⟨tgt2, iter2, ifs2, 0⟩] sc pos) iter2 D env
        again (.compLoop (.ListComp elt [⟨tgt, iter, ifs, 0⟩, ⟨tgt2, iter2, ifs2, 0⟩] sc pos) 0 it (.ref D) env)) := by
  have h : compTurn (.ListComp elt [⟨tgt, iter, ifs, 0⟩, ⟨tgt2, iter2, ifs2, 0⟩] sc pos) 0 it (.ref D) env = (do
      standAt iter.pos
      match ← pyNext it with
      | none => pure (.done .next)
      | some v =>
        letOwnedTupleGo tgt it v
        PySem.assign tgt env v
        let mut ok := true
        for c in ifs do
          if ok then ok ← PySem.isTrue c env (eval c env)
        if ok then
          let x ← eval iter2 env
          standAt iter2.pos
          let x ← foldedSetIterable iter2 env x
          let _ ← runOwn (.compStart (.ListComp elt [⟨tgt, iter, ifs, 0⟩, ⟨tgt2, iter2, ifs2, 0⟩] sc pos) 1 (← holding [x] (pyIter x)) (.ref D) env) env
        again (.compLoop (.ListComp elt [⟨tgt, iter, ifs, 0⟩, ⟨tgt2, iter2, ifs2, 0⟩] sc pos) 0 it (.ref D) env)) := by rfl
  rw [h]
  simp only [emit2, bind_assoc, pure_bind]

theorem codeAny_compStart_any {w : World} {elt : PySem.Expr} {gens : List Comprehension} {depth : Nat} {sc : Scope} {pos : Pos} {it acc : Value} {env : Env} {R : Result → Shared → Prop} {target iter : PySem.Expr} {ifs : List PySem.Expr} (hg : gens[depth]? = some ⟨target, iter, ifs, 0⟩)
    (h0 : codeAny (model PW w) A (.compLoop (.ListComp elt gens sc pos) depth it acc env) R s)
    (h : wpAny (model PW w) A (pyIter it) (fun it' s' => codeAny (model PW w) A (.compLoop (.ListComp elt gens sc pos) depth it' acc env) R s')
      (notedBy (model PW w) A env fun x s' => R (.error x) s') s) :
    codeAny (model PW w) A (.compStart (.ListComp elt gens sc pos) depth it acc env) R s := by
  refine codeAny_of_tree ?_
  show wpAny _ _ ((compStart (.ListComp elt gens sc pos) depth it acc env).onRaise (fun x => do noteFrame x env; standAt theWindowsPlace)) _ _ s
  refine wpAny_notedAt ?_
  unfold compStart
  have hg' : (clausesOf (.ListComp elt gens sc pos))[depth]? = some ⟨target, iter, ifs, 0⟩ := hg
  rw [hg']
  show wpAny _ _ (ask >>= _) _ _ s
  refine wpAny_bind (wpAny_askSetting (wpAny_ite ?_))
  split
  · first
      | exact wpAny_bind (wpAny_pure (wpAny_pure (And.intro rfl h0)))
      | exact wpAny_pure (And.intro rfl h0)
  · refine wpAny_bind (wpAny_rule ?_)
    show wpAny _ _ (standAt iter.pos >>= _) _ _ s
    exact wpAny_bind (wpAny_standAt (wpAny_bind (wpAny_mono h (fun it' s' h' => wpAny_pure (And.intro rfl h')) fun _ _ x => x)))

/-- a loop within a turn -/
theorem RestC.nest {ifs ifs2 : List PySem.Expr} {elt tgt2 iter2 : PySem.Expr} {g1 : Comprehension} {sc : Scope} {pos : Pos} {D : Addr} {l : List PV} {b : Bool} {its : List PV} {ρ : List (Option PV)} (ρf ρg : Nat → List (Option PV)) {ρ' : List (Option PV)} (res : Nat → List PV) (K : CompScope env scope cl xs cs) (R : Room k A)
    (F : FS C B S ((D, l) :: V) (fEnv scope cl L env) (xs ++ cs) ρ s.heap) (ht : Tests C S (cEnv scope cl L env) (xs ++ cs) ρ k ifs b) (hi : b = true → EvIter C S (cEnv scope cl L env) (xs ++ cs) ρ k tgt2 iter2 its) (hf0 : ρf 0 = ρ) (hr0 : res 0 = [])
    (asg : ∀ i p, its[i]? = some p → AsgC C env scope cl xs cs tgt2 p (ρf i) (ρg i))
    (turn : b = true → ∀ (i : Nat) (p : PV) (S' : List Addr) (B' : Heap) (s' : Shared) (E' : Value → Shared → Prop), its[i]? = some p → (∀ a ∈ S, a ∈ S') → FS C B' S' ((D, l ++ res i) :: V) (fEnv scope cl L env) (xs ++ cs) (ρg i) s'.heap →
      RestC C A (cEnv scope cl L env) ifs2 (emit1 elt D (cEnv scope cl L env)) (TurnedC C B' S' ((D, l ++ res (i + 1)) :: V) (fEnv scope cl L env) (xs ++ cs) (ρf (i + 1)) s') E' s')
    (hw : ∀ h, FS C B S ((D, l ++ res its.length) :: V) (fEnv scope cl L env) (xs ++ cs) (ρf its.length) h → FS C B S ((D, l ++ res its.length) :: V) (fEnv scope cl L env) (xs ++ cs) ρ' h)
    (hw0 : b = false → FS C B S ((D, l) :: V) (fEnv scope cl L env) (xs ++ cs) ρ s.heap → ∀ h, Gr s.heap h → FS C B S ((D, l) :: V) (fEnv scope cl L env) (xs ++ cs) ρ' h)
    (hs : ∀ x, foldedSetIterable iter2 (cEnv scope cl L env) x = pure x := by intro _; rfl) :
    RestC C A (cEnv scope cl L env) ifs (emit2 (.ListComp elt [g1, ⟨tgt2, iter2, ifs2, 0⟩] sc pos) iter2 D (cEnv scope cl L env)) (TurnedC C B S ((D, l ++ if b = true then res its.length else []) :: V) (fEnv scope cl L env) (xs ++ cs) ρ' s) E s := ⟨by
  refine ht.run A s _ E R (K.inv F.inv) fun h₁ tk₁ g₁ => ?_
  have F₁ := F.gr g₁
  cases b with
  | false => simp only [Bool.false_eq_true, if_false, List.append_nil]; exact ⟨h₁, tk₁, rfl, hw0 rfl F h₁ g₁⟩
  | true =>
    simp only [if_true]
    refine wpAny_bind (wpAny_mono ((hi rfl).run A { s with heap := h₁, toks := tk₁ } (fun it s₂ => wpAny (model PW C.w) A (runOwn (.compStart (.ListComp elt [g1, ⟨tgt2, iter2, ifs2, 0⟩] sc pos) 1 it (.ref D) (cEnv scope cl L env)) (cEnv scope cl L env)) (fun _ s₅ => TurnedC C B S ((D, l ++ res its.length) :: V) (fEnv scope cl L env) (xs ++ cs) ρ' s s₅) E s₂) E R (K.inv F₁.inv) fun J fp wr St h₀ tk₀ g₀ W st0 hfresh hfp => ?_) (fun x s₁ h => wpAny_bind (wpAny_standAt (wpAny_bind (wpAny_of_eq (hs x) (wpAny_bind (wpAny_holding (wpAny_mono h (fun it s₂ h₂ => wpAny_bind (wpAny_mono h₂ (fun _ s₅ q => wpAny_pure q) fun _ _ e => e)) fun _ _ e => e))))))) fun _ _ e => e)
    have nc0 := W.nc 0 _ st0
    have FG : FS C B (wr ++ S) ((D, l) :: V) (fEnv scope cl L env) (xs ++ cs) ρ h₀ := F₁.grow g₀ fun b hb => ⟨hfresh b hb, let ⟨_, _, o, e, _⟩ := nc0 b hb; ⟨o, e⟩⟩
    refine wpAny_runOwn ?_
    have hloop : codeAny (model PW C.w) A (.compLoop (.ListComp elt [g1, ⟨tgt2, iter2, ifs2, 0⟩] sc pos) 1 (.ref J) (.ref D) (cEnv scope cl L env)) (fun r s' => match r with | .ok f => TurnedC C B S ((D, l ++ res its.length) :: V) (fEnv scope cl L env) (xs ++ cs) ρ' s s' | .error e => cameBackBy (model PW C.w) A (cEnv scope cl L env) E e s') { s with heap := h₀, toks := tk₀ } := by
      refine comp_forG (S := S) (T := wr ++ S) (s := { s with heap := h₀, toks := tk₀ }) (emit := emit1 elt D (cEnv scope cl L env)) K R.hh (fun i _ W' => W' = (D, l ++ res i) :: V) (V0 := (D, l) :: V) (by rw [hr0, List.append_nil]) ρf ρg (by rw [hf0]; exact FG) W (fun a ha => ha) (fun a ha hn => absurd ha hn) (fun b o _ e => e) st0
        (fun b hb => F₁.noB (hfresh b hb) (nc0 b hb).1 (nc0 b hb).2.1) (fun q => ?_) (fun q hq m => ?_) (fun b hb => ?_) (fun i tk V' e => by rw [e]; rfl) (fun i tk tk' V' e _ => e) S (fun b hb => ?_) F.ls (fun q hq => (F.vol q hq).1) rfl asg
        (fun i p B' V' s' E' hp e F' => ⟨by
          subst e
          refine wpAny_mono (turn rfl i p (wr ++ S) B' s' E' hp (fun a ha => List.mem_append_right _ ha) F').out (fun ok s₃ h₃ => ?_) fun _ _ e => e
          cases ok with
          | false => obtain ⟨h, tk, e, F⟩ := h₃; exact ⟨h, tk, _, e, rfl, F⟩
          | true => exact wpAny_mono h₃ (fun _ s₅ ⟨h, tk, e, F⟩ => ⟨h, tk, _, e, rfl, F⟩) fun _ _ e => e⟩) fun h' tk' V' e F' => ?_
      · obtain ⟨m, o, _, _, ho, _⟩ := F₁.loc
        have ho : h₁.get? L = some o := ho
        have hf : h₁.get? L = none := hfresh _ q
        rw [hf] at ho; cases ho
      · obtain ⟨_, _, vl⟩ := F₁.vol q hq
        obtain ⟨o, ho, _⟩ := vl.seq
        have hf : h₁.get? q.1 = none := hfresh _ m
        rw [hf] at ho; cases ho
      · refine ⟨(DD.ne (hfp b hb)).1, (DD.ne (hfp b hb)).2.1, fun q => (DD.ne (hfp b hb)).2.2 (q ▸ F.ls), fun q hq e => (DD.ne (hfp b hb)).2.2 (e ▸ (F.vol q hq).1)⟩
      · refine ⟨List.mem_append_right _ hb, fun q => ?_⟩
        obtain ⟨o, e⟩ := F₁.bs.off b hb
        have hf : h₁.get? b = none := hfresh b q
        rw [hf] at e; cases e
      · subst e
        exact ⟨h', tk', rfl, hw h' F'⟩
    exact codeAny_compStart_any rfl hloop (W.self _ _ _ st0 hloop)⟩
theorem Wk.refl : ∀ ρ : List (Option PV), Wk ρ ρ
  | [] => .nil
  | _ :: ρ => .k (Wk.refl ρ)
noncomputable def two (t1 : PV → Bool) (its2 : PV → List PV) (t2 : PV → PV → Bool) (g : PV → PV → PV) (p : PV) : List PV := if t1 p = true then (its2 p).filterMap (fun q => if t2 p q = true then some (g p q) else none) else []
theorem two_le {its : List PV} {t1 : PV → Bool} {its2 : PV → List PV} {t2 : PV → PV → Bool} {g : PV → PV → PV} (h : ∀ p ∈ its, (its2 p).length ≤ 100) : (its.flatMap (two t1 its2 t2 g)).length ≤ 100 * its.length := by
  induction its with
  | nil => simp
  | cons p its ih =>
    rw [List.flatMap_cons, List.length_append, List.length_cons]
    have h1 := ih fun q hq => h q (.tail _ hq)
    have h2 : (two t1 its2 t2 g p).length ≤ 100 := by
      unfold two
      split
      · exact Nat.le_trans (List.length_filterMap_le _ _) (h p (.head _))
      · simp
    (first | lia | omega)
variable {nm : List Str} {ρ : List (Option PV)}
theorem Ev.comp2 {x1 x2 : Str} {px1 px2 : Pos} {elt iter1 iter2 : PySem.Expr} {ifs1 ifs2 : List PySem.Expr} {pos : Pos} {its1 ps : List PV} {t1 : PV → Bool} {its2 : PV → List PV} {t2 : PV → PV → Bool} {g : PV → PV → PV} (K : CompScope env scope cl [x1, x2] cs) (hinj : ∀ x y c, env.cells.lookup x = some c → env.cells.lookup y = some c → x = y) (cap : Caps nm ρ cs ps)
    (he : EvIter C S env nm ρ k (.Name x1 px1) iter1 its1) (h1 : its1.length ≤ 100) (h2 : ∀ p ∈ its1, (its2 p).length ≤ 100)
    (tst1 : ∀ p L S', p ∈ its1 → (∀ a ∈ S, a ∈ S') → Tests C S' (cEnv scope cl L env) ([x1, x2] ++ cs) (some p :: none :: ps.map some) k ifs1 (t1 p))
    (he2 : ∀ p L S', p ∈ its1 → t1 p = true → (∀ a ∈ S, a ∈ S') → EvIter C S' (cEnv scope cl L env) ([x1, x2] ++ cs) (some p :: none :: ps.map some) k (.Name x2 px2) iter2 (its2 p))
    (tst2 : ∀ p q L S', p ∈ its1 → t1 p = true → q ∈ its2 p → (∀ a ∈ S, a ∈ S') → Tests C S' (cEnv scope cl L env) ([x1, x2] ++ cs) (some p :: some q :: ps.map some) k ifs2 (t2 p q))
    (hel : ∀ p q L S', p ∈ its1 → t1 p = true → q ∈ its2 p → t2 p q = true → (∀ a ∈ S, a ∈ S') → Ev C S' (cEnv scope cl L env) ([x1, x2] ++ cs) (some p :: some q :: ps.map some) k elt (g p q))
    (hs : ∀ x, foldedSetIterable iter1 env x = pure x := by intro _; rfl) (hs2 : ∀ L x, foldedSetIterable iter2 (cEnv scope cl L env) x = pure x := by intro _ _; rfl) :
    Ev C S env nm ρ k (.ListComp elt [⟨.Name x1 px1, iter1, ifs1, 0⟩, ⟨.Name x2 px2, iter2, ifs2, 0⟩] scope pos) (.lst (its1.flatMap (two t1 its2 t2 g))) := ⟨fun A s Q E R I H => by
  rw [eval_ListComp]
  refine comp_core (emit := fun L D => emit2 (.ListComp elt [⟨.Name x1 px1, iter1, ifs1, 0⟩, ⟨.Name x2 px2, iter2, ifs2, 0⟩] scope pos) iter2 D (cEnv scope cl L env)) (use := none) K hinj I cap (V := []) (fun q hq => by cases hq) (by simp) R he (fun i => (its1.take i).flatMap (two t1 its2 t2 g)) (fun _ => [])
    (fun i => match i with | 0 => none :: none :: ps.map some | i + 1 => its1[i]? :: none :: ps.map some) (fun i => its1[i]? :: none :: ps.map some) rfl rfl rfl (fun _ => rfl) (fun L D it => compTurn_two) (fun i p hp => ?_) (fun L D S' i p B' s' E' hp sub F => ?_) (fun L D h' tk' m k T _ hD hL hLD hD0 hL0 vl ns => ?_) hs
  · rw [hp]
    cases i with
    | zero => exact AsgC.name K .z (.head _)
    | succ i => exact AsgC.name K .z (.head _)
  · have hm := List.mem_of_getElem? hp
    dsimp only at F ⊢
    rw [hp] at F ⊢
    have e3 : (its1.take (i + 1)).flatMap (two t1 its2 t2 g) = (its1.take i).flatMap (two t1 its2 t2 g) ++ if t1 p = true then (fun j => ((its2 p).take j).filterMap (fun q => if t2 p q = true then some (g p q) else none)) (its2 p).length else [] := by
      rw [List.take_add_one, hp, List.flatMap_append]
      congr 1
      simp [two]
    rw [e3]
    have hlen : ((its1.take i).flatMap (two t1 its2 t2 g)).length ≤ 10000 := by
      have := two_le (t1 := t1) (t2 := t2) (g := g) (its := its1.take i) (fun q hq => h2 q (List.mem_of_mem_take hq))
      have h3 : (its1.take i).length ≤ 100 := by rw [List.length_take]; (first | lia | omega)
      (first | lia | omega)
    refine RestC.nest (g1 := ⟨.Name x1 px1, iter1, ifs1, 0⟩) (its := its2 p) (ρ' := some p :: none :: ps.map some) (fun j => match j with | 0 => some p :: none :: ps.map some | j + 1 => some p :: (its2 p)[j]? :: ps.map some) (fun j => some p :: (its2 p)[j]? :: ps.map some) (fun j => ((its2 p).take j).filterMap (fun q => if t2 p q = true then some (g p q) else none)) K R F (tst1 p L S' hm sub) (fun h => he2 p L S' hm h sub) rfl (by simp)
      (fun j q hq => ?_) (fun ht1 j q S'' B'' s'' E'' hq sub2 F2 => ?_) (fun h F2 => ?_) (fun _ F h g => F.gr g) (hs2 L)
    · rw [hq]
      cases j with
      | zero => exact AsgC.name K (.s .z) (.tail _ (.head _))
      | succ j => exact AsgC.name K (.s .z) (.tail _ (.head _))
    · have hq2 := List.mem_of_getElem? hq
      dsimp only at F2 ⊢
      rw [hq] at F2 ⊢
      have e4 : ((its2 p).take (j + 1)).filterMap (fun q => if t2 p q = true then some (g p q) else none) = ((its2 p).take j).filterMap (fun q => if t2 p q = true then some (g p q) else none) ++ if t2 p q = true then [g p q] else [] := by
        rw [List.take_add_one, hq, List.filterMap_append]
        cases h : t2 p q <;> simp [h]
      rw [e4, ← List.append_assoc]
      · refine RestC.one K R F2 (small ?_) (tst2 p q L S'' hm ht1 hq2 (fun a ha => sub2 a (sub a ha))) fun h => hel p q L S'' hm ht1 hq2 h (fun a ha => sub2 a (sub a ha))
        rw [List.length_append]
        have h5 : (((its2 p).take j).filterMap (fun q => if t2 p q = true then some (g p q) else none)).length ≤ 100 := Nat.le_trans (List.length_filterMap_le _ _) (by rw [List.length_take]; have := h2 p hm; (first | lia | omega))
        (first | lia | omega)
    · refine F2.weak ?_
      cases (its2 p).length with
      | zero => exact Wk.refl _
      | succ j => exact .k (.d (Wk.refl _))
  · have vl : VL (L :: S) h' D ((its1.take its1.length).flatMap (two t1 its2 t2 g)) := vl
    rw [List.take_length] at vl
    refine ⟨m, ns, fun h'' hs => ?_⟩
    obtain ⟨oL, es, ep, hoL, hdL, _⟩ := id ns
    have g0 : Gr s.heap h' := ⟨fun b o n1 n2 e => k b o (by simp) n1 n2 e, fun _ => T⟩
    have n68 := T.ne hoL fun vs q => by rw [hdL] at q; cases q
    have g' : Gr s.heap h'' := ⟨fun b o n1 n2 e => (hs.2 b fun q => by rw [q, hL0] at e; cases e).trans (g0.k b o n1 n2 e), fun t => (g0.tab t).but (fun b o n e => (hs.2 b n).trans e) fun o vs e q => by rw [hoL] at e; cases e; rw [hdL] at q; cases q⟩
    obtain ⟨vs, n, hl, rl⟩ := vl
    exact H _ h'' tk' g' (.lst hD ((hs.2 D fun q => hLD q.symm).trans hl) ((rl.kp fun b o hb e => (hs.2 b fun q => (DD.ne hb).2.2 (q ▸ .head _)).trans e).less fun b hb => .tail _ hb))⟩
end
end Mine
end

section
open PySem PySem.W PyProof.Rows PySem.Calls
set_option maxRecDepth 100000
set_option maxHeartbeats 4000000
namespace Mine
section
variable {C : Cx} {A : Around} {B : Heap} {S : List Addr} {V : List (Addr × List PV)} {env : Env} {nm : List Str} {ρ : List (Option PV)} {s : Shared} {k : Nat} {Q : Flow → Shared → Prop} {E : Value → Shared → Prop}
theorem FS.addV {a : Addr} {l : List PV} {h : Heap} (F : FS C B S V env nm ρ h) (ha : a ∈ S) (hB : B.get? a = none) (v : VL S h a l) (hn : a ∉ V.map (·.1)) : FS C B S ((a, l) :: V) env nm ρ h :=
  ⟨F.inv, F.b0, F.base, F.bl, fun q hq => by
    rcases List.mem_cons.mp hq with rfl | hq
    · exact ⟨ha, hB, v⟩
    · exact F.vol q hq, by rw [List.map_cons, List.nodup_cons]; exact ⟨hn, F.vnd⟩, F.ls, F.loc, F.cls, F.inj, F.frs⟩

/-- x, y = e, Headers() -/
theorem X.tabnew {e : PySem.Expr} {x : Str} {np cp : Pos} {elts : List PySem.Expr} {n m : Nat} {tpos tp pos : Pos} {rest : List Stmt} {p : PV} {ρ' : Addr → List (Option PV)} (F : FS C B S V env nm ρ s.heap) (M : Fm env nm) (R : Room k A) (hk : 8 ≤ k)
    (he : Ev C S env nm ρ k e p) (hx : Ev C S env nm ρ k (.Name x np) (.raw (.ref 255)))
    (hn : ∀ a, Tgt env nm elts [p, .hdr a] ρ (ρ' a))
    (K : ∀ a h' tk', a ∉ DD S → C.B₀.get? a = none → FS C B (a :: S) ((a, []) :: V) env nm (ρ' a) h' → X C A env rest Q E { s with heap := h', toks := tk' })
    (hs : swapsWithSole [.Tuple elts n tpos] (.Tuple [e, .Call (.Name x np) [] [] cp] m tp) pos.line env = pure false := by rfl) (hw : swappedStores [.Tuple elts n tpos] (.Tuple [e, .Call (.Name x np) [] [] cp] m tp) env = pure none := by rfl)
    (h1 : starEach [e, .Call (.Name x np) [] [] cp] env = (false, eval e env) :: starEach [.Call (.Name x np) [] [] cp] env := by rfl)
    (h2 : starEach [.Call (.Name x np) [] [] cp] env = (false, eval (.Call (.Name x np) [] [] cp) env) :: starEach [] env := by rfl)
    (hkp : keepIn C.K (.ref 255) = true := by kernel_rfl) : X C A env (.Assign [.Tuple elts n tpos] (.Tuple [e, .Call (.Name x np) [] [] cp] m tp) pos :: rest) Q E s :=
  ⟨wpAny_execs_cons (Assign_Tuple (Tuple_ (spliced_more (he.run A s _ E R F.inv fun v h₁ tk₁ g₁ rv =>
    spliced_more (wpAny_Call_Name_kw (hx.run A _ _ E R (F.inv.gr g₁) fun f h₂ tk₂ g₂ rf => by
      obtain ⟨_, rfl⟩ := rf.inv
      have F₂ := (F.gr g₁).gr g₂
      refine callWith_K0 (kIn F₂.bs.top) hkp ?_
      rw [List.append_nil]
      refine headers_new (R.le hk) F₂.bs fun t d a en n m tkk h₃ tk₃ g₃ ht hd ha it id ek ev il => ?_
      refine spliced_none (wpAny_newObj_type ?_ (by show 2 ≤ sizeLine; decide))
      have F₃ := F₂.gr g₃
      have F₄ : FS C B (a :: S) V env nm ρ h₃ := F₂.grow (W := [a]) g₃ fun b hb => by
        rw [List.mem_singleton] at hb; subst hb
        exact ⟨ha, _, il⟩
      have n68 := F₃.tabs.ne il fun vs q => by cases q
      have haV : a ∉ V.map (·.1) := fun q => by
        obtain ⟨r, hr, rfl⟩ := List.mem_map.mp q
        obtain ⟨o, ho, _⟩ := (F₂.vol r hr).2.2.seq
        have ha : h₂.get? r.1 = none := ha
        rw [ha] at ho; cases ho
      have haS : a ∉ S := fun q => by
        obtain ⟨o, e⟩ := F₂.bs.off a q
        have ha : h₂.get? a = none := ha
        rw [ha] at e; cases e
      have haD : a ∉ DD S := DD.of ⟨n68.1, n68.2, haS⟩
      have hCn : C.B₀.get? a = none := by
        cases e : C.B₀.get? a with
        | none => rfl
        | some o =>
          have := F₂.bs.top _ o e
          have ha : h₂.get? a = none := ha
          rw [ha] at this; cases this
      have F₅ : FS C B (a :: S) ((a, []) :: V) env nm ρ h₃ := F₄.addV (.head _) (F₂.noB ha n68.1 n68.2) ⟨[], m, il, .nil⟩ haV
      have gp : Gr h₃ (h₃.push { cls := .type "tuple", data := .seq [v, .ref t].toArray }) := Gr.push
      have rv' : Rel (a :: S) h₃ v p := ((rv.gr g₂).more (S' := a :: S) fun b hb hn => by
        rcases List.mem_cons.mp hb with rfl | hb
        · exact ha
        · exact absurd hb hn).gr g₃
      have tS : t ∉ DD (a :: S) := DD.of ⟨(F₃.tabs.ne it fun vs q => by cases q).1, (F₃.tabs.ne it fun vs q => by cases q).2, fun q => by
        rcases List.mem_cons.mp q with e | q
        · have il : h₃.get? a = some _ := il
          rw [e, il] at it; cases it
        · obtain ⟨o, e⟩ := F₂.bs.off t q
          have ht : h₂.get? t = none := ht
          rw [ht] at e; cases e⟩
      have dS : d ∉ DD (a :: S) := DD.of ⟨(F₃.tabs.ne id fun vs q => by cases q).1, (F₃.tabs.ne id fun vs q => by cases q).2, fun q => by
        rcases List.mem_cons.mp q with e | q
        · have il : h₃.get? a = some _ := il
          rw [e, il] at id
          have hd := congrArg Obj.data (Option.some.inj id); cases hd
        · obtain ⟨o, e⟩ := F₂.bs.off d q
          have hd : h₂.get? d = none := hd
          rw [hd] at e; cases e⟩
      have rt : Rel (a :: S) h₃ (.ref t) (.hdr a) := .hdr tS dS it id ek ev
      obtain ⟨ha1, hb1⟩ := tgt_assignEach (env := env) (hn a)
      refine assign_Tuple_tuple R.hh ⟨_, Heap.get?_push_size _ rfl, rfl, _, rfl⟩ (by rw [ha1, (hn a).len]; rfl) hb1 fun h'' he' => ?_
      have g'' : Gr (h₃.push { cls := .type "tuple", data := .seq [v, .ref t].toArray }) h'' := .of fun b o e => he' b o (Nat.ne_of_lt (Heap.lt_size e)) e
      refine wp_storeAll M (s := { s with heap := h'', toks := tk₃ }) ((F₅.gr gp).gr g'') (hn a) ?_ fun h3 tk3 F3 => (K a h3 tk3 haD hCn F3).out
      exact .cons ((rv'.gr gp).gr g'') (.cons ((rt.gr gp).gr g'') .nil))) h2) h1)) hs hw)⟩
/-- the table's list turns no more -/
theorem FS.freezeH {a : Addr} {l : List PV} {x : Str} {ρ' : List (Option PV)} {h : Heap} (F : FS C B (a :: S) ((a, l) :: V) env nm ρ h) (M : Fm env nm) (haS : a ∉ DD S) (g : GetAt nm ρ x (.hdr a)) (st : SetAt nm ρ x (.hdrL l) ρ') : FS C B S V env nm ρ' h := by
  have sub : ∀ b ∈ S, b ∈ a :: S := fun b hb => .tail _ hb
  obtain ⟨hS, hB, vs, n, ht, rl⟩ := F.vol _ (.head _)
  have hl : env.locals ≠ a := fun q => by
    obtain ⟨m, o, es, ep, ho, hd, _⟩ := F.loc
    have ht : h.get? a = some _ := ht
    rw [q, ht] at ho; cases ho; cases hd
  obtain ⟨i, hi, rfl⟩ := st.idx
  obtain ⟨i', hi', hp'⟩ := g.idx
  have hii : i' = i := by
    obtain ⟨lj, ej⟩ := List.getElem?_eq_some_iff.mp hi'
    obtain ⟨li, ei⟩ := List.getElem?_eq_some_iff.mp hi
    exact (List.getElem_inj M.nd).mp (ej.trans ei.symm)
  subst hii
  refine ⟨⟨⟨F.bs.top, fun b hb => F.bs.off b (sub b hb), F.tabs⟩, fun j y q hj hq => ?_⟩, F.b0, F.base, F.bl, fun q hq => ?_, ?_, ?_, F.loc, fun y c a b => ?_, F.inj, F.frs⟩
  · rcases set_other M hi hj hq with ⟨rfl, rfl⟩ | ⟨hne, hq⟩
    · obtain ⟨u, n', ru⟩ := F.inv.names _ y _ hj hp'
      cases ru with
      | hdr h1 h2 h3 h4 h5 h6 => exact ⟨_, n', .hdrL (DD.of ⟨(DD.ne h1).1, (DD.ne h1).2.1, fun q => (DD.ne h1).2.2 (sub _ q)⟩) (DD.of ⟨(DD.ne h2).1, (DD.ne h2).2.1, fun q => (DD.ne h2).2.2 (sub _ q)⟩) haS h3 h4 h5 h6 ht (rl.less sub)⟩
    · obtain ⟨u, n', ru⟩ := F.inv.names j y q hj hq
      exact ⟨u, n', ru.less sub⟩
  · obtain ⟨p, b, c⟩ := F.vol q (.tail _ hq)
    have nd := F.vnd
    rw [List.map_cons, List.nodup_cons] at nd
    refine ⟨?_, b, c.less sub⟩
    rcases List.mem_cons.mp p with e | p
    · exact absurd (List.mem_map_of_mem (f := (·.1)) hq) (by rw [e]; exact nd.1)
    · exact p
  · have nd := F.vnd
    rw [List.map_cons, List.nodup_cons] at nd
    exact nd.2
  · rcases List.mem_cons.mp F.ls with e | e
    · exact absurd e hl
    · exact e
  · obtain ⟨d, e, v, f⟩ := F.cls y c a b
    refine ⟨?_, e, v, f⟩
    rcases List.mem_cons.mp d with q | d
    · obtain ⟨o, ho, hd⟩ := f
      have ht : h.get? _ = some _ := ht
      rw [q, ht] at ho; cases ho; cases hd
    · exact d
end
end Mine
end

section
open PySem PySem.W PyProof.Rows PySem.Calls
set_option maxRecDepth 100000
set_option maxHeartbeats 4000000
namespace Mine
section
variable {C : Cx} {A : Around} {B : Heap} {S : List Addr} {V : List (Addr × List PV)} {env : Env} {nm : List Str} {ρ : List (Option PV)} {s : Shared} {k : Nat} {Q : Flow → Shared → Prop} {E : Value → Shared → Prop}
/-- as Ev, and something has been made -/
structure EvU (C : Cx) (S : List Addr) (env : Env) (nm : List Str) (ρ : List (Option PV)) (k : Nat) (e : PySem.Expr) (p : PV) : Prop where
  run : ∀ (A : Around) (s : Shared) (Q : Value → Shared → Prop) (E : Value → Shared → Prop), Room k A → Inv C S env nm ρ s.heap → (∀ v h' tk, Gr s.heap h' → 1 ≤ tk → Rel S h' v p → Q v { s with heap := h', toks := tk }) → wpAny (model PW C.w) A (eval e env) Q E s
theorem EvU.split {o : PySem.Expr} {apos pos : Pos} {x : Str} (ho : Ev C S env nm ρ k o (.str x)) (hx : x.length + 2 ≤ sizeLine) (h2 : (Builtin.Str.spaceWords x (x.length + 1) == [(0, x.length)]) = false) (h3 : 1 ≤ (Builtin.Str.spaceWords x (x.length + 1)).length)
    (hbase : attributeBase o "split" env (eval o env) = eval o env := by rfl) (hline : (apos.endLine == pos.line) = true := by rfl) : EvU C S env nm ρ k (.Call (.Attribute o "split" apos) [] [] pos) (.lst ((Txt.words x).map .str)) := ⟨fun A s Q E R I H =>
  Call_method0 hbase hline (ho.run A s _ E R I fun v h₁ tk₁ g₁ rv => by
    obtain ⟨t, rfl⟩ := rv.inv
    · skip
      refine ⟨"str", "str.split", PySem.F.plainAttrs_str, PySem.F.slot_str_split, PySem.F.type_str_split, typeIs_str _ _ _, (fun _ e => nomatch e), ?_⟩
      refine Calls.callWith_builtin rfl (evalArgs_nil3 ?_)
      have hn : (Builtin.Str.spaceWords x (x.length + 1)).length ≤ sizeLine := by
        have e1 := (StrLaws.sw_weight x).1
        have e2 := StrLaws.len_le_wsum (Builtin.Str.spaceWords x (x.length + 1))
        (first | lia | omega)
      refine call_meets PySem.F.slot_str_split (typeIs_str _ _ _) PySem.F.entry_str_split (PySem.F.args_str_split_1 _) (meets_str_split_space x t (by (first | lia | omega)) hn) ?_
      simp only [h2, Bool.false_eq_true, if_false]
      rw [strsFrom_eq]
      have hw : (numbered tk₁ (PySem.wordsOf x)).map (·.1) = Txt.words x := (numbered_texts _ _).trans (if_neg (ne_true_of_eq_false h2)).symm
      refine H _ _ _ (g₁.trans Gr.push) ?_ (.lst (I.gr g₁).bs.new (Heap.get?_push_size _ rfl) (hw ▸ relL_strs _))
      exact Nat.le_trans h3 (Nat.le_add_left _ _))⟩
theorem X.assignU {e : PySem.Expr} {x : Str} {px pos : Pos} {rest : List Stmt} {p : PV} {ρ' : List (Option PV)} (F : FS C B S V env nm ρ s.heap) (M : Fm env nm) (R : Room k A) (he : EvU C S env nm ρ k e p) (st : SetAt nm ρ x p ρ')
    (K : ∀ h' tk', FS C B S V env nm ρ' h' → 1 ≤ tk' → X C A env rest Q E { s with heap := h', toks := tk' })
    (hs : swapsWith e (some (.Name x px)) pos.line env = pure false := by rfl) (hf : (env.kindOf x == some .free) = false := by kernel_rfl) : X C A env (.Assign [.Name x px] e pos :: rest) Q E s :=
  ⟨wpAny_execs_cons (wpAny_Assign_Name (he.run A s _ _ R F.inv fun v h' tk g h1 r => wpAny_toks1 (n := 1) (s := { s with heap := h', toks := tk }) h1 (wp_store (s := { s with heap := h', toks := tk }) (F.gr g) M st r hf fun h'' tk'' _ F' => fun hn' => (K h'' tk'' F' hn').out)) hs)⟩

/-- the turning lists have turned -/
theorem FS.moved {V' : List (Addr × List PV)} {h h' : Heap} (F : FS C B S V env nm ρ h) (hV : V'.map (·.1) = V.map (·.1)) (keep : ∀ b o, b ∉ V.map (·.1) → b ≠ 68 → b ≠ 75 → h.get? b = some o → h'.get? b = some o) (t : Tabs h') (vl : ∀ q ∈ V', VL S h' q.1 q.2) : FS C B S V' env nm ρ h' := by
  have back : ∀ q ∈ V', ∃ r ∈ V, r.1 = q.1 := fun q hq => by
    have : q.1 ∈ V'.map (·.1) := List.mem_map_of_mem hq
    rw [hV] at this
    exact List.mem_map.mp this
  have seqs : ∀ b ∈ V.map (·.1), b ∈ S ∧ B.get? b = none ∧ ∃ o, h.get? b = some o ∧ ∃ its n, o.data = .seq its n := fun b hb => by
    obtain ⟨r, hr, rfl⟩ := List.mem_map.mp hb
    obtain ⟨x1, x2, x3⟩ := F.vol r hr
    exact ⟨x1, x2, x3.seq⟩
  have keepD : ∀ b o, h.get? b = some o → (∀ vs n, o.data ≠ .seq vs n) → (b ≠ 68 ∧ b ≠ 75) → h'.get? b = some o := fun b o e nd n => keep b o (fun q => by
    obtain ⟨_, _, o', e', its, n, hd⟩ := seqs b q
    rw [e] at e'; cases e'; exact nd its n hd) n.1 n.2 e
  have gB : Gr B h' := ⟨fun b o n1 n2 e => keep b o (fun q => by rw [(seqs b q).2.1] at e; cases e) n1 n2 (F.base.k b o n1 n2 e), fun _ => t⟩
  have kp : Kp S h h' := fun b o hb e => keep b o (fun q => (DD.ne hb).2.2 (seqs b q).1) (DD.ne hb).1 (DD.ne hb).2.1 e
  have nsk : ∀ a m, h.Ns a m → h'.Ns a m := fun a m x => by
    obtain ⟨o, es, ep, ho, hd, _⟩ := id x
    exact ns_at x fun o' e => by rw [ho] at e; cases e; exact keepD a o ho (fun vs n q => by rw [hd] at q; cases q) (F.tabs.ne ho fun vs q => by rw [hd] at q; cases q)
  have clk : ∀ c v, h.IsCell c v → h'.IsCell c v := fun c v x => by
    obtain ⟨o, ho, hd⟩ := id x
    exact isCell_at x fun o' e => by rw [ho] at e; cases e; exact keepD c o ho (fun vs n q => by rw [hd] at q; cases q) (F.tabs.ne ho fun vs q => by rw [hd] at q; cases q)
  refine ⟨⟨⟨C.in F.b0 gB, fun b hb => ?_, t⟩, fun i x p hi hp => ?_⟩, F.b0, gB, F.bl, fun q hq => ?_, hV ▸ F.vnd, F.ls, ?_, fun x c p q => ?_, F.inj, F.frs⟩
  · by_cases q : b ∈ V.map (·.1)
    · rw [← hV] at q
      obtain ⟨r, hr, rfl⟩ := List.mem_map.mp q
      obtain ⟨o, ho, _⟩ := (vl r hr).seq
      exact ⟨o, ho⟩
    by_cases h1 : b = 68
    · obtain ⟨ps, e⟩ := t.a.data; exact ⟨_, h1 ▸ e⟩
    by_cases h2 : b = 75
    · obtain ⟨ps, e⟩ := t.b.data; exact ⟨_, h2 ▸ e⟩
    obtain ⟨o, e⟩ := F.bs.off b hb
    exact ⟨o, keep b o q h1 h2 e⟩
  · obtain ⟨u, m, r⟩ := F.inv.names i x p hi hp
    refine ⟨u, ?_, r.kp kp⟩
    cases m with
    | loc m p q r => exact .loc m p (nsk _ _ q) r
    | cell c p q r => exact .cell c p q (clk _ _ r)
    | free c p z q r => exact .free c p z q (clk _ _ r)
  · obtain ⟨r, hr, e⟩ := back q hq
    obtain ⟨x1, x2, _⟩ := F.vol r hr
    exact ⟨e ▸ x1, e ▸ x2, vl q hq⟩
  · obtain ⟨m, hm⟩ := F.loc
    exact ⟨m, nsk _ _ hm⟩
  · obtain ⟨d, e, v, f⟩ := F.cls x c p q
    exact ⟨d, e, v, clk _ _ f⟩
/-- after hi things were made: an expression, a test -/
structure EvH (C : Cx) (S : List Addr) (env : Env) (nm : List Str) (ρ : List (Option PV)) (k : Nat) (hi : Tok) (e : PySem.Expr) (p : PV) : Prop where
  run : ∀ (A : Around) (s : Shared) (Q : Value → Shared → Prop) (E : Value → Shared → Prop), hi ≤ s.toks → Room k A → Inv C S env nm ρ s.heap → Post S s p Q → wpAny (model PW C.w) A (eval e env) Q E s
structure TrH (C : Cx) (S : List Addr) (env : Env) (nm : List Str) (ρ : List (Option PV)) (k : Nat) (hi : Tok) (e : PySem.Expr) (b : Bool) : Prop where
  run : ∀ (A : Around) (s : Shared) (Q : Bool → Shared → Prop) (E : Value → Shared → Prop), hi ≤ s.toks → Room k A → Inv C S env nm ρ s.heap → (∀ h' tk, Gr s.heap h' → Q b { s with heap := h', toks := tk }) → wpAny (model PW C.w) A (isTrue e env (eval e env)) Q E s
theorem EvH.call {hi : Tok} {x : Str} {np pos : Pos} {a : PySem.Expr} {args : List PySem.Expr} {f : Addr} {l : List PV} {p : PV} (hf : Ev C S env nm ρ k (.Name x np) (.raw (.ref f))) (ha : EvL C S env nm ρ k pos (a :: args) l) (hc : CallRN C S k hi (.ref f) l p)
    (hk : keepIn C.K (.ref f) = true) (he : starEach (a :: args) env = (false, eval a env) :: starEach args env := by rfl) (hp : (backTo pos (starEach args env)).any (·.1) = false := by rfl) : EvH C S env nm ρ k hi (.Call (.Name x np) (a :: args) [] pos) p :=
  ⟨fun A s Q E hn R I H => wpAny_Call_Name_kw (wpAny_toks1 hn (hf.run A s _ E R I fun v h₁ tk₁ g₁ r => fun (hn : hi ≤ tk₁) => by
    obtain ⟨_, rfl⟩ := r.inv
    exact callWith_K (kIn I.top) hk (wpAny_toks1 (s := { s with heap := h₁, toks := tk₁ }) hn (ha.run A { s with heap := h₁, toks := tk₁ } _ E R (I.gr g₁) fun vs h₂ tk₂ g₂ rl => fun (hn : hi ≤ tk₂) => ⟨kIn ((I.gr g₁).gr g₂).top, hc.run A { s with heap := h₂, toks := tk₂ } Q E vs hn R ((I.gr g₁).gr g₂).bs rl (H.gr (g₁.trans g₂))⟩)) he hp))⟩
theorem TrH.cmp {hi : Tok} {l r : PySem.Expr} {op : CmpOp} {pos : Pos} {a b : PV} {c : Bool} (hl : EvH C S env nm ρ k hi l a) (hr : Ev C S env nm ρ k r b) (ho : CmpR C S k op a b c) (hm : behindInMarks op r = false) : TrH C S env nm ρ k hi (.Compare l [op] [r] pos) c := ⟨
  fun A s Q E hn R I H => wpAny_isTrue_Compare1 (hl.run A s _ E hn R I fun va h₁ tk₁ g₁ ra => hr.run A _ _ E R (I.gr g₁) fun vb h₂ tk₂ g₂ rb => ho.run A _ _ E va vb R ((I.gr g₁).gr g₂).bs (ra.gr g₂) rb fun v h₃ tk₃ g₃ rc => by
    obtain ⟨_, rfl⟩ := rc.inv
    exact wpAny_truthy_bool (H _ _ ((g₁.trans g₂).trans g₃))) hm⟩
theorem TrH.or {hi : Tok} {x y : PySem.Expr} {pos : Pos} {b c : Bool} (hx : Tr C S env nm ρ k x b) (hy : b = false → TrH C S env nm ρ k hi y c) : TrH C S env nm ρ k hi (.BoolOp .Or [x, y] pos) (b || c) := ⟨
  fun A s Q E hn R I H => isTrue_or (wpAny_toks1 hn (hx.run A s _ E R I fun h₁ tk₁ g₁ => fun (hn : hi ≤ tk₁) => by
    cases b with
    | true => exact H _ _ g₁
    | false => exact isTrue_or ((hy rfl).run A { s with heap := h₁, toks := tk₁ } _ E hn R (I.gr g₁) fun h₂ tk₂ g₂ => by
        cases c with
        | true => exact H _ _ (g₁.trans g₂)
        | false => exact isTrue_or_nil (H _ _ (g₁.trans g₂)))))⟩
theorem X.ifsH {hi : Tok} {test : PySem.Expr} {body orelse rest : List Stmt} {pos : Pos} {b : Bool} (hn : hi ≤ s.toks) (F : FS C B S V env nm ρ s.heap) (R : Room k A) (ht : TrH C S env nm ρ k hi test b)
    (h1 : b = true → ∀ h' tk', FS C B S V env nm ρ h' → hi ≤ tk' → X C A env body (Then C A env rest Q E) E { s with heap := h', toks := tk' })
    (h2 : b = false → ∀ h' tk', FS C B S V env nm ρ h' → hi ≤ tk' → X C A env orelse (Then C A env rest Q E) E { s with heap := h', toks := tk' }) : X C A env (.If test body orelse pos :: rest) Q E s := by
  have key : ∀ (f : Flow) (s' : Shared), Then C A env rest Q E f s' → (match f with | .next => wpAny (model PW C.w) A (execs rest env) Q E s' | f => Q f s') := fun f s' h => by
    cases f <;> first | exact h | exact X.out h
  refine ⟨wpAny_execs_cons (wpAny_If (wpAny_toks1 hn (ht.run A s _ _ hn R F.inv fun h' tk g => fun (hn' : hi ≤ tk) => ?_)))⟩
  cases b with
  | true => exact wpAny_mono (h1 rfl h' tk (F.gr g) hn').out key fun _ _ e => e
  | false => exact wpAny_mono (h2 rfl h' tk (F.gr g) hn').out key fun _ _ e => e
end
section
variable {C : Cx} {env : Env} {scope : Scope} {cl : List (Str × Addr)} {xs cs : List Str} {A : Around} {B : Heap} {S : List Addr} {V : List (Addr × List PV)} {nm : List Str} {ρ : List (Option PV)} {s : Shared} {k : Nat} {Q : Flow → Shared → Prop} {E : Value → Shared → Prop}
/-- x = [f(..) for y in ..], each call adding to the list a -/
theorem X.assignVT {hi : Tok} {f a : Addr} {fx : Str} {fp cp : Pos} {d : PySem.Expr} {args : List PySem.Expr} {x y : Str} {px py pos cpos : Pos} {iter : PySem.Expr} {its ps : List PV} {rest : List Stmt} {g : PV → PV} {ag : PV → List PV} {hd : Nat → List PV} {ρ' : List (Option PV)} (hn : hi ≤ s.toks) (F : FS C B S ((a, hd 0) :: V) env nm ρ s.heap) (M : Fm env nm) (R : Room k A)
    (K : CompScope env scope cl [y] cs) (cap : Caps nm ρ cs ps) (hCa : C.B₀.get? a = none) (hV : ∀ q ∈ V, C.B₀.get? q.1 = none) (haS : a ∉ DD ([] : List Addr)) (he : EvIter C S env nm ρ k (.Name y py) iter its) (hl : its.length ≤ 1000)
    (hf : ∀ p L S', p ∈ its → (∀ b ∈ S, b ∈ S') → Ev C S' (cEnv scope cl L env) ([y] ++ cs) (some p :: ps.map some) k (.Name fx fp) (.raw (.ref f)))
    (hag : ∀ p L S', p ∈ its → (∀ b ∈ S, b ∈ S') → EvL C S' (cEnv scope cl L env) ([y] ++ cs) (some p :: ps.map some) k cp (d :: args) (ag p))
    (hc : ∀ i p S', its[i]? = some p → (∀ b ∈ S, b ∈ S') → CallVT C S' k hi a (hd i) (hd (i + 1)) (.ref f) (ag p) (g p))
    (hk : keepIn C.K (.ref f) = true)
    (st : SetAt nm ρ x (.lst (its.map g)) ρ')
    (H : ∀ h' tk', FS C B S ((a, hd its.length) :: V) env nm ρ' h' → hi ≤ tk' → X C A env rest Q E { s with heap := h', toks := tk' })
    (hse : ∀ L, starEach (d :: args) (cEnv scope cl L env) = (false, eval d (cEnv scope cl L env)) :: starEach args (cEnv scope cl L env) := by intro _; rfl) (hpl : ∀ L, (backTo cp (starEach args (cEnv scope cl L env))).any (·.1) = false := by intro _; rfl)
    (hs : swapsWith (.ListComp (.Call (.Name fx fp) (d :: args) [] cp) [⟨.Name y py, iter, [], 0⟩] scope cpos) (some (.Name x px)) pos.line env = pure false := by rfl) (hkf : (env.kindOf x == some .free) = false := by kernel_rfl)
    (hsi : ∀ x, foldedSetIterable iter env x = pure x := by intro _; rfl) : X C A env (.Assign [.Name x px] (.ListComp (.Call (.Name fx fp) (d :: args) [] cp) [⟨.Name y py, iter, [], 0⟩] scope cpos) pos :: rest) Q E s := by
  refine ⟨wpAny_execs_cons (wpAny_toks1 hn (wpAny_Assign_Name ?_ hs))⟩
  rw [eval_ListComp]
  refine wpAny_toks1 hn (comp_coreG (emit := fun L D => emit1 (.Call (.Name fx fp) (d :: args) [] cp) D (cEnv scope cl L env)) (use := none) K F.inj F.inv cap (V := (a, hd 0) :: V) (fun q hq => ?_) F.vnd R he (fun i tk r V' => hi ≤ tk ∧ r = (its.take i).map g ∧ V' = (a, hd i) :: V) (fun tk htk => ⟨Nat.le_trans hn htk, rfl, rfl⟩)
    (fun i => match i with | 0 => none :: ps.map some | i + 1 => its[i]? :: ps.map some) (fun i => its[i]? :: ps.map some) rfl (fun i tk r V' h => by rw [h.2.2]; rfl) (fun i tk tk' r V' h l => ⟨Nat.le_trans h.1 l, h.2⟩) (fun L D it => rfl) (fun i p hp => ?_) (fun L D S' i p B' r V' s' E' hp sub hvs F' => ⟨?_⟩) (fun L D h' tk' m r V' hvs keep T vlV hD hL hLD hD0 hL0 vl ns => ?_) hsi)
  · obtain ⟨x1, x2, x3⟩ := F.vol q hq
    refine ⟨x1, ?_, x3⟩
    cases e : C.B₀.get? q.1 with
    | none => rfl
    | some o => have := F.b0 _ o e; rw [x2] at this; cases this
  · rw [hp]
    cases i with
    | zero => exact AsgC.name K .z (.head _)
    | succ i => exact AsgC.name K .z (.head _)
  · obtain ⟨hti, rfl, rfl⟩ := hvs
    have hm := List.mem_of_getElem? hp
    dsimp only at F' ⊢
    rw [hp] at F' ⊢
    unfold testsOf
    rw [List.forIn_nil]
    refine wpAny_pure ?_
    simp only [if_true]
    refine wpAny_bind (wpAny_Call_Name_kw (wpAny_toks1 hti ((hf p L S' hm sub).run A s' _ E' R (K.inv F'.inv) fun v h₁ tk₁ g₁ rv => fun (hti : hi ≤ tk₁) => ?_)))
    obtain ⟨_, rfl⟩ := rv.inv
    have F₁ := F'.gr g₁
    refine callWith_K (kIn F₁.bs.top) hk (wpAny_toks1 (s := { s' with heap := h₁, toks := tk₁ }) hti ((hag p L S' hm sub).run A { s' with heap := h₁, toks := tk₁ } _ E' R (K.inv F₁.inv) fun vs h₂ tk₂ g₂ rl => fun (hti : hi ≤ tk₂) => ⟨kIn (F₁.gr g₂).bs.top, ?_⟩)) (hse L) (hpl L)
    have F₂ := (F₁.gr g₂).perm (List.Perm.swap _ _ _)
    obtain ⟨haS', _, vla⟩ := F₂.vol _ (.head _)
    refine wpAny_toks1 (s := { s' with heap := h₂, toks := tk₂ }) hti ((hc i p S' hp sub).run A { s' with heap := h₂, toks := tk₂ } _ E' vs hti R F₂.bs haS' vla rl fun v h₃ tk₃ g₃ vl₃ rv => fun (hti : hi ≤ tk₃) => wpAny_bind ?_)
    have F₃ := (F₂.turn g₃ vl₃).perm (List.Perm.swap _ _ _)
    obtain ⟨hS, hB, vs, n, ht, rl⟩ := F₃.vol _ (.head _)
    have hlen : ((its.take i).map g).length ≤ sizeLine := small (by rw [List.length_map, List.length_take]; (first | lia | omega))
    refine wpAny_toks1 (s := { s' with heap := h₃, toks := tk₃ }) hti (append_any ht (by rw [List.size_toArray, rl.length]; exact hlen) fun (hti : hi ≤ tk₃) => wpAny_pure ?_)
    have hs := Heap.SameBut.update h₃ D (Obj.mapSeq fun xs => xs.push v)
    have g : GrB D h₃ (h₃.update D (Obj.mapSeq fun xs => xs.push v)) := .of hs fun o ws e q => by rw [ht] at e; cases e; cases q
    have kp : Kp S' h₃ (h₃.update D (Obj.mapSeq fun xs => xs.push v)) := fun b o hb e => (hs.2 b fun q => (DD.ne hb).2.2 (q ▸ hS)).trans e
    refine ⟨_, tk₃, _, rfl, ⟨_, _, rfl, hti, ?_, rfl⟩, F₃.turn g ⟨vs ++ [v], _, by have := ht.update (fun xs => xs.push v); simpa using this, (rl.append (.cons rv .nil)).kp kp⟩⟩
    rw [List.take_add_one, hp, List.map_append]
    rfl
  · obtain ⟨hti, rfl, rfl⟩ := hvs
    rw [List.take_length] at vl
    refine ⟨m, ns, fun h'' hs => fun (_ : hi ≤ tk') => ?_⟩
    obtain ⟨oL, es, ep, hoL, hdL, _⟩ := id ns
    have n68 := T.ne hoL fun vs q => by rw [hdL] at q; cases q
    have T'' : Tabs h'' := T.but (fun b o n e => (hs.2 b n).trans e) fun o vs e q => by rw [hoL] at e; cases e; rw [hdL] at q; cases q
    have low : ∀ (b : Addr) (l : List PV), b ≠ L → VL (L :: S) h' b l → VL S h'' b l := fun b l n v => by
      obtain ⟨vs, n', hl, rl⟩ := v
      exact ⟨vs, n', (hs.2 b n).trans hl, (rl.kp fun b o hb e => (hs.2 b fun q => (DD.ne hb).2.2 (q ▸ .head _)).trans e).less fun b hb => .tail _ hb⟩
    have F'' : FS C B S ((a, hd its.length) :: V) env nm ρ h'' := F.moved (V' := (a, hd its.length) :: V) rfl (fun b o q n1 n2 e => (hs.2 b fun q => by rw [q, hL0] at e; cases e).trans (keep b o q n1 n2 e)) T'' fun q hq => low q.1 q.2 (fun e => by
      have hb : q.1 ∈ ((a, hd 0) :: V).map (·.1) := List.mem_map_of_mem (f := (·.1)) hq
      obtain ⟨r, hr, e'⟩ := List.mem_map.mp hb
      exact (DD.ne hL).2.2 (e ▸ e' ▸ (F.vol r hr).1)) (vlV q hq)
    obtain ⟨vs, n', hl, rl⟩ := low D _ (fun q => hLD q.symm) vl
    exact wp_store (s := { s with heap := h'', toks := tk' }) F'' M st (.lst hD hl rl) hkf fun h3 tk3 _ F3 => fun hn' => (H h3 tk3 F3 hn').out
end
theorem go_other {M : Model} {A : Around} {elts : List PySem.Expr} {n : Nat} {tp : Pos} {I : Addr} {v : Value} {s : Shared} {Q : Unit → Shared → Prop} {E : Value → Shared → Prop} {o : Obj} {c : String} {ws : Array Value} (ho : s.heap.get? I = some o) (hc : o.cls = .type c) (hd : o.data = .fields ws)
    (hn : (["enumerate", "zip", "dict_itemiterator", "dict_reverseitemiterator", "odict_iterator", "itertools.zip_longest", "itertools.pairwise"].contains c) = false) (h : Q () s) : wpAny M A (letOwnedTupleGo (.Tuple elts n tp) (.ref I) v) Q E s := by
  unfold letOwnedTupleGo
  cases v with
  | ref a =>
    refine wpAny_bind (wpAny_load ho ?_)
    rw [hc, hd]
    dsimp only
    rw [hn, Bool.false_and]
    exact wpAny_pure h
  | _ => exact wpAny_pure h
/-- a tuple of tuples, taken apart in turn -/
theorem IterR.tupT {C : Cx} {S : List Addr} {k : Nat} {elts : List PySem.Expr} {n : Nat} {tp : Pos} {l : List PV} : IterR C S k (.Tuple elts n tp) (.tup l) l := ⟨fun A s v Q E R B r H => by
  obtain ⟨a, vs, n, rfl, hn, hl, rl⟩ := r.inv
  · skip
    have hT : s.heap.IsTuple a vs.toArray := ⟨_, hl, rfl, _, rfl⟩
    refine wpAny_pyIter_tuple hT ?_
    have nI := DD.ne B.new
    have W := Walks.tuple (prog := PW) (w := C.w) R.hh s.heap.objs.size a (Nat.ne_of_lt (Heap.lt_size hl)) vs.toArray
    have r0 := rl.new1 { cls := .type "tuple_iterator", data := .fields #[.ref a, .int 0 0] }
    have hsz : vs.toArray.size = l.length := by rw [List.size_toArray, rl.length]
    refine H s.heap.objs.size _ _ _ _ s.toks Gr.push ⟨W.sub, ex2 ⟨_, hl⟩, (fun i h st => ?_), W.frame, (fun s Q E st h => W.self 0 s Q E st h), (fun i p T s Q E hp hT1 hT2 kp _ _ st K => ?_), (fun s Q E st K => W.done s Q E (hsz ▸ st) K)⟩ ⟨⟨_, Heap.get?_push_size _ rfl, rfl, rfl⟩, hT.push _⟩
      (fun b hb => by rw [List.mem_singleton] at hb; exact hb ▸ new_none _) (fun b hb => by
        rcases List.mem_cons.mp hb with rfl | hb
        · exact B.new
        · rw [List.mem_singleton] at hb; exact hb ▸ hn)
    · obtain ⟨o, ho, hc, hd⟩ := st.1
      exact nc_iter (l := a) nI.1 nI.2.1 ho hd fun x t => by simp [rawInt]
    · obtain ⟨hlt, _⟩ := List.getElem?_eq_some_iff.mp hp
      refine W.item i s Q E (hsz ▸ hlt) st fun v h' tk hPv st' off => ?_
      have kp' := ((r0.more hT2).kp (fun b o hb e => off b o (fun q => (DD.ne hb).2.2 (hT1 _ (List.mem_append_left _ q))) (kp b o hb e) : Kp T _ h'))
      obtain ⟨u, hu, ru⟩ := kp'.get hp
      have hP : vs[i]? = some v := by simpa using hPv
      rw [hP] at hu; cases hu
      refine K v h' tk off ru fun Q' E' hQ => ?_
      obtain ⟨o, ho, hc, hd⟩ := id st'.1
      exact go_other ho hc hd (by decide) (hQ h' (fun _ _ _ e => e) st')⟩
end Mine
end

section
open PySem PySem.W PyProof.Rows PySem.Calls
open PyProof.Rows.KTD
set_option maxRecDepth 100000
set_option maxHeartbeats 4000000
namespace Mine
noncomputable def lastDef : List Stmt → Option (List Stmt × Scope)
  | [] => none
  | [.FunctionDef _ _ body _ _ _ scope _ _ _] => some (body, scope)
  | _ :: r => lastDef r
noncomputable def signsS : Str := match lastDef PySem.Challenge.pw_ta0126_01.main.body with
  | some (_ :: .Assign _ (.Call (.Attribute (.Constant (.str x) _ _) _ _) _ _ _) _ :: _, _) => x
  | _ => Str.ofString ""
/-- the sum of every second number of the first sixty, from k on -/
noncomputable def sumAt (ns : List Int) (k : Int) : Int := (pickL (pickL ns none (some 60) none) (some k) none (some 2)).sum
noncomputable def heapP (ns : List Int) : PV → PV
  | .tup [.int k, .int own] => .int (own + sumAt ns k)
  | _ => .none
noncomputable def unP : PV → List PV
  | .tup l => l
  | _ => []
noncomputable def sizeI (h : Int) : Int := 7 + h.fmod 48
noncomputable def sizeP : PV → PV
  | .int h => .int (sizeI h)
  | _ => .none
theorem mem2 {p a b : PV} (h : p ∈ [a, b]) : p = a ∨ p = b := by simpa using h
theorem sizeI_range (h : Int) : 7 ≤ sizeI h ∧ sizeI h ≤ 54 := by
  have h1 := Int.fmod_nonneg_of_pos h (show (0 : Int) < 48 by decide)
  have h2 := Int.fmod_lt_of_pos h (show (0 : Int) < 48 by decide)
  unfold sizeI
  (first | lia | omega)
theorem signs_tab : (List.range 48).all (fun i => match (Txt.words signsS)[i]? with
  | some x => (match datumAt x tokTab with
    | some (.flat (.int j)) => j == 7 + (i : Int)
    | _ => false)
  | none => false) = true := by decide +kernel
theorem signs_at {i : Nat} (hi : i < 48) : ∃ x, (Txt.words signsS)[i]? = some x ∧ datumAt x tokTab = some (KTD.Dat.flat (.int (7 + (i : Int)))) := by
  have h := List.all_eq_true.mp signs_tab i (List.mem_range.mpr hi)
  revert h
  cases hx : (Txt.words signsS)[i]? with
  | none => intro h; cases h
  | some x =>
    intro h
    refine ⟨x, rfl, ?_⟩
    dsimp only at h
    revert h
    cases hd : datumAt x tokTab with
    | none => intro h; cases h
    | some d =>
      intro h
      cases d with
      | flat d => cases d with
        | int j => rw [beq_iff_eq.mp h]
        | _ => cases h
      | _ => cases h
theorem signs_len : (Txt.words signsS).length = 48 := by decide +kernel
theorem signs_fit : signsS.length + 2 ≤ sizeLine ∧ (Builtin.Str.spaceWords signsS (signsS.length + 1) == [(0, signsS.length)]) = false ∧ 1 ≤ (Builtin.Str.spaceWords signsS (signsS.length + 1)).length := by decide +kernel

noncomputable def lawBody := lastDef PySem.Challenge.pw_ta0126_01.main.body
noncomputable def lawTurn : Option (List Stmt × Scope) := match lawBody with
  | some ([_, _, _, _, _, _, _, .For _ _ b _ _, _], sc) => some (b, sc)
  | _ => none
theorem blt_zip {C : Cx} : Blt C "zip" (.type "zip") := ⟨by kernel_rfl, by boot_fast, by decide, by decide⟩
theorem glb_isterm {C : Cx} : Glb C "ISTERMINAL" (.ref 104) := ⟨by kernel_rfl, by decide⟩
theorem glb_iseof {C : Cx} : Glb C "ISEOF" (.ref 111) := ⟨by kernel_rfl, by decide⟩
theorem glb_headers {C : Cx} : Glb C "Headers" (.ref 255) := ⟨by kernel_rfl, by decide⟩
theorem glb_laid {C : Cx} : Glb C "_law_laid" (.ref 264) := ⟨by kernel_rfl, by decide⟩
theorem glb_count {C : Cx} : Glb C "_law_count" (.ref 269) := ⟨by kernel_rfl, by decide⟩
theorem Ev.as {C : Cx} {S : List Addr} {env : Env} {nm : List Str} {ρ : List (Option PV)} {k : Nat} {e : PySem.Expr} {p q : PV} (h : p = q) (x : Ev C S env nm ρ k e p) : Ev C S env nm ρ k e q := h ▸ x
theorem CallVT.le {C : Cx} {S : List Addr} {k k' : Nat} {hi : Tok} {a : Addr} {xs xs' : List PV} {f : Value} {l : List PV} {p : PV} (h : CallVT C S k hi a xs xs' f l p) (hk : k ≤ k') : CallVT C S k' hi a xs xs' f l p := ⟨fun A s Q E vs hn R B ha v rl H => h.run A s Q E vs hn (R.le hk) B ha v rl H⟩
noncomputable def cornP : PV → UInt64
  | .tup [.int r, .int g, .int b] => hueII r g b
  | _ => 0
noncomputable def laidP (ns : List Int) : PV → PV
  | .int n => .lst ((allW n ns 5).map .str)
  | _ => .none
noncomputable def zipRow (h1 h2 : Int) : List PV := zip3L [.int (sizeI h1), .int (sizeI h2), .int 255, .int 256, .int 0] [.bool true, .bool true, .bool true, .bool false, .bool true] [.bool false, .bool false, .bool false, .bool false, .bool true]
theorem zipRow_at {h1 h2 : Int} {p : PV} (hp : p ∈ zipRow h1 h2) : ∃ x : Int, p = .tup [.int x, .bool (decide (x < 256)), .bool (x == 0)] := by
  have a1 := sizeI_range h1
  have a2 := sizeI_range h2
  have e : ∀ x : Int, 7 ≤ x ∧ x ≤ 54 → (PV.tup [.int x, .bool true, .bool false]) = .tup [.int x, .bool (decide (x < 256)), .bool (x == 0)] := fun x hx => by
    rw [decide_eq_true (show x < 256 by (first | lia | omega)), show (x == 0) = false from beq_eq_false_iff_ne.mpr (by (first | lia | omega))]
  simp only [zipRow, zip3L, List.mem_cons, List.mem_nil_iff, or_false] at hp
  rcases hp with rfl | rfl | rfl | rfl | rfl
  · exact ⟨_, e _ a1⟩
  · exact ⟨_, e _ a2⟩
  · exact ⟨255, rfl⟩
  · exact ⟨256, rfl⟩
  · exact ⟨0, rfl⟩
theorem cells_lk {names : List (Str × NameKind)} {L : Addr} (h : ((cellsFrom 0 names []).map (·.1)).Nodup) {kf : Str → Option NameKind} : ∀ q ∈ cellsFrom (L + 1) names [], kf q.1 = some NameKind.cell → (cellsFrom (L + 1) names []).lookup q.1 = some q.2 := fun q hq _ =>
  lookup_of_mem_nodup (cellsFrom_names names 0 (L + 1) [] [] rfl ▸ h) hq
noncomputable def cornI : List PV := [.tup [.int 1, .int 0, .int 0], .tup [.int 1, .int 1, .int 0], .tup [.int 0, .int 1, .int 0], .tup [.int 0, .int 1, .int 1], .tup [.int 0, .int 0, .int 1], .tup [.int 1, .int 0, .int 1]]
theorem cornI_at {p : PV} (hp : p ∈ cornI) : ∃ r g b : Int, p = .tup [.int r, .int g, .int b] ∧ NeOk r g b := by
  simp only [cornI, List.mem_cons, List.mem_nil_iff, or_false] at hp
  rcases hp with rfl | rfl | rfl | rfl | rfl | rfl
  · exact ⟨1, 0, 0, rfl, neOk_of (by decide +kernel)⟩
  · exact ⟨1, 1, 0, rfl, neOk_of (by decide +kernel)⟩
  · exact ⟨0, 1, 0, rfl, neOk_of (by decide +kernel)⟩
  · exact ⟨0, 1, 1, rfl, neOk_of (by decide +kernel)⟩
  · exact ⟨0, 0, 1, rfl, neOk_of (by decide +kernel)⟩
  · exact ⟨1, 0, 1, rfl, neOk_of (by decide +kernel)⟩
theorem corn_map : cornI.map cornP = corn := by simp only [cornI, List.map_cons, List.map_nil, cornP, corn]
noncomputable def sizeAt (h1 h2 : Int) : Nat → PV
  | 0 => .int (sizeI h1)
  | _ => .int (sizeI h2)
noncomputable def hdL (n1 n2 : Int) (ns : List Int) : Nat → List (Str × Str)
  | 0 => []
  | 1 => allE n1 ns 5
  | _ => allE n1 ns 5 ++ allE n2 ns 5

theorem idxL_nat {l : List PV} {i : Int} {p : PV} (h : l[i.toNat]? = some p) (h0 : 0 ≤ i) : idxL l i = some p := by
  obtain ⟨hl, _⟩ := List.getElem?_eq_some_iff.mp h
  have e : (if i < 0 then i + (l.length : Int) else i) = i := if_neg (by (first | lia | omega))
  unfold idxL seqIndex?
  simp only [e]
  rw [if_pos (by simp; (first | lia | omega))]
  exact h
end Mine
end

section
open PySem PySem.W PyProof.Rows PySem.Calls
set_option maxRecDepth 100000
namespace Mine
/-- what a turn lays, as triples -/
noncomputable def turnT (n l m : Int) (ns : List Int) : List (Int × Int × Int) := if fits n l m = true then (match tripP n l m ns with
  | [x, y, z] => (x, y, z) :: if twiceI x y z = true then [(x, y, z)] else []
  | _ => []) else []
noncomputable def allT3 (n : Int) (ns : List Int) : List (Int × Int × Int) := (List.range 5).flatMap fun l : Nat => (List.range (cntM l)).flatMap fun q : Nat => turnT n l (mid0 l + (q : Int)) ns
theorem orderI_range (l m : Int) (ns : List Int) : 0 ≤ orderI l m ns ∧ orderI l m ns < 6 := by
  unfold orderI
  exact ⟨Int.fmod_nonneg_of_pos _ (by decide), Int.fmod_lt_of_pos _ (by decide)⟩
theorem tripP_perm (n l m : Int) (ns : List Int) : ∃ x y z, tripP n l m ns = [x, y, z] ∧ (x, y, z) ∈ perms l m (most n l m) := partsI_perm (orderI_range l m ns).1 (orderI_range l m ns).2
theorem turnW_T (n l m : Int) (ns : List Int) : turnW n l m ns = (turnT n l m ns).map wordT := by
  obtain ⟨x, y, z, e, _⟩ := tripP_perm n l m ns
  unfold turnW turnT
  rw [e]
  split
  · show wordOf [x, y, z] :: (if twiceI x y z = true then [wordOf [x, y, z]] else []) = _
    dsimp only
    split <;> rfl
  · rfl
theorem allW_T (n : Int) (ns : List Int) : allW n ns 5 = (allT3 n ns).map wordT := by
  unfold allW rowW allT3
  simp only [List.map_flatMap, turnW_T]
theorem ifmax (b c : Int) : (if c > b then c else b) = max b c := by
  split
  · rename_i h; exact (Int.max_eq_right (Int.le_of_lt h)).symm
  · rename_i h; exact (Int.max_eq_left (Int.not_lt.mp h)).symm
theorem ifmin (b c : Int) : (if c < b then c else b) = min b c := by
  split
  · rename_i h; exact (Int.min_eq_right (Int.le_of_lt h)).symm
  · rename_i h; exact (Int.min_eq_left (Int.not_lt.mp h)).symm
theorem max3_eq (a b c : Int) : max3 a b c = max (max a b) c := by
  unfold max3; rw [ifmax, ifmax, ← ifmax a b]; split <;> rfl
theorem min3_eq (a b c : Int) : min3 a b c = min (min a b) c := by
  unfold min3; rw [ifmin, ifmin, ← ifmin a b]; split <;> rfl
theorem max3_rot (a b c : Int) : max3 b c a = max3 a b c := (max3_eq ..).trans ((Int.max_comm ..).trans ((Int.max_assoc a b c).symm.trans (max3_eq ..).symm))
theorem max3_swp (a b c : Int) : max3 b a c = max3 a b c := (max3_eq ..).trans ((congrArg (max · c) (Int.max_comm b a)).trans (max3_eq ..).symm)
theorem min3_rot (a b c : Int) : min3 b c a = min3 a b c := (min3_eq ..).trans ((Int.min_comm ..).trans ((Int.min_assoc a b c).symm.trans (min3_eq ..).symm))
theorem min3_swp (a b c : Int) : min3 b a c = min3 a b c := (min3_eq ..).trans ((congrArg (min · c) (Int.min_comm b a)).trans (min3_eq ..).symm)
/-- told by the greatest, the middle and the least -/
theorem perm_same {α : Type} {f : Int → Int → Int → α} (hr : ∀ a b c, f b c a = f a b c) (hs : ∀ a b c, f b a c = f a b c) {a b c x y z : Int} (h : (x, y, z) ∈ perms a b c) : f x y z = f a b c :=
  all_cons (P := fun t : Int × Int × Int => f t.1 t.2.1 t.2.2 = f a b c) rfl (all_cons (hr _ _ _) (all_cons ((hr _ _ _).trans (hr _ _ _)) (all_cons ((hs _ _ _).trans (hr _ _ _)) (all_cons (hs _ _ _) (all_cons ((hr _ _ _).trans (hs _ _ _)) all_nil))))) _ h
theorem mid3_rot (a b c : Int) : mid3 b c a = mid3 a b c := by unfold mid3; rw [max3_rot, min3_rot, Int.add_comm (b + c) a, ← Int.add_assoc]
theorem mid3_swp (a b c : Int) : mid3 b a c = mid3 a b c := by unfold mid3; rw [max3_swp, min3_swp, Int.add_comm b a]
theorem twice_perm {a b c x y z : Int} (h : (x, y, z) ∈ perms a b c) : twiceI x y z = twiceI a b c :=
  perm_same (f := twiceI) (fun a b c => by unfold twiceI edge; rw [min3_rot, mid3_rot, max3_rot]) (fun a b c => by unfold twiceI edge; rw [min3_swp, mid3_swp, max3_swp]) h
theorem sgnW_perm {a b c x y z : Int} (h : (x, y, z) ∈ perms a b c) : sgnW x y z = sgnW a b c :=
  perm_same (f := sgnW) (fun a b c => by unfold sgnW parI weightI edge; rw [min3_rot a b c, mid3_rot a b c, max3_rot a b c, min3_rot (a.fmod 2), max3_rot (a.fmod 2)]) (fun a b c => by unfold sgnW parI weightI edge; rw [min3_swp a b c, mid3_swp a b c, max3_swp a b c, min3_swp (a.fmod 2), max3_swp (a.fmod 2)]) h
noncomputable def cntS (n l m : Int) : Int := if fits n l m = true then (if twiceI l m (most n l m) = true then 2 * sgnW l m (most n l m) else sgnW l m (most n l m)) else 0
theorem turnT_sum (n l m : Int) (ns : List Int) : ((turnT n l m ns).map sgnT).sum = cntS n l m := by
  obtain ⟨x, y, z, e, hp⟩ := tripP_perm n l m ns
  unfold turnT cntS
  rw [e, ← twice_perm hp, ← sgnW_perm hp]
  split
  · dsimp only
    split
    · show sgnW x y z + (sgnW x y z + 0) = _; rw [Int.add_zero, Int.two_mul]
    · exact Int.add_zero _
  · rfl
noncomputable def sumS (n : Int) : Int := ((List.range 5).map fun l : Nat => ((List.range (cntM l)).map fun q : Nat => cntS n l (mid0 l + (q : Int))).sum).sum
theorem sum_flat {α β : Type} (f : α → List β) (g : β → Int) : ∀ l : List α, ((l.flatMap f).map g).sum = (l.map fun a => ((f a).map g).sum).sum
  | [] => rfl
  | a :: l => by rw [List.flatMap_cons, List.map_append, List.sum_append, sum_flat f g l, List.map_cons, List.sum_cons]
theorem allT3_sum (n : Int) (ns : List Int) : ((allT3 n ns).map sgnT).sum = sumS n := by
  unfold allT3 sumS
  simp only [sum_flat, turnT_sum]
theorem perms_sub {a b c x y z : Int} (h : (x, y, z) ∈ perms a b c) : (64 - x, 64 - y, 64 - z) ∈ perms (64 - a) (64 - b) (64 - c) :=
  List.mem_map_of_mem (f := fun t : Int × Int × Int => (64 - t.1, 64 - t.2.1, 64 - t.2.2)) h
theorem dim_ok : ∀ l : Nat, l < 5 → ∀ q : Nat, q < cntM l → 1 ≤ mid0 l + (q : Int) ∧ mid0 l + (q : Int) < 8 ∧ (l : Int) ≤ mid0 l + (q : Int) := by decide
theorem good_all {n : Int} {ns : List Int} (hn : 7 ≤ n ∧ n ≤ 54) : ∀ t ∈ allT3 n ns, GoodW t.1 t.2.1 t.2.2 := by
  intro t ht
  unfold allT3 at ht
  obtain ⟨l, hl, ht⟩ := List.mem_flatMap.mp ht
  obtain ⟨q, hq, ht⟩ := List.mem_flatMap.mp ht
  have hl := List.mem_range.mp hl
  have hq := List.mem_range.mp hq
  have hm := dim_ok l hl q hq
  generalize mid0 l + (q : Int) = m at ht hm
  obtain ⟨x, y, z, e, hp⟩ := tripP_perm n l m ns
  unfold turnT at ht
  rw [e] at ht
  split at ht
  · rename_i hf
    have et : t = (x, y, z) := by
      dsimp only at ht
      rcases List.mem_cons.mp ht with h | h
      · exact h
      · split at h
        · exact List.mem_singleton.mp h
        · cases h
    subst et
    have hl' : (0 : Int) ≤ l ∧ (l : Int) < 5 := ⟨Int.natCast_nonneg l, Int.ofNat_lt.mpr hl⟩
    have hm' : 0 ≤ m ∧ m < 8 := ⟨Int.le_trans hl'.1 hm.2.2, hm.2.1⟩
    have hg := all_good hn hl' hm' hf
    exact ⟨perms_dim hn hl' hm hf hp, (hg.1 _ hp).1, (hg.1 _ hp).2, hg.2 _ (perms_sub hp), words_of hn hl' hm' hf hp⟩
  · cases ht
theorem allT3_len (n : Int) (ns : List Int) : (allT3 n ns).length ≤ 80 := by
  have h := allW_len n ns 5
  rw [allW_T, List.length_map] at h
  exact h

/-- the squares -/
noncomputable def wtI (a : Int) : Int := if (a != 0) = true then 2 else 1
noncomputable def sqrs : List Int := [0, 1, 4, 9, 16, 25, 36, 49]
noncomputable def digI (k : Int) : Int := if (sqrs.map (fun x : Int => x == k)).any id = true then wtI k else 0
noncomputable def digL (n : Int) : List Int := (List.range (n + 1).toNat).map fun i : Nat => digI i
noncomputable def digP : PV → PV
  | .int k => .int (digI k)
  | _ => .none
theorem runL0 (b : Int) : runL 0 b = (List.range b.toNat).map fun i : Nat => PV.int i := by
  unfold runL
  rw [Int.sub_zero]
  refine List.map_congr_left fun i _ => ?_
  rw [Int.zero_add]
theorem fm_all {α β : Type} (f : α → Option β) (g : α → β) (h : ∀ a, f a = some (g a)) : ∀ l : List α, l.filterMap f = l.map g
  | [] => rfl
  | a :: l => by rw [List.filterMap_cons, h a, List.map_cons]; dsimp only; rw [fm_all f g h l]
theorem dig_list (n : Int) : (runL 0 (n + 1)).filterMap (keepF (fun _ => true) digP) = (digL n).map PV.int := by
  rw [runL0]
  unfold digL
  rw [List.filterMap_map, List.map_map]
  exact fm_all _ _ (fun i => rfl) _
noncomputable def wayE (n a b : Int) : Int := wtI a * wtI b * digI (n - a * a - b * b)
noncomputable def waysL (n : Int) : List Int := (List.range 8).flatMap fun i : Nat => (List.range 8).filterMap fun j : Nat => if decide ((i : Int) * i + (j : Int) * j ≤ n) = true then some (wayE n i j) else none
noncomputable def waysI (n : Int) : Int := (waysL n).sum
noncomputable def wayT (n : Int) : PV → PV → Bool
  | .int a, .int b => decide (a * a + b * b ≤ n)
  | _, _ => false
noncomputable def wayG (n : Int) : PV → PV → PV
  | .int a, .int b => .int (wayE n a b)
  | _, _ => .none
theorem ways_list (n : Int) : (runL 0 8).flatMap (two (fun _ => true) (fun _ => runL 0 8) (wayT n) (wayG n)) = (waysL n).map PV.int := by
  rw [runL0]
  unfold waysL two
  rw [List.flatMap_map, List.map_flatMap]
  congr 1
  funext i
  simp only [if_true]
  rw [List.filterMap_map, List.map_filterMap]
  congr 1
  funext j
  show (if decide ((i : Int) * i + (j : Int) * j ≤ n) = true then some (PV.int (wayE n i j)) else none) = Option.map PV.int (if decide ((i : Int) * i + (j : Int) * j ≤ n) = true then some (wayE n i j) else none)
  split <;> rfl
theorem digL_at {n i : Int} (h0 : 0 ≤ i) (h1 : i ≤ n) : idxL ((digL n).map PV.int) i = some (.int (digI i)) := by
  refine idxL_nat ?_ h0
  unfold digL
  rw [List.getElem?_map, List.getElem?_map, List.getElem?_range ((Int.toNat_lt_toNat (Int.lt_of_le_of_lt h0 (Int.lt_add_one_of_le h1))).mpr (Int.lt_add_one_of_le h1))]
  show some (PV.int (digI ((i.toNat : Nat) : Int))) = _
  rw [Int.toNat_of_nonneg h0]
noncomputable def chkS (n : Int) : Bool := sumS n == waysI n
theorem chkS_ok : (List.range 48).all (fun i => chkS (7 + (i : Int))) = true := by decide +kernel
theorem sum_ways {n : Int} (hn : 7 ≤ n ∧ n ≤ 54) : sumS n = waysI n := by
  exact beq_iff_eq.mp (all_at (p := chkS) chkS_ok hn)
/-- of the words: the sum -/
theorem words_sum {n : Int} {ns : List Int} (hn : 7 ≤ n ∧ n ≤ 54) : ((allT3 n ns).map sgnT).sum = waysI n := (allT3_sum n ns).trans (sum_ways hn)

/-- the divisions -/
noncomputable def sideI (n : Int) : Int := 1 - 2 * n.fmod 2
noncomputable def numI (n : Int) : Int := valD 12 (digL n)
noncomputable def cubI (n : Int) : Int := sideI n * numI n * numI n * numI n
noncomputable def lowI (n : Int) : Int := (cubI n).fmod (-sideI n * 4096 ^ (n + 1).toNat)
noncomputable def highI (n : Int) : Int := (lowI n).fdiv (-sideI n * 4096 ^ n.toNat)
noncomputable def divOkB (a b : Nat) : Bool := decide (0 < b) && decide (b < 2 ^ 999) && decide ((Builtin.Int.intBits (a : Int) + (b.log2 + 1) - 1) / (b.log2 + 1) ≤ 90)
noncomputable def chkD (n : Int) : Bool := decide ((lowI n).fmod 4096 = (sideI n).fmod 4096) && decide (highI n = 4095 - waysI n) && decide (0 ≤ sideI n * lowI n * -1) && decide (1 ≤ sideI n * cubI n) && decide ((lowI n).natAbs < 2 ^ 700)
  && divOkB (sideI n * cubI n - 1).toNat (4096 ^ (n + 1).toNat) && divOkB (lowI n).natAbs (4096 ^ n.toNat) && decide (Builtin.Int.intBits (numI n) ≤ 4000) && decide (Builtin.Int.intBits (sideI n) ≤ 64) && decide (Builtin.Int.intBits (-sideI n) ≤ 64) && decide (Builtin.Int.intBits (sideI n * numI n) ≤ 4000) && decide (Builtin.Int.intBits (sideI n * numI n * numI n) ≤ 4000)
theorem chkD_ok : (List.range 48).all (fun i => chkD (7 + (i : Int))) = true := by decide +kernel
end Mine
end

section
open PySem PySem.W PyProof.Rows PySem.Calls
set_option maxRecDepth 100000
namespace Mine
theorem allE_words (n : Int) (ns : List Int) (i : Nat) : (allE n ns i).map (·.2) = allW n ns i := by
  unfold allE allW rowE rowW
  simp only [List.map_flatMap, turnE_words]
theorem turnE_keys {n l m : Int} {ns : List Int} {e : Str × Str} (h : e ∈ turnE n l m ns) : e.1 = Str.ofString "n" ++ strI n ∨ e.1 = Str.ofString "N" ++ strI n := by
  unfold turnE at h
  split at h
  · rcases List.mem_cons.mp h with rfl | h
    · exact .inl rfl
    · split at h
      · rw [List.mem_singleton] at h; subst h; exact .inr rfl
      · cases h
  · cases h
theorem allE_keys {n : Int} {ns : List Int} {i : Nat} {e : Str × Str} (h : e ∈ allE n ns i) : e.1 = Str.ofString "n" ++ strI n ∨ e.1 = Str.ofString "N" ++ strI n := by
  unfold allE rowE at h
  obtain ⟨l, _, h⟩ := List.mem_flatMap.mp h
  obtain ⟨q, _, h⟩ := List.mem_flatMap.mp h
  exact turnE_keys h
theorem low_tab : (List.range 60).all (fun i => (Txt.lower (Str.ofString "n" ++ strI (i : Int)) == Str.ofString "n" ++ strI (i : Int)) && (Txt.lower (Str.ofString "N" ++ strI (i : Int)) == Str.ofString "n" ++ strI (i : Int))) = true := by decide +kernel
theorem low_key {n : Int} (h0 : 0 ≤ n) (h1 : n < 60) : Txt.lower (Str.ofString "n" ++ strI n) = Str.ofString "n" ++ strI n ∧ Txt.lower (Str.ofString "N" ++ strI n) = Str.ofString "n" ++ strI n := by
  have h := List.all_eq_true.mp low_tab n.toNat (List.mem_range.mpr (by (first | lia | omega)))
  rw [show ((n.toNat : Nat) : Int) = n by (first | lia | omega), Bool.and_eq_true] at h
  exact ⟨eq_of_beq h.1, eq_of_beq h.2⟩
theorem key_tab : (List.range 60).all (fun i => (List.range 60).all fun j => ((Str.ofString "n" ++ strI (i : Int)) == (Str.ofString "n" ++ strI (j : Int))) == ((i : Int) == (j : Int))) = true := by decide +kernel
theorem key_eq {m n : Int} (h0 : 0 ≤ m) (h1 : m < 60) (h2 : 0 ≤ n) (h3 : n < 60) : ((Str.ofString "n" ++ strI m) == (Str.ofString "n" ++ strI n)) = (m == n) := by
  have h := List.all_eq_true.mp (List.all_eq_true.mp key_tab m.toNat (List.mem_range.mpr (by (first | lia | omega)))) n.toNat (List.mem_range.mpr (by (first | lia | omega)))
  rw [show ((m.toNat : Nat) : Int) = m by (first | lia | omega), show ((n.toNat : Nat) : Int) = n by (first | lia | omega)] at h
  exact eq_of_beq h
/-- the name asked for -/
noncomputable def keyI (n : Int) : Str := (if (n.fmod 2 == 0) = true then Str.ofString "n" else Str.ofString "N") ++ strI n
theorem keyI_low {n : Int} (h0 : 0 ≤ n) (h1 : n < 60) : Txt.lower (keyI n) = Str.ofString "n" ++ strI n := by
  unfold keyI
  split
  · exact (low_key h0 h1).1
  · exact (low_key h0 h1).2
theorem keyI_len {n : Int} (h0 : 0 ≤ n) (h1 : n < 60) : (keyI n).length ≤ 3 ∧ Plain (Txt.lower (keyI n)) ∧ (Txt.lower (keyI n)).length ≤ 3 := by
  have l1 : (Str.ofString "n").length = 1 := by decide +kernel
  have l2 : (Str.ofString "N").length = 1 := by decide +kernel
  rw [keyI_low h0 h1]
  refine ⟨?_, name_plain plain_n l1 h0 h1⟩
  unfold keyI
  split
  · exact (name_plain plain_n l1 h0 h1).2
  · exact (name_plain plain_N l2 h0 h1).2
theorem fits_none (m : Int) (y : Str) : ∀ l : List (Str × Str), (∀ e ∈ l, (Txt.lower e.1 == y) = false) → (l.map entryP).filterMap (keepF (fitsP y) pickP) = []
  | [], _ => rfl
  | e :: l, h => by
    rw [List.map_cons, List.filterMap_cons]
    have : keepF (fitsP y) pickP (entryP e) = none := by
      show (if (Txt.lower e.1 == y) = true then some (PV.str e.2) else none) = none
      rw [h e (.head _)]; rfl
    rw [this]
    exact fits_none m y l fun e' he => h e' (.tail _ he)
theorem fits_same (y : Str) : ∀ l : List (Str × Str), (∀ e ∈ l, (Txt.lower e.1 == y) = true) → (l.map entryP).filterMap (keepF (fitsP y) pickP) = (l.map (·.2)).map .str
  | [], _ => rfl
  | e :: l, h => by
    rw [List.map_cons, List.filterMap_cons]
    have : keepF (fitsP y) pickP (entryP e) = some (PV.str e.2) := by
      show (if (Txt.lower e.1 == y) = true then some (PV.str e.2) else none) = _
      rw [h e (.head _)]; rfl
    rw [this]
    show PV.str e.2 :: _ = _
    rw [fits_same y l fun e' he => h e' (.tail _ he)]
    rfl
theorem fits_all {m n : Int} {ns : List Int} (h0 : 0 ≤ m) (h1 : m < 60) (h2 : 0 ≤ n) (h3 : n < 60) : ((allE m ns 5).map entryP).filterMap (keepF (fitsP (Txt.lower (keyI n))) pickP) = (if (m == n) = true then allW m ns 5 else []).map .str := by
  rw [keyI_low h2 h3]
  have hl : ∀ e ∈ allE m ns 5, (Txt.lower e.1 == Str.ofString "n" ++ strI n) = (m == n) := fun e he => by
    rw [← key_eq h0 h1 h2 h3]
    rcases allE_keys he with q | q
    · rw [q, (low_key h0 h1).1]
    · rw [q, (low_key h0 h1).2]
  cases hb : m == n with
  | true =>
    rw [fits_same _ _ fun e he => (hl e he).trans hb, allE_words]
    rfl
  | false =>
    rw [fits_none m _ _ fun e he => (hl e he).trans hb]
    rfl
/-- what get_all gives -/
noncomputable def wordsL (n1 n2 n : Int) (ns : List Int) : List Str := (if (n1 == n) = true then allW n1 ns 5 else []) ++ (if (n2 == n) = true then allW n2 ns 5 else [])
noncomputable def tripL (n1 n2 n : Int) (ns : List Int) : List (Int × Int × Int) := (if (n1 == n) = true then allT3 n1 ns else []) ++ (if (n2 == n) = true then allT3 n2 ns else [])
theorem wordsL_T (n1 n2 n : Int) (ns : List Int) : wordsL n1 n2 n ns = (tripL n1 n2 n ns).map wordT := by
  unfold wordsL tripL
  rw [List.map_append, allW_T, allW_T]
  congr 1 <;> split <;> rfl
theorem get_words {n1 n2 n : Int} {ns : List Int} (a : 7 ≤ n1 ∧ n1 ≤ 54) (b : 7 ≤ n2 ∧ n2 ≤ 54) (c : 7 ≤ n ∧ n ≤ 54) : ((hdL n1 n2 ns 2).map entryP).filterMap (keepF (fitsP (Txt.lower (keyI n))) pickP) = (wordsL n1 n2 n ns).map .str := by
  show ((allE n1 ns 5 ++ allE n2 ns 5).map entryP).filterMap _ = _
  rw [List.map_append, List.filterMap_append, fits_all (by (first | lia | omega)) (by (first | lia | omega)) (by (first | lia | omega)) (by (first | lia | omega)), fits_all (by (first | lia | omega)) (by (first | lia | omega)) (by (first | lia | omega)) (by (first | lia | omega))]
  unfold wordsL
  rw [List.map_append]
theorem trip_sum {n1 n2 n : Int} {ns : List Int} (c : 7 ≤ n ∧ n ≤ 54) : ((tripL n1 n2 n ns).map sgnT).sum = (([n1, n2].countP (· == n) : Nat) : Int) * waysI n := by
  have one : ∀ m : Int, ((if (m == n) = true then allT3 m ns else []).map sgnT).sum = if (m == n) = true then waysI n else 0 := fun m => by
    split
    · rename_i h; rw [beq_iff_eq] at h; subst h; exact words_sum c
    · rfl
  unfold tripL
  rw [List.map_append, List.sum_append, one, one]
  cases h1 : n1 == n <;> cases h2 : n2 == n <;> simp [List.countP_cons, h1, h2] <;> (first | lia | omega)
theorem trip_good {n1 n2 n : Int} {ns : List Int} (a : 7 ≤ n1 ∧ n1 ≤ 54) (b : 7 ≤ n2 ∧ n2 ≤ 54) : ∀ t ∈ tripL n1 n2 n ns, GoodW t.1 t.2.1 t.2.2 := by
  intro t ht
  unfold tripL at ht
  rcases List.mem_append.mp ht with h | h
  · split at h
    · exact good_all a t h
    · cases h
  · split at h
    · exact good_all b t h
    · cases h
theorem trip_len {n1 n2 n : Int} {ns : List Int} : (tripL n1 n2 n ns).length ≤ 160 := by
  have h1 := allT3_len n1 ns
  have h2 := allT3_len n2 ns
  unfold tripL
  rw [List.length_append]
  have key : ∀ (b : Bool) (l : List (Int × Int × Int)), l.length ≤ 80 → (if b = true then l else []).length ≤ 80 := fun b l h => by cases b <;> simp [h]
  have a1 := key (n1 == n) _ h1
  have a2 := key (n2 == n) _ h2
  (first | lia | omega)
/-- what was laid -/
noncomputable def sizeOf (n1 n2 : Int) : PV → Int
  | .int k => if (k == 0) = true then n1 else n2
  | _ => 0
noncomputable def laidOf (n1 n2 : Int) (ns : List Int) (p : PV) : List PV := (allW (sizeOf n1 n2 p) ns 5).map .str
theorem laid_list (n1 n2 n : Int) (ns : List Int) : (runL 0 2).flatMap (two (fun p => sizeOf n1 n2 p == n) (laidOf n1 n2 ns) (fun _ _ => true) (fun _ q => q)) = (wordsL n1 n2 n ns).map .str := by
  have e : runL 0 2 = [.int 0, .int 1] := rfl
  have f : ∀ l : List PV, l.filterMap (fun q => if true = true then some q else none) = l := fun l => by simp
  rw [e, List.flatMap_cons, List.flatMap_cons, List.flatMap_nil, List.append_nil]
  unfold two wordsL
  rw [f, f, List.map_append]
  congr 1
  · show (if (n1 == n) = true then (allW n1 ns 5).map PV.str else []) = _
    split <;> rfl
  · show (if (n2 == n) = true then (allW n2 ns 5).map PV.str else []) = _
    split <;> rfl
theorem laidOf_len (n1 n2 : Int) (ns : List Int) (p : PV) : (laidOf n1 n2 ns p).length ≤ 100 := by
  unfold laidOf
  rw [List.length_map]
  exact Nat.le_trans (allW_len _ _ _) (by decide)

/-- what the divisions need -/
structure DivF (n : Int) : Prop where
  e1 : (lowI n).fmod 4096 = (sideI n).fmod 4096
  e2 : highI n = 4095 - waysI n
  sg : 0 ≤ sideI n * lowI n * -1
  cu : 1 ≤ sideI n * cubI n
  lw : (lowI n).natAbs < 2 ^ 700
  o1 : DivOk (sideI n * cubI n - 1).toNat (4096 ^ (n + 1).toNat)
  o2 : DivOk (lowI n).natAbs (4096 ^ n.toNat)
  b0 : Builtin.Int.intBits (numI n) ≤ 4000
  b1 : Builtin.Int.intBits (sideI n) ≤ 64
  b2 : Builtin.Int.intBits (-sideI n) ≤ 64
  b3 : Builtin.Int.intBits (sideI n * numI n) ≤ 4000
  b4 : Builtin.Int.intBits (sideI n * numI n * numI n) ≤ 4000
theorem divOk_of {a b : Nat} (h : divOkB a b = true) : DivOk a b := by
  unfold divOkB at h
  rw [Bool.and_eq_true, Bool.and_eq_true] at h
  exact ⟨of_decide_eq_true h.1.1, of_decide_eq_true h.1.2, of_decide_eq_true h.2⟩
theorem divF {n : Int} (hn : 7 ≤ n ∧ n ≤ 54) : DivF n := by
  have h := all_at (p := chkD) chkD_ok hn
  unfold chkD at h
  simp only [Bool.and_eq_true] at h
  obtain ⟨⟨⟨⟨⟨⟨⟨⟨⟨⟨⟨h1, h2⟩, h3⟩, h4⟩, h5⟩, h6⟩, h7⟩, h8⟩, h9⟩, h10⟩, h11⟩, h12⟩ := h
  with_reducible exact ⟨of_decide_eq_true h1, of_decide_eq_true h2, of_decide_eq_true h3, of_decide_eq_true h4, of_decide_eq_true h5, divOk_of h6, divOk_of h7, of_decide_eq_true h8, of_decide_eq_true h9, of_decide_eq_true h10, of_decide_eq_true h11, of_decide_eq_true h12⟩
/-- int_divmod, all signs -/
theorem div_any {C : Cx} {S : List Addr} {a c : Int} {x b : Nat} (ok : DivOk x b) (h : (a = x ∧ c = b) ∨ (a = -(x : Int) - 1 ∧ c = b) ∨ (a = -(x : Int) ∧ c = -(b : Int)) ∨ (a = (x : Int) + 1 ∧ c = -(b : Int))) :
    CallR C S 120 (.ref 94) [.int a, .int c] (.tup [.int (a.fdiv c), .int (a.fmod c)]) := by
  have pos : ∀ S, CallR C S 116 (.ref 94) [.int (x : Int), .int (b : Int)] (.tup [.int ((x : Int).fdiv b), .int ((x : Int).fmod b)]) := fun S => by
    have e1 : (x : Int).fdiv b = ((x / b : Nat) : Int) := by rw [Int.fdiv_eq_ediv_of_nonneg _ (Int.natCast_nonneg _), Int.natCast_ediv]
    have e2 : (x : Int).fmod b = ((x % b : Nat) : Int) := by rw [Int.fmod_eq_emod_of_nonneg _ (Int.natCast_nonneg _), Int.natCast_emod]
    rw [e1, e2]
    exact intdivmod_pos ok
  rcases h with ⟨rfl, rfl⟩ | ⟨rfl, rfl⟩ | ⟨rfl, rfl⟩ | ⟨rfl, rfl⟩
  · exact (pos S).le (by decide)
  · exact (intdivmod_neg ok).le (by decide)
  · exact intdivmod_flip ok.1 fun S => (pos S).le (by decide)
  · have h := intdivmod_flip (C := C) (S := S) ok.1 fun S => intdivmod_neg ok
    have e : -(-(x : Int) - 1) = (x : Int) + 1 := by (first | lia | omega)
    rw [e] at h
    exact h
theorem sideI_cases (n : Int) : (sideI n = 1) ∨ (sideI n = -1) := by
  have h := fmod2 n
  unfold sideI
  (first | lia | omega)
theorem div_first {C : Cx} {S : List Addr} {n : Int} (D : DivF n) : CallR C S 120 (.ref 94) [.int (cubI n), .int (-sideI n * 4096 ^ (n + 1).toNat)] (.tup [.int ((cubI n).fdiv (-sideI n * 4096 ^ (n + 1).toNat)), .int (lowI n)]) := by
  have hc := D.cu
  have e : ((4096 ^ (n + 1).toNat : Nat) : Int) = 4096 ^ (n + 1).toNat := by push_cast; rfl
  refine div_any D.o1 ?_
  rw [e]
  generalize (4096 : Int) ^ (n + 1).toNat = m
  rcases sideI_cases n with q | q <;> rw [q] at hc ⊢
  · exact .inr (.inr (.inr ⟨by (first | lia | omega), by (first | lia | omega)⟩))
  · exact .inr (.inl ⟨by (first | lia | omega), by (first | lia | omega)⟩)
theorem div_second {C : Cx} {S : List Addr} {n : Int} (D : DivF n) : CallR C S 120 (.ref 94) [.int (lowI n), .int (-sideI n * 4096 ^ n.toNat)] (.tup [.int (highI n), .int ((lowI n).fmod (-sideI n * 4096 ^ n.toNat))]) := by
  have hc := D.sg
  have e : ((4096 ^ n.toNat : Nat) : Int) = 4096 ^ n.toNat := by push_cast; rfl
  refine div_any D.o2 ?_
  rw [e]
  generalize (4096 : Int) ^ n.toNat = m
  generalize lowI n = lo at hc ⊢
  rcases sideI_cases n with q | q <;> rw [q] at hc ⊢
  · exact .inr (.inr (.inl ⟨by (first | lia | omega), by (first | lia | omega)⟩))
  · exact .inl ⟨by (first | lia | omega), by (first | lia | omega)⟩
theorem digI_range (k : Int) : 0 ≤ digI k ∧ digI k ≤ 2 := by unfold digI wtI; split <;> (try split) <;> (first | lia | omega)
theorem wtI_range (k : Int) : 0 ≤ wtI k ∧ wtI k ≤ 2 := by unfold wtI; split <;> (first | lia | omega)
theorem digL_dim {n : Int} (hn : n ≤ 54) : (digL n).length ≤ 100 ∧ ∀ d ∈ digL n, 0 ≤ d ∧ d < 2 ^ 12 := by
  refine ⟨by unfold digL; rw [List.length_map, List.length_range]; (first | lia | omega), fun d hd => ?_⟩
  unfold digL at hd
  obtain ⟨i, _, rfl⟩ := List.mem_map.mp hd
  have := digI_range i
  (first | lia | omega)
end Mine
end

section
open PySem PySem.W PyProof.Rows PySem.Calls
open PyProof.Rows.KTD
set_option maxRecDepth 100000
set_option maxHeartbeats 4000000
namespace Mine
local macro_rules | `(tactic| walk_at "my caps") => `(tactic| first | exact all_nil | (refine all_cons ⟨rfl, rfl, rfl, rfl, _, rfl⟩ ?_; walk_at "my caps"))
local macro_rules | `(tactic| walk_at "my subs") => `(tactic| first | exact lk_nil | (refine lk_cons ⟨by decide, rfl⟩ ?_; walk_at "my subs"))
local macro_rules | `(tactic| walk_at "my scope") => `(tactic| exact ⟨rfl, rfl, rfl, rfl, rfl, by decide, by decide, by decide, (by walk_at "my caps"), (by walk_at "my subs"), by decide, by decide⟩)
local macro_rules | `(tactic| walk_at "my cells") => `(tactic| first | exact all_nil | (refine all_cons (by first | exact .inl rfl | exact .inr ⟨rfl, rfl⟩) ?_; walk_at "my cells"))
theorem CallRN.le {C : Cx} {S : List Addr} {k k' : Nat} {hi : Tok} {f : Value} {l : List PV} {p : PV} (h : CallRN C S k hi f l p) (hk : k ≤ k') : CallRN C S k' hi f l p := ⟨fun A s Q E vs hn R B rl H => h.run A s Q E vs hn (R.le hk) B rl H⟩
theorem Ev.wt {C : Cx} {S : List Addr} {env : Env} {nm : List Str} {ρ : List (Option PV)} {k : Nat} {x : Str} {px p1 p2 pos : Pos} {n1 n2 : Nat} {a : Int} (h : Ev C S env nm ρ k (.Name x px) (.int a)) : Ev C S env nm ρ k (.IfExp (.Name x px) (.Constant (.int 2) n1 p1) (.Constant (.int 1) n2 p2) pos) (.int (wtI a)) :=
  Ev.ite (b := a != 0) (Tr.val h rfl rfl) (fun hb => Ev.as (p := .int 2) (by unfold wtI; rw [hb]; rfl) Ev.cint) (fun hb => Ev.as (p := .int 1) (by unfold wtI; rw [hb]; rfl) Ev.cint)
theorem sqrs_tup : PV.tup [.int 0, .int 1, .int 4, .int 9, .int 16, .int 25, .int 36, .int 49] = .tup (sqrs.map PV.int) := rfl
theorem key_item (n : Int) : idxL [PV.str (Str.ofString "n"), .str (Str.ofString "N")] (n.fmod 2) = some (.str (if (n.fmod 2 == 0) = true then Str.ofString "n" else Str.ofString "N")) := by
  rcases fmod2 n with h | h <;> rw [h] <;> rfl
theorem size_at (h1 h2 : Int) (i : Nat) : ∃ n, sizeAt h1 h2 i = .int n ∧ 7 ≤ n ∧ n ≤ 54 := by
  match i with
  | 0 => exact ⟨_, rfl, sizeI_range h1⟩
  | i + 1 => exact ⟨_, rfl, sizeI_range h2⟩
theorem runL_len (b : Int) : (runL 0 b).length = b.toNat := by rw [runL0, List.length_map, List.length_range]
theorem mem_run {b : Int} {p : PV} (h : p ∈ runL 0 b) : ∃ i : Int, p = .int i ∧ 0 ≤ i ∧ i < b := by
  rw [runL0] at h
  obtain ⟨j, hj, rfl⟩ := List.mem_map.mp h
  have := List.mem_range.mp hj
  exact ⟨j, rfl, by (first | lia | omega), by (first | lia | omega)⟩
theorem row_item (n1 n2 : Int) {i : Int} (h0 : 0 ≤ i) (h1 : i < 2) (l : List PV) : idxL (PV.int n1 :: .int n2 :: l) i = some (.int (sizeOf n1 n2 (.int i))) := by
  have : i = 0 ∨ i = 1 := by (first | lia | omega)
  rcases this with rfl | rfl
  · exact idxL_nat rfl (by decide)
  · exact idxL_nat rfl (by decide)
theorem laid_item (n1 n2 : Int) (ns : List Int) {i : Int} (h0 : 0 ≤ i) (h1 : i < 2) : idxL [PV.lst ((allW n1 ns 5).map .str), .lst ((allW n2 ns 5).map .str)] i = some (.lst (laidOf n1 n2 ns (.int i))) := by
  have : i = 0 ∨ i = 1 := by (first | lia | omega)
  rcases this with rfl | rfl
  · exact idxL_nat rfl (by decide)
  · exact idxL_nat rfl (by decide)
theorem bits4096 : Builtin.Int.intBits 4096 = 13 := by decide +kernel
theorem powOk {m : Int} (h0 : 0 ≤ m) (h1 : m ≤ 60) : (Builtin.Int.intBits 4096 : Int) * m ≤ 2 ^ 27 := by rw [bits4096]; (first | lia | omega)
theorem trip_words (n1 n2 n : Int) (ns : List Int) : PV.lst ((wordsL n1 n2 n ns).map .str) = .lst ((tripL n1 n2 n ns).map fun t => .str (wordT t)) := by rw [wordsL_T, List.map_map]; rfl
theorem wordsL_len (n1 n2 n : Int) (ns : List Int) : (wordsL n1 n2 n ns).length ≤ 160 := by rw [wordsL_T, List.length_map]; exact trip_len
theorem hdL_len (n1 n2 : Int) (ns : List Int) : (hdL n1 n2 ns 2).length ≤ 10000 := by
  show (allE n1 ns 5 ++ allE n2 ns 5).length ≤ 10000
  have := allE_len n1 ns 5
  have := allE_len n2 ns 5
  rw [List.length_append]
  (first | lia | omega)
theorem hdL_keys {n1 n2 : Int} {ns : List Int} (a : 7 ≤ n1 ∧ n1 ≤ 54) (b : 7 ≤ n2 ∧ n2 ≤ 54) : ∀ q ∈ hdL n1 n2 ns 2, q.1.length ≤ 1000 := fun q hq => by
  have l1 : (Str.ofString "n").length = 1 := by decide +kernel
  have l2 : (Str.ofString "N").length = 1 := by decide +kernel
  have one : ∀ m : Int, 7 ≤ m ∧ m ≤ 54 → q ∈ allE m ns 5 → q.1.length ≤ 1000 := fun m hm h => by
    rcases allE_keys h with e | e <;> rw [e]
    · exact Nat.le_trans (name_plain plain_n l1 (by (first | lia | omega)) (by (first | lia | omega))).2 (by decide)
    · exact Nat.le_trans (name_plain plain_N l2 (by (first | lia | omega)) (by (first | lia | omega))).2 (by decide)
  rcases List.mem_append.mp (show q ∈ allE n1 ns 5 ++ allE n2 ns 5 from hq) with h | h
  · exact one _ a h
  · exact one _ b h
theorem key_small {n : Int} (h : (keyI n).length ≤ 3) : (if (n.fmod 2 == 0) = true then Str.ofString "n" else Str.ofString "N").length + (strI n).length ≤ 16000 := by
  unfold keyI at h
  rw [len_app] at h
  (first | lia | omega)
theorem law_turn {C : Cx} {A : Around} {s : Shared} {B : Heap} {S : List Addr} {body : List Stmt} {scope : Scope} {qual : Str} {L f : Addr} {cdv : Value} {ns : List Int} {h1 h2 : Int} {r : List PV} {tk i : Nat} {E : Value → Shared → Prop} (hb : lawTurn = some (body, scope)) (hsc : ns.length ≤ 63) (hi : i < 2) (R : Room 150 A)
    (M : Fm (envOfC qual scope L f cdv) ["script", "heaps", "signs", "row", "table", "one", "terminal", "end", "corners", "size", "laid", "digits", "ways", "words", "side", "number", "low"]) (F : FS C B S [] (envOfC qual scope L f cdv) ["script", "heaps", "signs", "row", "table", "one", "terminal", "end", "corners", "size", "laid", "digits", "ways", "words", "side", "number", "low"] [some (.scr ns), some (.lst [.int h1, .int h2]), some (.lst ((Txt.words signsS).map .str)), some (.lst [.int (sizeI h1), .int (sizeI h2), .int 255, .int 256, .int 0]), some (.hdrL ((hdL (sizeI h1) (sizeI h2) ns 2).map entryP)), none, none, none, some (.lst r), some (sizeAt h1 h2 i), some (.lst [.lst ((allW (sizeI h1) ns 5).map .str), .lst ((allW (sizeI h2) ns 5).map .str)]), none, none, none, none, none, none] s.heap) (fl : FlR 1 tk corn r) (hti : tk ≤ s.toks) :
    X C A (envOfC qual scope L f cdv) body (Turned C B S [] (envOfC qual scope L f cdv) ["script", "heaps", "signs", "row", "table", "one", "terminal", "end", "corners", "size", "laid", "digits", "ways", "words", "side", "number", "low"] [some (.scr ns), some (.lst [.int h1, .int h2]), some (.lst ((Txt.words signsS).map .str)), some (.lst [.int (sizeI h1), .int (sizeI h2), .int 255, .int 256, .int 0]), some (.hdrL ((hdL (sizeI h1) (sizeI h2) ns 2).map entryP)), none, none, none, some (.lst r), none, some (.lst [.lst ((allW (sizeI h1) ns 5).map .str), .lst ((allW (sizeI h2) ns 5).map .str)]), none, none, none, none, none, none] s) E s := by
  cases hb
  obtain ⟨n, en, hn⟩ := size_at h1 h2 i
  rw [en] at F
  have hR := sizeI_range h1
  have hR2 := sizeI_range h2
  have D := divF hn
  have f2 := fmod2 n
  have hdd := digL_dim hn.2
  have hkl := keyI_len (n := n) (by (first | lia | omega)) (by (first | lia | omega))
  refine X.assignT hti F M R (Ev.as (congrArg PV.lst (dig_list n)) (Ev.comp (t := fun _ => true) (g := digP) (its := runL 0 (n + 1)) (Comp1.mk' (xs := ["k"]) (cs := []) (cl := []) (ps := []) (t := fun _ => true) (g := digP) (its := runL 0 (n + 1)) (by walk_at "my scope") F.inj .nil (EvIter.range1 rfl (Ev.bl M blt_range (by kernel_rfl)) (Ev.bin (Ev.loc M (.s (.s (.s (.s (.s (.s (.s (.s (.s .z)))))))))) Ev.cint BinR.add_ii) (by (first | lia | omega))) (small (by rw [runL_len]; (first | lia | omega))) (fun p => [p]) (fun p hp => rfl) (fun p ρx hp hρ => ?_) (fun p L' S'' hp hsub => Tests.none) (fun p L' S'' hp ht hsub => ?_)))) (.s (.s (.s (.s (.s (.s (.s (.s (.s (.s (.s .z))))))))))) ?_
  · obtain ⟨u, rfl⟩ := List.length_eq_one_iff.mp hρ
    exact AsgC.name (by walk_at "my scope") .z
  · obtain ⟨k, rfl, hk0, hk1⟩ := mem_run hp
    show Ev _ _ _ _ _ _ _ (.int (digI k))
    exact Ev.ite (b := (sqrs.map (fun x : Int => x == k)).any id) (Tr.cmp (Ev.loc (CompScope.fm (by walk_at "my scope")) .z) (Ev.as sqrs_tup (Ev.tuple (EvL.cons Ev.cint (EvL.cons Ev.cint (EvL.cons Ev.cint (EvL.cons Ev.cint (EvL.cons Ev.cint (EvL.cons Ev.cint (EvL.cons Ev.cint (EvL.cons Ev.cint EvL.nil)))))))) (small (Nat.le_of_ble_eq_true rfl)))) (CmpR.in_tup (InL.ints k sqrs)) (by rfl)) (fun hb => Ev.as (p := .int (wtI k)) (by unfold digI; rw [hb]; rfl) (Ev.wt (Ev.loc (CompScope.fm (by walk_at "my scope")) .z))) (fun hb => Ev.as (p := .int 0) (by unfold digI; rw [hb]; rfl) Ev.cint)
  intro h tk2 F hti
  refine X.assignT hti F M R (Ev.callB (Ev.bl M blt_sum (by kernel_rfl)) (EvL.cons (Ev.as (congrArg PV.lst (ways_list n)) (Ev.comp2 (cs := ["digits", "size"]) (cl := _) (ps := [.lst ((digL n).map PV.int), .int n]) (its1 := runL 0 8) (t1 := fun _ => true) (its2 := fun _ => runL 0 8) (t2 := wayT n) (g := wayG n) (by walk_at "my scope") F.inj (.cons (.s (.s (.s (.s (.s (.s (.s (.s (.s (.s (.s .z))))))))))) (.cons (.s (.s (.s (.s (.s (.s (.s (.s (.s .z))))))))) .nil)) (EvIter.range1 rfl (Ev.bl M blt_range (by kernel_rfl)) Ev.cint (by decide)) (by rw [runL_len]; decide) (fun p hp => by rw [runL_len]; decide) (fun p L' S'' hp hsub => Tests.none) (fun p L' S'' hp ht hsub => EvIter.range1 rfl (Ev.bl (CompScope.fm (by walk_at "my scope")) blt_range (by kernel_rfl)) Ev.cint (by decide)) (fun p q L' S'' hp ht hq hsub => ?_) (fun p q L' S'' hp ht hq ht2 hsub => ?_))) EvL.nil) CallR.sum_l) (.s (.s (.s (.s (.s (.s (.s (.s (.s (.s (.s (.s .z)))))))))))) ?_
  · obtain ⟨a, rfl, ha0, ha1⟩ := mem_run hp
    obtain ⟨b, rfl, hb0, hb1⟩ := mem_run hq
    exact Tests.one (Tr.cmp (Ev.bin (Ev.bin (Ev.loc (CompScope.fm (by walk_at "my scope")) .z) (Ev.loc (CompScope.fm (by walk_at "my scope")) .z) (BinR.mul_ii (mulOk ha0 (by (first | lia | omega))))) (Ev.bin (Ev.loc (CompScope.fm (by walk_at "my scope")) (.s .z)) (Ev.loc (CompScope.fm (by walk_at "my scope")) (.s .z)) (BinR.mul_ii (mulOk hb0 (by (first | lia | omega))))) BinR.add_ii) (Ev.loc (CompScope.fm (by walk_at "my scope")) (.s (.s (.s .z)))) CmpR.le_ii (by rfl))
  · obtain ⟨a, rfl, ha0, ha1⟩ := mem_run hp
    obtain ⟨b, rfl, hb0, hb1⟩ := mem_run hq
    have ht2 : a * a + b * b ≤ n := of_decide_eq_true ht2
    have haa := Int.mul_nonneg ha0 ha0
    have hbb := Int.mul_nonneg hb0 hb0
    have w1 := wtI_range a
    have w2 := wtI_range b
    show Ev _ _ _ _ _ _ _ (.int (wtI a * wtI b * digI (n - a * a - b * b)))
    refine Ev.bin (Ev.bin (Ev.wt (Ev.loc (CompScope.fm (by walk_at "my scope")) .z)) (Ev.wt (Ev.loc (CompScope.fm (by walk_at "my scope")) (.s .z))) (BinR.mul_ii (mulOk w1.1 (by (first | lia | omega))))) (Ev.item (Ev.loc (CompScope.fm (by walk_at "my scope")) (.s (.s .z))) (Ev.bin (Ev.bin (Ev.loc (CompScope.fm (by walk_at "my scope")) (.s (.s (.s .z)))) (Ev.bin (Ev.loc (CompScope.fm (by walk_at "my scope")) .z) (Ev.loc (CompScope.fm (by walk_at "my scope")) .z) (BinR.mul_ii (mulOk ha0 (by (first | lia | omega))))) BinR.sub_ii) (Ev.bin (Ev.loc (CompScope.fm (by walk_at "my scope")) (.s .z)) (Ev.loc (CompScope.fm (by walk_at "my scope")) (.s .z)) (BinR.mul_ii (mulOk hb0 (by (first | lia | omega))))) BinR.sub_ii) (ItemR.lst (digL_at (by (first | lia | omega)) (by (first | lia | omega))) (by (first | lia | omega)) (by (first | lia | omega)))) (BinR.mul_ii (mulOk (Int.mul_nonneg w1.1 w2.1) ?_))
    exact Int.lt_of_le_of_lt (Int.mul_le_mul w1.2 w2.2 w2.1 (by decide)) (by decide)
  intro h tk2 F hti
  rw [show (waysL n).sum = waysI n from rfl] at F
  refine X.assignT hti F M R (Ev.as (congrArg PV.lst (get_words hR hR2 hn)) (Ev.meth (Ev.loc M (.s (.s (.s (.s .z))))) (IsHdr.f _) (EvL.cons (Ev.bin (Ev.item (Ev.tuple (EvL.cons Ev.cstr (EvL.cons Ev.cstr EvL.nil)) (small (Nat.le_of_ble_eq_true rfl))) (Ev.bin (Ev.loc M (.s (.s (.s (.s (.s (.s (.s (.s (.s .z)))))))))) Ev.cint (BinR.mod_ii (by decide))) (ItemR.tup (key_item n) (by (first | lia | omega)) (by (first | lia | omega)))) (Ev.callT (Ev.bl M blt_str (by kernel_rfl)) (EvL.cons (Ev.loc M (.s (.s (.s (.s (.s (.s (.s (.s (.s .z)))))))))) EvL.nil) (CallR.str_i (log_ok (by (first | lia | omega)) (by (first | lia | omega))))) (BinR.add_ss (small (key_small hkl.1)))) EvL.nil) mth_getall ((get_all (x := keyI n) hkl.2.1 (lt62 hkl.2.2) (Nat.le_trans hkl.1 (by decide)) ?_ ?_).le (by decide)))) (.s (.s (.s (.s (.s (.s (.s (.s (.s (.s (.s (.s (.s .z))))))))))))) ?_
  · exact hdL_len _ _ _
  · exact hdL_keys hR hR2
  intro h tk2 F hti
  refine X.ifsH (b := false) hti F R (TrH.or (b := false) (c := false) (Tr.cmp (Ev.loc M (.s (.s (.s (.s (.s (.s (.s (.s (.s (.s (.s (.s (.s .z)))))))))))))) (Ev.as (congrArg PV.lst (laid_list (sizeI h1) (sizeI h2) n ns)) (Ev.comp2 (cs := ["laid", "row", "size"]) (cl := _) (ps := [.lst [.lst ((allW (sizeI h1) ns 5).map .str), .lst ((allW (sizeI h2) ns 5).map .str)], .lst [.int (sizeI h1), .int (sizeI h2), .int 255, .int 256, .int 0], .int n]) (its1 := runL 0 2) (t1 := fun p => sizeOf (sizeI h1) (sizeI h2) p == n) (its2 := laidOf (sizeI h1) (sizeI h2) ns) (t2 := fun _ _ => true) (g := fun _ q => q) (by walk_at "my scope") F.inj (.cons (.s (.s (.s (.s (.s (.s (.s (.s (.s (.s .z)))))))))) (.cons (.s (.s (.s .z))) (.cons (.s (.s (.s (.s (.s (.s (.s (.s (.s .z))))))))) .nil))) (EvIter.range1 rfl (Ev.bl M blt_range (by kernel_rfl)) Ev.cint (by decide)) (by rw [runL_len]; decide) (fun p hp => laidOf_len _ _ _ _) (fun p L' S'' hp hsub => ?_) (fun p L' S'' hp ht hsub => ?_) (fun p q L' S'' hp ht hq hsub => Tests.none) (fun p q L' S'' hp ht hq ht2 hsub => (Ev.loc (CompScope.fm (by walk_at "my scope")) (.s .z))))) (CmpR.ne_strs.cast (by simp)) (by rfl)) (fun _ => TrH.cmp (EvH.call (Ev.gl M glb_count (by kernel_rfl)) (EvL.cons (Ev.as (trip_words _ _ _ _) (Ev.loc M (.s (.s (.s (.s (.s (.s (.s (.s (.s (.s (.s (.s (.s .z))))))))))))))) (EvL.cons (Ev.loc M (.s (.s (.s (.s (.s (.s (.s (.s .z))))))))) EvL.nil)) ((law_count (trip_good hR hR2) (Nat.le_trans trip_len (by decide)) (Nat.lt_of_lt_of_le Nat.zero_lt_one (Nat.le_refl 1)) fl).le (by decide)) (by kernel_rfl)) (Ev.bin (Ev.meth1 (Ev.as (q := .lst ([sizeI h1, sizeI h2].map PV.int)) rfl (Ev.slice (Ev.loc M (.s (.s (.s .z)))) EvO.none (EvO.some Ev.cint) EvO.none (SliceR.lst (by decide) (small (Nat.le_of_ble_eq_true rfl))))) (Ev.loc M (.s (.s (.s (.s (.s (.s (.s (.s (.s .z)))))))))) Meth1.count_i) (Ev.loc M (.s (.s (.s (.s (.s (.s (.s (.s (.s (.s (.s (.s .z))))))))))))) (BinR.mul_ii (mulOk (Int.natCast_nonneg _) ?_))) (CmpR.ne_ii.cast (by rw [trip_sum hn]; simp)) (by rfl))) (fun hb => nomatch hb) (fun hb h tk2 F hti => ?_)
  · obtain ⟨k, rfl, hk0, hk1⟩ := mem_run hp
    exact Tests.one (Tr.cmp (Ev.item (Ev.loc (CompScope.fm (by walk_at "my scope")) (.s (.s (.s .z)))) (Ev.loc (CompScope.fm (by walk_at "my scope")) .z) (ItemR.lst (row_item _ _ hk0 hk1 _) (by (first | lia | omega)) (by (first | lia | omega)))) (Ev.loc (CompScope.fm (by walk_at "my scope")) (.s (.s (.s (.s .z))))) CmpR.eq_ii (by rfl))
  · obtain ⟨k, rfl, hk0, hk1⟩ := mem_run hp
    exact EvIter.of (Ev.item (Ev.loc (CompScope.fm (by walk_at "my scope")) (.s (.s .z))) (Ev.loc (CompScope.fm (by walk_at "my scope")) .z) (ItemR.lst (laid_item _ _ _ hk0 hk1) (by (first | lia | omega)) (by (first | lia | omega)))) (IterR.lst rfl)
  · have := List.countP_le_length (p := fun x : Int => x == n) (l := [sizeI h1, sizeI h2])
    have e : [sizeI h1, sizeI h2].length = 2 := rfl
    (first | lia | omega)
  refine X.next ?_
  refine X.carry (n := tk) hti ?_
  refine X.swp F M R (Ev.tuple (EvL.cons (Ev.as (q := .int (sideI n)) (by unfold sideI; rfl) (Ev.bin Ev.cint (Ev.bin Ev.cint (Ev.bin (Ev.loc M (.s (.s (.s (.s (.s (.s (.s (.s (.s .z)))))))))) Ev.cint (BinR.mod_ii (by decide))) (BinR.mul_ii (.of_left (by decide)))) BinR.sub_ii)) (EvL.cons (Ev.as (q := .int (numI n)) rfl (Ev.callD (Ev.gl M glb_digits2int (by kernel_rfl)) (EvL.cons (Ev.loc M (.s (.s (.s (.s (.s (.s (.s (.s (.s (.s (.s .z)))))))))))) (EvL.cons (Ev.as (q := .int ((12 : Nat) : Int)) rfl Ev.cint) EvL.nil)) ((digits2int hdd.1 (by decide) hdd.2).le (by decide)) (by kernel_rfl))) EvL.nil)) (small (Nat.le_of_ble_eq_true rfl))) rfl (.cons (.s (.s (.s (.s (.s (.s (.s (.s (.s (.s (.s (.s (.s (.s (.s .z))))))))))))))) (.cons (.s (.s (.s (.s (.s (.s (.s (.s (.s (.s (.s (.s (.s (.s .z)))))))))))))) .nil)) ?_
  intro h tk2 F
  refine X.done fun hti => ?_
  refine X.assignT hti F M R (Ev.item (Ev.callD (Ev.gl M glb_intdivmod (by kernel_rfl)) (EvL.cons (Ev.as (q := .int (cubI n)) (by unfold cubI; rfl) (Ev.bin (Ev.bin (Ev.bin (Ev.loc M (.s (.s (.s (.s (.s (.s (.s (.s (.s (.s (.s (.s (.s (.s .z))))))))))))))) (Ev.loc M (.s (.s (.s (.s (.s (.s (.s (.s (.s (.s (.s (.s (.s (.s (.s .z)))))))))))))))) (BinR.mul_ii (.of_left D.b1))) (Ev.loc M (.s (.s (.s (.s (.s (.s (.s (.s (.s (.s (.s (.s (.s (.s (.s .z)))))))))))))))) (BinR.mul_ii (.of_le D.b3 D.b0 (by decide)))) (Ev.loc M (.s (.s (.s (.s (.s (.s (.s (.s (.s (.s (.s (.s (.s (.s (.s .z)))))))))))))))) (BinR.mul_ii (.of_le D.b4 D.b0 (by decide))))) (EvL.cons (Ev.bin (Ev.neg (Ev.loc M (.s (.s (.s (.s (.s (.s (.s (.s (.s (.s (.s (.s (.s (.s .z)))))))))))))))) (Ev.bin Ev.cint (Ev.bin (Ev.loc M (.s (.s (.s (.s (.s (.s (.s (.s (.s .z)))))))))) Ev.cint BinR.add_ii) (BinR.pow_ii (by (first | lia | omega)) (powOk (by (first | lia | omega)) (by (first | lia | omega))))) (BinR.mul_ii (.of_left D.b2))) EvL.nil)) ((div_first D).le (by decide)) (by kernel_rfl)) Ev.cint (ItemR.tup (r := .int (lowI n)) (idxL_nat rfl (by decide)) (by decide) (by decide))) (.s (.s (.s (.s (.s (.s (.s (.s (.s (.s (.s (.s (.s (.s (.s (.s .z)))))))))))))))) ?_
  intro h tk2 F hti
  refine X.ifsT (b := false) hti F R (Tr.or (b := false) (c := false) (Tr.cmp (Ev.bin (Ev.loc M (.s (.s (.s (.s (.s (.s (.s (.s (.s (.s (.s (.s (.s (.s (.s (.s .z))))))))))))))))) Ev.cint (BinR.mod_ii (by decide))) (Ev.bin (Ev.loc M (.s (.s (.s (.s (.s (.s (.s (.s (.s (.s (.s (.s (.s (.s .z))))))))))))))) Ev.cint (BinR.mod_ii (by decide))) (CmpR.ne_ii.cast (by rw [D.e1]; simp)) (by rfl)) (fun _ => Tr.cmp (Ev.item (Ev.callD (Ev.gl M glb_intdivmod (by kernel_rfl)) (EvL.cons (Ev.loc M (.s (.s (.s (.s (.s (.s (.s (.s (.s (.s (.s (.s (.s (.s (.s (.s .z))))))))))))))))) (EvL.cons (Ev.bin (Ev.neg (Ev.loc M (.s (.s (.s (.s (.s (.s (.s (.s (.s (.s (.s (.s (.s (.s .z)))))))))))))))) (Ev.bin Ev.cint (Ev.loc M (.s (.s (.s (.s (.s (.s (.s (.s (.s .z)))))))))) (BinR.pow_ii (by (first | lia | omega)) (powOk (by (first | lia | omega)) (by (first | lia | omega))))) (BinR.mul_ii (.of_left D.b2))) EvL.nil)) ((div_second D).le (by decide)) (by kernel_rfl)) Ev.cint (ItemR.tup (r := .int (highI n)) (idxL_nat rfl (by decide)) (by decide) (by decide))) (Ev.bin Ev.cint (Ev.loc M (.s (.s (.s (.s (.s (.s (.s (.s (.s (.s (.s (.s .z))))))))))))) BinR.sub_ii) (CmpR.ne_ii.cast (by rw [D.e2]; simp)) (by rfl))) (fun hb => nomatch hb) (fun hb h tk2 F hti => ?_)
  refine X.next ?_
  exact X.nil ⟨rfl, _, _, rfl, F.weak (.k (.k (.k (.k (.k (.k (.k (.k (.k (.d (.k (.d (.d (.d (.d (.d (.d (.nil))))))))))))))))))⟩
end Mine
end

section
open PySem PySem.W PyProof.Rows PySem.Calls
open PyProof.Rows.KTD
set_option maxRecDepth 100000
set_option maxHeartbeats 4000000
namespace Mine
local macro_rules | `(tactic| walk_at "my caps") => `(tactic| first | exact all_nil | (refine all_cons ⟨rfl, rfl, rfl, rfl, _, rfl⟩ ?_; walk_at "my caps"))
local macro_rules | `(tactic| walk_at "my subs") => `(tactic| first | exact lk_nil | (refine lk_cons ⟨by decide, rfl⟩ ?_; walk_at "my subs"))
local macro_rules | `(tactic| walk_at "my scope") => `(tactic| exact ⟨rfl, rfl, rfl, rfl, rfl, by decide, by decide, by decide, (by walk_at "my caps"), (by walk_at "my subs"), by decide, by decide⟩)
local macro_rules | `(tactic| walk_at "my cells") => `(tactic| first | exact all_nil | (refine all_cons (by first | exact .inl rfl | exact .inr ⟨rfl, rfl⟩) ?_; walk_at "my cells"))
theorem law_walk {C : Cx} {A : Around} {s : Shared} {B : Heap} {S : List Addr} {body : List Stmt} {scope : Scope} {qual : Str} {L f : Addr} {cdv : Value} {ns : List Int} (hb : lawBody = some (body, scope)) (hsc : ns.length ≤ 63) (R : Room 150 A)
    (M : Fm (envOfC qual scope L f cdv) ["script", "heaps", "signs", "row", "table", "one", "terminal", "end", "corners", "size", "laid", "digits", "ways", "words", "side", "number", "low"]) (F : FS C B S [] (envOfC qual scope L f cdv) ["script", "heaps", "signs", "row", "table", "one", "terminal", "end", "corners", "size", "laid", "digits", "ways", "words", "side", "number", "low"] [some (.scr ns), none, none, none, none, none, none, none, none, none, none, none, none, none, none, none, none] s.heap) :
    X C A (envOfC qual scope L f cdv) body (fun fl s' => fl = .ret (.bool true) ∧ (∃ h tk, s' = { s with heap := h, toks := tk }) ∧ Gr B s'.heap) (fun _ _ => False) s := by
  cases hb
  obtain ⟨h1, eh1⟩ : ∃ h, h = 20 + sumAt ns 0 := ⟨_, rfl⟩
  obtain ⟨h2, eh2⟩ : ∃ h, h = 29 + sumAt ns 1 := ⟨_, rfl⟩
  refine X.assignC F M R (Comp1.mk' (xs := ["k", "own"]) (cs := ["script"]) (cl := [("script", _)]) (ps := [.scr ns]) (t := fun _ => true) (g := heapP ns) (its := enumL [.int 20, .int 29]) (by walk_at "my scope") F.inj (.cons .z .nil) (EvIter.enum (Ev.bl M blt_enumerate (by kernel_rfl)) (Ev.tuple (EvL.cons Ev.cint (EvL.cons Ev.cint EvL.nil)) (small (Nat.le_of_ble_eq_true rfl))) (.inr rfl)) (small (Nat.le_of_ble_eq_true rfl)) unP (fun p hp => ?_) (fun p ρx hp hρ => ?_) (fun p L' S'' hp hsub => Tests.none) (fun p L' S'' hp ht hsub => ?_)) (SetAt.as (p := .lst [.int h1, .int h2]) (by rw [eh1, eh2]; rfl) (.s .z)) ?_
  · rcases mem2 hp with rfl | rfl <;> rfl
  · obtain ⟨kk, own, rfl⟩ : ∃ kk own : Int, p = .tup [.int kk, .int own] := by rcases mem2 hp with rfl | rfl <;> exact ⟨_, _, rfl⟩
    match ρx, hρ with
    | [u, v], _ => exact AsgC.tup (by walk_at "my scope") (.cons .z (.cons (.s .z) .nil))
  · obtain ⟨kk, own, rfl⟩ : ∃ kk own : Int, p = .tup [.int kk, .int own] := by rcases mem2 hp with rfl | rfl <;> exact ⟨_, _, rfl⟩
    exact Ev.bin (Ev.loc (CompScope.fm (by walk_at "my scope")) (.s .z)) (Ev.callB (Ev.bl (CompScope.fm (by walk_at "my scope")) blt_sum (by kernel_rfl)) (EvL.cons (Ev.as (q := .lst ((pickL (pickL ns none (some 60) none) (some kk) none (some 2)).map .int)) (by rw [pickL_map]) (Ev.slice (Ev.slice (Ev.loc (CompScope.fm (by walk_at "my scope")) (.s (.s .z))) EvO.none (EvO.some Ev.cint) EvO.none (SliceR.scr (by decide) (small (by (first | lia | omega))))) (EvO.some (Ev.loc (CompScope.fm (by walk_at "my scope")) .z)) EvO.none (EvO.some Ev.cint) (SliceR.lst (by decide) (small (by rw [List.length_map]; exact Nat.le_trans (pickL_length_le _ _ _ _) (by (first | lia | omega))))))) EvL.nil) CallR.sum_l) BinR.add_ii
  intro h tk F
  refine X.assignU F M R (EvU.split (x := signsS) Ev.cstr signs_fit.1 signs_fit.2.1 signs_fit.2.2) (.s (.s .z)) ?_
  intro h tk F hti
  refine X.carry (n := 1) hti ?_
  refine X.tabnew F M R (by decide) (p := .lst [.int (sizeI h1), .int (sizeI h2), .int 255, .int 256, .int 0]) (Ev.bin (a := .lst [.int (sizeI h1), .int (sizeI h2)]) (b := .lst [.int 255, .int 256, .int 0]) (Ev.comp (t := fun _ => true) (g := sizeP) (its := [.int h1, .int h2]) (Comp1.mk' (xs := ["heap"]) (cs := ["signs"]) (cl := [("signs", _)]) (ps := [.lst ((Txt.words signsS).map .str)]) (t := fun _ => true) (g := sizeP) (its := [.int h1, .int h2]) (by walk_at "my scope") F.inj (.cons (.s (.s .z)) .nil) (EvIter.of (Ev.loc M (.s .z)) (IterR.lst rfl)) (small (Nat.le_of_ble_eq_true rfl)) (fun p => [p]) (fun p hp => ?_) (fun p ρx hp hρ => ?_) (fun p L' S'' hp hsub => Tests.none) (fun p L' S'' hp ht hsub => ?_))) (Ev.list (EvL.cons Ev.cint (EvL.cons Ev.cint (EvL.cons Ev.cint EvL.nil))) (small (Nat.le_of_ble_eq_true rfl))) (BinR.add_ll (small (Nat.le_of_ble_eq_true rfl)))) (Ev.gl M glb_headers (by kernel_rfl)) (fun a => .cons (.s (.s (.s .z))) (.cons (.s (.s (.s (.s .z)))) .nil)) ?_
  · rcases mem2 hp with rfl | rfl <;> rfl
  · obtain ⟨u, rfl⟩ := List.length_eq_one_iff.mp hρ
    exact AsgC.name (by walk_at "my scope") .z
  · obtain ⟨h, rfl⟩ : ∃ h : Int, p = .int h := by rcases mem2 hp with rfl | rfl <;> exact ⟨_, rfl⟩
    have g1 := Int.fmod_nonneg_of_pos h (show (0 : Int) < 48 by decide)
    have g2 := Int.fmod_lt_of_pos h (show (0 : Int) < 48 by decide)
    obtain ⟨x, hx, hd⟩ := signs_at (i := (h.fmod 48).toNat) (by (first | lia | omega))
    rw [show (((h.fmod 48).toNat : Nat) : Int) = h.fmod 48 by (first | lia | omega)] at hd
    exact Ev.item (Ev.gl (CompScope.fm (by walk_at "my scope")) glb_tok (by kernel_rfl)) (Ev.item (Ev.loc (CompScope.fm (by walk_at "my scope")) (.s .z)) (Ev.bin (Ev.loc (CompScope.fm (by walk_at "my scope")) .z) Ev.cint (BinR.mod_ii (by decide))) (ItemR.lst (r := .str x) (idxL_nat (by rw [List.getElem?_map, hx]; rfl) g1) (by (first | lia | omega)) (by (first | lia | omega)))) (ItemR.tok hd)
  intro a h tk haS hCa F
  refine X.done fun hti => ?_
  have hR := sizeI_range h1
  have hR2 := sizeI_range h2
  refine X.ifsT (b := false) hti F R (Tr.cmp (Ev.as (q := .lst ([sizeI h1, sizeI h2].map .int)) rfl (Ev.slice (Ev.loc M (.s (.s (.s .z)))) EvO.none (EvO.some Ev.cint) EvO.none (SliceR.lst (by decide) (small (Nat.le_of_ble_eq_true rfl))))) (Ev.as (q := .lst ([sizeI h1, sizeI h2].map .int)) rfl (Ev.comp (t := fun _ => true) (g := sizeP) (its := [.int h1, .int h2]) (Comp1.mk' (xs := ["heap"]) (cs := []) (cl := []) (ps := []) (t := fun _ => true) (g := sizeP) (its := [.int h1, .int h2]) (by walk_at "my scope") F.inj .nil (EvIter.of (Ev.loc M (.s .z)) (IterR.lst rfl)) (small (Nat.le_of_ble_eq_true rfl)) (fun p => [p]) (fun p hp => ?_) (fun p ρx hp hρ => ?_) (fun p L' S'' hp hsub => Tests.none) (fun p L' S'' hp ht hsub => ?_)))) (CmpR.ne_ints.cast (by simp)) (by rfl)) (fun hb => nomatch hb) (fun hb h tk F hti => ?_)
  · rcases mem2 hp with rfl | rfl <;> rfl
  · obtain ⟨u, rfl⟩ := List.length_eq_one_iff.mp hρ
    exact AsgC.name (by walk_at "my scope") .z
  · obtain ⟨h, rfl⟩ : ∃ h : Int, p = .int h := by rcases mem2 hp with rfl | rfl <;> exact ⟨_, rfl⟩
    exact Ev.bin Ev.cint (Ev.bin (Ev.loc (CompScope.fm (by walk_at "my scope")) .z) Ev.cint (BinR.mod_ii (by decide))) BinR.add_ii
  refine X.next ?_
  refine X.forT (n₀ := 1) (B := B) (S := a :: S) (its := zipRow h1 h2) (fun _ => [(a, [])]) (fun _ => [some (.scr ns), some (.lst [.int h1, .int h2]), some (.lst ((Txt.words signsS).map .str)), some (.lst [.int (sizeI h1), .int (sizeI h2), .int 255, .int 256, .int 0]), some (.hdr a), none, none, none, none, none, none, none, none, none, none, none, none]) (fun i => match (zipRow h1 h2)[i]? with
    | some (.tup [x, y, z]) => [some (.scr ns), some (.lst [.int h1, .int h2]), some (.lst ((Txt.words signsS).map .str)), some (.lst [.int (sizeI h1), .int (sizeI h2), .int 255, .int 256, .int 0]), some (.hdr a), some (x), some (y), some (z), none, none, none, none, none, none, none, none, none]
    | _ => [some (.scr ns), some (.lst [.int h1, .int h2]), some (.lst ((Txt.words signsS).map .str)), some (.lst [.int (sizeI h1), .int (sizeI h2), .int 255, .int 256, .int 0]), some (.hdr a), none, none, none, none, none, none, none, none, none, none, none, none]) hti F M R (EvIter.zip3 (Ev.bl M blt_zip (by kernel_rfl)) (EvL.cons (Ev.loc M (.s (.s (.s .z)))) (EvL.cons (Ev.tuple (EvL.cons Ev.cbool (EvL.cons Ev.cbool (EvL.cons Ev.cbool (EvL.cons Ev.cbool (EvL.cons Ev.cbool EvL.nil))))) (small (Nat.le_of_ble_eq_true rfl))) (EvL.cons (Ev.tuple (EvL.cons Ev.cbool (EvL.cons Ev.cbool (EvL.cons Ev.cbool (EvL.cons Ev.cbool (EvL.cons Ev.cbool EvL.nil))))) (small (Nat.le_of_ble_eq_true rfl))) EvL.nil))) rfl rfl) (fun _ => rfl) (fun i p hp => ?_) (fun i p S₁ B₁ s₁ E₁ hp hsub F hti => ?_) (fun h tk F hti => ?_) (hcd := cells_lk (by decide))
  · obtain ⟨x, rfl⟩ := zipRow_at (List.mem_of_getElem? hp)
    rw [hp]
    exact Asg.tup (.cons (.s (.s (.s (.s (.s .z))))) (.cons (.s (.s (.s (.s (.s (.s .z)))))) (.cons (.s (.s (.s (.s (.s (.s (.s .z))))))) .nil)))
  · obtain ⟨x, rfl⟩ := zipRow_at (List.mem_of_getElem? hp)
    rw [hp] at F
    refine X.ifs (b := false) F R (Tr.or (b := false) (c := false) (Tr.cmp (Ev.callD (Ev.gl M glb_isterm (by kernel_rfl)) (EvL.cons (Ev.loc M (.s (.s (.s (.s (.s .z)))))) EvL.nil) (isterminal.le (by decide)) (by kernel_rfl)) (Ev.loc M (.s (.s (.s (.s (.s (.s .z))))))) (CmpR.isnot_bb.cast (by simp)) (by rfl)) (fun _ => Tr.cmp (Ev.callD (Ev.gl M glb_iseof (by kernel_rfl)) (EvL.cons (Ev.loc M (.s (.s (.s (.s (.s .z)))))) EvL.nil) (iseof.le (by decide)) (by kernel_rfl)) (Ev.loc M (.s (.s (.s (.s (.s (.s (.s .z)))))))) (CmpR.isnot_bb.cast (by simp)) (by rfl))) (fun hb => nomatch hb) (fun hb h tk F => ?_)
    exact X.next (X.nil ⟨rfl, _, _, rfl, F.weak (.k (.k (.k (.k (.k (.d (.d (.d (.k (.k (.k (.k (.k (.k (.k (.k (.k (.nil))))))))))))))))))⟩)
  refine X.assignFl (n := 1) hti F M R (CompT.mk' (xs := ["red", "green", "blue"]) (cs := []) (cl := []) (ps := []) (g := cornP) (its := cornI) (by walk_at "my scope") F.inj .nil (EvIter.of (Ev.tuple (EvL.cons (Ev.tuple (EvL.cons Ev.cint (EvL.cons Ev.cint (EvL.cons Ev.cint EvL.nil))) (small (Nat.le_of_ble_eq_true rfl))) (EvL.cons (Ev.tuple (EvL.cons Ev.cint (EvL.cons Ev.cint (EvL.cons Ev.cint EvL.nil))) (small (Nat.le_of_ble_eq_true rfl))) (EvL.cons (Ev.tuple (EvL.cons Ev.cint (EvL.cons Ev.cint (EvL.cons Ev.cint EvL.nil))) (small (Nat.le_of_ble_eq_true rfl))) (EvL.cons (Ev.tuple (EvL.cons Ev.cint (EvL.cons Ev.cint (EvL.cons Ev.cint EvL.nil))) (small (Nat.le_of_ble_eq_true rfl))) (EvL.cons (Ev.tuple (EvL.cons Ev.cint (EvL.cons Ev.cint (EvL.cons Ev.cint EvL.nil))) (small (Nat.le_of_ble_eq_true rfl))) (EvL.cons (Ev.tuple (EvL.cons Ev.cint (EvL.cons Ev.cint (EvL.cons Ev.cint EvL.nil))) (small (Nat.le_of_ble_eq_true rfl))) EvL.nil)))))) (small (Nat.le_of_ble_eq_true rfl))) IterR.tupT) (small (Nat.le_of_ble_eq_true rfl)) unP (fun p hp => ?_) (fun p ρx hp hρ => ?_) (fun p L' S'' hp hsub => ?_)) (fun r => (.s (.s (.s (.s (.s (.s (.s (.s .z))))))))) ?_
  · obtain ⟨x, y, z, rfl, _⟩ := cornI_at hp; rfl
  · obtain ⟨x, y, z, rfl, _⟩ := cornI_at hp
    match ρx, hρ with
    | [u, v, w], _ => exact AsgC.tup (by walk_at "my scope") (.cons .z (.cons (.s .z) (.cons (.s (.s .z)) .nil)))
  · obtain ⟨x, y, z, rfl, hne⟩ := cornI_at hp
    exact EvT.item0 (EvTT.call (Ev.gl (CompScope.fm (by walk_at "my scope")) glb_hsv (by kernel_rfl)) (EvL.cons (Ev.loc (CompScope.fm (by walk_at "my scope")) .z) (EvL.cons (Ev.loc (CompScope.fm (by walk_at "my scope")) (.s .z)) (EvL.cons (Ev.loc (CompScope.fm (by walk_at "my scope")) (.s (.s .z))) EvL.nil))) ((hsv_it hne).le (by decide)) (by kernel_rfl))
  intro r h tk F fl hti
  rw [corn_map] at fl
  refine X.assignVT (f := 264) (hd := fun i => (hdL (sizeI h1) (sizeI h2) ns i).map entryP) (g := laidP ns) (ag := fun p => [.hdr a, p, .lst r, .scr ns]) (ps := [.lst r, .scr ns, .hdr a]) (cs := ["corners", "script", "table"]) (its := [.int (sizeI h1), .int (sizeI h2)]) (hi := tk) (Nat.le_refl _) F M R (cl := _) (by walk_at "my scope") (.cons (.s (.s (.s (.s (.s (.s (.s (.s .z)))))))) (.cons .z (.cons (.s (.s (.s (.s .z)))) .nil))) hCa (fun _ q => nomatch q) (DD.of ⟨(DD.ne haS).1, (DD.ne haS).2.1, fun q => nomatch q⟩) (EvIter.of (Ev.as (q := .lst [.int (sizeI h1), .int (sizeI h2)]) rfl (Ev.slice (Ev.loc M (.s (.s (.s .z)))) EvO.none (EvO.some Ev.cint) EvO.none (SliceR.lst (by decide) (small (Nat.le_of_ble_eq_true rfl))))) (IterR.lst rfl)) (Nat.le_of_ble_eq_true rfl) (fun p L' S'' hp hsub => ?_) (fun p L' S'' hp hsub => ?_) (fun i p S'' hp hsub => ?_) (by kernel_rfl) (.s (.s (.s (.s (.s (.s (.s (.s (.s (.s .z)))))))))) ?_
  · exact Ev.gl (CompScope.fm (by walk_at "my scope")) glb_laid (by kernel_rfl)
  · exact EvL.cons (Ev.loc (CompScope.fm (by walk_at "my scope")) (.s (.s (.s .z)))) (EvL.cons (Ev.loc (CompScope.fm (by walk_at "my scope")) .z) (EvL.cons (Ev.loc (CompScope.fm (by walk_at "my scope")) (.s .z)) (EvL.cons (Ev.loc (CompScope.fm (by walk_at "my scope")) (.s (.s .z))) EvL.nil)))
  · match i, hp with
    | 0, hp => cases hp; exact (law_laid (hs := []) hR hsc (Nat.lt_of_lt_of_le Nat.zero_lt_one (Nat.le_refl 1)) fl (by simp) hCa).le (by decide)
    | 1, hp => cases hp; exact (law_laid (hs := allE (sizeI h1) ns 5) hR2 hsc (Nat.lt_of_lt_of_le Nat.zero_lt_one (Nat.le_refl 1)) fl (Nat.le_trans (allE_len _ _ 5) (by decide)) hCa).le (by decide)
  intro h tk' F hti'
  have F := F.freezeH M haS (.s (.s (.s (.s .z)))) (.s (.s (.s (.s .z))))
  refine X.forT (n₀ := tk) (B := B) (S := S) (its := [.int (sizeI h1), .int (sizeI h2)]) (fun _ => []) (fun _ => [some (.scr ns), some (.lst [.int h1, .int h2]), some (.lst ((Txt.words signsS).map .str)), some (.lst [.int (sizeI h1), .int (sizeI h2), .int 255, .int 256, .int 0]), some (.hdrL ((hdL (sizeI h1) (sizeI h2) ns 2).map entryP)), none, none, none, some (.lst r), none, some (.lst [.lst ((allW (sizeI h1) ns 5).map .str), .lst ((allW (sizeI h2) ns 5).map .str)]), none, none, none, none, none, none]) (fun i => [some (.scr ns), some (.lst [.int h1, .int h2]), some (.lst ((Txt.words signsS).map .str)), some (.lst [.int (sizeI h1), .int (sizeI h2), .int 255, .int 256, .int 0]), some (.hdrL ((hdL (sizeI h1) (sizeI h2) ns 2).map entryP)), none, none, none, some (.lst r), some (sizeAt h1 h2 i), some (.lst [.lst ((allW (sizeI h1) ns 5).map .str), .lst ((allW (sizeI h2) ns 5).map .str)]), none, none, none, none, none, none]) hti' F M R (EvIter.of (Ev.as (q := .lst [.int (sizeI h1), .int (sizeI h2)]) rfl (Ev.slice (Ev.loc M (.s (.s (.s .z)))) EvO.none (EvO.some Ev.cint) EvO.none (SliceR.lst (by decide) (small (Nat.le_of_ble_eq_true rfl))))) (IterR.lst rfl)) (fun _ => rfl) (fun i p hp => ?_) (fun i p S₁ B₁ s₁ E₁ hp hsub F hti => ?_) (fun h tk2 F hti => ?_) (hcd := cells_lk (by decide))
  · have e : sizeAt h1 h2 i = p := by
      match i, hp with
      | 0, hp => cases hp; rfl
      | 1, hp => cases hp; rfl
    rw [e]
    exact Asg.name (.s (.s (.s (.s (.s (.s (.s (.s (.s .z)))))))))
  · have hi2 : i < 2 := (List.getElem?_eq_some_iff.mp hp).1
    exact law_turn rfl hsc hi2 R M F fl hti
  · exact X.ret F R Ev.cbool (fun v h tk F r => by obtain ⟨_, rfl⟩ := r.inv; exact ⟨rfl, ⟨_, _, rfl⟩, F.base⟩)
end Mine
end

open PySem PySem.W PySem.W.X PyProof.Rows PySem.Calls
set_option maxHeartbeats 4000000
namespace Mine
local macro_rules | `(tactic| walk_at "my caps") => `(tactic| first | exact all_nil | (refine all_cons ⟨rfl, rfl, rfl, rfl, _, rfl⟩ ?_; walk_at "my caps"))
local macro_rules | `(tactic| walk_at "my subs") => `(tactic| first | exact lk_nil | (refine lk_cons ⟨by decide, rfl⟩ ?_; walk_at "my subs"))
local macro_rules | `(tactic| walk_at "my scope") => `(tactic| exact ⟨rfl, rfl, rfl, rfl, rfl, by decide, by decide, by decide, (by walk_at "my caps"), (by walk_at "my subs"), by decide, by decide⟩)
local macro_rules | `(tactic| walk_at "my cells") => `(tactic| first | exact all_nil | (refine all_cons (by first | exact .inl rfl | exact .inr ⟨rfl, rfl⟩) ?_; walk_at "my cells"))
noncomputable def lastPar : List Stmt → Option Arguments
  | [] => none
  | [.FunctionDef _ p _ _ _ _ _ _ _ _] => some p
  | _ :: r => lastPar r
noncomputable def lawPar := lastPar PySem.Challenge.pw_ta0126_01.main.body
noncomputable def cxOf {w : World} {h : Heap} {mg mb : Str → Option Value} {p : Program} {loose : List Str} {mean : ExcName → Option Value} (T : Top p loose mean mg mb h) (KX : (HK w.params).In h) (hT : TabsAt [(72, 68), (79, 75)] h) : Cx where
  w := w
  mg := mg
  mb := mb
  B₀ := ghostOf h [(72, 68), (79, 75)]
  X := ghost_K hT KX (by kernel_rfl)
  g := ghost_ns hT T.g
  b := ghost_ns hT T.b
  nl := (ghost_top hT T).nolimit
  blt := T.builtins
  n68 := hideAll_none _ (.head _)
  n75 := hideAll_none _ (.tail _ (.head _))
  c68 := (ghost_code hT).1
  c75 := (ghost_code hT).2.1
  bmain := (ghost_top hT T).bmain
  nodigits := (ghost_top hT T).nodigits
theorem law_call {w : World} {s : Shared} {mg mb : Str → Option Value} {p : Program} {loose : List Str} {mean : ExcName → Option Value} (T : Top p loose mean mg mb s.heap) (KX : (HK w.params).In s.heap) (hT : TabsAt [(72, 68), (79, 75)] s.heap)
    {fa a : Addr} {fo : Obj} {params : Arguments} {body : List Stmt} {scope : Scope} {pm cd doc : Value} {vs : List Value} {ns : List Int} {R : Result → Shared → Prop} (hb : lawBody = some (body, scope)) (hp : lawPar = some params)
    (ho : s.heap.get? fa = some fo) (hd : fo.data = .func (docDef "law" params body scope pm cd doc)) (hcd : s.heap.CodeRec cd "law") (hL : s.heap.IsList a vs.toArray) (hI : IntsAre vs ns) (hlen : ns.length ≤ 63)
    (H : ∀ h tk, Gr s.heap h → Tabs h → R (.ok (.ret (.bool true))) { s with heap := h, toks := tk }) : codeAny (model PW w) callerA (.call (.ref fa) ⟨[.ref a], []⟩) R s := by
  have tb : Tabs s.heap := ⟨.inl (hT (72, 68) (.head _)).2, .inl (hT (79, 75) (.tail _ (.head _))).2⟩
  have hb2 := hb
  cases hb
  cases hp
  obtain ⟨ol, hol, hcl, nl, hdl⟩ := id hL
  have na := tb.ne hol fun vs q => by rw [hdl] at q; cases q
  refine callBodyGT (C := cxOf T KX hT) (B := s.heap) (S := []) (V := []) (k := 150) (ps := ["script"]) (rest := ["heaps", "signs", "row", "table", "one", "terminal", "end", "corners", "size", "laid", "digits", "ways", "words", "side", "number", "low"]) (l := [.scr ns]) (vs := [.ref a])
    (Ent.pure ⟨fun b o e => of_hideAll _ e, fun _ h => (nomatch h), tb⟩) ⟨rfl, by decide, by decide⟩ ho hd hcd (fun M A' E' Q' hq => (BindsTo.of_eq rfl : BindsTo s _ ⟨[.ref a], []⟩ _) M A' E' Q' hq) (.cons (.scr (DD.of ⟨na.1, na.2, fun q => nomatch q⟩) hL hI) .nil) rfl rfl (by decide) (by decide) (fun n => by walk_at "my cells") (by decide) (by decide) (fun A' s' L S' R' M hS F hs' hnk => ?_)
  obtain ⟨h, tk, rfl⟩ := hs'
  dsimp only [List.map_cons, List.map_nil, List.cons_append, List.nil_append] at M F
  refine ⟨wpAny_mono (law_walk hb2 hlen R' M F).out (fun fl s' q => ?_) fun _ _ e => e⟩
  obtain ⟨rfl, ⟨h', tk', rfl⟩, g⟩ := q
  exact H h' tk' g (g.tab tb)
theorem main.tw10047389527955405517 : True := ⟨⟩
theorem main.tw10094358506670053839 : True := ⟨⟩
theorem main.tw10114013102757674387 : True := ⟨⟩
theorem main.tw10177057350305019805 : True := ⟨⟩
theorem main.tw10204856939554784155 : True := ⟨⟩
theorem main.tw10234815189450012239 : True := ⟨⟩
theorem main.tw10298723112805639129 : True := ⟨⟩
theorem main.tw10334261112615635914 : True := ⟨⟩
theorem main.tw10363585996791799541 : True := ⟨⟩
theorem main.tw10391951854915411234 : True := ⟨⟩
theorem main.tw104360540948158410 : True := ⟨⟩
theorem main.tw1054321117371714560 : True := ⟨⟩
theorem main.tw10609540516017602915 : True := ⟨⟩
theorem main.tw10625486282989778954 : True := ⟨⟩
theorem main.tw10642606787283503386 : True := ⟨⟩
theorem main.tw10665089971535097683 : True := ⟨⟩
theorem main.tw10669944970481658594 : True := ⟨⟩
theorem main.tw10707853282979444102 : True := ⟨⟩
theorem main.tw10790616040046737495 : True := ⟨⟩
theorem main.tw10821422270917381399 : True := ⟨⟩
theorem main.tw1084114956928915155 : True := ⟨⟩
theorem main.tw10876375607700338302 : True := ⟨⟩
theorem main.tw10877679251791092727 : True := ⟨⟩
theorem main.tw10896356407431480244 : True := ⟨⟩
theorem main.tw10924716458440934090 : True := ⟨⟩
theorem main.tw11003572833241299968 : True := ⟨⟩
theorem main.tw11101190512080308003 : True := ⟨⟩
theorem main.tw11120327062377616369 : True := ⟨⟩
theorem main.tw1118068078248606362 : True := ⟨⟩
theorem main.tw11182973995046164717 : True := ⟨⟩
theorem main.tw1120264589727278449 : True := ⟨⟩
theorem main.tw11221353774195762014 : True := ⟨⟩
theorem main.tw11261727412033496967 : True := ⟨⟩
theorem main.tw11403851563620829512 : True := ⟨⟩
theorem main.tw11420884497731329202 : True := ⟨⟩
theorem main.tw11461230924637031220 : True := ⟨⟩
theorem main.tw11501822485730972192 : True := ⟨⟩
theorem main.tw11544348965984651327 : True := ⟨⟩
theorem main.tw1156462466702112376 : True := ⟨⟩
theorem main.tw1157997071576566072 : True := ⟨⟩
theorem main.tw11595355409239048105 : True := ⟨⟩
theorem main.tw11709247979233354613 : True := ⟨⟩
theorem main.tw11770474507260867162 : True := ⟨⟩
theorem main.tw1178595665728414349 : True := ⟨⟩
theorem main.tw11815829001073249272 : True := ⟨⟩
theorem main.tw11857135199678951331 : True := ⟨⟩
theorem main.tw11968820916164567120 : True := ⟨⟩
theorem main.tw11982392923317675503 : True := ⟨⟩
theorem main.tw11987853993630220354 : True := ⟨⟩
theorem main.tw12057704586751987240 : True := ⟨⟩
theorem main.tw12205347405646519318 : True := ⟨⟩
theorem main.tw12225828839038613003 : True := ⟨⟩
theorem main.tw12252054271945606052 : True := ⟨⟩
theorem main.tw12298629886278197574 : True := ⟨⟩
theorem main.tw12343854547171428336 : True := ⟨⟩
theorem main.tw12361340156312767134 : True := ⟨⟩
theorem main.tw1236483940969888574 : True := ⟨⟩
theorem main.tw12455012482086183272 : True := ⟨⟩
theorem main.tw12483276189755474720 : True := ⟨⟩
theorem main.tw12495339312024472815 : True := ⟨⟩
theorem main.tw12518504611687188807 : True := ⟨⟩
theorem main.tw12623159325031504133 : True := ⟨⟩
theorem main.tw12670839924663504800 : True := ⟨⟩
theorem main.tw1270039299266317192 : True := ⟨⟩
theorem main.tw12773223877840028327 : True := ⟨⟩
theorem main.tw12801655548991306210 : True := ⟨⟩
theorem main.tw12839114828313443825 : True := ⟨⟩
theorem main.tw12872379398031375081 : True := ⟨⟩
theorem main.tw12885673836220544336 : True := ⟨⟩
theorem main.tw12927740378394474205 : True := ⟨⟩
theorem main.tw1306636233014830658 : True := ⟨⟩
theorem main.tw13110577991587790113 : True := ⟨⟩
theorem main.tw13113777628852026922 : True := ⟨⟩
theorem main.tw13132915859168520264 : True := ⟨⟩
theorem main.tw13180746182150919023 : True := ⟨⟩
theorem main.tw13224007501803129859 : True := ⟨⟩
theorem main.tw13270728482189477470 : True := ⟨⟩
theorem main.tw13293747886898857621 : True := ⟨⟩
theorem main.tw13355152605343272895 : True := ⟨⟩
theorem main.tw13402765919934010277 : True := ⟨⟩
theorem main.tw13503263706703578961 : True := ⟨⟩
theorem main.tw13590572293223372214 : True := ⟨⟩
theorem main.tw13591255225166038476 : True := ⟨⟩
theorem main.tw13626721169425172152 : True := ⟨⟩
theorem main.tw13642826006792871662 : True := ⟨⟩
theorem main.tw13667920496262714385 : True := ⟨⟩
theorem main.tw13676971244355772609 : True := ⟨⟩
theorem main.tw13693970394777133609 : True := ⟨⟩
theorem main.tw13724616953566380437 : True := ⟨⟩
theorem main.tw13777938177461255882 : True := ⟨⟩
theorem main.tw13803360072150633466 : True := ⟨⟩
theorem main.tw13962693860625380366 : True := ⟨⟩
theorem main.tw14027531716089632829 : True := ⟨⟩
theorem main.tw14037535772548047747 : True := ⟨⟩
theorem main.tw14061640607465278742 : True := ⟨⟩
theorem main.tw14080665800827857628 : True := ⟨⟩
theorem main.tw1409966394225722968 : True := ⟨⟩
theorem main.tw1429040668314091153 : True := ⟨⟩
theorem main.tw14313897822631088780 : True := ⟨⟩
theorem main.tw14439473939278146460 : True := ⟨⟩
theorem main.tw14457758005677747962 : True := ⟨⟩
theorem main.tw14510055921401542917 : True := ⟨⟩
theorem main.tw1453356044741674121 : True := ⟨⟩
theorem main.tw14635473669698735251 : True := ⟨⟩
theorem main.tw14646587721710459877 : True := ⟨⟩
theorem main.tw14672674291997333471 : True := ⟨⟩
theorem main.tw14722489848711283861 : True := ⟨⟩
theorem main.tw14759895335926876869 : True := ⟨⟩
theorem main.tw14771111431291430275 : True := ⟨⟩
theorem main.tw14788915703135433725 : True := ⟨⟩
theorem main.tw14793117695081215449 : True := ⟨⟩
theorem main.tw14907226015203709474 : True := ⟨⟩
theorem main.tw14909365282108701170 : True := ⟨⟩
theorem main.tw1496695287857109588 : True := ⟨⟩
theorem main.tw15079240505294077160 : True := ⟨⟩
theorem main.tw15109750227778091905 : True := ⟨⟩
theorem main.tw15131278010643852716 : True := ⟨⟩
theorem main.tw15270170921892066516 : True := ⟨⟩
theorem main.tw15303317825217679618 : True := ⟨⟩
theorem main.tw15342904991969174519 : True := ⟨⟩
theorem main.tw15365013842991253249 : True := ⟨⟩
theorem main.tw1545906260438175962 : True := ⟨⟩
theorem main.tw15465920861327815835 : True := ⟨⟩
theorem main.tw15485851114877660061 : True := ⟨⟩
theorem main.tw15487141016467250388 : True := ⟨⟩
theorem main.tw15491723280356408159 : True := ⟨⟩
theorem main.tw15514936471743626214 : True := ⟨⟩
theorem main.tw15554039934745177238 : True := ⟨⟩
theorem main.tw15595112118272840620 : True := ⟨⟩
theorem main.tw15624239662980076321 : True := ⟨⟩
theorem main.tw15643365686152983790 : True := ⟨⟩
theorem main.tw15649996292582860464 : True := ⟨⟩
theorem main.tw15734200111481486640 : True := ⟨⟩
theorem main.tw15734660467963936456 : True := ⟨⟩
theorem main.tw15737690656516749961 : True := ⟨⟩
theorem main.tw15768048840197415361 : True := ⟨⟩
theorem main.tw15803610866087392283 : True := ⟨⟩
theorem main.tw15806524323241146399 : True := ⟨⟩
theorem main.tw15928290008803537013 : True := ⟨⟩
theorem main.tw16035907590883218939 : True := ⟨⟩
theorem main.tw16046730324260685337 : True := ⟨⟩
theorem main.tw16049902774474827687 : True := ⟨⟩
theorem main.tw16102231251864390963 : True := ⟨⟩
theorem main.tw16135426469972691074 : True := ⟨⟩
theorem main.tw16136984950599521427 : True := ⟨⟩
theorem main.tw16153842264607907944 : True := ⟨⟩
theorem main.tw1615956725737779560 : True := ⟨⟩
theorem main.tw16187894506366716058 : True := ⟨⟩
theorem main.tw16193401181772761504 : True := ⟨⟩
theorem main.tw16251939892948500945 : True := ⟨⟩
theorem main.tw1632041292262086317 : True := ⟨⟩
theorem main.tw16320729459185622934 : True := ⟨⟩
theorem main.tw16356685582667847594 : True := ⟨⟩
theorem main.tw16451033083921036709 : True := ⟨⟩
theorem main.tw16452447596832230105 : True := ⟨⟩
theorem main.tw16468494690219507866 : True := ⟨⟩
theorem main.tw16519101796099990279 : True := ⟨⟩
theorem main.tw16533047252010144966 : True := ⟨⟩
theorem main.tw16572128252103988241 : True := ⟨⟩
theorem main.tw16629339528299215175 : True := ⟨⟩
theorem main.tw16641786646906312760 : True := ⟨⟩
theorem main.tw16721930046160240684 : True := ⟨⟩
theorem main.tw1677766988990989824 : True := ⟨⟩
theorem main.tw16778611742570070204 : True := ⟨⟩
theorem main.tw1678875084529416142 : True := ⟨⟩
theorem main.tw16798622893749714585 : True := ⟨⟩
theorem main.tw16819838333489098493 : True := ⟨⟩
theorem main.tw16832360635688203351 : True := ⟨⟩
theorem main.tw16833934730148084282 : True := ⟨⟩
theorem main.tw16923884221124529275 : True := ⟨⟩
theorem main.tw16950194794029067938 : True := ⟨⟩
theorem main.tw16952715711813285254 : True := ⟨⟩
theorem main.tw16965079339398995527 : True := ⟨⟩
theorem main.tw17006940842653477739 : True := ⟨⟩
theorem main.tw17052023290607921161 : True := ⟨⟩
theorem main.tw17091655785135471103 : True := ⟨⟩
theorem main.tw1714950047550659301 : True := ⟨⟩
theorem main.tw17201416709059790184 : True := ⟨⟩
theorem main.tw17223442867436993403 : True := ⟨⟩
theorem main.tw17292155258170135553 : True := ⟨⟩
theorem main.tw17325761959067429606 : True := ⟨⟩
theorem main.tw17336282652733537790 : True := ⟨⟩
theorem main.tw17353955331779342651 : True := ⟨⟩
theorem main.tw17477492558424962760 : True := ⟨⟩
theorem main.tw17561526911342447988 : True := ⟨⟩
theorem main.tw17679725944135375923 : True := ⟨⟩
theorem main.tw17695171507069755227 : True := ⟨⟩
theorem main.tw17715262827843222689 : True := ⟨⟩
theorem main.tw17725498274588495791 : True := ⟨⟩
theorem main.tw17737603089517620647 : True := ⟨⟩
theorem main.tw1777545030009416734 : True := ⟨⟩
theorem main.tw17861207000360874421 : True := ⟨⟩
theorem main.tw17880189553859617996 : True := ⟨⟩
theorem main.tw17958375852430007124 : True := ⟨⟩
theorem main.tw17974016328880235120 : True := ⟨⟩
theorem main.tw18134284020713443437 : True := ⟨⟩
theorem main.tw18244272662864393019 : True := ⟨⟩
theorem main.tw1826329307503635854 : True := ⟨⟩
theorem main.tw18284262389922463811 : True := ⟨⟩
theorem main.tw18302796317244248524 : True := ⟨⟩
theorem main.tw18315214858253571532 : True := ⟨⟩
theorem main.tw18325589031809861271 : True := ⟨⟩
theorem main.tw18332899500509843999 : True := ⟨⟩
theorem main.tw18421580907717582127 : True := ⟨⟩
theorem main.tw18428669670746838259 : True := ⟨⟩
theorem main.tw1850612553970854742 : True := ⟨⟩
theorem main.tw2007339730380871907 : True := ⟨⟩
theorem main.tw202243217284325724 : True := ⟨⟩
theorem main.tw2164743871083121425 : True := ⟨⟩
theorem main.tw2195194259037543316 : True := ⟨⟩
theorem main.tw221909299271738847 : True := ⟨⟩
theorem main.tw2225956059507018244 : True := ⟨⟩
theorem main.tw223528310411579522 : True := ⟨⟩
theorem main.tw2238316416991798583 : True := ⟨⟩
theorem main.tw2287757881348798766 : True := ⟨⟩
theorem main.tw2406621943657119228 : True := ⟨⟩
theorem main.tw2433702464844828792 : True := ⟨⟩
theorem main.tw2496676261509829067 : True := ⟨⟩
theorem main.tw2524017781993486291 : True := ⟨⟩
theorem main.tw2538046985915079169 : True := ⟨⟩
theorem main.tw2544328076492683441 : True := ⟨⟩
theorem main.tw2566753976717531306 : True := ⟨⟩
theorem main.tw2724176850512262202 : True := ⟨⟩
theorem main.tw2729793432009153956 : True := ⟨⟩
theorem main.tw2759098988195820126 : True := ⟨⟩
theorem main.tw2895952525429962455 : True := ⟨⟩
theorem main.tw2906824675625879941 : True := ⟨⟩
theorem main.tw2921621734765799159 : True := ⟨⟩
theorem main.tw302440914744352476 : True := ⟨⟩
theorem main.tw3027586509356016917 : True := ⟨⟩
theorem main.tw3045742163950154196 : True := ⟨⟩
theorem main.tw3137596982192898869 : True := ⟨⟩
theorem main.tw31828345220925962 : True := ⟨⟩
theorem main.tw3234112476842188716 : True := ⟨⟩
theorem main.tw3299218664060906527 : True := ⟨⟩
theorem main.tw3332543467307319023 : True := ⟨⟩
theorem main.tw3343439749351644125 : True := ⟨⟩
theorem main.tw33456957511925785 : True := ⟨⟩
theorem main.tw3394367416137920725 : True := ⟨⟩
theorem main.tw3454311308915712629 : True := ⟨⟩
theorem main.tw3466206800631347469 : True := ⟨⟩
theorem main.tw3532052218105579805 : True := ⟨⟩
theorem main.tw3532412968194664532 : True := ⟨⟩
theorem main.tw3549514262204291990 : True := ⟨⟩
theorem main.tw3557749057250611081 : True := ⟨⟩
theorem main.tw3562595001068472590 : True := ⟨⟩
theorem main.tw3613476055612923068 : True := ⟨⟩
theorem main.tw3779293765908593550 : True := ⟨⟩
theorem main.tw3791957361687005105 : True := ⟨⟩
theorem main.tw3796207824708393856 : True := ⟨⟩
theorem main.tw3829396358689915599 : True := ⟨⟩
theorem main.tw3848698983108048278 : True := ⟨⟩
theorem main.tw3934531018447913466 : True := ⟨⟩
theorem main.tw3960113756560652017 : True := ⟨⟩
theorem main.tw400661460544955755 : True := ⟨⟩
theorem main.tw4026956272090484662 : True := ⟨⟩
theorem main.tw4038153913678941442 : True := ⟨⟩
theorem main.tw4044139247061151142 : True := ⟨⟩
theorem main.tw4072190877284726289 : True := ⟨⟩
theorem main.tw4126091431370883743 : True := ⟨⟩
theorem main.tw4261964983698606537 : True := ⟨⟩
theorem main.tw4263747661660594248 : True := ⟨⟩
theorem main.tw4297412468100583042 : True := ⟨⟩
theorem main.tw4324958949535026087 : True := ⟨⟩
theorem main.tw4333880214566435006 : True := ⟨⟩
theorem main.tw4452170602077327944 : True := ⟨⟩
theorem main.tw4500915450034043215 : True := ⟨⟩
theorem main.tw450273134140183931 : True := ⟨⟩
theorem main.tw451873465583785326 : True := ⟨⟩
theorem main.tw452746233719593009 : True := ⟨⟩
theorem main.tw4544244032028310869 : True := ⟨⟩
theorem main.tw4592260682591058475 : True := ⟨⟩
theorem main.tw4605139254293405059 : True := ⟨⟩
theorem main.tw4637267157515435788 : True := ⟨⟩
theorem main.tw4650958065196391918 : True := ⟨⟩
theorem main.tw4651154628705390771 : True := ⟨⟩
theorem main.tw4829764242579402683 : True := ⟨⟩
theorem main.tw4839478117068044826 : True := ⟨⟩
theorem main.tw5061512775090418087 : True := ⟨⟩
theorem main.tw5102693214775723256 : True := ⟨⟩
theorem main.tw5127751686995613262 : True := ⟨⟩
theorem main.tw5160751907100791332 : True := ⟨⟩
theorem main.tw5203219222101121401 : True := ⟨⟩
theorem main.tw52199770228462824 : True := ⟨⟩
theorem main.tw5240536507193477226 : True := ⟨⟩
theorem main.tw5372645768047454471 : True := ⟨⟩
theorem main.tw5400957986263281647 : True := ⟨⟩
theorem main.tw5401703158475992631 : True := ⟨⟩
theorem main.tw5436791530062809996 : True := ⟨⟩
theorem main.tw5507402815253087181 : True := ⟨⟩
theorem main.tw5518243967957118194 : True := ⟨⟩
theorem main.tw5532463470591059822 : True := ⟨⟩
theorem main.tw5571399437266216444 : True := ⟨⟩
theorem main.tw5585478044538960755 : True := ⟨⟩
theorem main.tw5613160597433933154 : True := ⟨⟩
theorem main.tw5649967823195072380 : True := ⟨⟩
theorem main.tw5665406974723832613 : True := ⟨⟩
theorem main.tw5665735395497279834 : True := ⟨⟩
theorem main.tw5995161000843957690 : True := ⟨⟩
theorem main.tw6044114016751833949 : True := ⟨⟩
theorem main.tw6053611964639427726 : True := ⟨⟩
theorem main.tw6162249291895867263 : True := ⟨⟩
theorem main.tw6334894449686545209 : True := ⟨⟩
theorem main.tw6361450105264607166 : True := ⟨⟩
theorem main.tw6384206874565194146 : True := ⟨⟩
theorem main.tw6385024630547198690 : True := ⟨⟩
theorem main.tw6418098437765475518 : True := ⟨⟩
theorem main.tw6449824600675878752 : True := ⟨⟩
theorem main.tw6511744376749373798 : True := ⟨⟩
theorem main.tw6541472054586571296 : True := ⟨⟩
theorem main.tw6545385358150927430 : True := ⟨⟩
theorem main.tw6557543464795787104 : True := ⟨⟩
theorem main.tw65644731488775911 : True := ⟨⟩
theorem main.tw6569515737239586001 : True := ⟨⟩
theorem main.tw6605666738245375177 : True := ⟨⟩
theorem main.tw66260789543402106 : True := ⟨⟩
theorem main.tw6635558491612396129 : True := ⟨⟩
theorem main.tw6655696309031964122 : True := ⟨⟩
theorem main.tw6660377722381337597 : True := ⟨⟩
theorem main.tw6688985731102667080 : True := ⟨⟩
theorem main.tw6696893160125735727 : True := ⟨⟩
theorem main.tw6785657489111691699 : True := ⟨⟩
theorem main.tw6801380410627298636 : True := ⟨⟩
theorem main.tw6862492499505807319 : True := ⟨⟩
theorem main.tw6877560268529008848 : True := ⟨⟩
theorem main.tw6886502059237256666 : True := ⟨⟩
theorem main.tw6910295442248876197 : True := ⟨⟩
theorem main.tw6912675738884088206 : True := ⟨⟩
theorem main.tw6969975859711568873 : True := ⟨⟩
theorem main.tw7074144079889050967 : True := ⟨⟩
theorem main.tw7083192437325867461 : True := ⟨⟩
theorem main.tw7113585516715319716 : True := ⟨⟩
theorem main.tw7153082081811710619 : True := ⟨⟩
theorem main.tw7214478077546791972 : True := ⟨⟩
theorem main.tw7221758910455160077 : True := ⟨⟩
theorem main.tw7235775444256392728 : True := ⟨⟩
theorem main.tw7237411587787531456 : True := ⟨⟩
theorem main.tw7268301785047649679 : True := ⟨⟩
theorem main.tw7293298908176781663 : True := ⟨⟩
theorem main.tw7298748307773712898 : True := ⟨⟩
theorem main.tw7308723440029596264 : True := ⟨⟩
theorem main.tw73751810991705359 : True := ⟨⟩
theorem main.tw7380652910202371479 : True := ⟨⟩
theorem main.tw7411558596216406370 : True := ⟨⟩
theorem main.tw7439787175107056256 : True := ⟨⟩
theorem main.tw7447182078093464575 : True := ⟨⟩
theorem main.tw750237026923860459 : True := ⟨⟩
theorem main.tw7514964652732493775 : True := ⟨⟩
theorem main.tw7590696779544312186 : True := ⟨⟩
theorem main.tw765107192605250810 : True := ⟨⟩
theorem main.tw7698036289167662538 : True := ⟨⟩
theorem main.tw7751025194823839400 : True := ⟨⟩
theorem main.tw7761410557224570781 : True := ⟨⟩
theorem main.tw7846812961960373227 : True := ⟨⟩
theorem main.tw7875838824674609581 : True := ⟨⟩
theorem main.tw8061902109134956112 : True := ⟨⟩
theorem main.tw8211959896082780389 : True := ⟨⟩
theorem main.tw832900586485598795 : True := ⟨⟩
theorem main.tw834873547066669988 : True := ⟨⟩
theorem main.tw8440099810896429113 : True := ⟨⟩
theorem main.tw8467378866343419333 : True := ⟨⟩
theorem main.tw8478376212529829071 : True := ⟨⟩
theorem main.tw8652556701797213591 : True := ⟨⟩
theorem main.tw8663697691656813868 : True := ⟨⟩
theorem main.tw8729708805864041840 : True := ⟨⟩
theorem main.tw8748973510418095054 : True := ⟨⟩
theorem main.tw8756518407330761489 : True := ⟨⟩
theorem main.tw8930851030842425676 : True := ⟨⟩
theorem main.tw8947760058931562597 : True := ⟨⟩
theorem main.tw9069182735580402390 : True := ⟨⟩
theorem main.tw9155575984036265788 : True := ⟨⟩
theorem main.tw9190990891756207365 : True := ⟨⟩
theorem main.tw9265829497004654079 : True := ⟨⟩
theorem main.tw9272984997812220495 : True := ⟨⟩
theorem main.tw9274054859765456524 : True := ⟨⟩
theorem main.tw9302470337196694018 : True := ⟨⟩
theorem main.tw9360745474812902239 : True := ⟨⟩
theorem main.tw9369988214560726041 : True := ⟨⟩
theorem main.tw9376054973815220883 : True := ⟨⟩
theorem main.tw9381277316556691805 : True := ⟨⟩
theorem main.tw9483120023164983764 : True := ⟨⟩
theorem main.tw9508770018378322450 : True := ⟨⟩
theorem main.tw9512817274939609580 : True := ⟨⟩
theorem main.tw9557352009045844224 : True := ⟨⟩
theorem main.tw9563168847844234846 : True := ⟨⟩
theorem main.tw961187720498965250 : True := ⟨⟩
theorem main.tw962032349192862916 : True := ⟨⟩
theorem main.tw9656510801202774680 : True := ⟨⟩
theorem main.tw9658885295015712986 : True := ⟨⟩
theorem main.tw9670510015898674028 : True := ⟨⟩
theorem main.tw9682133043923132273 : True := ⟨⟩
theorem main.tw970773181175786467 : True := ⟨⟩
theorem main.tw9756827057097773860 : True := ⟨⟩
theorem main.tw979501456738626862 : True := ⟨⟩
theorem main.tw9848185148710128376 : True := ⟨⟩
theorem main.tw9897820754763898449 : True := ⟨⟩
theorem main.tw9925469786538053656 : True := ⟨⟩
theorem main.tw9957550378297406723 : True := ⟨⟩
theorem main.tw9976160756891316704 : True := ⟨⟩
theorem main.tw9994787619460420439 : True := ⟨⟩
set_option Elab.async true
set_option maxRecDepth 100000 in
set_option maxHeartbeats 0 in
theorem main : PySem.Challenge.rw_ta0126_01.Holds := by
  w_on
  o_law
  o_head (kmHook K0 as0 (fun _ => by kernel_rfl) [68, 75])
  (case hw => w_witness2)
  intro w s₀ s₁ mg mb G Y fa o pm cd doc dV kV ho hd hcd hD hmg hg args vals as hpre hlay hrd hwl hlo
  have KX := km_in_of Y
  km_tabs Y
  refine Ground.open G ?_
  intro T B D TE TW
  have hT9 : TabsAt [(72, 68), (79, 75)] s₁.heap := List.forall_mem_cons.mpr ⟨⟨codeHd_of_K (c := 72) (P := 68) KX (by kernel_rfl), hT8 68 (by k_mem)⟩, List.forall_mem_cons.mpr ⟨⟨codeHd_of_K (c := 79) (P := 75) KX (by kernel_rfl), hT8 75 (by k_mem)⟩, fun _ h => nomatch h⟩⟩
  wrow_args hpre hlay hrd hwl hlo
  refine enter_call ?_
  refine kn_post hT9 (fun _ _ => rfl) ?_
  have he := Dflts.none hD rfl; subst he; have he := Dflts.noKw hD; subst he
  rename IntsAre _ _ => hI
  rename Heap.IsList _ _ _ => hL
  rename ¬ ((63 : Nat) : Int) < _ => hlen
  refine law_call T KX hT9 rfl rfl ho (fd_plain hd) hcd hL hI (by omega) fun h tk g t => ?_
  refine ⟨⟨.inl ⟨.bool true, .bool true, [], rfl, raisesW_false (by wrow_none_raised), .bool true, ?_, unshared_nil⟩, fun b o e => ?_, rfl, hg⟩, ?_⟩
  · kc_post
  · have e' : s₁.heap.get? b = some o := of_hideAll _ e
    have n68 : (hideAll s₁.heap [68, 75]).get? 68 = none := hideAll_none _ (.head _)
    have n75 : (hideAll s₁.heap [68, 75]).get? 75 = none := hideAll_none _ (.tail _ (.head _))
    have e : (hideAll s₁.heap [68, 75]).get? b = some o := e
    exact g.k b o (fun q => by rw [q, n68] at e; cases e) (fun q => by rw [q, n75] at e; cases e) e'
  · exact ⟨t.a.data, t.b.data, trivial⟩
end Mine
theorem PySem.Challenge.cw_ta0126_01_holds : PySem.Challenge.rw_ta0126_01.Holds :=
  Mine.main
