import PyProof.Rows.All
import Wide.All
import OpenK.AllK
import Wide.FinOn
import PySem.Challenge.RW_ul0023_01
open PySem PySem.W PyProof.Rows PySem.Spec PySem.Calls
set_option Elab.async false
set_option maxRecDepth 100000
set_option maxHeartbeats 8000000
set_option hygiene false
set_option compiler.extract_closed false
set_option genSizeOf false
set_option genInjectivity false
set_option linter.unusedVariables false
set_option linter.unusedSimpArgs false
namespace Mine
section
namespace KD
def s (x : String) (t : Tok) : Value := .str (Str.ofString x) t
def i (x : Int) (t : Tok) : Value := .int x t
def r (a : Addr) : Value := .ref a
def ke (P : Params) (x : String) (t : Tok) (v : Value) : DictEntry := { hash := PyData.keyHash P (Str.ofString x), key := .str (Str.ofString x) t, val := v }
def tu (vs : Array Value) : Obj := { cls := .type "tuple", data := .seq vs }
def co (n : String) (a : Tok) (q : String) (b c : Tok) (l x y z f : Int) (c0 : Addr) (g : Bool) (d : Int) (e : Tok) (tb c1 c2 c3 : Addr) (h : Int) (j : Tok) (l2 : Int) (k : Tok) : Obj :=
  { cls := .type "code", data := .fields #[s n a, s q b, s "/claim/cut.py" c, i l 0, i x 0, i y 0, i z 0, i f 0, r c0, .bool g, i d e, r tb, .none, r c1, r c2, r c3, i h j, i l2 0, s "/claim/cut.py" k] }
def cn (n : String) (a : Tok) (q : String) (b c : Tok) (l x : Int) (c0 tb c3 : Addr) (h l2 : Int) (k : Tok) : Obj :=
  { cls := .type "code", data := .fields #[s n a, s q b, s "/claim/cut.py" c, i l 0, i x 0, i 0 0, i 0 0, i 3 0, r c0, .bool true, i 276 0, r tb, .none, .none, .none, r c3, i h 0, i l2 0, s "/claim/cut.py" k] }
def text : List Stmt := PySem.Challenge.pw_ul0023_01.main.body
def top (n : Nat) : Stmt := text.getD n default
def meth (n : Nat) : Stmt := match top 17 with
  | .ClassDef _ _ _ b _ _ _ _ _ _ _ => b.getD n default
  | _ => default
def fn (n q : String) (d : Stmt) (dV pm : Value) (c : Addr) : Obj := match d with
  | .FunctionDef _ ps b _ _ _ sc _ _ _ => { cls := .type "function", data := .func { name := Str.ofString n, qualname := Str.ofString q, params := ps, body := .stmts b, scope := sc, globals := 3, closure := [], defaults := dV, kwdefaults := .none, pyModule := pm, code := r c } }
  | _ => default
end KD
open KD in
noncomputable def hd.heap_39 : Params → Frag := fun P =>
  (nat_lit 2, { cls := .none, data := Data.dict #[ke P "\x69mport.loaded._sre" 183 (.bool true), ke P "class._frozen_importlib.BuiltinImporter" 185 (r 14), ke P "watched.\x69mport" 206 (r 18), ke P "class._frozen_importlib.ModuleSpec" 216 (r 22), ke P "sys.modules.booked-epoch" 245 (i 3 0), ke P "\x69mport.later-laid._sre" 270 (.bool true), ke P "watched.library" 272 (r 27), ke P "watched.library-objects" 0 (s "\x0c" 0), ke P "watched.library-deep._sre" 273 (s "\x04\x00\x00\x0b\x04\x00\x00\x0b\x04\x00\x00\x03\x04\x00\x00\x0b\x08\x04dict\x02" 0)] 9 }) ::
  (nat_lit 3, { cls := Value.type "dict", data := Data.dict #[ke P "__name__" 165 (s "law_ul0023_01" 646), ke P "__doc__" 166 .none, ke P "__package__" 167 .none, ke P "__loader__" 168 (Value.builtin "__main__.__loader__#opaque"), ke P "__spec__" 169 .none, ke P "__annotations__" 170 (r 6), ke P "__builtins__" 171 (r 4), ke P "__file__" 173 (s "/claim/cut.py" 172), ke P "__cached__" 174 .none, ke P "_sre" 275 (r 12), ke P "_wall" 288 (r 38), ke P "_DIV_LIMIT" 292 (i 4000 291), ke P "_div2n1n" 309 (r 45), ke P "_div3n2n" 323 (r 52), ke P "_int2digits" 334 (r 59), ke P "_digits2int" 345 (r 66), ke P "_divmod_pos" 360 (r 73), ke P "int_divmod" 370 (r 80), ke P "Int2AP" 382 (r 87), ke P "tspecials" 418 (r 92), ke P "_name_disallowed_re" 444 (r 97), ke P "_value_disallowed_re" 478 (r 102), ke P "_formatparam" 488 (r 110), ke P "Headers" 645 (r 231), ke P "_law_capped" 654 (r 242), ke P "_law_text" 660 (r 247), ke P "_law_told" 666 (r 252), ke P "_law_is" 678 (r 259), ke P "_law_strike" 688 (r 266), ke P "_law_sums" 694 (r 271), ke P "_law_product" 700 (r 276), ke P "law" 706 (r 281)] 32 }) ::
  (nat_lit 32, tu #[]) ::
  (nat_lit 34, tu #[(s "k" 285)]) ::
  (nat_lit 35, tu #[]) ::
  (nat_lit 37, co "_wall" 282 "_wall" 283 284 2 1 0 0 3 32 true 276 0 33 34 35 36 286 0 2 287) ::
  (nat_lit 38, fn "_wall" "_wall" (top 1) .none (s "__main__" 164) 37) ::
  (nat_lit 39, tu #[]) ::
  (nat_lit 41, tu #[(s "a" 296), (s "b" 297), (s "n" 298), (s "pad" 299), (s "half_n" 300), (s "mask" 301), (s "b1" 302), (s "b2" 303), (s "q1" 304), (s "r" 305), (s "q2" 306)]) ::
  (nat_lit 42, tu #[]) ::
  (nat_lit 44, co "_div2n1n" 293 "_div2n1n" 294 295 7 3 0 0 3 39 true 276 0 40 41 42 43 307 0 7 308) ::
  (nat_lit 45, fn "_div2n1n" "_div2n1n" (top 4) .none (s "cpy313._pylong" 289) 44) ::
  (nat_lit 46, tu #[]) ::
  (nat_lit 48, tu #[(s "a12" 313), (s "a3" 314), (s "b" 315), (s "b1" 316), (s "b2" 317), (s "n" 318), (s "q" 319), (s "r" 320)]) ::
  (nat_lit 49, tu #[]) ::
  (nat_lit 51, co "_div3n2n" 310 "_div3n2n" 311 312 23 6 0 0 3 46 true 276 0 47 48 49 50 321 0 23 322) ::
  (nat_lit 52, fn "_div3n2n" "_div3n2n" (top 5) .none (s "cpy313._pylong" 289) 51) ::
  (nat_lit 53, tu #[]) ::
  (nat_lit 55, tu #[(s "a" 327), (s "n" 328)]) ::
  (nat_lit 56, tu #[(s "n" 329), (s "a_digits" 330), (s "inner" 331)]) ::
  (nat_lit 58, co "_int2digits" 324 "_int2digits" 325 326 33 2 0 0 3 53 true 276 0 54 55 56 57 332 0 33 333) ::
  (nat_lit 59, fn "_int2digits" "_int2digits" (top 6) .none (s "cpy313._pylong" 289) 58) ::
  (nat_lit 60, tu #[]) ::
  (nat_lit 62, tu #[(s "digits" 338), (s "n" 339)]) ::
  (nat_lit 63, tu #[(s "digits" 340), (s "n" 341), (s "inner" 342)]) ::
  (nat_lit 65, co "_digits2int" 335 "_digits2int" 336 337 49 2 0 0 3 60 true 276 0 61 62 63 64 343 0 49 344) ::
  (nat_lit 66, fn "_digits2int" "_digits2int" (top 7) .none (s "cpy313._pylong" 289) 65) ::
  (nat_lit 67, tu #[]) ::
  (nat_lit 69, tu #[(s "a" 349), (s "b" 350), (s "n" 351), (s "a_digits" 352), (s "r" 353), (s "q_digits" 354), (s "a_digit" 355), (s "q_digit" 356), (s "q" 357)]) ::
  (nat_lit 70, tu #[]) ::
  (nat_lit 72, co "_divmod_pos" 346 "_divmod_pos" 347 348 58 2 0 0 3 67 true 276 0 68 69 70 71 358 0 58 359) ::
  (nat_lit 73, fn "_divmod_pos" "_divmod_pos" (top 8) .none (s "cpy313._pylong" 289) 72) ::
  (nat_lit 74, tu #[]) ::
  (nat_lit 76, tu #[(s "a" 364), (s "b" 365), (s "q" 366), (s "r" 367)]) ::
  (nat_lit 77, tu #[]) ::
  (nat_lit 79, co "int_divmod" 361 "int_divmod" 362 363 69 2 0 0 3 74 true 276 0 75 76 77 78 368 0 69 369) ::
  (nat_lit 80, fn "int_divmod" "int_divmod" (top 9) .none (s "cpy313._pylong" 289) 79) ::
  (nat_lit 81, tu #[]) ::
  (nat_lit 83, tu #[(s "num" 376), (s "val" 377), (s "AP" 378), (s "mod" 379)]) ::
  (nat_lit 84, tu #[]) ::
  (nat_lit 86, co "Int2AP" 373 "Int2AP" 374 375 81 1 0 0 3 81 true 276 0 82 83 84 85 380 0 81 381) ::
  (nat_lit 87, fn "Int2AP" "Int2AP" (top 11) .none (s "cpy313.imaplib" 371) 86) ::
  (nat_lit 91, tu #[(i 14 0), (i 14 0), (i 4 0), (i 1 0), (i 1 0), (i 9 0), (i 0 0), (i 4227896069 0), (i 939524097 0), (i 0 0), (i 0 0), (i 0 0), (i 0 0), (i 0 0), (i 0 0), (i 13 0), (i 11 0), (i 9 0), (i 0 0), (i 4227896069 0), (i 939524097 0), (i 0 0), (i 0 0), (i 0 0), (i 0 0), (i 0 0), (i 0 0), (i 1 0)]) ::
  (nat_lit 92, { cls := Value.type "re.Pattern", data := Data.fields #[(s "[ \\(\\)<>@,;:\\\\\"/\\[\\]\\?=]" 386), (i 32 417), (i 0 0), .none, .none, (r 91), (i 0 0)] }) ::
  (nat_lit 96, tu #[(i 14 0), (i 10 0), (i 4 0), (i 1 0), (i 1 0), (i 22 0), (i 0 0), (i 31 0), (i 16 0), (i 127 0), (i 0 0), (i 13 0), (i 7 0), (i 22 0), (i 0 0), (i 31 0), (i 16 0), (i 127 0), (i 0 0), (i 1 0)]) ::
  (nat_lit 97, { cls := Value.type "re.Pattern", data := Data.fields #[(s "[\\x00-\\x1F\\x7F]" 420), (i 32 443), (i 0 0), .none, .none, (r 96), (i 0 0)] }) ::
  (nat_lit 101, tu #[(i 14 0), (i 14 0), (i 4 0), (i 1 0), (i 1 0), (i 9 0), (i 4294966783 0), (i 0 0), (i 0 0), (i 2147483648 0), (i 0 0), (i 0 0), (i 0 0), (i 0 0), (i 0 0), (i 13 0), (i 11 0), (i 9 0), (i 4294966783 0), (i 0 0), (i 0 0), (i 2147483648 0), (i 0 0), (i 0 0), (i 0 0), (i 0 0), (i 0 0), (i 1 0)]) ::
  (nat_lit 102, { cls := Value.type "re.Pattern", data := Data.fields #[(s "[\\x00-\\x08\\x0A-\\x1F\\x7F]" 446), (i 32 477), (i 0 0), .none, .none, (r 101), (i 0 0)] }) ::
  (nat_lit 103, tu #[.none, (i 1 479)]) ::
  (nat_lit 104, tu #[]) ::
  (nat_lit 106, tu #[(s "param" 483), (s "value" 484), (s "quote" 485)]) ::
  (nat_lit 107, tu #[]) ::
  (nat_lit 109, co "_formatparam" 480 "_formatparam" 481 482 93 3 0 0 3 104 true 276 0 105 106 107 108 486 0 93 487) ::
  (nat_lit 110, fn "_formatparam" "_formatparam" (top 16) (r 103) (s "cpy313.wsgiref.headers" 383) 109) ::
  (nat_lit 118, tu #[.none]) ::
  (nat_lit 119, tu #[]) ::
  (nat_lit 121, tu #[(s "self" 504), (s "headers" 505), (s "k" 506), (s "v" 507)]) ::
  (nat_lit 122, tu #[]) ::
  (nat_lit 124, co "__init__" 501 "Headers.__init__" 502 503 104 2 0 0 3 119 true 276 0 120 121 122 123 508 0 104 509) ::
  (nat_lit 125, fn "__init__" "Headers.__init__" (meth 0) (r 118) (s "cpy313.wsgiref.headers" 383) 124) ::
  (nat_lit 126, tu #[]) ::
  (nat_lit 128, tu #[(s "self" 514), (s "value" 515), (s "name" 516), (s "regex" 517)]) ::
  (nat_lit 129, tu #[]) ::
  (nat_lit 131, co "_convert_string_type" 511 "Headers._convert_string_type" 512 513 114 2 0 1 3 126 true 276 0 127 128 129 130 518 0 114 519) ::
  (nat_lit 132, fn "_convert_string_type" "Headers._convert_string_type" (meth 1) .none (s "cpy313.wsgiref.headers" 383) 131) ::
  (nat_lit 133, tu #[]) ::
  (nat_lit 135, tu #[(s "self" 524)]) ::
  (nat_lit 136, tu #[]) ::
  (nat_lit 138, co "__len__" 521 "Headers.__len__" 522 523 122 1 0 0 3 133 true 276 0 134 135 136 137 525 0 122 526) ::
  (nat_lit 139, fn "__len__" "Headers.__len__" (meth 2) .none (s "cpy313.wsgiref.headers" 383) 138) ::
  (nat_lit 140, tu #[]) ::
  (nat_lit 142, tu #[(s "self" 531), (s "name" 532), (s "val" 533)]) ::
  (nat_lit 143, tu #[]) ::
  (nat_lit 145, co "__setitem__" 528 "Headers.__setitem__" 529 530 125 3 0 0 3 140 true 276 0 141 142 143 144 534 0 125 535) ::
  (nat_lit 146, fn "__setitem__" "Headers.__setitem__" (meth 3) .none (s "cpy313.wsgiref.headers" 383) 145) ::
  (nat_lit 147, tu #[]) ::
  (nat_lit 150, cn "__delitem__" 537 "Headers.__delitem__" 538 539 129 2 147 148 149 540 129 541) ::
  (nat_lit 151, fn "__delitem__" "Headers.__delitem__" (meth 4) .none (s "cpy313.wsgiref.headers" 383) 150) ::
  (nat_lit 152, tu #[]) ::
  (nat_lit 154, tu #[(s "self" 546), (s "name" 547)]) ::
  (nat_lit 155, tu #[]) ::
  (nat_lit 157, co "__getitem__" 543 "Headers.__getitem__" 544 545 133 2 0 0 3 152 true 276 0 153 154 155 156 548 0 133 549) ::
  (nat_lit 158, fn "__getitem__" "Headers.__getitem__" (meth 5) .none (s "cpy313.wsgiref.headers" 383) 157) ::
  (nat_lit 159, tu #[]) ::
  (nat_lit 161, tu #[(s "self" 554), (s "name" 555)]) ::
  (nat_lit 162, tu #[]) ::
  (nat_lit 164, co "__contains__" 551 "Headers.__contains__" 552 553 136 2 0 0 3 159 true 276 0 160 161 162 163 556 0 136 557) ::
  (nat_lit 165, fn "__contains__" "Headers.__contains__" (meth 6) .none (s "cpy313.wsgiref.headers" 383) 164) ::
  (nat_lit 166, tu #[]) ::
  (nat_lit 169, cn "get_all" 559 "Headers.get_all" 560 561 139 2 166 167 168 562 139 563) ::
  (nat_lit 170, fn "get_all" "Headers.get_all" (meth 7) .none (s "cpy313.wsgiref.headers" 383) 169) ::
  (nat_lit 171, tu #[.none]) ::
  (nat_lit 172, tu #[]) ::
  (nat_lit 174, tu #[(s "self" 568), (s "name" 569), (s "default" 570), (s "k" 571), (s "v" 572)]) ::
  (nat_lit 175, tu #[]) ::
  (nat_lit 177, co "get" 565 "Headers.get" 566 567 143 3 0 0 3 172 true 276 0 173 174 175 176 573 0 143 574) ::
  (nat_lit 178, fn "get" "Headers.get" (meth 8) (r 171) (s "cpy313.wsgiref.headers" 383) 177) ::
  (nat_lit 179, tu #[]) ::
  (nat_lit 182, cn "keys" 576 "Headers.keys" 577 578 150 1 179 180 181 579 150 580) ::
  (nat_lit 183, fn "keys" "Headers.keys" (meth 9) .none (s "cpy313.wsgiref.headers" 383) 182) ::
  (nat_lit 184, tu #[]) ::
  (nat_lit 187, cn "values" 582 "Headers.values" 583 584 153 1 184 185 186 585 153 586) ::
  (nat_lit 188, fn "values" "Headers.values" (meth 10) .none (s "cpy313.wsgiref.headers" 383) 187) ::
  (nat_lit 189, tu #[]) ::
  (nat_lit 191, tu #[(s "self" 591)]) ::
  (nat_lit 192, tu #[]) ::
  (nat_lit 194, co "items" 588 "Headers.items" 589 590 156 1 0 0 3 189 true 276 0 190 191 192 193 592 0 156 593) ::
  (nat_lit 195, fn "items" "Headers.items" (meth 11) .none (s "cpy313.wsgiref.headers" 383) 194) ::
  (nat_lit 196, tu #[]) ::
  (nat_lit 198, tu #[(s "self" 598)]) ::
  (nat_lit 199, tu #[]) ::
  (nat_lit 201, co "__repr__" 595 "Headers.__repr__" 596 597 159 1 0 0 3 196 true 276 0 197 198 199 200 599 0 159 600) ::
  (nat_lit 202, fn "__repr__" "Headers.__repr__" (meth 12) .none (s "cpy313.wsgiref.headers" 383) 201) ::
  (nat_lit 203, tu #[]) ::
  (nat_lit 206, cn "__str__" 602 "Headers.__str__" 603 604 162 1 203 204 205 605 162 606) ::
  (nat_lit 207, fn "__str__" "Headers.__str__" (meth 13) .none (s "cpy313.wsgiref.headers" 383) 206) ::
  (nat_lit 208, tu #[]) ::
  (nat_lit 210, tu #[(s "self" 611)]) ::
  (nat_lit 211, tu #[]) ::
  (nat_lit 213, co "__bytes__" 608 "Headers.__bytes__" 609 610 165 1 0 0 3 208 true 276 0 209 210 211 212 612 0 165 613) ::
  (nat_lit 214, fn "__bytes__" "Headers.__bytes__" (meth 14) .none (s "cpy313.wsgiref.headers" 383) 213) ::
  (nat_lit 215, tu #[]) ::
  (nat_lit 217, tu #[(s "self" 618), (s "name" 619), (s "value" 620)]) ::
  (nat_lit 218, tu #[]) ::
  (nat_lit 220, co "setdefault" 615 "Headers.setdefault" 616 617 168 3 0 0 3 215 true 276 0 216 217 218 219 621 0 168 622) ::
  (nat_lit 221, fn "setdefault" "Headers.setdefault" (meth 15) .none (s "cpy313.wsgiref.headers" 383) 220) ::
  (nat_lit 222, tu #[]) ::
  (nat_lit 224, tu #[(s "self" 627), (s "_name" 628), (s "_value" 629), (s "_params" 630), (s "parts" 631), (s "k" 632), (s "v" 633)]) ::
  (nat_lit 225, tu #[]) ::
  (nat_lit 227, co "add_header" 624 "Headers.add_header" 625 626 171 3 0 0 11 222 true 276 0 223 224 225 226 634 0 171 635) ::
  (nat_lit 228, fn "add_header" "Headers.add_header" (meth 16) .none (s "cpy313.wsgiref.headers" 383) 227) ::
  (nat_lit 229, tu #[(s "_headers" 637)]) ::
  (nat_lit 230, { cls := Value.type "dict", data := Data.dict #[ke P "__module__" 496 (s "cpy313.wsgiref.headers" 383), ke P "__firstlineno__" 500 (i 102 499), ke P "__init__" 510 (r 125), ke P "_convert_string_type" 520 (r 132), ke P "__len__" 527 (r 139), ke P "__setitem__" 536 (r 146), ke P "__delitem__" 542 (r 151), ke P "__getitem__" 550 (r 158), ke P "__contains__" 558 (r 165), ke P "get_all" 564 (r 170), ke P "get" 575 (r 178), ke P "keys" 581 (r 183), ke P "values" 587 (r 188), ke P "items" 594 (r 195), ke P "__repr__" 601 (r 202), ke P "__str__" 607 (r 207), ke P "__bytes__" 614 (r 214), ke P "setdefault" 623 (r 221), ke P "add_header" 636 (r 228), ke P "__static_attributes__" 638 (r 229), ke P "__dict__" 640 (r 232), ke P "__weakref__" 642 (r 233), ke P "__doc__" 643 .none] 4 }) ::
  (nat_lit 231, { cls := Value.type "type", data := Data.cls { name := Str.ofString "Headers", bases := [Value.type "object"], mro := [(r 231), Value.type "object"], ns := 230, qualname := Str.ofString "Headers" }, slots := #[none, none, some ((s "Headers" 489)), some ((s "Headers" 497)), some (Value.builtin "object.__new__"), some ((.bool true))] }) ::
  (nat_lit 232, { cls := Value.type "getset_descriptor", data := Data.fields #[(s "__dict__" 639), (r 231), Value.builtin "function.__dict__", Value.builtin "function.__dict__#set"] }) ::
  (nat_lit 233, { cls := Value.type "getset_descriptor", data := Data.fields #[(s "__weakref__" 641), (r 231), Value.builtin "ExceptionGroup.__weakref__", .none] }) ::
  (nat_lit 236, tu #[]) ::
  (nat_lit 238, tu #[(s "number" 651)]) ::
  (nat_lit 239, tu #[]) ::
  (nat_lit 241, co "_law_capped" 648 "_law_capped" 649 650 185 1 0 0 3 236 true 276 0 237 238 239 240 652 0 185 653) ::
  (nat_lit 242, fn "_law_capped" "_law_capped" (top 19) .none (s "law_ul0023_01" 646) 241) ::
  (nat_lit 243, tu #[]) ::
  (nat_lit 246, cn "_law_text" 655 "_law_text" 656 657 187 1 243 244 245 658 187 659) ::
  (nat_lit 247, fn "_law_text" "_law_text" (top 20) .none (s "law_ul0023_01" 646) 246) ::
  (nat_lit 248, tu #[]) ::
  (nat_lit 251, cn "_law_told" 661 "_law_told" 662 663 190 1 248 249 250 664 190 665) ::
  (nat_lit 252, fn "_law_told" "_law_told" (top 21) .none (s "law_ul0023_01" 646) 251) ::
  (nat_lit 253, tu #[]) ::
  (nat_lit 255, tu #[(s "text" 670), (s "number" 671), (s "sign" 672), (s "letters" 673), (s "size" 674), (s "letter" 675)]) ::
  (nat_lit 256, tu #[]) ::
  (nat_lit 258, co "_law_is" 667 "_law_is" 668 669 194 2 0 0 3 253 true 276 0 254 255 256 257 676 0 194 677) ::
  (nat_lit 259, fn "_law_is" "_law_is" (top 22) .none (s "law_ul0023_01" 646) 258) ::
  (nat_lit 260, tu #[]) ::
  (nat_lit 262, tu #[(s "table" 682), (s "name" 683), (s "members" 684), (s "text" 685)]) ::
  (nat_lit 263, tu #[]) ::
  (nat_lit 265, co "_law_strike" 679 "_law_strike" 680 681 203 2 0 0 3 260 true 276 0 261 262 263 264 686 0 203 687) ::
  (nat_lit 266, fn "_law_strike" "_law_strike" (top 23) .none (s "law_ul0023_01" 646) 265) ::
  (nat_lit 267, tu #[]) ::
  (nat_lit 270, cn "_law_sums" 689 "_law_sums" 690 691 209 2 267 268 269 692 209 693) ::
  (nat_lit 271, fn "_law_sums" "_law_sums" (top 24) .none (s "law_ul0023_01" 646) 270) ::
  (nat_lit 272, tu #[]) ::
  (nat_lit 275, cn "_law_product" 695 "_law_product" 696 697 215 4 272 273 274 698 215 699) ::
  (nat_lit 276, fn "_law_product" "_law_product" (top 25) .none (s "law_ul0023_01" 646) 275) ::
  (nat_lit 277, tu #[]) ::
  (nat_lit 280, cn "law" 701 "law" 702 703 223 1 277 278 279 704 223 705) ::
  (nat_lit 281, fn "law" "law" (top 26) .none (s "law_ul0023_01" 646) 280) :: []
noncomputable def hd.view : Program := PySem.W.view PySem.Challenge.pw_ul0023_01 [0, 1, 3, 4, 5, 6, 7, 8, 9, 11, 13, 14, 15, 17, 19, 20, 21, 22, 23, 24, 25, 26]
end
section
namespace KS
open KD
abbrev pg : Program := PySem.Challenge.rw_ul0023_01.row.prog
noncomputable def kAt : Frag → Nat → Obj
  | [], _ => default
  | (b, o) :: l, a => match Nat.beq a b with | true => o | false => kAt l a
noncomputable def e0 : Obj := { cls := .none, data := .fields #[] }
noncomputable def raw (o : Obj) : Obj := match o.data with
  | .func f => { cls := .none, data := .func { f with globals := 0, defaults := .none, pyModule := default, code := default } }
  | _ => default
noncomputable def lst (t : Nat) : List Value → List Value
  | [] => []
  | .int x _ :: l => .int x t :: lst (t + 1) l
  | v :: l => v :: lst t l
noncomputable def lstOf (t : Nat) (o : Obj) : Obj := match o.data with
  | .seq vs _ => { cls := .type "list", data := .seq (lst t vs.toList).toArray }
  | _ => default
noncomputable def tab (K : Frag) (c : Int) : List Nat → List Value
  | [] => []
  | a :: l => (match (kAt K a).data with | .fields fs => fs.toList.getD 3 .none | _ => i 102 0) :: i c 0 :: r a :: tab K c l
noncomputable def tabOf (K : Frag) (c : Int) (l : List Nat) : Obj := { cls := .none, data := .fields (tab K c l).toArray }
noncomputable def tops : List Nat := [37, 44, 51, 58, 65, 72, 79, 86, 109, 116, 241, 246, 251, 258, 265, 270, 275, 280]
noncomputable def code (n : String) (a b c : Nat) (l : Int) (x y h j : Nat) : Obj := { cls := .type "code", data := .fields #[s n a, s n b, s "/claim/cut.py" c, i l 0, i 0 0, i 0 0, i 0 0, i 0 0, r x, .bool false, i 276 0, r y, .none, .none, .none, .none, i h 0, i l 0, s "/claim/cut.py" j] }
noncomputable def frm (c : Nat) (d : Nat) (m : String) (t : Nat) : Obj := { cls := .type "frame", slots := #[some (r c), some (r 3), some (r d), none, some (s m t), none, some (r 0)] }
noncomputable def ins (P : Params) : List DictEntry → List DictEntry
  | e :: l => e :: ke P "__qualname__" 498 (s "Headers" 497) :: l
  | [] => []
noncomputable def rest (P : Params) (K : Frag) (j : Nat) : Frag :=
  (28, tu #[]) :: (29, tabOf K 0 (tops.take j)) :: (30, code "<module>" 277 278 279 1 28 29 280 281) :: (31, frm 30 3 "__main__" 164) ::
  (88, lstOf 388 (kAt K 91)) :: (89, { cls := .type "dict", data := .dict #[] }) :: (90, tu #[.none]) ::
  (93, lstOf 422 (kAt K 96)) :: (94, { cls := .type "dict", data := .dict #[] }) :: (95, tu #[.none]) ::
  (98, lstOf 448 (kAt K 101)) :: (99, { cls := .type "dict", data := .dict #[] }) :: (100, tu #[.none]) ::
  (111, tu #[]) :: (112, { cls := .type "builtin_function_or_method", data := .fields #[.builtin "type.__prepare__", .type "type"] }) ::
  (113, { cls := .type "dict", data := match (kAt K 230).data with | .dict es _ => .dict (ins P (es.toList.take 20)).toArray 21 | _ => default }) :: (114, tu #[]) ::
  (115, tabOf K 4 [124, 131, 138, 145, 150, 157, 164, 169, 177, 182, 187, 194, 201, 206, 213, 220, 227]) ::
  (116, code "Headers" 491 492 493 102 114 115 494 495) :: (117, frm 116 113 "cpy313.wsgiref.headers" 383) ::
  (234, { cls := .type "super", data := .fields #[r 231, r 231, r 231] }) ::
  (235, { cls := .type "builtin_function_or_method", data := .fields #[.builtin "object.__init_subclass__", r 231] }) :: []
noncomputable def isRaw (K : Frag) (a : Nat) : Option Obj :=
  let look (b : Nat) : Option Obj := match (kAt K b).data with
    | .func f => (match f.code with | .ref c => (match (kAt K c).data with | .fields fs => (match fs.toList.getD 15 .none with | .ref d => (match Nat.beq d a with | true => some (raw (kAt K b)) | false => none) | _ => none) | _ => none) | _ => none)
    | _ => none
  match look (a + 2) with | some o => some o | none => none
noncomputable def objs (K : Frag) : Nat → Nat → Frag → Frag → List Obj
  | 0, _, _, _ => []
  | n + 1, a, (b, o) :: k, m => match Nat.beq a b with
    | true => o :: objs K n (a + 1) k m
    | false => (match m with
      | (c, o') :: m' => (match Nat.beq a c with
        | true => o' :: objs K n (a + 1) ((b, o) :: k) m'
        | false => (match isRaw K a with | some x => x | none => e0) :: objs K n (a + 1) ((b, o) :: k) m)
      | [] => (match isRaw K a with | some x => x | none => e0) :: objs K n (a + 1) ((b, o) :: k) [])
  | n + 1, a, [], m => e0 :: objs K n (a + 1) [] m
noncomputable def names (P : Params) (m : Nat) (x : String) (t : Nat) : Obj → Obj
  | { cls := c, dict := d, data := .dict es ep, slots := sl } => { cls := c, dict := d, data := .dict (match es.toList with | _ :: l => ke P "__name__" 165 (s x t) :: l.take m | [] => []).toArray (m + 1), slots := sl }
  | o => o
noncomputable def di (n : Nat) (es : Array DictEntry) : Obj := { cls := .type "dict", data := .dict es n }
noncomputable def gs (vs : Array Value) : Obj := { cls := .type "getset_descriptor", data := .fields vs }
noncomputable def ot (b : Bool) (x : String) (v : Value) : Value := match b with | true => .builtin x | false => v
noncomputable def sl (l : List String) : Str := ⟨(l.flatMap fun x => (Str.ofString x).cps.toList).toArray⟩
noncomputable def boot (b : Bool) (P : Params) (x : Obj) (y : Obj) : List Obj :=
  boot_o_0 P :: di 3 #[ke P "builtins" 162 (r 4), ke P "__main__" 163 (r 5), ke P "_sre" 244 (r 12)] :: x :: y :: boot_o_4 P :: boot_o_5 P :: boot_o_6 P :: boot_o_7 P :: boot_o_8 P :: boot_o_9 P :: boot_o_10 P ::
  di 17 #[ke P "__name__" 247 (s "_sre" 246), ke P "__doc__" 248 .none, ke P "__package__" 250 (s "" 249), ke P "__loader__" 251 (ot b "off-the-table:_sre.__loader__:shared#opaque" (r 14)), ke P "__spec__" 252 (ot b "off-the-table:_sre.__spec__:shared#opaque" (r 26)), ke P "compile" 253 (.builtin "_sre.compile"), ke P "template" 254 (ot b "off-the-table:_sre.template:shared#opaque" (.builtin "_sre.template")), ke P "getcodesize" 255 (ot b "off-the-table:_sre.getcodesize:shared#opaque" (.builtin "_sre.getcodesize")), ke P "ascii_iscased" 256 (ot b "off-the-table:_sre.ascii_iscased:shared#opaque" (.builtin "_sre.ascii_iscased")), ke P "unicode_iscased" 257 (ot b "off-the-table:_sre.unicode_iscased:shared#opaque" (.builtin "_sre.unicode_iscased")), ke P "ascii_tolower" 258 (ot b "off-the-table:_sre.ascii_tolower:shared#opaque" (.builtin "_sre.ascii_tolower")), ke P "unicode_tolower" 259 (ot b "off-the-table:_sre.unicode_tolower:shared#opaque" (.builtin "_sre.unicode_tolower")), ke P "MAGIC" 261 (i 20230612 260), ke P "CODESIZE" 263 (i 4 262), ke P "MAXREPEAT" 265 (i 4294967295 264), ke P "MAXGROUPS" 267 (i 1073741823 266), ke P "copyright" 269 (s " SRE 2.2.2 Copyright (c) 1997-2002 by Secret Labs AB " 268)] ::
  { cls := .type "module", dict := some 11 } ::
  di 14 #[ke P "__module__" 189 (s "_frozen_importlib" 186), ke P "__firstlineno__" 190 (i 971 187), ke P "__doc__" 191 (.builtin "_frozen_importlib.BuiltinImporter.__doc__:str#opaque"), ke P "_ORIGIN" 192 (s "built-in" 188), ke P "find_spec" 193 (.builtin "_frozen_importlib.BuiltinImporter.find_spec#opaque"), ke P "create_module" 194 (.builtin "_frozen_importlib.BuiltinImporter.create_module#opaque"), ke P "exec_module" 195 (.builtin "_frozen_importlib.BuiltinImporter.exec_module#opaque"), ke P "get_code" 196 (.builtin "_frozen_importlib.BuiltinImporter.get_code#opaque"), ke P "get_source" 197 (.builtin "_frozen_importlib.BuiltinImporter.get_source#opaque"), ke P "is_package" 198 (.builtin "_frozen_importlib.BuiltinImporter.is_package#opaque"), ke P "load_module" 199 (.builtin "_frozen_importlib.BuiltinImporter.load_module#opaque"), ke P "__static_attributes__" 200 (r 15), ke P "__dict__" 202 (r 16), ke P "__weakref__" 204 (r 17)] ::
  { cls := .type "type", data := Data.cls { name := Str.ofString "BuiltinImporter", bases := [.type "object"], mro := [(r 14), .type "object"], ns := 13, qualname := Str.ofString "BuiltinImporter" } } ::
  tu #[] ::
  gs #[(s "__dict__" 201), (r 14), .builtin "function.__dict__", .builtin "function.__dict__#set"] ::
  gs #[(s "__weakref__" 203), (r 14), .builtin "ExceptionGroup.__weakref__", .none] ::
  { cls := .none, data := Data.seq #[(i 13 0), (.str (sl ["\x06½\n__module__\x06º\x11_frozen_importli", "b\x06¾\x0f__firstlineno__\x04»\x00ϋ\x06¿\x07__doc_", "_\t4_frozen_importlib.BuiltinImpo", "rter.__doc__:str#opaque\x06À\x07_ORIGI", "N\x06¼\x08built-in\x06Á\tfind_spec\t2_froze", "n_importlib.BuiltinImporter.find", "_spec#opaque\x06Â\x0dcreate_module\t6_f", "rozen_importlib.BuiltinImporter.", "create_module#opaque\x06Ã\x0bexec_modu", "le\t4_frozen_importlib.BuiltinImp", "orter.exec_module#opaque\x06Ä\x08get_c", "ode\t1_frozen_importlib.BuiltinIm", "porter.get_code#opaque\x06Å\nget_sou", "rce\t3_frozen_importlib.BuiltinIm", "porter.get_source#opaque\x06Æ\nis_pa", "ckage\t3_frozen_importlib.Builtin", "Importer.is_package#opaque\x06Ç\x0bloa", "d_module\t4_frozen_importlib.Buil", "tinImporter.load_module#opaque\x06È", "\x15__static_attributes__\x04\x00\x00\x0f\x06Ê\x08__d", "ict__\x04\x00\x00\x10\x06Ì\x0b__weakref__\x04\x00\x00\x11"]) 0), (.bool true), (.bool true), (s "" 205), (i 21 0), (.str (sl ["\x06ã\n__module__\x06Ù\x11_frozen_importli", "b\x06ä\x0f__firstlineno__\x04Ú\x00Ȳ\x06å\x07__doc_", "_\t/_frozen_importlib.ModuleSpec.", "__doc__:str#opaque\x06æ\x08__init__\t,_", "frozen_importlib.ModuleSpec.__in", "it__#opaque\x06ç\x08__repr__\t,_frozen_", "importlib.ModuleSpec.__repr__#op", "aque\x06è\x06__eq__\t*_frozen_importlib", ".ModuleSpec.__eq__#opaque\x06é\x06cach", "ed\t*_frozen_importlib.ModuleSpec", ".cached#opaque\x06ê\x06parent\t*_frozen", "_importlib.ModuleSpec.parent#opa", "que\x06ë\x0chas_location\t0_frozen_impo", "rtlib.ModuleSpec.has_location#op", "aque\x06ì\x15__static_attributes__\x04\x00\x00\x17", "\x06î\x08__dict__\x04\x00\x00\x18\x06ð\x0b__weakref__\x04\x00\x00", "\x19\x06ñ\x08__hash__\x00"]) 0), (.bool true), (.bool true), (s "" 242)] 1 } ::
  { cls := .type "list", data := Data.seq #[] } ::
  di 9 #[ke P "name" 208 (s "_sre" 207), ke P "loader" 209 (r 14), ke P "origin" 210 (s "built-in" 184), ke P "loader_state" 211 .none, ke P "submodule_search_locations" 212 .none, ke P "_uninitialized_submodules" 213 (r 19), ke P "_set_fileattr" 214 (.bool false), ke P "_cached" 215 .none, ke P "_initializing" 243 (.bool false)] ::
  di 13 #[ke P "__module__" 227 (s "_frozen_importlib" 217), ke P "__firstlineno__" 228 (i 562 218), ke P "__doc__" 229 (.builtin "_frozen_importlib.ModuleSpec.__doc__:str#opaque"), ke P "__init__" 230 (.builtin "_frozen_importlib.ModuleSpec.__init__#opaque"), ke P "__repr__" 231 (.builtin "_frozen_importlib.ModuleSpec.__repr__#opaque"), ke P "__eq__" 232 (.builtin "_frozen_importlib.ModuleSpec.__eq__#opaque"), ke P "cached" 233 (.builtin "_frozen_importlib.ModuleSpec.cached#opaque"), ke P "parent" 234 (.builtin "_frozen_importlib.ModuleSpec.parent#opaque"), ke P "has_location" 235 (.builtin "_frozen_importlib.ModuleSpec.has_location#opaque"), ke P "__static_attributes__" 236 (r 23), ke P "__dict__" 238 (r 24), ke P "__weakref__" 240 (r 25), ke P "__hash__" 241 .none] ::
  { cls := .type "type", data := Data.cls { name := Str.ofString "ModuleSpec", bases := [.type "object"], mro := [(r 22), .type "object"], ns := 21, qualname := Str.ofString "ModuleSpec" } } ::
  tu #[(s "_cached" 219), (s "_set_fileattr" 220), (s "_uninitialized_submodules" 221), (s "loader" 222), (s "loader_state" 223), (s "name" 224), (s "origin" 225), (s "submodule_search_locations" 226)] ::
  gs #[(s "__dict__" 237), (r 22), .builtin "function.__dict__", .builtin "function.__dict__#set"] ::
  gs #[(s "__weakref__" 239), (r 22), .builtin "ExceptionGroup.__weakref__", .none] ::
  { cls := (r 22), dict := some 20 } ::
  { cls := .none, data := Data.seq #[(i 11 0), Value.str { cps := #[6, 247, 8, 95, 95, 110, 97, 109, 101, 95, 95, 6, 246, 4, 95, 115, 114, 101, 6, 248, 7, 95, 95, 100, 111, 99, 95, 95, 0, 6, 250, 11, 95, 95, 112, 97, 99, 107, 97, 103, 101, 95, 95, 6, 249, 0, 6, 251, 10, 95, 95, 108, 111, 97, 100, 101, 114, 95, 95, 4, 0, 0, 14, 6, 252, 8, 95, 95, 115, 112, 101, 99, 95, 95, 4, 0, 0, 26, 6, 253, 7, 99, 111, 109, 112, 105, 108, 101, 9, 12, 95, 115, 114, 101, 46, 99, 111, 109, 112, 105, 108, 101, 6, 254, 8, 116, 101, 109, 112, 108, 97, 116, 101, 9, 13, 95, 115, 114, 101, 46, 116, 101, 109, 112, 108, 97, 116, 101, 6, 255, 11, 103, 101, 116, 99, 111, 100, 101, 115, 105, 122, 101, 9, 16, 95, 115, 114, 101, 46, 103, 101, 116, 99, 111, 100, 101, 115, 105, 122, 101, 6, 256, 13, 97, 115, 99, 105, 105, 95, 105, 115, 99, 97, 115, 101, 100, 9, 18, 95, 115, 114, 101, 46, 97, 115, 99, 105, 105, 95, 105, 115, 99, 97, 115, 101, 100, 6, 257, 15, 117, 110, 105, 99, 111, 100, 101, 95, 105, 115, 99, 97, 115, 101, 100, 9, 20, 95, 115, 114, 101, 46, 117, 110, 105, 99, 111, 100, 101, 95, 105, 115, 99, 97, 115, 101, 100, 6, 258, 13, 97, 115, 99, 105, 105, 95, 116, 111, 108, 111, 119, 101, 114, 9, 18, 95, 115, 114, 101, 46, 97, 115, 99, 105, 105, 95, 116, 111, 108, 111, 119, 101, 114, 6, 259, 15, 117, 110, 105, 99, 111, 100, 101, 95, 116, 111, 108, 111, 119, 101, 114, 9, 20, 95, 115, 114, 101, 46, 117, 110, 105, 99, 111, 100, 101, 95, 116, 111, 108, 111, 119, 101, 114, 6, 261, 5, 77, 65, 71, 73, 67, 4, 260, 0, 20230612, 6, 263, 8, 67, 79, 68, 69, 83, 73, 90, 69, 4, 262, 0, 4, 6, 265, 9, 77, 65, 88, 82, 69, 80, 69, 65, 84, 4, 264, 0, 4294967295, 6, 267, 9, 77, 65, 88, 71, 82, 79, 85, 80, 83, 4, 266, 0, 1073741823, 6, 269, 9, 99, 111, 112, 121, 114, 105, 103, 104, 116, 6, 268, 53, 32, 83, 82, 69, 32, 50, 46, 50, 46, 50, 32, 67, 111, 112, 121, 114, 105, 103, 104, 116, 32, 40, 99, 41, 32, 49, 57, 57, 55, 45, 50, 48, 48, 50, 32, 98, 121, 32, 83, 101, 99, 114, 101, 116, 32, 76, 97, 98, 115, 32, 65, 66, 32] } 0, (.bool true), (.bool false), (s "_sre" 271)] } :: []
noncomputable def atK (b : Bool) (K : Frag) (P : Params) (n m j : Nat) (x : String) (t : Nat) : List Obj :=
  boot b P (kAt K 2) (names P m x t (kAt K 3)) ++ objs K (n - 28) 28 (K.drop 2) (rest P K j)
noncomputable def hp (n m j : Nat) (x : String) (t : Nat) : Params → Heap := fun P => { objs := ⟨atK true (hd.heap_39 P) P n m j x t⟩ }
noncomputable def impT (tb : String → Option Builtin) (p : Program) (w : World) : Nat → SharedT → Thread → Option SharedT
  | 0, _, _ => none
  | n + 1, s, t => match t.atExitBegin with
    | some [] => some s
    | some _ => none
    | none => match stepT (denote tb) p w s t with
      | some (s', t') => impT tb p w n s' t'
      | none => none
theorem impT_of {tb : String → Option Builtin} {p : Program} {w : World} : ∀ {n : Nat} {s s' : SharedT} {t : Thread}, impT tb p w n s t = some s' → importEnds tb p w n s.abs t = some s'.abs
  | 0, _, _, _, h => by cases h
  | n + 1, s, s', t, h => by
    unfold impT at h
    unfold importEnds
    cases he : t.atExitBegin with
    | some l =>
      rw [he] at h
      cases l with
      | nil => cases h; rfl
      | cons _ _ => cases h
    | none =>
      rw [he] at h
      cases hs : stepT (denote tb) p w s t with
      | none => rw [hs] at h; cases h
      | some r => obtain ⟨s₂, t₂⟩ := r; rw [hs] at h; dsimp only; rw [stepT_spec hs]; exact impT_of h
noncomputable def split : List Obj → List Obj × List Obj
  | [] => ([], [])
  | [a] => ([a], [])
  | a :: b :: l => match split l with | (x, y) => (a :: x, b :: y)
noncomputable def tr : Nat → List Obj → BT
  | n + 1, o :: l => match split l with | (x, y) => .node o (tr n x) (tr n y)
  | _, _ => .nil
noncomputable def sI : SharedT := ⟨.nil, 0, {}, #[], {}, 1, (start (opening pg)).1.os⟩
theorem sI_abs : sI.abs = (start (opening pg)).1 := by kernel_rfl
noncomputable def t0 (b : Bool) (n m j : Nat) (x : String) (t k : Nat) (w : World) (os : OsState) : SharedT := ⟨tr 300 (atK b (hd.heap_39 w.params) w.params n m j x t), n, {}, ⟨[]⟩, ⟨0, 0, 0, 0⟩, k, os⟩
abbrev an : Option Value := some (.ref 6)
abbrev g0 : Array GenState := ⟨[]⟩
abbrev d0 : Drawn := ⟨0, 0, 0, 0⟩
noncomputable def ev : Env := { scope := pg.main.scope, locals := mainNs, globals := mainNs, cells := [], code := .ref 30, frame := some 31 }
noncomputable def bd : List Stmt := behindTheImports pg
noncomputable def cE : Code := .body bd ev
noncomputable def po (a b c d : Nat) : Pos := ⟨a, b, c, d⟩
noncomputable def BB : List Frame := [topFrame (po 0 0 0 0)]
noncomputable def st (n m j : Nat) (x : String) (t k : Nat) (w : World) (os : OsState) : Shared := ⟨hp n m j x t w.params, g0, d0, k, os⟩
noncomputable def part (a b : Nat) : List Stmt := (bd.drop a).take b
noncomputable def H0 : Params → Heap := hp 28 9 0 "__main__" 164
noncomputable def H1 : Params → Heap := hp 282 31 18 "law_ul0023_01" 646
noncomputable def s5 (w : World) (os : OsState) : Shared := ⟨H1 w.params, g0, d0, 707, os⟩
noncomputable def s1 := st 32 9 0 "__main__" 164 282
noncomputable def u1 := t0 true 32 9 0 "__main__" 164 282
noncomputable def u2 := t0 true 81 17 7 "cpy313._pylong" 289 371
noncomputable def u3 := t0 true 93 19 8 "cpy313.wsgiref.headers" 383 419
noncomputable def u4 := t0 true 111 22 9 "cpy313.wsgiref.headers" 383 489
noncomputable def u5 := t0 true 236 23 10 "cpy313.wsgiref.headers" 383 646
noncomputable def u6 := t0 true 282 31 18 "law_ul0023_01" 646 707
theorem impR (w : World) : impT treeTable (opening pg) w 3172 sI (start (opening pg)).2 = some (t0 false 28 9 0 "__main__" 164 276 w (start (opening pg)).1.os) := by kernel_rfl
theorem fenT (w : World) : (fun os => (fenceModules? pg ⟨absHeap (tr 300 (atK false (hd.heap_39 w.params) w.params 28 9 0 "__main__" 164)) 28 {}, g0, d0, 276, os⟩).map (fun s => (s.heap, s.gens, s.drawn, s.toks))) = fun _ => some (H0 w.params, g0, d0, 276) := by kernel_rfl
theorem openT : ∀ w : World, (fencedOpening treeTable pg w 3172).map (fun s => (s.heap, s.gens, s.drawn, s.toks)) = some (H0 w.params, g0, d0, 276) :=
  open_cut (He := fun P => absHeap (tr 300 (atK false (hd.heap_39 P) P 28 9 0 "__main__" 164)) 28 {}) (M := 3172) (fun w => sI_abs ▸ impT_of (impR w)) (by rfl) fenT
theorem sizeT (w : World) : ((H0 w.params).isNs mainGlobals && g0.size == 0, (H0 w.params).objs.size, (H0 w.params).nsMap mainGlobals "__annotations__") = (true, 28, an) := by kernel_rfl
theorem preT (w : World) (os : OsState) : topGo treeTable pg w 28 an 12 ⟨H0 w.params, g0, d0, 276, os⟩ (topStub pg) = some (s1 w os, ⟨denote treeTable cE, cE, po 0 0 0 0, BB⟩) := by kernel_rfl
theorem blockT (w : World) (os : OsState) : segRun treeTable pg w 28 an 1 1 (s1 w os) (blockOf bd ev cE (po 0 0 0 0) BB) = some (.next, (u1 w os).abs, cE, po 0 0 0 0) := by kernel_rfl
theorem p1 (w : World) (os : OsState) : segRunT treeTable pg w 28 an 1 258 (u1 w os) (piecesOf (part 0 9) ev cE (po 0 0 0 0) BB) = some (.next, u2 w os, cE, po 69 0 79 32) := by kernel_rfl
theorem p2 (w : World) (os : OsState) : segRunT treeTable pg w 28 an 1 128 (u2 w os) (piecesOf (part 9 4) ev cE (po 69 0 79 32) BB) = some (.next, u3 w os, cE, po 90 0 90 9) := by kernel_rfl
theorem p3 (w : World) (os : OsState) : segRunT treeTable pg w 28 an 1 180 (u3 w os) (piecesOf (part 13 3) ev cE (po 90 0 90 9) BB) = some (.next, u4 w os, cE, po 93 0 101 20) := by kernel_rfl
theorem p4 (w : World) (os : OsState) : segRunT treeTable pg w 28 an 1 727 (u4 w os) (piecesOf (part 16 1) ev cE (po 93 0 101 20) BB) = some (.next, u5 w os, cE, po 102 0 183 93) := by kernel_rfl
theorem p5 (w : World) (os : OsState) : segRunT treeTable pg w 28 an 1 235 (u5 w os) (piecesOf (part 17 9) ev cE (po 102 0 183 93) BB) = some (.next, u6 w os, cE, po 223 0 252 15) := by kernel_rfl
theorem finT (w : World) (os : OsState) : topRun treeTable pg w 28 an 2 (u6 w os).abs ⟨doneF .next, cE, po 223 0 252 15, BB⟩ = some (s5 w os) := by kernel_rfl
theorem cutT : bd = part 0 9 ++ (part 9 4 ++ (part 13 3 ++ (part 16 1 ++ (part 17 9 ++ [])))) := by kernel_rfl
theorem runT (w : World) (os : OsState) : topRun treeTable pg w 28 an (12 + (1 + (258 + (128 + (180 + (727 + (235 + 2))))))) ⟨H0 w.params, g0, d0, 276, os⟩ (topStub pg) = some (s5 w os) := by
  refine go_top (preT w os) (piece_block (b := bd) (env := ev) (c := cE) (q := po 0 0 0 0) (blockT w os) ?_)
  rw [cutT]
  exact piece_app (segRun_of (p1 w os)) (piece_app (segRun_of (p2 w os)) (piece_app (segRun_of (p3 w os)) (piece_app (segRun_of (p4 w os)) (piece_app (segRun_of (p5 w os)) (piece_nil (finT w os))))))
theorem lk1 (w : World) (os : OsState) : (staticsOk (importedModules pg.main.body) (H0 w.params) (H1 w.params) && namesBound pg (H1 w.params) && gensDone (s5 w os) && laidKept (H0 w.params) (H1 w.params)) = true := by kernel_rfl
theorem q1 : (sreFenced pg.main && ((moduleNames pg.main.body).isEmpty || lookedIntoSs (moduleNames pg.main.body) pg.main.body)) = true := by kernel_rfl
theorem q2 : namesResolve pg = true := by kernel_rfl
theorem q3 : noRoadLSs { strict := !(importedModules pg.main.body).all cThrough.contains, foot := none, bare := (["vars", "dir", "locals"] : List Str).filter (readsOut pg pg.main.body) } pg.main.body = true := by kernel_rfl
theorem q4 : (namesMeet pg pg.main.body fun _ n => attrL n) = true := by kernel_rfl
theorem q5 : looksOpen pg = true := look_both (look_both (look_both (look_both q1 q2) (by kernel_rfl)) q3) q4
theorem q6 : PySem.Challenge.rw_ul0023_01.row.partSaid = true := by
  delta OpenRow.partSaid
  rw [q5]
  kernel_rfl
theorem q7 : PySem.Challenge.rw_ul0023_01.row.wellSaid = true := by
  delta OpenRow.wellSaid
  rw [q6]
  kernel_rfl
end KS
theorem said1 : PySem.Challenge.rw_ul0023_01.wellSaid = true := by
  delta OpenLaw.wellSaid
  rw [KS.q7]
  kernel_rfl
end
section
noncomputable def hkAt : List Addr := [2, 3, 32, 34, 35, 37, 38, 39, 41, 42, 44, 45, 46, 48, 49, 51, 52, 53, 55, 56, 58, 59, 60, 62, 63, 65, 66, 67, 69, 70, 72, 73, 74, 76, 77, 79, 80, 81, 83, 84, 86, 87, 91, 92, 96, 97, 101, 102, 103, 104, 106, 107, 109, 110, 118, 119, 121, 122, 124, 125, 126, 128, 129, 131, 132, 133, 135, 136, 138, 139, 140, 142, 143, 145, 146, 147, 150, 151, 152, 154, 155, 157, 158, 159, 161, 162, 164, 165, 166, 169, 170, 171, 172, 174, 175, 177, 178, 179, 182, 183, 184, 187, 188, 189, 191, 192, 194, 195, 196, 198, 199, 201, 202, 203, 206, 207, 208, 210, 211, 213, 214, 215, 217, 218, 220, 221, 222, 224, 225, 227, 228, 229, 230, 231, 232, 233, 236, 238, 239, 241, 242, 243, 246, 247, 248, 251, 252, 253, 255, 256, 258, 259, 260, 262, 263, 265, 266, 267, 270, 271, 272, 275, 276, 277, 280, 281]
noncomputable def hkHook : Hook := kmHook Mine.hd.heap_39 hkAt (fun _ => by kernel_rfl) [54, 61]
noncomputable def hkLoose : List Str := [Str.ofString "tspecials", Str.ofString "_name_disallowed_re", Str.ofString "_value_disallowed_re", Str.ofString "_formatparam"]
noncomputable abbrev hkXt : Shared → Bool := fun s => xlAt Mine.hd.view [] s && recOk (RowW.records PySem.Challenge.rw_ul0023_01.row.toRowW) s
theorem lk2 (w : World) (os : OsState) : openSeen hd.view hkLoose (importedModules KS.pg.main.body) hkXt true (KS.s5 w os) = openGood hd.view hkLoose := by kernel_rfl
theorem lk3 (w : World) (os : OsState) : Hook.obs hkHook (KS.s5 w os) = Hook.val hkHook w := by kernel_rfl
theorem left1 : LeftO PySem.Challenge.rw_ul0023_01.row.prog Mine.hd.view hkLoose hkXt (Hook.obs hkHook) (Hook.val hkHook) 3172 :=
  LeftO.of_pieces (H₁ := KS.H1) (gs₁ := KS.g0) (d₁ := KS.d0) (k₁ := 707) KS.openT KS.sizeT KS.runT (by rfl) fun w => funext fun os => looks_pair (KS.lk1 w os) (looks_pair (lk2 w os) (lk3 w os))
end
section
theorem ltk {x b : Nat} (k : Nat) (h : x + k < b) : x < b := Nat.lt_of_le_of_lt (Nat.le_add_right x k) h
namespace FM
inductive FT : Bool → Type
  | nv : Nat → FT true
  | nk : Nat → FT true
  | na : FT true → FT true → FT true
  | ns : FT true → FT true → FT true
  | nm : Nat → FT true → FT true
  | nr : FT true → Nat → FT true
  | nn : FT true → FT true → FT true
  | nx : FT true → FT true → FT true
  | tn : FT false → FT true
  | ab : FT false → FT true
  | iv : Nat → FT false
  | ik : Nat → FT false
  | ia : FT false → FT false → FT false
  | is : FT false → FT false → FT false
  | im : Nat → FT false → FT false
  | ir : FT false → Nat → FT false
  | ig : FT false → FT false
  | iN : FT false → FT false → FT false
  | ix : FT false → FT false → FT false
  | ca : FT true → FT false
open FT
noncomputable abbrev FTy : Bool → Type
  | true => Nat
  | false => Int
noncomputable def nth {α : Type} (d : α) : List α → Nat → α
  | [], _ => d
  | x :: _, 0 => x
  | _ :: xs, n + 1 => nth d xs n
noncomputable def FT.den (N : List Nat) (I : List Int) : {b : Bool} → FT b → FTy b
  | _, nv i => nth (0 : Nat) N i
  | _, nk k => k
  | _, na a b => @HAdd.hAdd Nat Nat Nat _ (a.den N I) (b.den N I)
  | _, ns a b => @HSub.hSub Nat Nat Nat _ (a.den N I) (b.den N I)
  | _, nm k b => @HMul.hMul Nat Nat Nat _ k (b.den N I)
  | _, nr b k => @HMul.hMul Nat Nat Nat _ (b.den N I) k
  | _, nn a b => @min Nat _ (a.den N I) (b.den N I)
  | _, nx a b => @max Nat _ (a.den N I) (b.den N I)
  | _, tn a => Int.toNat (a.den N I)
  | _, ab a => Int.natAbs (a.den N I)
  | _, iv i => nth (0 : Int) I i
  | _, ik k => Int.ofNat k
  | _, ia a b => @HAdd.hAdd Int Int Int _ (a.den N I) (b.den N I)
  | _, is a b => @HSub.hSub Int Int Int _ (a.den N I) (b.den N I)
  | _, im k b => @HMul.hMul Int Int Int _ (Int.ofNat k) (b.den N I)
  | _, ir b k => @HMul.hMul Int Int Int _ (b.den N I) (Int.ofNat k)
  | _, ig a => @Neg.neg Int _ (a.den N I)
  | _, iN a b => @min Int _ (a.den N I) (b.den N I)
  | _, ix a b => @max Int _ (a.den N I) (b.den N I)
  | _, ca a => @Nat.cast Int _ (a.den N I)
noncomputable abbrev Ln := List Int
noncomputable def ladd : Ln → Ln → Ln
  | [], ys => ys
  | xs, [] => xs
  | x :: xs, y :: ys => (x + y) :: ladd xs ys
noncomputable def lmul (k : Int) : Ln → Ln
  | [] => []
  | x :: xs => (k * x) :: lmul k xs
noncomputable def lsub (a b : Ln) : Ln := ladd a (lmul (-1) b)
noncomputable def unit : Nat → Ln
  | 0 => [1]
  | n + 1 => 0 :: unit n
noncomputable abbrev Cs := List (List Ln × Ln)
noncomputable def mix (f : Ln → Ln → Cs) (A B : Cs) : Cs := A.flatMap fun a => B.flatMap fun b => (f a.2 b.2).map fun c => (a.1 ++ (b.1 ++ c.1), c.2)
noncomputable def un (f : Ln → Cs) (A : Cs) : Cs := A.flatMap fun a => (f a.2).map fun c => (a.1 ++ c.1, c.2)
noncomputable def FT.lin : {b : Bool} → FT b → Cs
  | _, nv i => [([], unit (2 * i + 1))]
  | _, nk k => [([], [Int.ofNat k])]
  | _, na a b => mix (fun u v => [([], ladd u v)]) a.lin b.lin
  | _, ns a b => mix (fun u v => [([lsub u v], lsub u v), ([lsub v u], [])]) a.lin b.lin
  | _, nm k b => un (fun u => [([], lmul (Int.ofNat k) u)]) b.lin
  | _, nr b k => un (fun u => [([], lmul (Int.ofNat k) u)]) b.lin
  | _, nn a b => mix (fun u v => [([lsub v u], u), ([lsub u v], v)]) a.lin b.lin
  | _, nx a b => mix (fun u v => [([lsub v u], v), ([lsub u v], u)]) a.lin b.lin
  | _, tn a => un (fun u => [([u], u), ([lmul (-1) u], [])]) a.lin
  | _, ab a => un (fun u => [([u], u), ([lmul (-1) u], lmul (-1) u)]) a.lin
  | _, iv i => [([], unit (2 * i + 2))]
  | _, ik k => [([], [Int.ofNat k])]
  | _, ia a b => mix (fun u v => [([], ladd u v)]) a.lin b.lin
  | _, is a b => mix (fun u v => [([], lsub u v)]) a.lin b.lin
  | _, im k b => un (fun u => [([], lmul (Int.ofNat k) u)]) b.lin
  | _, ir b k => un (fun u => [([], lmul (Int.ofNat k) u)]) b.lin
  | _, ig a => un (fun u => [([], lmul (-1) u)]) a.lin
  | _, iN a b => mix (fun u v => [([lsub v u], u), ([lsub u v], v)]) a.lin b.lin
  | _, ix a b => mix (fun u v => [([lsub v u], v), ([lsub u v], u)]) a.lin b.lin
  | _, ca a => a.lin
inductive FP
  | nl : FT true → FT true → FP
  | ne : FT true → FT true → FP
  | il : FT false → FT false → FP
  | ie : FT false → FT false → FP
  | no : FP → FP
  | an : FP → FP → FP
  | or : FP → FP → FP
  | ff : FP
open FP
noncomputable def FP.den (N : List Nat) (I : List Int) : FP → Prop
  | nl a b => @LE.le Nat _ (a.den N I) (b.den N I)
  | ne a b => @Eq Nat (a.den N I) (b.den N I)
  | il a b => @LE.le Int _ (a.den N I) (b.den N I)
  | ie a b => @Eq Int (a.den N I) (b.den N I)
  | no a => ¬ a.den N I
  | an a b => a.den N I ∧ b.den N I
  | or a b => a.den N I ∨ b.den N I
  | ff => False
noncomputable abbrev Ds := List (List Ln)
noncomputable def cut (f : Ln → Ln → Ds) (A B : Cs) : Ds := A.flatMap fun a => B.flatMap fun b => (f a.2 b.2).map fun c => a.1 ++ (b.1 ++ c)
noncomputable def dand (A B : Ds) : Ds := A.flatMap fun a => B.map fun b => a ++ b
noncomputable def low (u v : Ln) : Ln := lsub v (ladd u [1])
noncomputable def cle (t : Bool) (u v : Ln) : Ds := bif t then [[lsub v u]] else [[low v u]]
noncomputable def ceq (t : Bool) (u v : Ln) : Ds := bif t then [[lsub v u, lsub u v]] else [[low u v], [low v u]]
noncomputable def FP.dnf : Bool → FP → Ds
  | t, nl a b => cut (cle t) a.lin b.lin
  | t, ne a b => cut (ceq t) a.lin b.lin
  | t, il a b => cut (cle t) a.lin b.lin
  | t, ie a b => cut (ceq t) a.lin b.lin
  | t, no a => a.dnf (!t)
  | true, an a b => dand (a.dnf true) (b.dnf true)
  | false, an a b => a.dnf false ++ b.dnf false
  | true, or a b => a.dnf true ++ b.dnf true
  | false, or a b => dand (a.dnf false) (b.dnf false)
  | true, ff => []
  | false, ff => [[]]
noncomputable def goals (n : Nat) : List FP → FP → Ds
  | [], g => (g.dnf false).map (· ++ (List.range n).map fun i => unit (2 * i + 1))
  | h :: hs, g => dand (h.dnf true) (goals n hs g)
noncomputable def far (B N : Nat) : List Ln → Ln
  | [] => []
  | c :: cs => ladd (lmul (Int.ofNat (N % B)) c) (far B (N / B) cs)
noncomputable def bad : Ln → Bool
  | [] => false
  | k :: t => k < 0 && t.all (· == 0)
noncomputable def fars (B N : Nat) : Ds → Bool
  | [] => true
  | l :: ls => bad (far B N l) && fars B (N / B ^ l.length) ls
noncomputable def imp (N : List Nat) (I : List Int) (g : FP) : List FP → Prop
  | [] => g.den N I
  | h :: hs => h.den N I → imp N I g hs

noncomputable def env (N : List Nat) (I : List Int) : Nat → Int
  | 0 => 1
  | k + 1 => if k % 2 = 0 then (nth 0 N (k / 2) : Nat) else nth 0 I (k / 2)
noncomputable def ev (r : Nat → Int) : Nat → Ln → Int
  | _, [] => 0
  | i, c :: cs => c * r i + ev r (i + 1) cs
noncomputable def toI : {b : Bool} → FTy b → Int
  | true, x => Int.ofNat x
  | false, x => x
theorem ev_add {r : Nat → Int} : ∀ {i : Nat} {a b : Ln}, ev r i (ladd a b) = ev r i a + ev r i b
  | _, [], _ => (Int.zero_add _).symm
  | _, _ :: _, [] => (Int.add_zero _).symm
  | i, x :: xs, y :: ys => by
    show (x + y) * r i + ev r (i + 1) (ladd xs ys) = (x * r i + ev r (i + 1) xs) + (y * r i + ev r (i + 1) ys)
    rw [ev_add, Int.add_mul]; ac_rfl
theorem ev_mul {r : Nat → Int} {k : Int} : ∀ {i : Nat} {a : Ln}, ev r i (lmul k a) = k * ev r i a
  | _, [] => (Int.mul_zero _).symm
  | i, x :: xs => by
    show k * x * r i + ev r (i + 1) (lmul k xs) = k * (x * r i + ev r (i + 1) xs)
    rw [ev_mul, Int.mul_add, Int.mul_assoc]
theorem ev_neg {r : Nat → Int} {i : Nat} {a : Ln} : ev r i (lmul (-1) a) = -ev r i a := ev_mul.trans (Int.neg_one_mul _)
theorem ev_sub {r : Nat → Int} {i : Nat} {a b : Ln} : ev r i (lsub a b) = ev r i a - ev r i b :=
  ev_add.trans (congrArg (ev r i a + ·) ev_neg)
theorem ev_unit {r : Nat → Int} : ∀ {i n : Nat}, ev r i (unit n) = r (i + n)
  | i, 0 => (Int.add_zero _).trans (Int.one_mul _)
  | i, n + 1 => by
    show 0 * r i + ev r (i + 1) (unit n) = r (i + (n + 1))
    rw [ev_unit, Int.zero_mul, Int.zero_add, Nat.add_assoc, Nat.add_comm 1]
noncomputable def Sat (r : Nat → Int) (c : List Ln) : Prop := ∀ g ∈ c, 0 ≤ ev r 0 g
theorem Sat.app {r : Nat → Int} {a b : List Ln} (h : Sat r a) (k : Sat r b) : Sat r (a ++ b) := fun g m => (List.mem_append.1 m).elim (h g) (k g)
theorem Sat.one {r : Nat → Int} {a : Ln} (h : 0 ≤ ev r 0 a) : Sat r [a] := fun _ m => List.mem_singleton.1 m ▸ h
theorem Sat.nil {r : Nat → Int} : Sat r [] := fun _ m => nomatch m
noncomputable def Ok (r : Nat → Int) (L : Cs) (x : Int) : Prop := ∃ c, c ∈ L ∧ Sat r c.1 ∧ ev r 0 c.2 = x
noncomputable def Okd (r : Nat → Int) (L : Ds) : Prop := ∃ c, c ∈ L ∧ Sat r c
theorem Ok.here {r : Nat → Int} {L : Cs} {g : List Ln} {u : Ln} {x : Int} (h : Sat r g) (e : ev r 0 u = x) : Ok r ((g, u) :: L) x := ⟨_, .head _, h, e⟩
theorem Ok.next {r : Nat → Int} {L : Cs} {p : List Ln × Ln} {x : Int} : Ok r L x → Ok r (p :: L) x := fun ⟨c, m, h⟩ => ⟨c, .tail _ m, h⟩
theorem mix_ok {r : Nat → Int} {f : Ln → Ln → Cs} {A B : Cs} {x y z : Int} (ha : Ok r A x) (hb : Ok r B y)
    (hf : ∀ u v, ev r 0 u = x → ev r 0 v = y → Ok r (f u v) z) : Ok r (mix f A B) z := by
  obtain ⟨a, ma, sa, ea⟩ := ha
  obtain ⟨b, mb, sb, eb⟩ := hb
  obtain ⟨c, mc, sc, ec⟩ := hf _ _ ea eb
  exact ⟨_, List.mem_flatMap.2 ⟨a, ma, List.mem_flatMap.2 ⟨b, mb, List.mem_map_of_mem mc⟩⟩, sa.app (sb.app sc), ec⟩
theorem un_ok {r : Nat → Int} {f : Ln → Cs} {A : Cs} {x z : Int} (ha : Ok r A x)
    (hf : ∀ u, ev r 0 u = x → Ok r (f u) z) : Ok r (un f A) z := by
  obtain ⟨a, ma, sa, ea⟩ := ha
  obtain ⟨c, mc, sc, ec⟩ := hf _ ea
  exact ⟨_, List.mem_flatMap.2 ⟨a, ma, List.mem_map_of_mem mc⟩, sa.app sc, ec⟩
theorem cut_ok {r : Nat → Int} {f : Ln → Ln → Ds} {A B : Cs} {x y : Int} (ha : Ok r A x) (hb : Ok r B y)
    (hf : ∀ u v, ev r 0 u = x → ev r 0 v = y → Okd r (f u v)) : Okd r (cut f A B) := by
  obtain ⟨a, ma, sa, ea⟩ := ha
  obtain ⟨b, mb, sb, eb⟩ := hb
  obtain ⟨c, mc, sc⟩ := hf _ _ ea eb
  exact ⟨_, List.mem_flatMap.2 ⟨a, ma, List.mem_flatMap.2 ⟨b, mb, List.mem_map_of_mem mc⟩⟩, sa.app (sb.app sc)⟩
theorem dand_ok {r : Nat → Int} {A B : Ds} (ha : Okd r A) (hb : Okd r B) : Okd r (dand A B) := by
  obtain ⟨a, ma, sa⟩ := ha
  obtain ⟨b, mb, sb⟩ := hb
  exact ⟨_, List.mem_flatMap.2 ⟨a, ma, List.mem_map_of_mem mb⟩, sa.app sb⟩
theorem two_ok {r : Nat → Int} {g h u v : Ln} {x : Int} (t : (0 ≤ ev r 0 g ∧ ev r 0 u = x) ∨ (0 ≤ ev r 0 h ∧ ev r 0 v = x)) :
    Ok r [([g], u), ([h], v)] x :=
  t.elim (fun t => .here (.one t.1) t.2) (fun t => .next (.here (.one t.1) t.2))
theorem one_ok {r : Nat → Int} {u : Ln} {x : Int} (e : ev r 0 u = x) : Ok r [([], u)] x := .here .nil e
theorem const_ok {r : Nat → Int} {k : Int} (h : r 0 = 1) : ev r 0 [k] = k := by show k * r 0 + 0 = k; rw [h, Int.mul_one, Int.add_zero]
theorem envN {N : List Nat} {I : List Int} {i : Nat} : env N I (0 + (2 * i + 1)) = Int.ofNat (nth 0 N i) := by
  rw [Nat.zero_add]; show (if 2 * i % 2 = 0 then ((nth 0 N (2 * i / 2) : Nat) : Int) else _) = _
  rw [if_pos (Nat.mul_mod_right ..), Nat.mul_div_cancel_left _ (by decide)]; rfl
theorem envI {N : List Nat} {I : List Int} {i : Nat} : env N I (0 + (2 * i + 2)) = nth 0 I i := by
  rw [Nat.zero_add]; show (if (2 * i + 1) % 2 = 0 then _ else nth 0 I ((2 * i + 1) / 2)) = _
  rw [Nat.mul_add_mod, if_neg (by decide), Nat.mul_add_div (by decide)]; rfl
theorem sub_c (x y : Nat) : (0 ≤ (x : Int) - y ∧ (x : Int) - y = ((x - y : Nat) : Int)) ∨ (0 ≤ (y : Int) - x ∧ (0 : Int) = ((x - y : Nat) : Int)) :=
  (Nat.le_total y x).elim (fun h => .inl ⟨Int.sub_nonneg_of_le (Int.ofNat_le.2 h), (Int.ofNat_sub h).symm⟩) (fun h => .inr ⟨Int.sub_nonneg_of_le (Int.ofNat_le.2 h), by rw [Nat.sub_eq_zero_of_le h]; rfl⟩)
theorem min_c (x y : Nat) : (0 ≤ (y : Int) - x ∧ (x : Int) = ((min x y : Nat) : Int)) ∨ (0 ≤ (x : Int) - y ∧ (y : Int) = ((min x y : Nat) : Int)) :=
  (Nat.le_total x y).elim (fun h => .inl ⟨Int.sub_nonneg_of_le (Int.ofNat_le.2 h), by rw [Nat.min_eq_left h]⟩) (fun h => .inr ⟨Int.sub_nonneg_of_le (Int.ofNat_le.2 h), by rw [Nat.min_eq_right h]⟩)
theorem max_c (x y : Nat) : (0 ≤ (y : Int) - x ∧ (y : Int) = ((max x y : Nat) : Int)) ∨ (0 ≤ (x : Int) - y ∧ (x : Int) = ((max x y : Nat) : Int)) :=
  (Nat.le_total x y).elim (fun h => .inl ⟨Int.sub_nonneg_of_le (Int.ofNat_le.2 h), by rw [Nat.max_eq_right h]⟩) (fun h => .inr ⟨Int.sub_nonneg_of_le (Int.ofNat_le.2 h), by rw [Nat.max_eq_left h]⟩)
theorem imin_c (x y : Int) : (0 ≤ y - x ∧ x = min x y) ∨ (0 ≤ x - y ∧ y = min x y) :=
  (Int.le_total x y).elim (fun h => .inl ⟨Int.sub_nonneg_of_le h, (Int.min_eq_left h).symm⟩) (fun h => .inr ⟨Int.sub_nonneg_of_le h, (Int.min_eq_right h).symm⟩)
theorem imax_c (x y : Int) : (0 ≤ y - x ∧ y = max x y) ∨ (0 ≤ x - y ∧ x = max x y) :=
  (Int.le_total x y).elim (fun h => .inl ⟨Int.sub_nonneg_of_le h, (Int.max_eq_right h).symm⟩) (fun h => .inr ⟨Int.sub_nonneg_of_le h, (Int.max_eq_left h).symm⟩)
theorem tn_c (x : Int) : (0 ≤ x ∧ x = (x.toNat : Int)) ∨ (0 ≤ -x ∧ 0 = (x.toNat : Int)) :=
  (Int.le_total 0 x).elim (fun h => .inl ⟨h, (Int.toNat_of_nonneg h).symm⟩) (fun h => .inr ⟨Int.neg_nonneg_of_nonpos h, by rw [Int.toNat_of_nonpos h]; rfl⟩)
theorem ab_c (x : Int) : (0 ≤ x ∧ x = (x.natAbs : Int)) ∨ (0 ≤ -x ∧ -x = (x.natAbs : Int)) :=
  (Int.le_total 0 x).elim (fun h => .inl ⟨h, (Int.natAbs_of_nonneg h).symm⟩) (fun h => .inr ⟨Int.neg_nonneg_of_nonpos h, (Int.ofNat_natAbs_of_nonpos h).symm⟩)
theorem FT.lin_ok (N : List Nat) (I : List Int) : ∀ {b : Bool} (t : FT b), Ok (env N I) t.lin (toI (t.den N I))
  | _, nv i => one_ok (ev_unit.trans envN)
  | _, iv i => one_ok (ev_unit.trans envI)
  | _, nk k => one_ok (const_ok rfl)
  | _, ik k => one_ok (const_ok rfl)
  | _, na a b => mix_ok (a.lin_ok N I) (b.lin_ok N I) fun u v hu hv => one_ok (by rw [ev_add, hu, hv]; rfl)
  | _, ns a b => mix_ok (a.lin_ok N I) (b.lin_ok N I) fun u v hu hv => two_ok (by rw [ev_sub, ev_sub, hu, hv]; exact sub_c _ _)
  | _, nm k b => un_ok (b.lin_ok N I) fun u hu => one_ok (by rw [ev_mul, hu]; rfl)
  | _, nr b k => un_ok (b.lin_ok N I) fun u hu => one_ok (by rw [ev_mul, hu, Int.mul_comm]; rfl)
  | _, nn a b => mix_ok (a.lin_ok N I) (b.lin_ok N I) fun u v hu hv => two_ok (by rw [ev_sub, ev_sub, hu, hv]; exact min_c _ _)
  | _, nx a b => mix_ok (a.lin_ok N I) (b.lin_ok N I) fun u v hu hv => two_ok (by rw [ev_sub, ev_sub, hu, hv]; exact max_c _ _)
  | _, tn a => un_ok (a.lin_ok N I) fun u hu => two_ok (by rw [ev_neg, hu]; exact tn_c _)
  | _, ab a => un_ok (a.lin_ok N I) fun u hu => two_ok (by rw [ev_neg, hu]; exact ab_c _)
  | _, ia a b => mix_ok (a.lin_ok N I) (b.lin_ok N I) fun u v hu hv => one_ok (by rw [ev_add, hu, hv]; rfl)
  | _, is a b => mix_ok (a.lin_ok N I) (b.lin_ok N I) fun u v hu hv => one_ok (by rw [ev_sub, hu, hv]; rfl)
  | _, im k b => un_ok (b.lin_ok N I) fun u hu => one_ok (by rw [ev_mul, hu]; rfl)
  | _, ir b k => un_ok (b.lin_ok N I) fun u hu => one_ok (by rw [ev_mul, hu, Int.mul_comm]; rfl)
  | _, ig a => un_ok (a.lin_ok N I) fun u hu => one_ok (by rw [ev_neg, hu]; rfl)
  | _, iN a b => mix_ok (a.lin_ok N I) (b.lin_ok N I) fun u v hu hv => two_ok (by rw [ev_sub, ev_sub, hu, hv]; exact imin_c _ _)
  | _, ix a b => mix_ok (a.lin_ok N I) (b.lin_ok N I) fun u v hu hv => two_ok (by rw [ev_sub, ev_sub, hu, hv]; exact imax_c _ _)
  | _, ca a => a.lin_ok N I
noncomputable def holds (t : Bool) (p : Prop) : Prop := bif t then p else ¬ p
theorem ev_low {r : Nat → Int} (h : r 0 = 1) {u v : Ln} : ev r 0 (low u v) = ev r 0 v - (ev r 0 u + 1) := by
  rw [low, ev_sub, ev_add, const_ok h]
theorem le_ok {r : Nat → Int} {u v : Ln} {x y : Int} (hu : ev r 0 u = x) (hv : ev r 0 v = y) (h : x ≤ y) : 0 ≤ ev r 0 (lsub v u) := by
  rw [ev_sub, hu, hv]; exact Int.sub_nonneg_of_le h
theorem low_ok {r : Nat → Int} (e : r 0 = 1) {u v : Ln} {x y : Int} (hu : ev r 0 u = x) (hv : ev r 0 v = y) (h : x < y) : 0 ≤ ev r 0 (low u v) := by
  rw [ev_low e, hu, hv]; exact Int.sub_nonneg_of_le h
theorem cle_ok {r : Nat → Int} (e : r 0 = 1) {x y : Int} {p : Prop} (hp : p ↔ x ≤ y) {t : Bool} (h : holds t p) (u v : Ln) (hu : ev r 0 u = x) (hv : ev r 0 v = y) : Okd r (cle t u v) := by
  cases t
  · exact ⟨_, .head _, .one (low_ok e hv hu (Int.not_le.1 fun k => h (hp.2 k)))⟩
  · exact ⟨_, .head _, .one (le_ok hu hv (hp.1 h))⟩
theorem ceq_ok {r : Nat → Int} (e : r 0 = 1) {x y : Int} {p : Prop} (hp : p ↔ x = y) {t : Bool} (h : holds t p) (u v : Ln) (hu : ev r 0 u = x) (hv : ev r 0 v = y) : Okd r (ceq t u v) := by
  cases t
  · exact (Int.lt_or_gt_of_ne fun k => h (hp.2 k)).elim (fun k => ⟨_, .head _, .one (low_ok e hu hv k)⟩) (fun k => ⟨_, .tail _ (.head _), .one (low_ok e hv hu k)⟩)
  · exact ⟨_, .head _, .app (.one (a := lsub v u) (le_ok hu hv (Int.le_of_eq (hp.1 h)))) (.one (le_ok hv hu (Int.le_of_eq (hp.1 h).symm)))⟩
theorem orl {r : Nat → Int} {A B : Ds} : Okd r A → Okd r (A ++ B) := fun ⟨c, m, h⟩ => ⟨c, List.mem_append_left _ m, h⟩
theorem orr {r : Nat → Int} {A B : Ds} : Okd r B → Okd r (A ++ B) := fun ⟨c, m, h⟩ => ⟨c, List.mem_append_right _ m, h⟩
theorem FP.dnf_ok (N : List Nat) (I : List Int) : ∀ (t : Bool) (p : FP), holds t (p.den N I) → Okd (env N I) (p.dnf t)
  | t, nl a b, h => cut_ok (a.lin_ok N I) (b.lin_ok N I) (cle_ok rfl Int.ofNat_le.symm h)
  | t, ne a b, h => cut_ok (a.lin_ok N I) (b.lin_ok N I) (ceq_ok rfl Int.ofNat_inj.symm h)
  | t, il a b, h => cut_ok (a.lin_ok N I) (b.lin_ok N I) (cle_ok rfl Iff.rfl h)
  | t, ie a b, h => cut_ok (a.lin_ok N I) (b.lin_ok N I) (ceq_ok rfl Iff.rfl h)
  | true, no a, h => a.dnf_ok N I false h
  | false, no a, h => a.dnf_ok N I true (Classical.byContradiction h)
  | true, an a b, h => dand_ok (a.dnf_ok N I true h.1) (b.dnf_ok N I true h.2)
  | false, an a b, h => (Classical.em (a.den N I)).elim (fun k => orr (b.dnf_ok N I false fun l => h ⟨k, l⟩)) (fun k => orl (a.dnf_ok N I false k))
  | true, or a b, h => Or.elim h (fun k => orl (a.dnf_ok N I true k)) (fun k => orr (b.dnf_ok N I true k))
  | false, or a b, h => dand_ok (a.dnf_ok N I false fun k => h (.inl k)) (b.dnf_ok N I false fun k => h (.inr k))
  | true, ff, h => h.elim
  | false, ff, _ => ⟨_, .head _, .nil⟩
theorem far_ok {r : Nat → Int} {B : Nat} : ∀ {N : Nat} {l : List Ln}, Sat r l → 0 ≤ ev r 0 (far B N l)
  | _, [], _ => Int.le_refl _
  | _, _ :: _, h => by
    show 0 ≤ ev r 0 (ladd (lmul _ _) (far _ _ _)); rw [ev_add, ev_mul]
    exact Int.add_nonneg (Int.mul_nonneg (Int.natCast_nonneg _) (h _ (.head _))) (far_ok fun g m => h g (.tail _ m))
theorem zer {r : Nat → Int} : ∀ {i : Nat} {l : Ln}, l.all (· == 0) = true → ev r i l = 0
  | _, [], _ => rfl
  | i, x :: xs, h => by
    have h := (Bool.and_eq_true _ _).mp h
    show x * r i + ev r (i + 1) xs = 0; rw [zer h.2, eq_of_beq h.1, Int.zero_mul]; rfl
theorem bad_ok {r : Nat → Int} (e : r 0 = 1) : ∀ {l : Ln}, bad l = true → ¬ 0 ≤ ev r 0 l
  | k :: t, h => by
    have h := (Bool.and_eq_true _ _).mp h
    show ¬ 0 ≤ k * r 0 + ev r 1 t; rw [e, zer h.2, Int.mul_one, Int.add_zero]
    exact Int.not_le.2 (of_decide_eq_true h.1)
theorem fars_ok {r : Nat → Int} (e : r 0 = 1) {B : Nat} : ∀ {N : Nat} {d : Ds}, fars B N d = true → ¬ Okd r d
  | _, [], _, ⟨_, m, _⟩ => nomatch m
  | _, _ :: _, h, ⟨c, m, s⟩ => by
    have h := (Bool.and_eq_true _ _).mp h
    cases m with
    | head => exact bad_ok e h.1 (far_ok s)
    | tail _ m => exact fars_ok e h.2 ⟨c, m, s⟩
theorem goals_ok {N : List Nat} {I : List Int} {n : Nat} {g : FP} : ∀ {hs : List FP}, ¬ Okd (env N I) (goals n hs g) → imp N I g hs
  | [], h => Classical.byContradiction fun k => h (by
    obtain ⟨c, m, s⟩ := g.dnf_ok N I false k
    refine ⟨_, List.mem_map_of_mem m, s.app fun x mx => ?_⟩
    obtain ⟨i, _, rfl⟩ := List.mem_map.1 mx
    rw [ev_unit, envN]; exact Int.natCast_nonneg _)
  | p :: hs, h => fun k => goals_ok fun l => h (dand_ok (p.dnf_ok N I true k) l)
theorem fm (n B C : Nat) (hs : List FP) (g : FP) (N : List Nat) (I : List Int) (h : fars B C (goals n hs g) = true) : imp N I g hs :=
  goals_ok (fars_ok rfl h)
theorem md (x k : Nat) (h : 0 < k) : k * (x / k) + x % k = x ∧ x % k < k := ⟨Nat.div_add_mod x k, Nat.mod_lt x h⟩
theorem imd (x k : Int) (h : 0 < k) : k * (x / k) + x % k = x ∧ 0 ≤ x % k ∧ x % k < k := ⟨Int.mul_ediv_add_emod x k, Int.emod_nonneg x (Int.ne_of_gt h), Int.emod_lt_of_pos x h⟩
theorem tt : true = true := rfl
end FM
section
open FM FM.FT FM.FP
theorem om0 {a0 a1 a2 : Nat} : a1 ≤ a2 → (a0 + a2) < 690 → ((a0 + a1) < 690) := fm 3 2 7 [nl (nv 1) (nv 2), nl (na (na (nv 0) (nv 2)) (nk 1)) (nk 690)] (nl (na (na (nv 0) (nv 1)) (nk 1)) (nk 690)) [a0, a1, a2] [] tt
theorem om1 {a0 a1 a2 : Nat} : a1 ≤ a2 → (a0 + (10 * a2)) < 9900 → ((a0 + (10 * a1)) < 9900) := fm 3 11 142 [nl (nv 1) (nv 2), nl (na (na (nv 0) (nm 10 (nv 2))) (nk 1)) (nk 9900)] (nl (na (na (nv 0) (nm 10 (nv 1))) (nk 1)) (nk 9900)) [a0, a1, a2] [] tt
theorem om2 {a0 a1 a2 : Nat} : (a1 + 1) ≤ a2 → (a0 + a2) < 690 → (((a0 + 1) + a1) < 690) := fm 3 2 7 [nl (na (nv 1) (nk 1)) (nv 2), nl (na (na (nv 0) (nv 2)) (nk 1)) (nk 690)] (nl (na (na (na (nv 0) (nk 1)) (nv 1)) (nk 1)) (nk 690)) [a0, a1, a2] [] tt
theorem om3 {a0 a1 a2 : Nat} : (a1 + 1) ≤ a2 → (a0 + (10 * a2)) < 9900 → (((a0 + 3) + (10 * a1)) < 9900) := fm 3 11 142 [nl (na (nv 1) (nk 1)) (nv 2), nl (na (na (nv 0) (nm 10 (nv 2))) (nk 1)) (nk 9900)] (nl (na (na (na (nv 0) (nk 3)) (nm 10 (nv 1))) (nk 1)) (nk 9900)) [a0, a1, a2] [] tt
theorem om4 {a0 a1 a2 : Nat} : (a1 + 1) ≤ a2 → (a0 + a2) < 690 → ((a0 + a1) < 690) := fm 3 2 7 [nl (na (nv 1) (nk 1)) (nv 2), nl (na (na (nv 0) (nv 2)) (nk 1)) (nk 690)] (nl (na (na (nv 0) (nv 1)) (nk 1)) (nk 690)) [a0, a1, a2] [] tt
theorem om5 {a0 a1 a2 : Nat} : (a1 + 1) ≤ a2 → (a0 + (10 * a2)) < 9900 → (((a0 + 1) + (10 * a1)) < 9900) := fm 3 11 142 [nl (na (nv 1) (nk 1)) (nv 2), nl (na (na (nv 0) (nm 10 (nv 2))) (nk 1)) (nk 9900)] (nl (na (na (na (nv 0) (nk 1)) (nm 10 (nv 1))) (nk 1)) (nk 9900)) [a0, a1, a2] [] tt
theorem om6 {a0 a1 : Nat} : (a0 + a1) < 690 → (a0 < 1000) := fm 2 2 11 [nl (na (na (nv 0) (nv 1)) (nk 1)) (nk 690)] (nl (na (nv 0) (nk 1)) (nk 1000)) [a0, a1] [] tt
theorem om7 {a0 a1 : Nat} (h0 : (a0 + (10 * a1)) < 9900) : (a0 < 9900) := Nat.lt_of_le_of_lt (Nat.le_add_right _ _) (by assumption)
theorem om8 {a0 : Nat} : ((-(2 ^ 63)) ≤ ((a0 : Nat) : Int)) := Int.natCast_nonneg _
theorem om9 {a0 : Nat} : a0 ≤ (2 ^ 24) → (((a0 : Nat) : Int) < (2 ^ 63)) := fm 1 2 3 [nl (nv 0) (nk 16777216)] (il (ia (ca (nv 0)) (ik 1)) (ik 9223372036854775808)) [a0] [] tt
theorem om10 {a0 a1 : Nat} : a1 < a0 → ((a0 - (a1 + 1)) < (a0 - a1)) := fm 2 2 1347912 [nl (na (nv 1) (nk 1)) (nv 0)] (nl (na (ns (nv 0) (na (nv 1) (nk 1))) (nk 1)) (ns (nv 0) (nv 1))) [a0, a1] [] tt
theorem om12 {a0 : Nat} : ((a0 + 2) ≠ (a0 + 4)) := fun h => absurd (Nat.add_left_cancel (m := 0) (k := 2) h) (by decide)
theorem om13 {a0 : Nat} : ((a0 + 3) ≠ (a0 + 4)) := fun h => absurd (Nat.add_left_cancel (m := 0) (k := 1) h) (by decide)
theorem om14 {a0 : Nat} : (a0 ≠ (a0 + 4)) := fun h => absurd (Nat.add_left_cancel (m := 0) h) (by decide)
theorem om15 {a0 : Nat} : ((a0 + 1) ≠ (a0 + 4)) := fun h => absurd (Nat.add_left_cancel (m := 0) (k := 3) h) (by decide)
theorem om16 {a0 : Nat} : ((a0 + 2) ≠ (a0 + 3)) := fun h => absurd (Nat.add_left_cancel (m := 1) (k := 2) h) (by decide)
theorem om17 {a0 : Nat} : ((a0 + 2) ≠ a0) := fm 1 2 1 [] (no (ne (na (nv 0) (nk 2)) (nv 0))) [a0] [] tt
theorem om18 {a0 : Nat} : ((a0 + 2) ≠ (a0 + 1)) := fun h => absurd (Nat.add_left_cancel (m := 1) (k := 0) h) (by decide)
theorem om19 {a0 : Nat} : ((a0 + 3) ≠ a0) := fm 1 2 1 [] (no (ne (na (nv 0) (nk 3)) (nv 0))) [a0] [] tt
theorem om20 {a0 : Nat} : ((a0 + 3) ≠ (a0 + 1)) := fm 1 2 1 [] (no (ne (na (nv 0) (nk 3)) (na (nv 0) (nk 1)))) [a0] [] tt
theorem om21 {a0 : Nat} : (a0 ≠ (a0 + 1)) := fun h => absurd (Nat.add_left_cancel (m := 0) h) (by decide)
theorem om22 {a0 a1 : Nat} (h0 : a0 < a1) : (a0 ≠ (a1 + 4)) := Nat.ne_of_lt (Nat.lt_of_lt_of_le (by assumption) (Nat.le_add_right _ _))
theorem om23 {a0 a1 : Nat} (h0 : a0 < a1) : (a0 ≠ (a1 + 3)) := Nat.ne_of_lt (Nat.lt_of_lt_of_le (by assumption) (Nat.le_add_right _ _))
theorem om24 {a0 a1 : Nat} (h0 : a0 < a1) : (a0 ≠ a1) := Nat.ne_of_lt (by assumption)
theorem om25 {a0 a1 : Nat} (h0 : a0 < a1) : (a0 ≠ (a1 + 1)) := Nat.ne_of_lt (Nat.lt_succ_of_lt (by assumption))
theorem om26 {a0 a1 : Nat} : a0 = a1 → ((min a0 a1) = a0) := fm 2 2 2658824 [ne (nv 0) (nv 1)] (ne (nn (nv 0) (nv 1)) (nv 0)) [a0, a1] [] tt
theorem om27 {a0 : Nat} : (a0 ≤ (a0 + 4)) := Nat.le_add_right _ _
theorem om28 {a0 : Nat} : (a0 ≤ (a0 + 3)) := Nat.le_add_right _ _
theorem om29 {a0 : Nat} : (a0 ≤ a0) := fm 1 2 1 [] (nl (nv 0) (nv 0)) [a0] [] tt
theorem om30 {a0 : Nat} : (a0 ≤ (a0 + 1)) := Nat.le_add_right _ _
theorem om31 {a0 : Nat} : ((a0 + 4) < (a0 + 5)) := Nat.lt_succ_self _
theorem om32 {a0 : Nat} : ((a0 + 2) < (a0 + 5)) := fm 1 2 1 [] (nl (na (na (nv 0) (nk 2)) (nk 1)) (na (nv 0) (nk 5))) [a0] [] tt
theorem om33 {a0 : Nat} : ((a0 + 3) < (a0 + 5)) := fm 1 2 1 [] (nl (na (na (nv 0) (nk 3)) (nk 1)) (na (nv 0) (nk 5))) [a0] [] tt
theorem om34 {a0 : Nat} : (a0 < (a0 + 5)) := fm 1 2 1 [] (nl (na (nv 0) (nk 1)) (na (nv 0) (nk 5))) [a0] [] tt
theorem om35 {a0 : Nat} : ((a0 + 1) < (a0 + 5)) := fm 1 2 1 [] (nl (na (na (nv 0) (nk 1)) (nk 1)) (na (nv 0) (nk 5))) [a0] [] tt
theorem om36 {a0 a1 : Nat} : a0 < a1 → (a0 < (a1 + 5)) := fm 2 2 3 [nl (na (nv 0) (nk 1)) (nv 1)] (nl (na (nv 0) (nk 1)) (na (nv 1) (nk 5))) [a0, a1] [] tt
theorem om37 {a0 : Nat} : ((a0 + 1) ≠ a0) := fun h => absurd (Nat.add_left_cancel (m := 1) (k := 0) h) (by decide)
theorem om38 {a0 : Nat} : ((a0 + 1) < (a0 + 2)) := Nat.lt_succ_self _
theorem om39 {a0 : Nat} : (a0 < (a0 + 2)) := fm 1 2 1 [] (nl (na (nv 0) (nk 1)) (na (nv 0) (nk 2))) [a0] [] tt
theorem om40 {a0 a1 : Nat} : a0 < a1 → (a0 < (a1 + 2)) := fm 2 2 3 [nl (na (nv 0) (nk 1)) (nv 1)] (nl (na (nv 0) (nk 1)) (na (nv 1) (nk 2))) [a0, a1] [] tt
theorem om41 {a0 : Nat} : (¬ ((a0 + 2) < a0)) := fm 1 2 1 [] (no (nl (na (na (nv 0) (nk 2)) (nk 1)) (nv 0))) [a0] [] tt
theorem om42 {a0 a1 a2 a3 : Nat} : a0 ≤ a2 → a2 < a3 → a3 < a1 → (a0 ≤ a1) := fm 4 2 15 [nl (nv 0) (nv 2), nl (na (nv 2) (nk 1)) (nv 3), nl (na (nv 3) (nk 1)) (nv 1)] (nl (nv 0) (nv 1)) [a0, a1, a2, a3] [] tt
theorem om43 {a0 a1 a2 : Nat} : a0 ≤ a2 → a2 < a1 → (a0 ≤ a1) := fm 3 2 7 [nl (nv 0) (nv 2), nl (na (nv 2) (nk 1)) (nv 1)] (nl (nv 0) (nv 1)) [a0, a1, a2] [] tt
theorem om44 {a0 a1 a2 : Nat} (h0 : a0 ≤ a2) (h1 : a2 < a1) : (a0 < a1) := Nat.lt_of_le_of_lt (by assumption) (by assumption)
theorem om45 {a0 a1 a2 : Nat} : a0 = (a1 + 2) → a2 = (a0 + 1) → a2 = (a1 + 1) → False := fm 3 2 26 [ne (nv 0) (na (nv 1) (nk 2)), ne (nv 2) (na (nv 0) (nk 1)), ne (nv 2) (na (nv 1) (nk 1))] ff [a0, a1, a2] [] tt
theorem om46 {a0 a1 a2 : Nat} : a0 = (a1 + 2) → a2 = (a0 + 1) → a2 = a1 → False := fm 3 2 26 [ne (nv 0) (na (nv 1) (nk 2)), ne (nv 2) (na (nv 0) (nk 1)), ne (nv 2) (nv 1)] ff [a0, a1, a2] [] tt
theorem om47 {a0 a1 a2 a3 : Nat} : a0 = (a1 + 2) → a2 = (a0 + 1) → a2 = a3 → a3 < a1 → False := fm 4 2 90 [ne (nv 0) (na (nv 1) (nk 2)), ne (nv 2) (na (nv 0) (nk 1)), ne (nv 2) (nv 3), nl (na (nv 3) (nk 1)) (nv 1)] ff [a0, a1, a2, a3] [] tt
theorem om48 {a0 a1 : Nat} : a0 = (a1 + 1) → a0 = (a1 + 2) → False := fm 2 2 9 [ne (nv 0) (na (nv 1) (nk 1)), ne (nv 0) (na (nv 1) (nk 2))] ff [a0, a1] [] tt
theorem om49 {a0 a1 : Nat} : a0 = (a1 + 2) → a0 = a1 → False := fm 2 2 6 [ne (nv 0) (na (nv 1) (nk 2)), ne (nv 0) (nv 1)] ff [a0, a1] [] tt
theorem om50 {a0 a1 a2 : Nat} : a0 = (a1 + 2) → a0 = a2 → a2 < a1 → False := fm 3 2 22 [ne (nv 0) (na (nv 1) (nk 2)), ne (nv 0) (nv 2), nl (na (nv 2) (nk 1)) (nv 1)] ff [a0, a1, a2] [] tt
theorem om51 {a0 a1 a2 : Nat} : a1 = (a2 + 1) → a2 = (a0 + 2) → ((a0 + 1) < a1) := fm 3 2 26 [ne (nv 1) (na (nv 2) (nk 1)), ne (nv 2) (na (nv 0) (nk 2))] (nl (na (na (nv 0) (nk 1)) (nk 1)) (nv 1)) [a0, a1, a2] [] tt
theorem om52 {a0 a1 a2 : Nat} : a1 = (a2 + 1) → a2 = (a0 + 2) → (a0 < a1) := fm 3 2 26 [ne (nv 1) (na (nv 2) (nk 1)), ne (nv 2) (na (nv 0) (nk 2))] (nl (na (nv 0) (nk 1)) (nv 1)) [a0, a1, a2] [] tt
theorem om53 {a0 a1 : Nat} : a1 = (a0 + 2) → ((a0 + 1) < a1) := fm 2 2 6 [ne (nv 1) (na (nv 0) (nk 2))] (nl (na (na (nv 0) (nk 1)) (nk 1)) (nv 1)) [a0, a1] [] tt
theorem om54 {a0 a1 : Nat} : a1 = (a0 + 2) → (a0 < a1) := fm 2 2 6 [ne (nv 1) (na (nv 0) (nk 2))] (nl (na (nv 0) (nk 1)) (nv 1)) [a0, a1] [] tt
theorem om55 {a0 a1 : Nat} : a1 = (a0 + 1) → (a0 < a1) := fm 2 2 6 [ne (nv 1) (na (nv 0) (nk 1))] (nl (na (nv 0) (nk 1)) (nv 1)) [a0, a1] [] tt
theorem om56 {a0 a1 : Nat} : a0 < a1 → (a0 < (a1 + 3)) := fm 2 2 3 [nl (na (nv 0) (nk 1)) (nv 1)] (nl (na (nv 0) (nk 1)) (na (nv 1) (nk 3))) [a0, a1] [] tt
theorem om57 {a0 : Int} : a0 < 5000 → ((Int.toNat a0) < 5000) := fm 0 2 37 [il (ia (iv 0) (ik 1)) (ik 5000)] (nl (na (tn (iv 0)) (nk 1)) (nk 5000)) [] [a0] tt
theorem om58 {a0 a1 a2 a3 : Int} : a1 = (a2 + a3) → (0 : Int) ≤ a3 → a0 ≤ a2 → a1 < (2 ^ 20000) → (a0 < (2 ^ 20000)) := fm 0 2 62 [ie (iv 1) (ia (iv 2) (iv 3)), il (ik 0) (iv 3), il (iv 0) (iv 2), il (ia (iv 1) (ik 1)) (iv 4)] (il (ia (iv 0) (ik 1)) (iv 4)) [] [a0, a1, a2, a3, ((2 ^ 20000) : Int)] tt
theorem om59 {a0 a1 a2 a3 : Int} : a1 = (a2 + a0) → a3 ≤ a2 → (0 : Int) < a3 → a1 < (2 ^ 20000) → (a0 < (2 ^ 20000)) := fm 0 2 62 [ie (iv 1) (ia (iv 2) (iv 0)), il (iv 3) (iv 2), il (ia (ik 0) (ik 1)) (iv 3), il (ia (iv 1) (ik 1)) (iv 4)] (il (ia (iv 0) (ik 1)) (iv 4)) [] [a0, a1, a2, a3, ((2 ^ 20000) : Int)] tt
theorem om60 {a0 a1 : Int} (h0 : a0 < a1) (h1 : a1 < (2 ^ 20000)) : (a0 < (2 ^ 20000)) := Int.le_of_lt (Int.lt_of_le_of_lt (by assumption) (by assumption))
theorem om61 {a0 : Int} (h0 : (0 : Int) < a0) : ((0 : Int) ≤ a0) := Int.le_of_lt (by assumption)
theorem om64 {a0 : Int} (h0 : (0 : Int) < a0) : (a0 ≠ 0) := Int.ne_of_gt (by assumption)
theorem om65 {a0 : Nat} {a1 : Int} : a0 ≤ ((max ((max 20000 (20000 + 5000)) + 1) 20000) + 1) → a1 < 5000 → ((((a0 : Nat) : Int) + a1) ≤ (2 ^ 27)) := fm 1 2 268034 [nl (nv 0) (na (nx (na (nx (nk 20000) (na (nk 20000) (nk 5000))) (nk 1)) (nk 20000)) (nk 1)), il (ia (iv 0) (ik 1)) (ik 5000)] (il (ia (ca (nv 0)) (iv 0)) (ik 134217728)) [a0] [a1] tt
theorem om66 {a0 a1 a2 : Int} : a1 ≤ a0 → (0 : Int) < a2 → (0 ≤ ((a0 - a1) + a2)) := fm 0 2 7 [il (iv 1) (iv 0), il (ia (ik 0) (ik 1)) (iv 2)] (il (ik 0) (ia (is (iv 0) (iv 1)) (iv 2))) [] [a0, a1, a2] tt
theorem om67 {a0 a1 a2 : Int} : (0 : Int) ≤ a2 → a0 < 0 → a2 < a1 → ((Int.toNat (-(a0 + a1))) < (Int.toNat (-a0))) := fm 0 2 4859045 [il (ik 0) (iv 2), il (ia (iv 0) (ik 1)) (ik 0), il (ia (iv 2) (ik 1)) (iv 1)] (nl (na (tn (ig (ia (iv 0) (iv 1)))) (nk 1)) (tn (ig (iv 0)))) [] [a0, a1, a2] tt
theorem om68 {a0 a1 a2 a3 a4 : Int} : (a0 + a2) = (a3 + a4) → (((a0 - (1 * a1)) + (a2 + a1)) = (a3 + a4)) := fm 0 2 46 [ie (ia (iv 0) (iv 2)) (ia (iv 3) (iv 4))] (ie (ia (is (iv 0) (im 1 (iv 1))) (ia (iv 2) (iv 1))) (ia (iv 3) (iv 4))) [] [a0, a1, a2, a3, a4] tt
theorem om69 {a0 a1 : Int} : a0 < 0 → ((a0 + a1) < a1) := fm 0 2 3 [il (ia (iv 0) (ik 1)) (ik 0)] (il (ia (ia (iv 0) (iv 1)) (ik 1)) (iv 1)) [] [a0, a1] tt
theorem om70 {a0 : Int} : ¬ (a0 < 0) → ((0 : Int) ≤ a0) := fm 0 2 3 [no (il (ia (iv 0) (ik 1)) (ik 0))] (il (ik 0) (iv 0)) [] [a0] tt
theorem om71 {a0 : Int} : (0 : Int) < a0 → ((Int.natAbs (a0 - 1)) ≤ (Int.natAbs a0)) := fm 0 3 5505516 [il (ia (ik 0) (ik 1)) (iv 0)] (nl (ab (is (iv 0) (ik 1))) (ab (iv 0))) [] [a0] tt
theorem om72 {a0 : Nat} {a1 : Int} : a0 ≤ (max 20000 20000) → a1 < 5000 → ((((a0 : Nat) : Int) + a1) ≤ (2 ^ 27)) := fm 1 2 462 [nl (nv 0) (nx (nk 20000) (nk 20000)), il (ia (iv 0) (ik 1)) (ik 5000)] (il (ia (ca (nv 0)) (iv 0)) (ik 134217728)) [a0] [a1] tt
theorem om74 {a0 : Int} : (0 : Int) ≤ a0 → (0 ≤ (a0 + 1)) := fm 0 2 3 [il (ik 0) (iv 0)] (il (ik 0) (ia (iv 0) (ik 1))) [] [a0] tt
theorem om75 {a0 : Nat} {a1 : Int} {a2 : Nat} : ((a2 : Nat) : Int) ≤ a1 → a0 ≤ a2 → (((a0 : Nat) : Int) ≤ a1) := fm 2 2 7 [il (ca (nv 1)) (iv 0), nl (nv 0) (nv 1)] (il (ca (nv 0)) (iv 0)) [a0, a2] [a1] tt
theorem om76 {a0 : Nat} : a0 < 4600 → (a0 ≤ 9000) := fm 1 2 3 [nl (na (nv 0) (nk 1)) (nk 4600)] (nl (nv 0) (nk 9000)) [a0] [] tt
theorem om77 {a0 : Nat} : (a0 % 2) = 0 → (a0 = ((a0 / 2) + (a0 / 2))) := fm 3 2 21553 [an (ne (na (nm 2 (nv 1)) (nv 2)) (nv 0)) (nl (na (nv 2) (nk 1)) (nk 2)), ne (nv 2) (nk 0)] (ne (nv 0) (na (nv 1) (nv 1))) [a0, (a0 / 2), (a0 % 2)] [] tt (md a0 2 (by decide))
theorem om78 {a0 : Nat} : (a0 ≤ ((a0 + a0) - 1)) := fm 1 3 196 [] (nl (nv 0) (ns (na (nv 0) (nv 0)) (nk 1))) [a0] [] tt
theorem om79 {a0 a1 a2 : Int} (h0 : a0 < a2) (h1 : a2 < a1) : (a0 < a1) := Int.le_of_lt (Int.lt_of_le_of_lt (by assumption) (by assumption))
theorem om80 {a0 : Nat} (h0 : (a0 + a0) < 4600) : ((a0 + a0) < 20000) := Nat.lt_of_lt_of_le (by assumption) (by decide)
theorem om81 {a0 : Nat} : (0 ≤ (((a0 + a0) : Nat) : Int)) := Int.natCast_nonneg _
theorem om82 {a0 : Nat} : (((((a0 + a0) : Nat) : Int) % 2) = 0) := by lia
theorem om83 {a0 : Nat} : (((((a0 + a0) : Nat) : Int) / 2) = ((a0 : Nat) : Int)) := fm 1 3 125580 [an (ie (ia (im 2 (iv 0)) (iv 1)) (ca (na (nv 0) (nv 0)))) (an (il (ik 0) (iv 1)) (il (ia (iv 1) (ik 1)) (ik 2)))] (ie (iv 0) (ca (nv 0))) [a0] [((((a0 + a0) : Nat) : Int) / 2), ((((a0 + a0) : Nat) : Int) % 2)] tt (imd (((a0 + a0) : Nat) : Int) 2 (by decide))
theorem om84 {a0 : Nat} : 2 ≤ (a0 + a0) → (0 < ((a0 : Nat) : Int)) := fm 1 3 7 [nl (nk 2) (na (nv 0) (nv 0))] (il (ia (ik 0) (ik 1)) (ca (nv 0))) [a0] [] tt
theorem om85 {a0 : Nat} : (a0 + a0) < 4600 → (((a0 : Nat) : Int) < 5000) := fm 1 3 7 [nl (na (na (nv 0) (nv 0)) (nk 1)) (nk 4600)] (il (ia (ca (nv 0)) (ik 1)) (ik 5000)) [a0] [] tt
theorem om86 {a0 : Nat} : (a0 + a0) < 4600 → (a0 ≤ 9000) := fm 1 3 7 [nl (na (na (nv 0) (nv 0)) (nk 1)) (nk 4600)] (nl (nv 0) (nk 9000)) [a0] [] tt
theorem om87 {a0 : Nat} : (a0 + a0) < 4600 → ((((1 : Nat) : Int) + ((a0 : Nat) : Int)) ≤ 134217728) := fm 1 3 7 [nl (na (na (nv 0) (nv 0)) (nk 1)) (nk 4600)] (il (ia (ik 1) (ca (nv 0))) (ik 134217728)) [a0] [] tt
theorem om88 {a0 a1 : Nat} : a0 ≤ (a1 + a1) → (a1 + a1) < 4600 → ((((a0 : Nat) : Int) - ((a1 : Nat) : Int)) ≤ 4000) := fm 2 3 23 [nl (nv 0) (na (nv 1) (nv 1)), nl (na (na (nv 1) (nv 1)) (nk 1)) (nk 4600)] (il (is (ca (nv 0)) (ca (nv 1))) (ik 4000)) [a0, a1] [] tt
theorem om89 {a0 a1 : Nat} : a0 ≤ a1 → (a1 + a1) < 4600 → ((((a0 : Nat) : Int) + ((a1 : Nat) : Int)) ≤ 134217728) := fm 2 2 7 [nl (nv 0) (nv 1), nl (na (na (nv 1) (nv 1)) (nk 1)) (nk 4600)] (il (ia (ca (nv 0)) (ca (nv 1))) (ik 134217728)) [a0, a1] [] tt
theorem om90 {a0 : Nat} (h0 : (a0 % 2) = 1) : ((a0 + 1) = (((a0 + 1) / 2) + ((a0 + 1) / 2))) := by lia
theorem om91 {a0 : Nat} (h0 : (a0 % 2) = 1) (h1 : (2 : Nat) ≤ a0) : (2 ≤ ((a0 + 1) / 2)) := by lia
theorem om92 {a0 : Nat} : (2 : Nat) ≤ a0 → (a0 = ((a0 - 1) + 1)) := fm 1 2 13124 [nl (nk 2) (nv 0)] (ne (nv 0) (na (ns (nv 0) (nk 1)) (nk 1))) [a0] [] tt
theorem om93 {a0 a1 : Nat} : (a1 + 1) = (a0 + a0) → (a0 ≤ a1) := fm 2 3 102 [ne (na (nv 1) (nk 1)) (na (nv 0) (nv 0))] (nl (nv 0) (nv 1)) [a0, a1] [] tt
theorem om94 {a0 a1 a2 : Int} : a0 = (a2 * 2) → a2 ≤ a1 → (a0 ≤ (a1 * 2)) := fm 0 3 46 [ie (iv 0) (ir (iv 2) 2), il (iv 2) (iv 1)] (il (iv 0) (ir (iv 1) 2)) [] [a0, a1, a2] tt
theorem om95 {a0 a1 : Int} : a0 < a1 → ((a0 * 2) < (a1 * 2)) := fm 0 3 5 [il (ia (iv 0) (ik 1)) (iv 1)] (il (ia (ir (iv 0) 2) (ik 1)) (ir (iv 1) 2)) [] [a0, a1] tt
theorem om96 {a0 a1 : Int} : (0 : Int) < a1 → a0 < a1 → ((a0 * 2) < ((a1 * 2) * 2)) := fm 0 3 17 [il (ia (ik 0) (ik 1)) (iv 1), il (ia (iv 0) (ik 1)) (iv 1)] (il (ia (ir (iv 0) 2) (ik 1)) (ir (ir (iv 1) 2) 2)) [] [a0, a1] tt
theorem om97 {a0 : Int} : (0 : Int) ≤ a0 → (0 ≤ (a0 * 2)) := fm 0 3 5 [il (ik 0) (iv 0)] (il (ik 0) (ir (iv 0) 2)) [] [a0] tt
theorem om98 {a0 : Int} : (0 : Int) < a0 → (0 < (a0 * 2)) := fm 0 3 5 [il (ia (ik 0) (ik 1)) (iv 0)] (il (ia (ik 0) (ik 1)) (ir (iv 0) 2)) [] [a0] tt
theorem om99 {a0 : Nat} (h0 : a0 < 4600) : ((a0 + 1) < 20000) := Nat.lt_of_le_of_lt (by assumption) (by decide)
theorem om100 {a0 : Nat} : (0 ≤ ((a0 : Nat) : Int)) := Int.natCast_nonneg _
theorem om101 {a0 : Nat} (h0 : (a0 % 2) = 1) : ((((a0 : Nat) : Int) % 2) = 1) := by lia
theorem om102 {a0 a1 : Nat} : a0 ≤ (a1 + a1) → a1 < 4600 → ((((a0 : Nat) : Int) + 1) ≤ 134217728) := fm 2 3 16 [nl (nv 0) (na (nv 1) (nv 1)), nl (na (nv 1) (nk 1)) (nk 4600)] (il (ia (ca (nv 0)) (ik 1)) (ik 134217728)) [a0, a1] [] tt
theorem om103 {a0 a1 : Nat} : a0 ≤ a1 → a1 < 4600 → ((((a0 : Nat) : Int) + 1) ≤ 134217728) := fm 2 2 7 [nl (nv 0) (nv 1), nl (na (nv 1) (nk 1)) (nk 4600)] (il (ia (ca (nv 0)) (ik 1)) (ik 134217728)) [a0, a1] [] tt
theorem om104 {a0 a1 : Nat} : (a0 + 1) = (a1 + a1) → (((((a0 : Nat) : Int) + 1) / 2) = ((a1 : Nat) : Int)) := fm 2 3 30490698 [an (ie (ia (im 2 (iv 0)) (iv 1)) (ia (ca (nv 0)) (ik 1))) (an (il (ik 0) (iv 1)) (il (ia (iv 1) (ik 1)) (ik 2))), ne (na (nv 0) (nk 1)) (na (nv 1) (nv 1))] (ie (iv 0) (ca (nv 1))) [a0, a1] [((((a0 : Nat) : Int) + 1) / 2), ((((a0 : Nat) : Int) + 1) % 2)] tt (imd (((a0 : Nat) : Int) + 1) 2 (by decide))
theorem om105 {a0 a1 : Nat} : (a1 + 1) = (a0 + a0) → (0 < ((a0 : Nat) : Int)) := fm 2 3 100 [ne (na (nv 1) (nk 1)) (na (nv 0) (nv 0))] (il (ia (ik 0) (ik 1)) (ca (nv 0))) [a0, a1] [] tt
theorem om106 {a0 a1 : Nat} : (a1 + 1) = (a0 + a0) → a1 < 4600 → (((a0 : Nat) : Int) < 5000) := fm 2 3 66 [ne (na (nv 1) (nk 1)) (na (nv 0) (nv 0)), nl (na (nv 1) (nk 1)) (nk 4600)] (il (ia (ca (nv 0)) (ik 1)) (ik 5000)) [a0, a1] [] tt
theorem om107 {a0 a1 : Nat} : (a1 + 1) = (a0 + a0) → a1 < 4600 → (a0 ≤ 9000) := fm 2 3 66 [ne (na (nv 1) (nk 1)) (na (nv 0) (nv 0)), nl (na (nv 1) (nk 1)) (nk 4600)] (nl (nv 0) (nk 9000)) [a0, a1] [] tt
theorem om108 {a0 a1 : Int} (h0 : (a0 * 2) < a1) (h1 : a1 < (2 ^ 20000)) : ((a0 * 2) < (2 ^ 20000)) := Int.le_of_lt (Int.lt_of_le_of_lt (by assumption) (by assumption))
theorem om109 {a0 a1 : Nat} : (a1 + 1) = (a0 + a0) → a1 < 4600 → ((((1 : Nat) : Int) + ((a0 : Nat) : Int)) ≤ 134217728) := fm 2 3 66 [ne (na (nv 1) (nk 1)) (na (nv 0) (nv 0)), nl (na (nv 1) (nk 1)) (nk 4600)] (il (ia (ik 1) (ca (nv 0))) (ik 134217728)) [a0, a1] [] tt
theorem om110 {a0 a1 a2 : Nat} : (a2 + 1) = (a1 + a1) → a0 ≤ (a2 + 1) → a2 < 4600 → ((((a0 : Nat) : Int) - ((a1 : Nat) : Int)) ≤ 4000) := fm 3 3 208 [ne (na (nv 2) (nk 1)) (na (nv 1) (nv 1)), nl (nv 0) (na (nv 2) (nk 1)), nl (na (nv 2) (nk 1)) (nk 4600)] (il (is (ca (nv 0)) (ca (nv 1))) (ik 4000)) [a0, a1, a2] [] tt
theorem om111 {a0 : Int} : (0 : Int) < a0 → ((a0 * 2) ≠ 0) := fm 0 3 5 [il (ia (ik 0) (ik 1)) (iv 0)] (no (ie (ir (iv 0) 2) (ik 0))) [] [a0] tt
theorem om112 {a0 a1 a2 : Nat} : (a2 + 1) = (a1 + a1) → a0 ≤ a1 → a2 < 4600 → ((((a0 : Nat) : Int) + ((a1 : Nat) : Int)) ≤ 134217728) := fm 3 2 30 [ne (na (nv 2) (nk 1)) (na (nv 1) (nv 1)), nl (nv 0) (nv 1), nl (na (nv 2) (nk 1)) (nk 4600)] (il (ia (ca (nv 0)) (ca (nv 1))) (ik 134217728)) [a0, a1, a2] [] tt
theorem om113 {a0 : Int} : (((a0 * 2) / 2) = a0) := fm 0 3 41988 [an (ie (ia (im 2 (iv 1)) (iv 2)) (ir (iv 0) 2)) (an (il (ik 0) (iv 2)) (il (ia (iv 2) (ik 1)) (ik 2)))] (ie (iv 1) (iv 0)) [] [a0, ((a0 * 2) / 2), ((a0 * 2) % 2)] tt (imd (a0 * 2) 2 (by decide))
theorem om114 {a0 : Nat} : ¬ (((63 : Nat) : Int) < ((a0 : Nat) : Int)) → (a0 ≤ 63) := fm 1 2 3 [no (il (ia (ik 63) (ik 1)) (ca (nv 0)))] (nl (nv 0) (nk 63)) [a0] [] tt
theorem om115 {a0 : Nat} : (¬ ((a0 + 4) < a0)) := fm 1 2 1 [] (no (nl (na (na (nv 0) (nk 4)) (nk 1)) (nv 0))) [a0] [] tt
theorem om116 {a0 : Nat} : (¬ ((a0 + 3) < a0)) := fm 1 2 1 [] (no (nl (na (na (nv 0) (nk 3)) (nk 1)) (nv 0))) [a0] [] tt
theorem om117 {a0 : Nat} : (¬ (a0 < a0)) := fm 1 2 1 [] (no (nl (na (nv 0) (nk 1)) (nv 0))) [a0] [] tt
theorem om118 {a0 : Nat} : (¬ ((a0 + 1) < a0)) := fm 1 2 1 [] (no (nl (na (na (nv 0) (nk 1)) (nk 1)) (nv 0))) [a0] [] tt
theorem om119 {a0 a1 : Nat} : (a0 - a1) ≤ 0 → a1 < a0 → False := fm 2 2 166 [nl (ns (nv 0) (nv 1)) (nk 0), nl (na (nv 1) (nk 1)) (nv 0)] ff [a0, a1] [] tt
theorem om120 {a0 a1 a2 : Nat} : a2 = ((a0 + a1) / 2) → (((((a0 : Nat) : Int) + ((a1 : Nat) : Int)) / 2) = ((a2 : Nat) : Int)) := fm 5 3 757196649910 [an (ne (na (nm 2 (nv 3)) (nv 4)) (na (nv 0) (nv 1))) (nl (na (nv 4) (nk 1)) (nk 2)), an (ie (ia (im 2 (iv 0)) (iv 1)) (ia (ca (nv 0)) (ca (nv 1)))) (an (il (ik 0) (iv 1)) (il (ia (iv 1) (ik 1)) (ik 2))), ne (nv 2) (nv 3)] (ie (iv 0) (ca (nv 2))) [a0, a1, a2, ((a0 + a1) / 2), ((a0 + a1) % 2)] [((((a0 : Nat) : Int) + ((a1 : Nat) : Int)) / 2), ((((a0 : Nat) : Int) + ((a1 : Nat) : Int)) % 2)] tt (md (a0 + a1) 2 (by decide)) (imd (((a0 : Nat) : Int) + ((a1 : Nat) : Int)) 2 (by decide))
theorem om121 {a0 a1 a2 : Nat} : a1 = ((a0 + a2) / 2) → a0 < a2 → (a0 ≤ a1) := fm 5 3 1875 [an (ne (na (nm 2 (nv 3)) (nv 4)) (na (nv 0) (nv 2))) (nl (na (nv 4) (nk 1)) (nk 2)), ne (nv 1) (nv 3), nl (na (nv 0) (nk 1)) (nv 2)] (nl (nv 0) (nv 1)) [a0, a1, a2, ((a0 + a2) / 2), ((a0 + a2) % 2)] [] tt (md (a0 + a2) 2 (by decide))
theorem om122 {a0 : Nat} : ((-(2 ^ 64)) < ((a0 : Nat) : Int)) := Int.natCast_nonneg _
theorem om123 {a0 : Nat} : a0 ≤ 5000 → (((a0 : Nat) : Int) < (2 ^ 64)) := fm 1 2 3 [nl (nv 0) (nk 5000)] (il (ia (ca (nv 0)) (ik 1)) (ik 18446744073709551616)) [a0] [] tt
theorem om124 {a0 a1 a2 : Nat} : a1 ≤ 100 → (((min a0 a1) - a2) ≤ 100) := fm 3 2 17974347 [nl (nv 1) (nk 100)] (nl (ns (nn (nv 0) (nv 1)) (nv 2)) (nk 100)) [a0, a1, a2] [] tt
theorem om125 {a0 : Nat} (h0 : a0 ≤ 5000) : ((a0 + 1) ≤ 5001) := Nat.lt_succ_of_le (by assumption)
theorem om126 {a0 a1 a2 a3 : Nat} : a0 = ((a1 + a2) / 2) → a3 ≤ 100 → a2 ≤ a3 → ((a0 - a1) ≤ 100) := fm 6 3 94148034994 [an (ne (na (nm 2 (nv 4)) (nv 5)) (na (nv 1) (nv 2))) (nl (na (nv 5) (nk 1)) (nk 2)), ne (nv 0) (nv 4), nl (nv 3) (nk 100), nl (nv 2) (nv 3)] (nl (ns (nv 0) (nv 1)) (nk 100)) [a0, a1, a2, a3, ((a1 + a2) / 2), ((a1 + a2) % 2)] [] tt (md (a1 + a2) 2 (by decide))
theorem om127 {a0 a1 a2 : Nat} : a0 ≤ (5000 + a2) → a1 ≤ (100 * 5000) → a2 ≤ (5001 * 100) → ((((a0 : Nat) : Int) + ((a1 : Nat) : Int)) ≤ 134217728) := fm 3 2 15 [nl (nv 0) (na (nk 5000) (nv 2)), nl (nv 1) (nk 500000), nl (nv 2) (nk 500100)] (il (ia (ca (nv 0)) (ca (nv 1))) (ik 134217728)) [a0, a1, a2] [] tt
theorem om131 {a0 a1 : Nat} : (((a1 : Nat) : Int) + 1) = ((a0 : Nat) : Int) → (a0 = (a1 + 1)) := fm 2 2 197 [ie (ia (ca (nv 1)) (ik 1)) (ca (nv 0))] (ne (nv 0) (na (nv 1) (nk 1))) [a0, a1] [] tt
theorem om132 {a0 a1 a2 : Nat} : (((a0 : Nat) : Int) + 1) = ((a2 : Nat) : Int) → a2 ≤ a1 → (a0 < a1) := fm 3 2 13 [ie (ia (ca (nv 0)) (ik 1)) (ca (nv 2)), nl (nv 2) (nv 1)] (nl (na (nv 0) (nk 1)) (nv 1)) [a0, a1, a2] [] tt
theorem om133 {a0 a1 a2 : Nat} : (((a0 : Nat) : Int) + 1) = ((a2 : Nat) : Int) → a2 ≤ a1 → (a0 ≤ a1) := fm 3 2 13 [ie (ia (ca (nv 0)) (ik 1)) (ca (nv 2)), nl (nv 2) (nv 1)] (nl (nv 0) (nv 1)) [a0, a1, a2] [] tt
theorem om134 {a0 a1 : Nat} : ((min a0 a1) ≤ a0) := Nat.min_le_left _ _
theorem om135 {a0 : Nat} : (((a0 + 1) + 1) ≤ ((a0 + 1) + 1)) := Nat.lt_succ_self _
theorem om136 {a0 a1 a2 a3 : Nat} : a1 = ((a3 + a0) / 2) → (a0 - a3) ≤ (a2 + 1) → a3 < a0 → (((a3 : Nat) : Int) + 1) ≠ ((a0 : Nat) : Int) → ((a0 - a1) ≤ a2) := fm 6 3 1455578354201995746123399828399314437760774519245875944900316 [an (ne (na (nm 2 (nv 4)) (nv 5)) (na (nv 3) (nv 0))) (nl (na (nv 5) (nk 1)) (nk 2)), ne (nv 1) (nv 4), nl (ns (nv 0) (nv 3)) (na (nv 2) (nk 1)), nl (na (nv 3) (nk 1)) (nv 0), no (ie (ia (ca (nv 3)) (ik 1)) (ca (nv 0)))] (nl (ns (nv 0) (nv 1)) (nv 2)) [a0, a1, a2, a3, ((a3 + a0) / 2), ((a3 + a0) % 2)] [] tt (md (a3 + a0) 2 (by decide))
theorem om137 {a0 a1 a2 : Nat} : a0 = ((a2 + a1) / 2) → a2 < a1 → (a0 < a1) := fm 5 3 178903 [an (ne (na (nm 2 (nv 3)) (nv 4)) (na (nv 2) (nv 1))) (nl (na (nv 4) (nk 1)) (nk 2)), ne (nv 0) (nv 3), nl (na (nv 2) (nk 1)) (nv 1)] (nl (na (nv 0) (nk 1)) (nv 1)) [a0, a1, a2, ((a2 + a1) / 2), ((a2 + a1) % 2)] [] tt (md (a2 + a1) 2 (by decide))
theorem om138 {a0 a1 a2 a3 : Nat} : a0 = ((a1 + a3) / 2) → (a3 - a1) ≤ (a2 + 1) → ((a0 - a1) ≤ a2) := fm 6 3 542731939174997123787284689 [an (ne (na (nm 2 (nv 4)) (nv 5)) (na (nv 1) (nv 3))) (nl (na (nv 5) (nk 1)) (nk 2)), ne (nv 0) (nv 4), nl (ns (nv 3) (nv 1)) (na (nv 2) (nk 1))] (nl (ns (nv 0) (nv 1)) (nv 2)) [a0, a1, a2, a3, ((a1 + a3) / 2), ((a1 + a3) % 2)] [] tt (md (a1 + a3) 2 (by decide))
theorem om139 {a0 a1 a2 : Nat} : a1 = ((a0 + a2) / 2) → a0 < a2 → (((a0 : Nat) : Int) + 1) ≠ ((a2 : Nat) : Int) → (a0 < a1) := fm 5 3 1549687233 [an (ne (na (nm 2 (nv 3)) (nv 4)) (na (nv 0) (nv 2))) (nl (na (nv 4) (nk 1)) (nk 2)), ne (nv 1) (nv 3), nl (na (nv 0) (nk 1)) (nv 2), no (ie (ia (ca (nv 0)) (ik 1)) (ca (nv 2)))] (nl (na (nv 0) (nk 1)) (nv 1)) [a0, a1, a2, ((a0 + a2) / 2), ((a0 + a2) % 2)] [] tt (md (a0 + a2) 2 (by decide))
theorem om140 {a0 a1 a2 a3 : Nat} : a0 = ((a2 + a3) / 2) → a3 ≤ a1 → a2 < a3 → (a0 ≤ a1) := fm 6 3 1599967 [an (ne (na (nm 2 (nv 4)) (nv 5)) (na (nv 2) (nv 3))) (nl (na (nv 5) (nk 1)) (nk 2)), ne (nv 0) (nv 4), nl (nv 3) (nv 1), nl (na (nv 2) (nk 1)) (nv 3)] (nl (nv 0) (nv 1)) [a0, a1, a2, a3, ((a2 + a3) / 2), ((a2 + a3) % 2)] [] tt (md (a2 + a3) 2 (by decide))
theorem om141 {a0 a1 a2 a3 : Nat} : a0 = ((a2 + a3) / 2) → a3 ≤ a1 → (((min a0 a1) - a2) = (a0 - a2)) := fm 6 3 63561250848829835751142632812278257736511519942651888626723921690069893769534730108967898937905668807936770146267793421 [an (ne (na (nm 2 (nv 4)) (nv 5)) (na (nv 2) (nv 3))) (nl (na (nv 5) (nk 1)) (nk 2)), ne (nv 0) (nv 4), nl (nv 3) (nv 1)] (ne (ns (nn (nv 0) (nv 1)) (nv 2)) (ns (nv 0) (nv 2))) [a0, a1, a2, a3, ((a2 + a3) / 2), ((a2 + a3) % 2)] [] tt (md (a2 + a3) 2 (by decide))
theorem om142 {a0 a1 a2 : Nat} : a0 = ((a2 + a1) / 2) → a2 < a1 → (a0 ≤ a1) := fm 5 3 178903 [an (ne (na (nm 2 (nv 3)) (nv 4)) (na (nv 2) (nv 1))) (nl (na (nv 4) (nk 1)) (nk 2)), ne (nv 0) (nv 3), nl (na (nv 2) (nk 1)) (nv 1)] (nl (nv 0) (nv 1)) [a0, a1, a2, ((a2 + a1) / 2), ((a2 + a1) % 2)] [] tt (md (a2 + a1) 2 (by decide))
theorem om154 {a0 : Nat} : (((a0 + 1) + 1) ≤ (a0 + 3)) := fm 1 2 1 [] (nl (na (na (nv 0) (nk 1)) (nk 1)) (na (nv 0) (nk 3))) [a0] [] tt
theorem om155 {a0 : Nat} : ((a0 - 0) ≤ a0) := Nat.sub_le _ _
theorem om158 {a0 : Nat} : ¬ ((0 : Nat) < a0) → (a0 = 0) := fm 1 2 30 [no (nl (na (nk 0) (nk 1)) (nv 0))] (ne (nv 0) (nk 0)) [a0] [] tt
theorem om159 {a0 a1 : Nat} : (((a0 + 1) + a1) = ((a0 + a1) + 1)) := fm 2 2 9 [] (ne (na (na (nv 0) (nk 1)) (nv 1)) (na (na (nv 0) (nv 1)) (nk 1))) [a0, a1] [] tt
theorem om160 {a0 a1 a2 : Int} : (a2 + a1) = a0 → (a0 = (a1 + a2)) := fm 0 2 53 [ie (ia (iv 2) (iv 1)) (iv 0)] (ie (iv 0) (ia (iv 1) (iv 2))) [] [a0, a1, a2] tt
theorem om161 {a0 a1 a2 : Nat} : (a0 + a2) ≤ a1 → (((min a0 a1) + (a2 + (a1 - (a0 + a2)))) = a1) := fm 3 2 6509472048677896 [nl (na (nv 0) (nv 2)) (nv 1)] (ne (na (nn (nv 0) (nv 1)) (na (nv 2) (ns (nv 1) (na (nv 0) (nv 2))))) (nv 1)) [a0, a1, a2] [] tt
theorem om162 {a0 a1 a2 a3 : Nat} : ((a0 + a2) + a3) ≤ a1 → ((min a0 a1) = a0) := fm 4 2 14238212 [nl (na (na (nv 0) (nv 2)) (nv 3)) (nv 1)] (ne (nn (nv 0) (nv 1)) (nv 0)) [a0, a1, a2, a3] [] tt
theorem om163 {a0 : Nat} : a0 < (2 ^ 63) → (((a0 : Nat) : Int) < (2 ^ 63)) := fm 1 2 3 [nl (na (nv 0) (nk 1)) (nk 9223372036854775808)] (il (ia (ca (nv 0)) (ik 1)) (ik 9223372036854775808)) [a0] [] tt
theorem om164 {a0 a1 a2 : Nat} : a0 ≤ a2 → a2 ≤ 100 → ((a0 - a1) ≤ 100) := fm 3 2 1067 [nl (nv 0) (nv 2), nl (nv 2) (nk 100)] (nl (ns (nv 0) (nv 1)) (nk 100)) [a0, a1, a2] [] tt
theorem om165 {a0 a1 a2 : Nat} : a0 ≤ a2 → a1 ≤ (100 * 5000) → a2 ≤ (5000 * 100) → ((((a0 : Nat) : Int) + ((a1 : Nat) : Int)) ≤ 134217728) := fm 3 2 15 [nl (nv 0) (nv 2), nl (nv 1) (nk 500000), nl (nv 2) (nk 500000)] (il (ia (ca (nv 0)) (ca (nv 1))) (ik 134217728)) [a0, a1, a2] [] tt
theorem om166 {a0 a1 : Nat} : (((a1 : Nat) : Int) + 1) = ((a0 : Nat) : Int) → ((a0 - a1) = 1) := fm 2 2 2118281 [ie (ia (ca (nv 1)) (ik 1)) (ca (nv 0))] (ne (ns (nv 0) (nv 1)) (nk 1)) [a0, a1] [] tt
theorem om167 {a0 a1 a2 a3 : Nat} : (((a0 : Nat) : Int) + 1) = ((a2 : Nat) : Int) → a1 = a3 → a2 ≤ a3 → (a0 < a1) := fm 4 2 57 [ie (ia (ca (nv 0)) (ik 1)) (ca (nv 2)), ne (nv 1) (nv 3), nl (nv 2) (nv 3)] (nl (na (nv 0) (nk 1)) (nv 1)) [a0, a1, a2, a3] [] tt
theorem om168 {a0 a1 a2 : Nat} : (((a0 : Nat) : Int) + 1) = ((a1 : Nat) : Int) → a2 ≤ 100 → a1 ≤ a2 → (a0 < (2 ^ 63)) := fm 3 2 29 [ie (ia (ca (nv 0)) (ik 1)) (ca (nv 1)), nl (nv 2) (nk 100), nl (nv 1) (nv 2)] (nl (na (nv 0) (nk 1)) (nk 9223372036854775808)) [a0, a1, a2] [] tt
theorem om169 {a0 a1 a2 a3 a4 a5 : Nat} : a1 = (a3 - a0) → a2 = a4 → a3 = ((a0 + a5) / 2) → a5 ≤ a4 → a0 < a5 → ((a0 + a1) ≤ a2) := fm 8 3 8053481720915902 [an (ne (na (nm 2 (nv 6)) (nv 7)) (na (nv 0) (nv 5))) (nl (na (nv 7) (nk 1)) (nk 2)), ne (nv 1) (ns (nv 3) (nv 0)), ne (nv 2) (nv 4), ne (nv 3) (nv 6), nl (nv 5) (nv 4), nl (na (nv 0) (nk 1)) (nv 5)] (nl (na (nv 0) (nv 1)) (nv 2)) [a0, a1, a2, a3, a4, a5, ((a0 + a5) / 2), ((a0 + a5) % 2)] [] tt (md (a0 + a5) 2 (by decide))
theorem om170 {a0 a1 a2 : Nat} : a1 = ((a2 + a0) / 2) → (((a0 - a1) + (a1 - a2)) = (a0 - a2)) := fm 5 3 102904322970271059981895366937503397360573989503880264113240776637628692551752097968718842410806055973878 [an (ne (na (nm 2 (nv 3)) (nv 4)) (na (nv 2) (nv 0))) (nl (na (nv 4) (nk 1)) (nk 2)), ne (nv 1) (nv 3)] (ne (na (ns (nv 0) (nv 1)) (ns (nv 1) (nv 2))) (ns (nv 0) (nv 2))) [a0, a1, a2, ((a2 + a0) / 2), ((a2 + a0) % 2)] [] tt (md (a2 + a0) 2 (by decide))
theorem om171 {a0 a1 a2 a3 a4 : Nat} : a2 = ((a1 + a0) / 2) → a3 = (a2 - a1) → a4 = (a0 - a2) → a1 < a0 → ((a0 - a1) = ((a2 - a1) + (a0 - a2))) := fm 7 3 320270479198124447422973455498950647486354963654949886441133535420766756805804210095485081269735853805689562562385830996689830987048621321503041778323379478551028805159908330179144603621431377081525914232318501858730336985854210158333790133437197519169984888579509089772905252487421717015896035914035696370996472376522175426132903655875974929878048517611235792119554578804183952800980388687178888083039281702163512460749219243997794562645885333170538373164063717024643542034664960125453038801778645553065917637910109355436629471543887405905508629355632543321623896219698550815766059219762098532766726176248113144769600232970114727205530291072892097330649267732030312534914030010598967950895499098835 [an (ne (na (nm 2 (nv 5)) (nv 6)) (na (nv 1) (nv 0))) (nl (na (nv 6) (nk 1)) (nk 2)), ne (nv 2) (nv 5), ne (nv 3) (ns (nv 2) (nv 1)), ne (nv 4) (ns (nv 0) (nv 2)), nl (na (nv 1) (nk 1)) (nv 0)] (ne (ns (nv 0) (nv 1)) (na (ns (nv 2) (nv 1)) (ns (nv 0) (nv 2)))) [a0, a1, a2, a3, a4, ((a1 + a0) / 2), ((a1 + a0) % 2)] [] tt (md (a1 + a0) 2 (by decide))
theorem om172 {a0 a1 a2 a3 a4 : Nat} : a0 = (a4 - a3) → a1 = (a2 - a4) → a4 = ((a3 + a2) / 2) → a3 < a2 → ((a0 + a1) = (a2 - a3)) := fm 7 3 349444740627038014320647690375128541794955564370501454863890043024594971221518803418106768633370867614984611556374786073644023038703080118242543841629304982 [an (ne (na (nm 2 (nv 5)) (nv 6)) (na (nv 3) (nv 2))) (nl (na (nv 6) (nk 1)) (nk 2)), ne (nv 0) (ns (nv 4) (nv 3)), ne (nv 1) (ns (nv 2) (nv 4)), ne (nv 4) (nv 5), nl (na (nv 3) (nk 1)) (nv 2)] (ne (na (nv 0) (nv 1)) (ns (nv 2) (nv 3))) [a0, a1, a2, a3, a4, ((a3 + a2) / 2), ((a3 + a2) % 2)] [] tt (md (a3 + a2) 2 (by decide))
theorem om173 {a0 a1 a2 a3 a4 a5 a6 : Nat} : a1 = (a4 - a0) → a2 = (a5 - a4) → a3 = a6 → a4 = ((a0 + a5) / 2) → a5 ≤ a6 → a0 < a5 → (((a0 + a1) + a2) ≤ a3) := fm 9 3 2909781039081258104752352719505532002056092 [an (ne (na (nm 2 (nv 7)) (nv 8)) (na (nv 0) (nv 5))) (nl (na (nv 8) (nk 1)) (nk 2)), ne (nv 1) (ns (nv 4) (nv 0)), ne (nv 2) (ns (nv 5) (nv 4)), ne (nv 3) (nv 6), ne (nv 4) (nv 7), nl (nv 5) (nv 6), nl (na (nv 0) (nk 1)) (nv 5)] (nl (na (na (nv 0) (nv 1)) (nv 2)) (nv 3)) [a0, a1, a2, a3, a4, a5, a6, ((a0 + a5) / 2), ((a0 + a5) % 2)] [] tt (md (a0 + a5) 2 (by decide))
theorem om174 {a0 a1 a2 : Nat} : a1 = ((a0 + a2) / 2) → a0 < a2 → ((a0 + (a1 - a0)) = a1) := fm 5 3 19415799150198157489149 [an (ne (na (nm 2 (nv 3)) (nv 4)) (na (nv 0) (nv 2))) (nl (na (nv 4) (nk 1)) (nk 2)), ne (nv 1) (nv 3), nl (na (nv 0) (nk 1)) (nv 2)] (ne (na (nv 0) (ns (nv 1) (nv 0))) (nv 1)) [a0, a1, a2, ((a0 + a2) / 2), ((a0 + a2) % 2)] [] tt (md (a0 + a2) 2 (by decide))
theorem om175 {a0 : Nat} : (0 : Nat) < a0 → (((0 + a0) - 1) < a0) := fm 1 2 84 [nl (na (nk 0) (nk 1)) (nv 0)] (nl (na (ns (na (nk 0) (nv 0)) (nk 1)) (nk 1)) (nv 0)) [a0] [] tt
theorem om176 {a0 : Nat} : (0 : Nat) < a0 → (((a0 : Nat) : Int) ≠ 0) := fm 1 2 3 [nl (na (nk 0) (nk 1)) (nv 0)] (no (ie (ca (nv 0)) (ik 0))) [a0] [] tt
theorem om177 {a0 a1 : Nat} : a0 ≤ (Int.natAbs ((a1 : Nat) : Int)) → a1 ≤ 5000 → (a0 < 9000) := fm 2 2 2702 [nl (nv 0) (ab (ca (nv 1))), nl (nv 1) (nk 5000)] (nl (na (nv 0) (nk 1)) (nk 9000)) [a0, a1] [] tt
theorem om178 {a0 a1 : Nat} : (0 : Nat) < a1 → (1 ≤ (a0 + a1)) := fm 2 2 7 [nl (na (nk 0) (nk 1)) (nv 1)] (nl (nk 1) (na (nv 0) (nv 1))) [a0, a1] [] tt
theorem om179 {a0 a1 a2 a3 : Nat} : (a1 + a2) = ((a0 + a3) - 1) → a2 < a3 → (a0 ≤ a1) := fm 4 2 14876 [ne (na (nv 1) (nv 2)) (ns (na (nv 0) (nv 3)) (nk 1)), nl (na (nv 2) (nk 1)) (nv 3)] (nl (nv 0) (nv 1)) [a0, a1, a2, a3] [] tt
theorem om180 {a0 : Int} {a1 : Nat} : (Int.natAbs a0) < a1 → (a0 < ((a1 : Nat) : Int)) := fm 1 3 1146 [nl (na (ab (iv 0)) (nk 1)) (nv 0)] (il (ia (iv 0) (ik 1)) (ca (nv 0))) [a1] [a0] tt
theorem om193 {a0 : Nat} : a0 ≤ 100 → (((a0 + 1) + 1) ≤ 104) := fm 1 2 3 [nl (nv 0) (nk 100)] (nl (na (na (nv 0) (nk 1)) (nk 1)) (nk 104)) [a0] [] tt
theorem om199 {a0 : Int} : (0 : Int) ≤ a0 → a0 < (2 ^ 0) → (a0 = 0) := fm 0 2 53 [il (ik 0) (iv 0), il (ia (iv 0) (ik 1)) (ik 1)] (ie (iv 0) (ik 0)) [] [a0] tt
theorem om202 {a0 a1 a2 a3 a4 a5 a6 : Int} : (a4 + a6) = (a0 + a2) → (a6 + a1) = (a3 + a5) → ((a0 + (a1 + a2)) = ((a3 + a4) + a5)) := fm 0 2 729 [ie (ia (iv 4) (iv 6)) (ia (iv 0) (iv 2)), ie (ia (iv 6) (iv 1)) (ia (iv 3) (iv 5))] (ie (ia (iv 0) (ia (iv 1) (iv 2))) (ia (ia (iv 3) (iv 4)) (iv 5))) [] [a0, a1, a2, a3, a4, a5, a6] tt
theorem om203 {a0 a1 : Int} (h0 : a0 < a1) : (a0 ≤ (a1 - 1)) := Int.le_sub_one_of_lt (by assumption)
theorem om204 {a0 a1 : Int} (h0 : (0 : Int) ≤ a0) (h1 : (0 : Int) ≤ a1) : (0 ≤ (a0 + a1)) := Int.add_nonneg (by assumption) (by assumption)
theorem om205 {a0 a1 a2 a3 : Int} : a0 ≤ (a2 - a3) → a1 < a3 → ((a0 + a1) < a2) := fm 0 2 7 [il (iv 0) (is (iv 2) (iv 3)), il (ia (iv 1) (ik 1)) (iv 3)] (il (ia (ia (iv 0) (iv 1)) (ik 1)) (iv 2)) [] [a0, a1, a2, a3] tt
theorem om206 {a0 : Int} : (0 : Int) ≤ a0 → a0 < 1 → ((0 : Int) = a0) := fm 0 2 46 [il (ik 0) (iv 0), il (ia (iv 0) (ik 1)) (ik 1)] (ie (ik 0) (iv 0)) [] [a0] tt
theorem om207 {a0 : Nat} (h0 : (2 : Nat) ≤ a0) : ((0 : Nat) < a0) := Nat.le_of_lt (by assumption)
theorem om208 {a0 : Nat} : a0 < 4600 → (a0 ≤ 5000) := fm 1 2 3 [nl (na (nv 0) (nk 1)) (nk 4600)] (nl (nv 0) (nk 5000)) [a0] [] tt
theorem om209 {a0 a1 : Nat} : a0 = a1 → (2 : Nat) ≤ a0 → ((a0 - 1) < a1) := fm 2 2 1553 [ne (nv 0) (nv 1), nl (nk 2) (nv 0)] (nl (na (ns (nv 0) (nk 1)) (nk 1)) (nv 1)) [a0, a1] [] tt
theorem om210 {a0 : Nat} {a1 : Int} : (0 : Int) < a1 → ¬ ((Int.natAbs a1) < a0) → (((a0 : Nat) : Int) ≤ a1) := fm 1 2 108 [il (ia (ik 0) (ik 1)) (iv 0), no (nl (na (ab (iv 0)) (nk 1)) (nv 0))] (il (ca (nv 0)) (iv 0)) [a0] [a1] tt
theorem om211 {a0 a1 a2 : Nat} : a2 = a1 → a0 < a2 → (a0 < a1) := fm 3 2 13 [ne (nv 2) (nv 1), nl (na (nv 0) (nk 1)) (nv 2)] (nl (na (nv 0) (nk 1)) (nv 1)) [a0, a1, a2] [] tt
theorem om212 {a0 a1 : Nat} : a0 ≤ a1 → a1 < 4600 → ((((a0 : Nat) : Int) + ((a1 : Nat) : Int)) ≤ 134217728) := fm 2 3 16 [nl (nv 0) (nv 1), nl (na (nv 1) (nk 1)) (nk 4600)] (il (ia (ca (nv 0)) (ca (nv 1))) (ik 134217728)) [a0, a1] [] tt
theorem om213 {a0 a1 : Nat} (h0 : a1 ≤ 100) : ((min a0 a1) ≤ 100) := Nat.le_trans (Nat.min_le_right _ _) (by assumption)
theorem om217 {a0 : Nat} : a0 ≤ 100 → (((a0 + 3) + 1) ≤ 106) := fm 1 2 3 [nl (nv 0) (nk 100)] (nl (na (na (nv 0) (nk 3)) (nk 1)) (nk 106)) [a0] [] tt
theorem om219 {a0 : Int} : (0 : Int) ≤ a0 → (¬ (a0 < 0)) := fm 0 2 3 [il (ik 0) (iv 0)] (no (il (ia (iv 0) (ik 1)) (ik 0))) [] [a0] tt
theorem om220 {a0 : Int} : a0 = 0 → (0 : Int) < a0 → False := fm 0 2 5 [ie (iv 0) (ik 0), il (ia (ik 0) (ik 1)) (iv 0)] ff [] [a0] tt
theorem om221 {a0 : Int} : (0 : Int) ≤ a0 → a0 < 1000000 → (((-1000000) < a0) ∧ (a0 < 1000000)) := fm 0 2 53 [il (ik 0) (iv 0), il (ia (iv 0) (ik 1)) (ik 1000000)] (an (il (ia (ig (ik 1000000)) (ik 1)) (iv 0)) (il (ia (iv 0) (ik 1)) (ik 1000000))) [] [a0] tt
theorem om222 {a0 : Int} : (0 : Int) ≤ a0 → a0 < 1000000 → (((-1000000) < (-a0)) ∧ ((-a0) < 1000000)) := fm 0 2 46 [il (ik 0) (iv 0), il (ia (iv 0) (ik 1)) (ik 1000000)] (an (il (ia (ig (ik 1000000)) (ik 1)) (ig (iv 0))) (il (ia (ig (iv 0)) (ik 1)) (ik 1000000))) [] [a0] tt
theorem om225 {a0 a1 : Nat} : a1 ≤ 1000 → ((min a0 a1) ≤ 16777216) := fm 2 2 167 [nl (nv 1) (nk 1000)] (nl (nn (nv 0) (nv 1)) (nk 16777216)) [a0, a1] [] tt
theorem om227 {a0 a1 a2 : Nat} : a0 ≤ (min a1 a2) → a2 ≤ 1000 → (a0 ≤ 16777216) := fm 3 2 1807 [nl (nv 0) (nn (nv 1) (nv 2)), nl (nv 2) (nk 1000)] (nl (nv 0) (nk 16777216)) [a0, a1, a2] [] tt
theorem om228 {a0 a1 : Nat} : a0 ≤ 1000 → a1 ≤ a0 → ((a0 + a1) ≤ 16777216) := fm 2 3 14 [nl (nv 0) (nk 1000), nl (nv 1) (nv 0)] (nl (na (nv 0) (nv 1)) (nk 16777216)) [a0, a1] [] tt
theorem om229 {a0 : Nat} (h0 : a0 ≤ 40) : (a0 ≤ 16777214) := Nat.le_trans (by assumption) (by decide)
theorem om230 {a0 : Nat} (h0 : a0 ≤ 1000) : (a0 ≤ 16777216) := Nat.le_trans (by assumption) (by decide)
theorem om232 {a0 : Int} : (0 : Int) ≤ a0 → a0 < 3 → ((a0 = 0) ∨ ((a0 = 1) ∨ (a0 = 2))) := fm 0 2 644660499621 [il (ik 0) (iv 0), il (ia (iv 0) (ik 1)) (ik 3)] (or (ie (iv 0) (ik 0)) (or (ie (iv 0) (ik 1)) (ie (iv 0) (ik 2)))) [] [a0] tt
theorem om233 {a0 : Nat} : (a0 + (10 * 130)) < 9900 → ((a0 + 64) < 9000) := fm 1 2 3 [nl (na (na (nv 0) (nk 1300)) (nk 1)) (nk 9900)] (nl (na (na (nv 0) (nk 64)) (nk 1)) (nk 9000)) [a0] [] tt
theorem om296 {a0 : Int} : (-1000000) < a0 → a0 < 0 → ((0 ≤ (-a0)) ∧ ((-a0) < 1000000)) := fm 0 2 46 [il (ia (ig (ik 1000000)) (ik 1)) (iv 0), il (ia (iv 0) (ik 1)) (ik 0)] (an (il (ik 0) (ig (iv 0))) (il (ia (ig (iv 0)) (ik 1)) (ik 1000000))) [] [a0] tt
theorem om297 {a0 : Int} : a0 < 1000000 → ¬ (a0 < 0) → (((0 : Int) ≤ a0) ∧ (a0 < 1000000)) := fm 0 2 46 [il (ia (iv 0) (ik 1)) (ik 1000000), no (il (ia (iv 0) (ik 1)) (ik 0))] (an (il (ik 0) (iv 0)) (il (ia (iv 0) (ik 1)) (ik 1000000))) [] [a0] tt
theorem om298 {a0 a1 : Int} : a0 = (1 + a1) → (0 : Int) ≤ a1 → a1 < 3 → (((1 : Int) ≤ a0) ∧ (a0 ≤ 3)) := fm 0 2 822 [ie (iv 0) (ia (ik 1) (iv 1)), il (ik 0) (iv 1), il (ia (iv 1) (ik 1)) (ik 3)] (an (il (ik 1) (iv 0)) (il (iv 0) (ik 3))) [] [a0, a1] tt
theorem om299 {a0 a1 a2 a3 : Int} : a0 = (1 + a2) → a1 = ((1 + a2) + a3) → (0 : Int) ≤ a3 → a3 < 2 → ((a0 ≤ a1) ∧ (a1 ≤ (a0 + 1))) := fm 0 2 13145 [ie (iv 0) (ia (ik 1) (iv 2)), ie (iv 1) (ia (ia (ik 1) (iv 2)) (iv 3)), il (ik 0) (iv 3), il (ia (iv 3) (ik 1)) (ik 2)] (an (il (iv 0) (iv 1)) (il (iv 1) (ia (iv 0) (ik 1)))) [] [a0, a1, a2, a3] tt
theorem om300 {a0 a1 a2 a3 a4 : Int} : a0 = ((1 + a2) + a3) → a1 = (((1 + a2) + a3) + a4) → (0 : Int) ≤ a4 → a4 < 2 → ((a0 ≤ a1) ∧ (a1 ≤ (a0 + 1))) := fm 0 2 13145 [ie (iv 0) (ia (ia (ik 1) (iv 2)) (iv 3)), ie (iv 1) (ia (ia (ia (ik 1) (iv 2)) (iv 3)) (iv 4)), il (ik 0) (iv 4), il (ia (iv 4) (ik 1)) (ik 2)] (an (il (iv 0) (iv 1)) (il (iv 1) (ia (iv 0) (ik 1)))) [] [a0, a1, a2, a3, a4] tt
theorem om302 {a0 a1 a2 : Nat} : (a0 ≤ ((a0 + a1) + a2)) := fm 3 2 13 [] (nl (nv 0) (na (na (nv 0) (nv 1)) (nv 2))) [a0, a1, a2] [] tt
theorem om303 {a0 a1 a2 : Nat} : ((a0 + (a1 + a2)) ≤ ((a0 + a1) + a2)) := fm 3 2 1 [] (nl (na (nv 0) (na (nv 1) (nv 2))) (na (na (nv 0) (nv 1)) (nv 2))) [a0, a1, a2] [] tt
theorem om304 {a0 a1 : Nat} : ((a0 + (a1 + 1)) = ((a0 + 1) + a1)) := fm 2 2 9 [] (ne (na (nv 0) (na (nv 1) (nk 1))) (na (na (nv 0) (nk 1)) (nv 1))) [a0, a1] [] tt
theorem om305 : (((32 : Nat) ≤ 45) ∧ ((45 : Nat) < 127)) := by decide
theorem om306 {a0 : Int} : (65 : Int) ≤ a0 → a0 < 81 → ((32 ≤ (Int.toNat a0)) ∧ ((Int.toNat a0) < 127)) := fm 0 2 35417 [il (ik 65) (iv 0), il (ia (iv 0) (ik 1)) (ik 81)] (an (nl (nk 32) (tn (iv 0))) (nl (na (tn (iv 0)) (nk 1)) (nk 127))) [] [a0] tt
theorem om307 {a0 : Int} (h0 : a0 < 1000000) : (a0 ≤ 1000000) := Int.le_of_lt (by assumption)
theorem om308 {a0 : Int} (h0 : (-1000000) < a0) : ((-1000000) ≤ a0) := Int.le_of_lt (by assumption)
theorem om309 {a0 : Int} {a1 : Nat} (h0 : (((a1 : Nat) : Int) * (-1000000)) ≤ a0) (h1 : a0 ≤ (((a1 : Nat) : Int) * 1000000)) (h2 : a1 ≤ 12) : (((-12000000) ≤ a0) ∧ (a0 ≤ 12000000)) := by lia
theorem om310 {a0 : Int} : (a0 = 1) ∨ ((a0 = 2) ∨ (a0 = 3)) → (((1 : Int) ≤ a0) ∧ (a0 ≤ 3)) := fm 0 2 191406 [or (ie (iv 0) (ik 1)) (or (ie (iv 0) (ik 2)) (ie (iv 0) (ik 3)))] (an (il (ik 1) (iv 0)) (il (iv 0) (ik 3))) [] [a0] tt
theorem om311 {a0 a1 : Int} : (0 : Int) ≤ a0 → (1 : Int) ≤ a1 → ((-(2 ^ 130)) < (a0 + a1)) := fm 0 2 7 [il (ik 0) (iv 0), il (ik 1) (iv 1)] (il (ia (ig (ik 1361129467683753853853498429727072845824)) (ik 1)) (ia (iv 0) (iv 1))) [] [a0, a1] tt
theorem om312 {a0 a1 : Int} : a1 ≤ 3 → a0 < 1000000 → ((a0 + a1) < (2 ^ 130)) := fm 0 2 7 [il (iv 1) (ik 3), il (ia (iv 0) (ik 1)) (ik 1000000)] (il (ia (ia (iv 0) (iv 1)) (ik 1)) (ik 1361129467683753853853498429727072845824)) [] [a0, a1] tt
theorem om325 {a0 : Nat} : a0 < 3 → ((a0 = 0) ∨ ((a0 = 1) ∨ (a0 = 2))) := fm 1 2 322330368306 [nl (na (nv 0) (nk 1)) (nk 3)] (or (ne (nv 0) (nk 0)) (or (ne (nv 0) (nk 1)) (ne (nv 0) (nk 2)))) [a0] [] tt
theorem om329 {a0 a1 : Nat} {a2 a3 a4 : Int} : (1 : Int) ≤ a2 → a2 ≤ 3 → a3 ≤ (a2 + 1) → a4 ≤ (a3 + 1) → a0 ≤ (((Int.toNat a2) + (Int.toNat a3)) + (Int.toNat a4)) → a1 ≤ 5 → ((a0 + a1) ≤ 16777216) := fm 2 4 96155121454566622428442259874710078611183100898918508 [il (ik 1) (iv 0), il (iv 0) (ik 3), il (iv 1) (ia (iv 0) (ik 1)), il (iv 2) (ia (iv 1) (ik 1)), nl (nv 0) (na (na (tn (iv 0)) (tn (iv 1))) (tn (iv 2))), nl (nv 1) (nk 5)] (nl (na (nv 0) (nv 1)) (nk 16777216)) [a0, a1] [a2, a3, a4] tt
theorem om336 {a0 a1 a2 : Int} : a0 ≤ (a1 + 1) → a2 ≤ 3 → a1 ≤ (a2 + 1) → (a0 ≤ 1000000) := fm 0 2 15 [il (iv 0) (ia (iv 1) (ik 1)), il (iv 2) (ik 3), il (iv 1) (ia (iv 2) (ik 1))] (il (iv 0) (ik 1000000)) [] [a0, a1, a2] tt
theorem om337 {a0 a1 a2 : Int} : (1 : Int) ≤ a1 → a1 ≤ a2 → a2 ≤ a0 → ((0 + (((Int.toNat a0) : Nat) : Int)) = a0) := fm 0 2 507408 [il (ik 1) (iv 1), il (iv 1) (iv 2), il (iv 2) (iv 0)] (ie (ia (ik 0) (ca (tn (iv 0)))) (iv 0)) [] [a0, a1, a2] tt
theorem om339 {a0 : Nat} {a1 a2 a3 : Int} : (1 : Int) ≤ a1 → a1 ≤ 3 → a2 ≤ (a1 + 1) → a3 ≤ (a2 + 1) → a0 ≤ (((Int.toNat a1) + (Int.toNat a2)) + (Int.toNat a3)) → (a0 ≤ 12) := fm 1 4 358206061363318837449343853661485396188545132 [il (ik 1) (iv 0), il (iv 0) (ik 3), il (iv 1) (ia (iv 0) (ik 1)), il (iv 2) (ia (iv 1) (ik 1)), nl (nv 0) (na (na (tn (iv 0)) (tn (iv 1))) (tn (iv 2)))] (nl (nv 0) (nk 12)) [a0] [a1, a2, a3] tt
theorem om340 {a0 a1 : Nat} : a1 ≤ 12 → ((min a0 a1) ≤ 16777216) := fm 2 2 167 [nl (nv 1) (nk 12)] (nl (nn (nv 0) (nv 1)) (nk 16777216)) [a0, a1] [] tt
theorem om341 {a0 a1 : Nat} : a1 ≤ 12 → a0 < a1 → (((a0 : Nat) : Int) < (2 ^ 64)) := fm 2 2 7 [nl (nv 1) (nk 12), nl (na (nv 0) (nk 1)) (nv 1)] (il (ia (ca (nv 0)) (ik 1)) (ik 18446744073709551616)) [a0, a1] [] tt
theorem om342 {a0 a1 : Nat} : a1 ≤ 12 → a0 < a1 → (a0 ≤ 12) := fm 2 2 7 [nl (nv 1) (nk 12), nl (na (nv 0) (nk 1)) (nv 1)] (nl (nv 0) (nk 12)) [a0, a1] [] tt
theorem om343 {a0 a1 : Int} : (-12000000) ≤ a1 → (-1000000) < a0 → ((-(2 ^ 130)) < (a0 + a1)) := fm 0 2 7 [il (ig (ik 12000000)) (iv 1), il (ia (ig (ik 1000000)) (ik 1)) (iv 0)] (il (ia (ig (ik 1361129467683753853853498429727072845824)) (ik 1)) (ia (iv 0) (iv 1))) [] [a0, a1] tt
theorem om344 {a0 a1 : Int} : a1 ≤ 12000000 → a0 < 1000000 → ((a0 + a1) < (2 ^ 130)) := fm 0 2 7 [il (iv 1) (ik 12000000), il (ia (iv 0) (ik 1)) (ik 1000000)] (il (ia (ia (iv 0) (iv 1)) (ik 1)) (ik 1361129467683753853853498429727072845824)) [] [a0, a1] tt
theorem om358 {a0 : Int} : (1 : Int) ≤ a0 → a0 ≤ 3 → (((0 : Int) ≤ a0) ∧ (a0 ≤ 5)) := fm 0 2 53 [il (ik 1) (iv 0), il (iv 0) (ik 3)] (an (il (ik 0) (iv 0)) (il (iv 0) (ik 5))) [] [a0] tt
theorem om359 {a0 a1 : Int} : (1 : Int) ≤ a1 → a0 ≤ (a1 + 1) → a1 ≤ 3 → a1 ≤ a0 → (((0 : Int) ≤ a0) ∧ (a0 ≤ 5)) := fm 0 2 729 [il (ik 1) (iv 1), il (iv 0) (ia (iv 1) (ik 1)), il (iv 1) (ik 3), il (iv 1) (iv 0)] (an (il (ik 0) (iv 0)) (il (iv 0) (ik 5))) [] [a0, a1] tt
theorem om360 {a0 a1 a2 : Int} : (1 : Int) ≤ a1 → a0 ≤ (a2 + 1) → a1 ≤ 3 → a1 ≤ a2 → a2 ≤ (a1 + 1) → a2 ≤ a0 → (((0 : Int) ≤ a0) ∧ (a0 ≤ 5)) := fm 0 2 11113 [il (ik 1) (iv 1), il (iv 0) (ia (iv 2) (ik 1)), il (iv 1) (ik 3), il (iv 1) (iv 2), il (iv 2) (ia (iv 1) (ik 1)), il (iv 2) (iv 0)] (an (il (ik 0) (iv 0)) (il (iv 0) (ik 5))) [] [a0, a1, a2] tt
theorem om361 {a0 : Nat} : ((Int.toNat (0 + ((a0 : Nat) : Int))) = a0) := fm 1 2 3282 [] (ne (tn (ia (ik 0) (ca (nv 0)))) (nv 0)) [a0] [] tt
theorem om362 {a0 : Nat} : (0 ≤ (0 + ((a0 : Nat) : Int))) := Int.natCast_nonneg _
theorem om363 {a0 : Nat} : a0 < 3 → ((0 + ((a0 : Nat) : Int)) < 1000) := fm 1 2 3 [nl (na (nv 0) (nk 1)) (nk 3)] (il (ia (ia (ik 0) (ca (nv 0))) (ik 1)) (ik 1000)) [a0] [] tt
theorem om364 {a0 : Int} : a0 ≤ 5 → (a0 ≤ 1000000) := fm 0 2 3 [il (iv 0) (ik 5)] (il (iv 0) (ik 1000000)) [] [a0] tt
theorem om365 {a0 : Int} : (0 : Int) ≤ a0 → ((0 + (((Int.toNat a0) : Nat) : Int)) = a0) := fm 0 2 2980 [il (ik 0) (iv 0)] (ie (ia (ik 0) (ca (tn (iv 0)))) (iv 0)) [] [a0] tt
theorem om366 {a0 : Nat} {a1 : Int} : a1 ≤ 5 → a0 < (Int.toNat a1) → ((a0 + 1) ≤ 5) := fm 1 2 397 [il (iv 0) (ik 5), nl (na (nv 0) (nk 1)) (tn (iv 0))] (nl (na (nv 0) (nk 1)) (nk 5)) [a0] [a1] tt
theorem om367 {a0 : Int} : (0 : Int) ≤ a0 → ((-(2 ^ 130)) < (a0 + 1)) := fm 0 2 3 [il (ik 0) (iv 0)] (il (ia (ig (ik 1361129467683753853853498429727072845824)) (ik 1)) (ia (iv 0) (ik 1))) [] [a0] tt
theorem om368 {a0 : Int} : a0 < 1000000 → ((a0 + 1) < (2 ^ 130)) := fm 0 2 3 [il (ia (iv 0) (ik 1)) (ik 1000000)] (il (ia (ia (iv 0) (ik 1)) (ik 1)) (ik 1361129467683753853853498429727072845824)) [] [a0] tt
theorem om369 {a0 : Int} : (0 : Int) ≤ a0 → ((-(2 ^ 130)) < (a0 + 2)) := fm 0 2 3 [il (ik 0) (iv 0)] (il (ia (ig (ik 1361129467683753853853498429727072845824)) (ik 1)) (ia (iv 0) (ik 2))) [] [a0] tt
theorem om370 {a0 : Int} : a0 < 1000000 → ((a0 + 2) < (2 ^ 130)) := fm 0 2 3 [il (ia (iv 0) (ik 1)) (ik 1000000)] (il (ia (ia (iv 0) (ik 2)) (ik 1)) (ik 1361129467683753853853498429727072845824)) [] [a0] tt
theorem om371 {a0 : Int} : (0 : Int) ≤ a0 → ((-(2 ^ 130)) < (a0 + 3)) := fm 0 2 3 [il (ik 0) (iv 0)] (il (ia (ig (ik 1361129467683753853853498429727072845824)) (ik 1)) (ia (iv 0) (ik 3))) [] [a0] tt
theorem om372 {a0 : Int} : a0 < 1000000 → ((a0 + 3) < (2 ^ 130)) := fm 0 2 3 [il (ia (iv 0) (ik 1)) (ik 1000000)] (il (ia (ia (iv 0) (ik 3)) (ik 1)) (ik 1361129467683753853853498429727072845824)) [] [a0] tt
theorem om373 {a0 : Nat} (h0 : (a0 % 2) = 0) : (((0 + ((a0 : Nat) : Int)) % 2) = 0) := by lia
theorem om374 {a0 : Nat} (h0 : ((0 + ((a0 : Nat) : Int)) % 2) = 0) : ((a0 % 2) = 0) := by lia
theorem om378 {a0 a1 : Nat} : ((a0 + (a1 + 1)) = ((a0 + a1) + 1)) := fm 2 2 9 [] (ne (na (nv 0) (na (nv 1) (nk 1))) (na (na (nv 0) (nv 1)) (nk 1))) [a0, a1] [] tt
theorem om379 {a0 a1 a2 : Nat} : (a0 + a1) = a2 → ((a0 + (a1 - 1)) ≤ a2) := fm 3 2 5257 [ne (na (nv 0) (nv 1)) (nv 2)] (nl (na (nv 0) (ns (nv 1) (nk 1))) (nv 2)) [a0, a1, a2] [] tt
theorem om380 {a0 : Int} : (((a0 + ((0 : Nat) : Int)) + 1) = (a0 + 1)) := fm 0 2 3 [] (ie (ia (ia (iv 0) (ik 0)) (ik 1)) (ia (iv 0) (ik 1))) [] [a0] tt
theorem om381 {a0 : Int} : (((a0 + ((1 : Nat) : Int)) + 1) = (a0 + 2)) := fm 0 2 3 [] (ie (ia (ia (iv 0) (ik 1)) (ik 1)) (ia (iv 0) (ik 2))) [] [a0] tt
theorem om382 {a0 : Int} : (((a0 + ((2 : Nat) : Int)) + 1) = (a0 + 3)) := fm 0 2 3 [] (ie (ia (ia (iv 0) (ik 2)) (ik 1)) (ia (iv 0) (ik 3))) [] [a0] tt
theorem om383 {a0 : Nat} : ((min a0 3) ≤ 16777216) := fm 1 2 19 [] (nl (nn (nv 0) (nk 3)) (nk 16777216)) [a0] [] tt
theorem om386 {a0 : Nat} (h0 : a0 ≤ 1) : ((max 0 a0) ≤ 1) := Nat.le_trans (by assumption) (by decide)
theorem om387 {a0 : Nat} (h0 : a0 ≤ 1) : ((a0 + 1) ≤ 64) := Nat.lt_of_le_of_lt (by assumption) (by decide)
theorem om388 : (((-(2 ^ 62)) : Int) ≤ 0) := Int.natCast_nonneg _
theorem om389 : ((0 : Int) < (2 ^ 62)) := Int.natCast_nonneg _
theorem om390 {a0 : Int} : (-1000000) ≤ a0 → ((-(2 ^ 62)) ≤ a0) := fm 0 2 3 [il (ig (ik 1000000)) (iv 0)] (il (ig (ik 4611686018427387904)) (iv 0)) [] [a0] tt
theorem om391 {a0 : Int} : a0 ≤ 1000000 → (a0 < (2 ^ 62)) := fm 0 2 3 [il (iv 0) (ik 1000000)] (il (ia (iv 0) (ik 1)) (ik 4611686018427387904)) [] [a0] tt
theorem om392 {a0 : Int} {a1 : Nat} : a1 = (Int.toNat a0) → (0 : Int) < a0 → ((a0 - 0) = ((a1 : Nat) : Int)) := fm 1 2 2397458 [ne (nv 0) (tn (iv 0)), il (ia (ik 0) (ik 1)) (iv 0)] (ie (is (iv 0) (ik 0)) (ca (nv 0))) [a1] [a0] tt
theorem om393 {a0 : Nat} {a1 : Int} : a0 = (Int.toNat a1) → ¬ ((0 : Int) < a1) → (0 = ((a0 : Nat) : Int)) := fm 1 2 5317978 [ne (nv 0) (tn (iv 0)), no (il (ia (ik 0) (ik 1)) (iv 0))] (ie (ik 0) (ca (nv 0))) [a0] [a1] tt
theorem om394 {a0 : Nat} (h0 : a0 ≤ 12) : (a0 ≤ 1000) := Nat.le_trans (by assumption) (by decide)
theorem om395 {a0 : Nat} (h0 : a0 ≤ 11) : (a0 ≤ 12) := Nat.le_succ_of_le (by assumption)
theorem om396 {a0 : Int} {a1 : Nat} {a2 a3 : Int} : a2 ≤ (a0 + 1) → a3 ≤ (a2 + 1) → ((a1 : Nat) : Int) < a3 → ((-1000000) ≤ ((a0 - 1) - (0 + ((a1 : Nat) : Int)))) := fm 1 2 15 [il (iv 1) (ia (iv 0) (ik 1)), il (iv 2) (ia (iv 1) (ik 1)), il (ia (ca (nv 0)) (ik 1)) (iv 2)] (il (ig (ik 1000000)) (is (is (iv 0) (ik 1)) (ia (ik 0) (ca (nv 0))))) [a1] [a0, a2, a3] tt
theorem om397 {a0 : Int} {a1 : Nat} : a0 ≤ 3 → (((a0 - 1) - (0 + ((a1 : Nat) : Int))) ≤ 1000000) := fm 1 2 7 [il (iv 0) (ik 3)] (il (is (is (iv 0) (ik 1)) (ia (ik 0) (ca (nv 0)))) (ik 1000000)) [a1] [a0] tt
theorem om398 {a0 a1 : Nat} {a2 a3 a4 : Int} {a5 : Nat} : a2 ≤ 3 → a3 ≤ (a2 + 1) → a4 ≤ (a3 + 1) → a0 ≤ (((Int.toNat ((a2 - 1) - (0 + ((a5 : Nat) : Int)))) + (Int.toNat ((a3 - 1) - (0 + ((a5 : Nat) : Int))))) + (Int.toNat ((a4 - 1) - (0 + ((a5 : Nat) : Int))))) → a1 ≤ 8 → ((a0 + a1) ≤ 16777216) := fm 3 4 32182408278277942044281556157600613942989224733304770587 [il (iv 0) (ik 3), il (iv 1) (ia (iv 0) (ik 1)), il (iv 2) (ia (iv 1) (ik 1)), nl (nv 0) (na (na (tn (is (is (iv 0) (ik 1)) (ia (ik 0) (ca (nv 2))))) (tn (is (is (iv 1) (ik 1)) (ia (ik 0) (ca (nv 2)))))) (tn (is (is (iv 2) (ik 1)) (ia (ik 0) (ca (nv 2)))))), nl (nv 1) (nk 8)] (nl (na (nv 0) (nv 1)) (nk 16777216)) [a0, a1, a5] [a2, a3, a4] tt
theorem om399 {a0 : Nat} {a1 : Int} {a2 : Nat} : a1 ≤ 3 → a0 < (Int.toNat ((a1 - 1) - (0 + ((a2 : Nat) : Int)))) → ((a0 + 1) ≤ 8) := fm 2 2 813 [il (iv 0) (ik 3), nl (na (nv 0) (nk 1)) (tn (is (is (iv 0) (ik 1)) (ia (ik 0) (ca (nv 1)))))] (nl (na (nv 0) (nk 1)) (nk 8)) [a0, a2] [a1] tt
theorem om400 {a0 : Int} {a1 : Nat} {a2 : Int} : a2 ≤ (a0 + 1) → ((a1 : Nat) : Int) < a2 → ((-1000000) ≤ ((a0 - 1) - (0 + ((a1 : Nat) : Int)))) := fm 1 2 7 [il (iv 1) (ia (iv 0) (ik 1)), il (ia (ca (nv 0)) (ik 1)) (iv 1)] (il (ig (ik 1000000)) (is (is (iv 0) (ik 1)) (ia (ik 0) (ca (nv 0))))) [a1] [a0, a2] tt
theorem om401 {a0 : Int} {a1 : Nat} {a2 : Int} : a0 ≤ (a2 + 1) → a2 ≤ 3 → (((a0 - 1) - (0 + ((a1 : Nat) : Int))) ≤ 1000000) := fm 1 2 15 [il (iv 0) (ia (iv 1) (ik 1)), il (iv 1) (ik 3)] (il (is (is (iv 0) (ik 1)) (ia (ik 0) (ca (nv 0)))) (ik 1000000)) [a1] [a0, a2] tt
theorem om402 {a0 : Nat} {a1 a2 : Int} {a3 : Nat} : a1 ≤ 3 → a2 ≤ (a1 + 1) → a0 < (Int.toNat ((a2 - 1) - (0 + ((a3 : Nat) : Int)))) → ((a0 + 1) ≤ 8) := fm 2 2 3163 [il (iv 0) (ik 3), il (iv 1) (ia (iv 0) (ik 1)), nl (na (nv 0) (nk 1)) (tn (is (is (iv 1) (ik 1)) (ia (ik 0) (ca (nv 1)))))] (nl (na (nv 0) (nk 1)) (nk 8)) [a0, a3] [a1, a2] tt
theorem om403 {a0 : Int} {a1 : Nat} : ((a1 : Nat) : Int) < a0 → ((-1000000) ≤ ((a0 - 1) - (0 + ((a1 : Nat) : Int)))) := fm 1 2 3 [il (ia (ca (nv 0)) (ik 1)) (iv 0)] (il (ig (ik 1000000)) (is (is (iv 0) (ik 1)) (ia (ik 0) (ca (nv 0))))) [a1] [a0] tt
theorem om404 {a0 : Int} {a1 : Nat} {a2 a3 : Int} : a0 ≤ (a2 + 1) → a3 ≤ 3 → a2 ≤ (a3 + 1) → (((a0 - 1) - (0 + ((a1 : Nat) : Int))) ≤ 1000000) := fm 1 2 31 [il (iv 0) (ia (iv 1) (ik 1)), il (iv 2) (ik 3), il (iv 1) (ia (iv 2) (ik 1))] (il (is (is (iv 0) (ik 1)) (ia (ik 0) (ca (nv 0)))) (ik 1000000)) [a1] [a0, a2, a3] tt
theorem om405 {a0 : Nat} {a1 a2 a3 : Int} {a4 : Nat} : a1 ≤ 3 → a2 ≤ (a1 + 1) → a3 ≤ (a2 + 1) → a0 < (Int.toNat ((a3 - 1) - (0 + ((a4 : Nat) : Int)))) → ((a0 + 1) ≤ 8) := fm 2 2 12471 [il (iv 0) (ik 3), il (iv 1) (ia (iv 0) (ik 1)), il (iv 2) (ia (iv 1) (ik 1)), nl (na (nv 0) (nk 1)) (tn (is (is (iv 2) (ik 1)) (ia (ik 0) (ca (nv 1)))))] (nl (na (nv 0) (nk 1)) (nk 8)) [a0, a4] [a1, a2, a3] tt
theorem om406 {a0 : Nat} : ((0 + ((a0 : Nat) : Int)) = ((a0 : Nat) : Int)) := fm 1 2 5 [] (ie (ia (ik 0) (ca (nv 0))) (ca (nv 0))) [a0] [] tt
theorem om407 {a0 : Nat} : (a0 + 64) < 9000 → (((a0 + 3) + 64) < 9900) := fm 1 2 3 [nl (na (na (nv 0) (nk 64)) (nk 1)) (nk 9000)] (nl (na (na (na (nv 0) (nk 3)) (nk 64)) (nk 1)) (nk 9900)) [a0] [] tt
theorem om412 {a0 : Int} : (-(2 ^ 128)) ≤ a0 → ((-(2 ^ 130)) < a0) := fm 0 2 3 [il (ig (ik 340282366920938463463374607431768211456)) (iv 0)] (il (ia (ig (ik 1361129467683753853853498429727072845824)) (ik 1)) (iv 0)) [] [a0] tt
theorem om413 {a0 : Int} : a0 ≤ (2 ^ 128) → (a0 < (2 ^ 130)) := fm 0 2 3 [il (iv 0) (ik 340282366920938463463374607431768211456)] (il (ia (iv 0) (ik 1)) (ik 1361129467683753853853498429727072845824)) [] [a0] tt
theorem om414 {a0 : Nat} (h0 : a0 < 127) : (a0 < 1114112) := Nat.lt_of_lt_of_le (by assumption) (by decide)
theorem om415 {a0 : Int} : (1 : Int) ≤ a0 → a0 ≤ 3 → ((1 ≤ (Int.toNat a0)) ∧ ((Int.toNat a0) ≤ 3)) := fm 0 2 35417 [il (ik 1) (iv 0), il (iv 0) (ik 3)] (an (nl (nk 1) (tn (iv 0))) (nl (tn (iv 0)) (nk 3))) [] [a0] tt
theorem om416 {a0 a1 : Int} : a0 ≤ a1 → a1 ≤ (a0 + 1) → (Int.toNat a0) ≤ 3 → (((Int.toNat a0) ≤ (Int.toNat a1)) ∧ ((Int.toNat a1) ≤ ((Int.toNat a0) + 1))) := fm 0 2 2626746641689432048067336169681089 [il (iv 0) (iv 1), il (iv 1) (ia (iv 0) (ik 1)), nl (tn (iv 0)) (nk 3)] (an (nl (tn (iv 0)) (tn (iv 1))) (nl (tn (iv 1)) (na (tn (iv 0)) (nk 1)))) [] [a0, a1] tt
theorem om417 {a0 a1 a2 : Int} : (1 : Int) ≤ a2 → a0 ≤ a1 → a1 ≤ (a0 + 1) → (Int.toNat a2) ≤ (Int.toNat a0) → (((Int.toNat a0) ≤ (Int.toNat a1)) ∧ ((Int.toNat a1) ≤ ((Int.toNat a0) + 1))) := fm 0 2 248678725860077401055472270040310871009635323419995780824534558226922761970808269391618 [il (ik 1) (iv 2), il (iv 0) (iv 1), il (iv 1) (ia (iv 0) (ik 1)), nl (tn (iv 2)) (tn (iv 0))] (an (nl (tn (iv 0)) (tn (iv 1))) (nl (tn (iv 1)) (na (tn (iv 0)) (nk 1)))) [] [a0, a1, a2] tt
theorem om418 {a0 : Nat} {a1 a2 a3 : Int} : (Int.toNat a2) ≤ (Int.toNat a3) → ((a0 : Nat) : Int) < a1 → (a0 < (Int.toNat a1)) := fm 1 2 31703054252907560 [nl (tn (iv 1)) (tn (iv 2)), il (ia (ca (nv 0)) (ik 1)) (iv 0)] (nl (na (nv 0) (nk 1)) (tn (iv 0))) [a0] [a1, a2, a3] tt
theorem om431 {a0 a1 : Nat} {a2 a3 a4 : Int} : a0 = a1 → a2 ≤ (a3 + 1) → a4 ≤ 3 → a3 ≤ (a4 + 1) → ((a1 : Nat) : Int) < a2 → (a0 ≤ 1000) := fm 2 2 125 [ne (nv 0) (nv 1), il (iv 0) (ia (iv 1) (ik 1)), il (iv 2) (ik 3), il (iv 1) (ia (iv 2) (ik 1)), il (ia (ca (nv 1)) (ik 1)) (iv 0)] (nl (nv 0) (nk 1000)) [a0, a1] [a2, a3, a4] tt
theorem om443 {a0 : Int} {a1 : Nat} : ((((Int.toNat a0) - 1) - a1) = (Int.toNat ((a0 - 1) - ((a1 : Nat) : Int)))) := fm 1 2 1594111797028800223838420080654028167962797579981817988112 [] (ne (ns (ns (tn (iv 0)) (nk 1)) (nv 0)) (tn (is (is (iv 0) (ik 1)) (ca (nv 0))))) [a1] [a0] tt
theorem om442 {a0 : Int} {a1 : Nat} {a2 a3 : Int} (h0 : (1 : Int) ≤ a0) (h1 : a2 ≤ (a0 + 1)) (h2 : 1 ≤ (Int.toNat a0)) (h3 : (Int.toNat a0) ≤ (Int.toNat a2)) (h4 : (Int.toNat a3) ≤ ((Int.toNat a2) + 1)) : ((((Int.toNat a0) - 1) - a1) = (Int.toNat ((a0 - 1) - ((a1 : Nat) : Int)))) := om443
theorem om444 {a0 : Nat} : (((a0 : Nat) : Int) = 130) ∨ ((((a0 : Nat) : Int) = 4402) ∨ (((a0 : Nat) : Int) = 4403)) → (((130 : Nat) ≤ a0) ∧ (a0 ≤ 4403)) := fm 1 2 5658198 [or (ie (ca (nv 0)) (ik 130)) (or (ie (ca (nv 0)) (ik 4402)) (ie (ca (nv 0)) (ik 4403)))] (an (nl (nk 130) (nv 0)) (nl (nv 0) (nk 4403))) [a0] [] tt
theorem om496 {a0 : Nat} {a1 : Int} : a0 < (Int.toNat a1) → (((a0 : Nat) : Int) < a1) := fm 1 2 166 [nl (na (nv 0) (nk 1)) (tn (iv 0))] (il (ia (ca (nv 0)) (ik 1)) (iv 0)) [a0] [a1] tt
theorem om497 {a0 a1 : Int} : a0 ≤ a1 → a1 ≤ (a0 + 1) → (((Int.toNat a0) ≤ (Int.toNat a1)) ∧ ((Int.toNat a1) ≤ ((Int.toNat a0) + 1))) := fm 0 2 576417456945 [il (iv 0) (iv 1), il (iv 1) (ia (iv 0) (ik 1))] (an (nl (tn (iv 0)) (tn (iv 1))) (nl (tn (iv 1)) (na (tn (iv 0)) (nk 1)))) [] [a0, a1] tt
theorem om498 {a0 : Int} : (1 : Int) ≤ a0 → ((((Int.toNat a0) : Nat) : Int) = a0) := fm 0 2 1764 [il (ik 1) (iv 0)] (ie (ca (tn (iv 0))) (iv 0)) [] [a0] tt
theorem om499 {a0 a1 : Int} : (1 : Int) ≤ a1 → a1 ≤ a0 → ((((Int.toNat a0) : Nat) : Int) = a0) := fm 0 2 30600 [il (ik 1) (iv 1), il (iv 1) (iv 0)] (ie (ca (tn (iv 0))) (iv 0)) [] [a0, a1] tt
theorem om500 {a0 a1 a2 : Int} : (1 : Int) ≤ a1 → a1 ≤ a2 → a2 ≤ a0 → ((((Int.toNat a0) : Nat) : Int) = a0) := fm 0 2 507408 [il (ik 1) (iv 1), il (iv 1) (iv 2), il (iv 2) (iv 0)] (ie (ca (tn (iv 0))) (iv 0)) [] [a0, a1, a2] tt
theorem om501 {a0 : Nat} : a0 ≤ 4 → (((2 + a0) - 1) ≤ 20) := fm 1 2 69 [nl (nv 0) (nk 4)] (nl (ns (na (nk 2) (nv 0)) (nk 1)) (nk 20)) [a0] [] tt
theorem om502 {a0 a1 : Nat} : (a0 ≤ (a0 + a1)) := Nat.le_add_right _ _
theorem om503 {a0 : Nat} : a0 < 1000 → (((a0 : Nat) : Int) < (2 ^ 63)) := fm 1 2 3 [nl (na (nv 0) (nk 1)) (nk 1000)] (il (ia (ca (nv 0)) (ik 1)) (ik 9223372036854775808)) [a0] [] tt
theorem om504 {a0 : Int} : (((a0 + (0 + ((0 : Nat) : Int))) + 1) = (a0 + 1)) := fm 0 2 3 [] (ie (ia (ia (iv 0) (ia (ik 0) (ik 0))) (ik 1)) (ia (iv 0) (ik 1))) [] [a0] tt
theorem om505 {a0 : Int} : (((a0 + (0 + ((1 : Nat) : Int))) + 1) = (a0 + 2)) := fm 0 2 3 [] (ie (ia (ia (iv 0) (ia (ik 0) (ik 1))) (ik 1)) (ia (iv 0) (ik 2))) [] [a0] tt
theorem om506 {a0 : Int} : (((a0 + (0 + ((2 : Nat) : Int))) + 1) = (a0 + 3)) := fm 0 2 3 [] (ie (ia (ia (iv 0) (ia (ik 0) (ik 2))) (ik 1)) (ia (iv 0) (ik 3))) [] [a0] tt
theorem om507 {a0 a1 : Nat} : a1 = 3 → a0 < 3 → (a0 < a1) := fm 2 2 14 [ne (nv 1) (nk 3), nl (na (nv 0) (nk 1)) (nk 3)] (nl (na (nv 0) (nk 1)) (nv 1)) [a0, a1] [] tt
theorem om508 {a0 a1 a2 a3 a4 : Nat} : a2 ≤ a3 → a0 < a2 → a3 < a4 → a4 < a1 → (a0 ≠ a1) := fm 5 2 47 [nl (nv 2) (nv 3), nl (na (nv 0) (nk 1)) (nv 2), nl (na (nv 3) (nk 1)) (nv 4), nl (na (nv 4) (nk 1)) (nv 1)] (no (ne (nv 0) (nv 1))) [a0, a1, a2, a3, a4] [] tt
theorem om509 {a0 a1 a2 a3 : Nat} : a2 ≤ a3 → a0 < a2 → a3 < a1 → (a0 ≠ a1) := fm 4 2 23 [nl (nv 2) (nv 3), nl (na (nv 0) (nk 1)) (nv 2), nl (na (nv 3) (nk 1)) (nv 1)] (no (ne (nv 0) (nv 1))) [a0, a1, a2, a3] [] tt
theorem om510 {a0 a1 a2 a3 a4 : Nat} : a3 = a4 → (a0 + a2) ≤ a3 → a4 ≤ 20 → ((a0 + (min a1 a2)) ≤ 16777216) := fm 5 2 92221 [ne (nv 3) (nv 4), nl (na (nv 0) (nv 2)) (nv 3), nl (nv 4) (nk 20)] (nl (na (nv 0) (nn (nv 1) (nv 2))) (nk 16777216)) [a0, a1, a2, a3, a4] [] tt
theorem om511 {a0 : Nat} : (((0 + ((a0 : Nat) : Int)) + 1) = (((a0 + 1) : Nat) : Int)) := fm 1 2 5 [] (ie (ia (ia (ik 0) (ca (nv 0))) (ik 1)) (ca (na (nv 0) (nk 1)))) [a0] [] tt
theorem om512 {a0 : Nat} : (1 ≤ (a0 + 1)) := fm 1 2 3 [] (nl (nk 1) (na (nv 0) (nk 1))) [a0] [] tt
theorem om513 {a0 : Nat} (h0 : a0 < 3) : ((a0 + 1) ≤ 3) := Nat.lt_of_lt_of_le (by assumption) (by decide)
theorem om514 {a0 : Int} : (-1000000) < a0 → a0 < 1000000 → (((-1000000) ≤ a0) ∧ (a0 ≤ 1000000)) := fm 0 2 53 [il (ia (ig (ik 1000000)) (ik 1)) (iv 0), il (ia (iv 0) (ik 1)) (ik 1000000)] (an (il (ig (ik 1000000)) (iv 0)) (il (iv 0) (ik 1000000))) [] [a0] tt
theorem om515 {a0 : Nat} : a0 ≤ 4 → ((2 + a0) ≤ 21) := fm 1 2 3 [nl (nv 0) (nk 4)] (nl (na (nk 2) (nv 0)) (nk 21)) [a0] [] tt
theorem om517 {a0 : Nat} (h0 : a0 ≤ 20) : (a0 < 1000) := Nat.lt_of_le_of_lt (by assumption) (by decide)
theorem om518 {a0 : Int} {a1 : Nat} : (0 : Int) ≤ a0 → ((-(2 ^ 130)) < ((a0 + (0 + ((a1 : Nat) : Int))) + 1)) := fm 1 2 7 [il (ik 0) (iv 0)] (il (ia (ig (ik 1361129467683753853853498429727072845824)) (ik 1)) (ia (ia (iv 0) (ia (ik 0) (ca (nv 0)))) (ik 1))) [a1] [a0] tt
theorem om519 {a0 : Int} {a1 : Nat} : a0 < 1000000 → a1 < 3 → (((a0 + (0 + ((a1 : Nat) : Int))) + 1) < (2 ^ 130)) := fm 1 2 7 [il (ia (iv 0) (ik 1)) (ik 1000000), nl (na (nv 0) (nk 1)) (nk 3)] (il (ia (ia (ia (iv 0) (ia (ik 0) (ca (nv 0)))) (ik 1)) (ik 1)) (ik 1361129467683753853853498429727072845824)) [a1] [a0] tt
theorem om530 {a0 a1 a2 a3 : Int} : (((a0 + a1) + (a2 + a3)) = ((a0 + a2) + (a1 + a3))) := fm 0 2 3 [] (ie (ia (ia (iv 0) (iv 1)) (ia (iv 2) (iv 3))) (ia (ia (iv 0) (iv 2)) (ia (iv 1) (iv 3)))) [] [a0, a1, a2, a3] tt
theorem om531 {a0 : Nat} : (1 : Nat) ≤ a0 → a0 ≤ 3 → ((a0 = 1) ∨ ((a0 = 2) ∨ (a0 = 3))) := fm 1 2 80827192201541 [nl (nk 1) (nv 0), nl (nv 0) (nk 3)] (or (ne (nv 0) (nk 1)) (or (ne (nv 0) (nk 2)) (ne (nv 0) (nk 3)))) [a0] [] tt
theorem om532 {a0 a1 : Nat} : a0 ≤ (a1 + 1) → (((a0 - a1) = 0) ∨ ((a0 - a1) = 1)) := fm 2 2 163536908930230798240814221853446 [nl (nv 0) (na (nv 1) (nk 1))] (or (ne (ns (nv 0) (nv 1)) (nk 0)) (ne (ns (nv 0) (nv 1)) (nk 1))) [a0, a1] [] tt
theorem om533 {a0 a1 : Nat} : a0 ≤ a1 → ((a0 + (a1 - a0)) = a1) := fm 2 2 170116 [nl (nv 0) (nv 1)] (ne (na (nv 0) (ns (nv 1) (nv 0))) (nv 1)) [a0, a1] [] tt
theorem om534 {a0 : Int} : (-10000000) ≤ a0 → a0 ≤ 10000000 → ((Int.natAbs a0) ≤ 10000000) := fm 0 2 154 [il (ig (ik 10000000)) (iv 0), il (iv 0) (ik 10000000)] (nl (ab (iv 0)) (nk 10000000)) [] [a0] tt
theorem om535 {a0 : Int} : (-1000000) < a0 → a0 < 1000000 → ((Int.natAbs a0) ≤ 1000000) := fm 0 2 154 [il (ia (ig (ik 1000000)) (ik 1)) (iv 0), il (ia (iv 0) (ik 1)) (ik 1000000)] (nl (ab (iv 0)) (nk 1000000)) [] [a0] tt
theorem om536 {a0 : Int} : (Int.natAbs a0) ≤ (10000000 * 1000000) → (((-10000000000000) ≤ a0) ∧ (a0 ≤ 10000000000000)) := fm 0 2 2997 [nl (ab (iv 0)) (nk 10000000000000)] (an (il (ig (ik 10000000000000)) (iv 0)) (il (iv 0) (ik 10000000000000))) [] [a0] tt
theorem om537 {a0 a1 : Int} : (-10000000000000) ≤ a0 → (-10000000000000) ≤ a1 → a0 ≤ 10000000000000 → a1 ≤ 10000000000000 → (((-20000000000000) ≤ (a0 + a1)) ∧ ((a0 + a1) ≤ 20000000000000)) := fm 0 2 915 [il (ig (ik 10000000000000)) (iv 0), il (ig (ik 10000000000000)) (iv 1), il (iv 0) (ik 10000000000000), il (iv 1) (ik 10000000000000)] (an (il (ig (ik 20000000000000)) (ia (iv 0) (iv 1))) (il (ia (iv 0) (iv 1)) (ik 20000000000000))) [] [a0, a1] tt
theorem om538 {a0 : Int} : (65 : Int) ≤ a0 → a0 < 81 → ((65 ≤ (Int.toNat a0)) ∧ ((Int.toNat a0) < 81)) := fm 0 2 35417 [il (ik 65) (iv 0), il (ia (iv 0) (ik 1)) (ik 81)] (an (nl (nk 65) (tn (iv 0))) (nl (na (tn (iv 0)) (nk 1)) (nk 81))) [] [a0] tt
theorem om539 {a0 : Int} {a1 : Nat} : (0 : Int) ≤ a0 → (0 ≤ ((a0 + ((a1 : Nat) : Int)) + 1)) := fm 1 2 7 [il (ik 0) (iv 0)] (il (ik 0) (ia (ia (iv 0) (ca (nv 0))) (ik 1))) [a1] [a0] tt
theorem om540 {a0 : Nat} (h0 : a0 < 81) : (a0 < 128) := Nat.lt_of_lt_of_le (by assumption) (by decide)
theorem om541 {a0 : Nat} : a0 < 81 → ((a0 + 32) < 128) := fm 1 2 3 [nl (na (nv 0) (nk 1)) (nk 81)] (nl (na (na (nv 0) (nk 32)) (nk 1)) (nk 128)) [a0] [] tt
theorem om542 {a0 : Nat} : (((a0 + 32) - 32) = a0) := fm 1 2 3282 [] (ne (ns (na (nv 0) (nk 32)) (nk 32)) (nv 0)) [a0] [] tt
theorem om543 {a0 a1 : Int} : (((Int.natAbs a1) : Nat) : Int) = (((Int.natAbs a0) : Nat) : Int) → (0 : Int) ≤ a0 → (0 : Int) ≤ a1 → (a0 = a1) := fm 0 3 176691705928496904480330996 [ie (ca (ab (iv 1))) (ca (ab (iv 0))), il (ik 0) (iv 0), il (ik 0) (iv 1)] (ie (iv 0) (iv 1)) [] [a0, a1] tt
theorem om544 {a0 : Int} {a1 a2 : Nat} : ((a0 + ((a1 : Nat) : Int)) + 1) = ((a0 + ((a2 : Nat) : Int)) + 1) → ¬ (a1 = a2) → False := fm 2 2 166 [ie (ia (ia (iv 0) (ca (nv 0))) (ik 1)) (ia (ia (iv 0) (ca (nv 1))) (ik 1)), no (ne (nv 0) (nv 1))] ff [a1, a2] [a0] tt
theorem om545 {a0 : Nat} (h0 : a0 < 127) : (a0 < 128) := Nat.lt_succ_of_lt (by assumption)
theorem om546 {a0 : Int} {a1 : Nat} : (0 : Int) ≤ a0 → ((-(2 ^ 130)) < ((a0 + ((a1 : Nat) : Int)) + 1)) := fm 1 2 7 [il (ik 0) (iv 0)] (il (ia (ig (ik 1361129467683753853853498429727072845824)) (ik 1)) (ia (ia (iv 0) (ca (nv 0))) (ik 1))) [a1] [a0] tt
theorem om547 {a0 : Int} {a1 : Nat} : a0 < 1000000 → a1 < 3 → (((a0 + ((a1 : Nat) : Int)) + 1) < (2 ^ 130)) := fm 1 2 7 [il (ia (iv 0) (ik 1)) (ik 1000000), nl (na (nv 0) (nk 1)) (nk 3)] (il (ia (ia (ia (iv 0) (ca (nv 0))) (ik 1)) (ik 1)) (ik 1361129467683753853853498429727072845824)) [a1] [a0] tt
theorem om548 {a0 : Int} {a1 : Nat} {a2 : Int} : (a0 + ((a1 : Nat) : Int)) = a2 → a2 ≤ 1000000 → (a0 < (2 ^ 62)) := fm 1 2 29 [ie (ia (iv 0) (ca (nv 0))) (iv 1), il (iv 1) (ik 1000000)] (il (ia (iv 0) (ik 1)) (ik 4611686018427387904)) [a1] [a0, a2] tt
theorem om549 {a0 a1 : Int} {a2 : Nat} : (a1 + ((a2 : Nat) : Int)) = a0 → (-1000000) ≤ a1 → ((-(2 ^ 62)) ≤ a0) := fm 1 2 29 [ie (ia (iv 1) (ca (nv 0))) (iv 0), il (ig (ik 1000000)) (iv 1)] (il (ig (ik 4611686018427387904)) (iv 0)) [a2] [a0, a1] tt
theorem om550 {a0 a1 : Int} {a2 : Nat} : (a1 + ((a2 : Nat) : Int)) = a0 → ((a0 - a1) = ((a2 : Nat) : Int)) := fm 1 2 101 [ie (ia (iv 1) (ca (nv 0))) (iv 0)] (ie (is (iv 0) (iv 1)) (ca (nv 0))) [a2] [a0, a1] tt
theorem om551 {a0 : Nat} {a1 a2 : Int} : (a1 + ((a0 : Nat) : Int)) = a2 → ¬ (a1 < a2) → (0 = ((a0 : Nat) : Int)) := fm 1 2 781 [ie (ia (iv 0) (ca (nv 0))) (iv 1), no (il (ia (iv 0) (ik 1)) (iv 1))] (ie (ik 0) (ca (nv 0))) [a0] [a1, a2] tt
theorem om552 {a0 a1 a2 a3 : Int} : (((a0 + a1) + a2) = ((a0 + (a1 - a3)) + (a3 + a2))) := fm 0 2 3 [] (ie (ia (ia (iv 0) (iv 1)) (iv 2)) (ia (ia (iv 0) (is (iv 1) (iv 3))) (ia (iv 3) (iv 2)))) [] [a0, a1, a2, a3] tt
theorem om553 {a0 a1 a2 : Int} : (((a0 + a1) + a2) = (a0 + (a2 + a1))) := fm 0 2 3 [] (ie (ia (ia (iv 0) (iv 1)) (iv 2)) (ia (iv 0) (ia (iv 2) (iv 1)))) [] [a0, a1, a2] tt
theorem om554 {a0 a1 a2 a3 : Int} : a1 ≤ (a2 - a3) → a0 < a3 → ((a0 + a1) < a2) := fm 0 2 7 [il (iv 1) (is (iv 2) (iv 3)), il (ia (iv 0) (ik 1)) (iv 3)] (il (ia (ia (iv 0) (iv 1)) (ik 1)) (iv 2)) [] [a0, a1, a2, a3] tt
theorem om555 {a0 : Nat} : (2 : Nat) ≤ a0 → ((a0 - 1) < a0) := fm 1 2 52 [nl (nk 2) (nv 0)] (nl (na (ns (nv 0) (nk 1)) (nk 1)) (nv 0)) [a0] [] tt
theorem om556 {a0 a1 : Int} : (0 : Int) ≤ a1 → (a0 ≤ (a1 + a0)) := fm 0 2 3 [il (ik 0) (iv 1)] (il (iv 0) (ia (iv 1) (iv 0))) [] [a0, a1] tt
theorem om557 {a0 a1 : Int} : a1 ≤ a0 → (0 : Int) < a1 → ((0 : Int) ≤ a0) := fm 0 2 7 [il (iv 1) (iv 0), il (ia (ik 0) (ik 1)) (iv 1)] (il (ik 0) (iv 0)) [] [a0, a1] tt
theorem om558 {a0 : Nat} {a1 : Int} : ((a0 : Nat) : Int) ≤ a1 → (Int.natAbs a1) < a0 → False := fm 1 3 1306 [il (ca (nv 0)) (iv 0), nl (na (ab (iv 0)) (nk 1)) (nv 0)] ff [a0] [a1] tt
theorem om559 {a0 a1 a2 a3 : Nat} : a3 = (a1 + a2) → a0 ≤ a3 → (a1 + (a2 - 1)) < a0 → (a0 = (a1 + a2)) := fm 4 2 39787205680 [ne (nv 3) (na (nv 1) (nv 2)), nl (nv 0) (nv 3), nl (na (na (nv 1) (ns (nv 2) (nk 1))) (nk 1)) (nv 0)] (ne (nv 0) (na (nv 1) (nv 2))) [a0, a1, a2, a3] [] tt
theorem om560 {a0 a1 a2 a3 : Nat} : a2 = (a0 + a1) → a3 = (a0 + a1) → (a0 + (a1 - 1)) < a3 → ((((a0 + a1) + a1) - 1) = ((a1 - 1) + a2)) := fm 4 3 22862483325072953158184349392250111827715066785790497938827575501986039607349272286042865839266590 [ne (nv 2) (na (nv 0) (nv 1)), ne (nv 3) (na (nv 0) (nv 1)), nl (na (na (nv 0) (ns (nv 1) (nk 1))) (nk 1)) (nv 3)] (ne (ns (na (na (nv 0) (nv 1)) (nv 1)) (nk 1)) (na (ns (nv 1) (nk 1)) (nv 2))) [a0, a1, a2, a3] [] tt
theorem om561 {a0 a1 a2 : Nat} : a1 = (a2 + a0) → (a2 + (a0 - 1)) < a1 → ((a0 - 1) < a0) := fm 3 2 5511333920 [ne (nv 1) (na (nv 2) (nv 0)), nl (na (na (nv 2) (ns (nv 0) (nk 1))) (nk 1)) (nv 1)] (nl (na (ns (nv 0) (nk 1)) (nk 1)) (nv 0)) [a0, a1, a2] [] tt
theorem om562 {a0 : Nat} : ((0 + (a0 + 1)) = (a0 + 1)) := fm 1 2 5 [] (ne (na (nk 0) (na (nv 0) (nk 1))) (na (nv 0) (nk 1))) [a0] [] tt
theorem om563 {a0 : Nat} : (130 : Nat) ≤ a0 → (a0 = ((a0 - 1) + 1)) := fm 1 2 13124 [nl (nk 130) (nv 0)] (ne (nv 0) (na (ns (nv 0) (nk 1)) (nk 1))) [a0] [] tt
theorem om564 {a0 : Nat} : (130 : Nat) ≤ a0 → (129 ≤ (a0 - 1)) := fm 1 2 53 [nl (nk 130) (nv 0)] (nl (nk 129) (ns (nv 0) (nk 1))) [a0] [] tt
theorem om565 {a0 a1 : Int} : (2 ^ 129) ≤ a0 → (-(2 ^ 128)) ≤ a1 → a1 ≤ (2 ^ 128) → ((0 ≤ (a0 + a1)) ∧ ((a0 + a1) < ((2 * a0) - 1))) := fm 0 2 219 [il (ik 680564733841876926926749214863536422912) (iv 0), il (ig (ik 340282366920938463463374607431768211456)) (iv 1), il (iv 1) (ik 340282366920938463463374607431768211456)] (an (il (ik 0) (ia (iv 0) (iv 1))) (il (ia (ia (iv 0) (iv 1)) (ik 1)) (is (im 2 (iv 0)) (ik 1)))) [] [a0, a1] tt
theorem om566 {a0 a1 : Int} : (0 : Int) ≤ a0 → a0 < (a1 - 1) → (((0 : Int) ≤ a0) ∧ (a0 < a1)) := fm 0 2 53 [il (ik 0) (iv 0), il (ia (iv 0) (ik 1)) (is (iv 1) (ik 1))] (an (il (ik 0) (iv 0)) (il (ia (iv 0) (ik 1)) (iv 1))) [] [a0, a1] tt
theorem om567 {a0 : Int} (h0 : (0 : Int) < a0) : (0 ≤ (a0 - 1)) := Int.le_sub_one_of_lt (by assumption)
theorem om568 {a0 : Nat} : (130 : Nat) ≤ a0 → (((0 + a0) - 1) < a0) := fm 1 2 52 [nl (nk 130) (nv 0)] (nl (na (ns (na (nk 0) (nv 0)) (nk 1)) (nk 1)) (nv 0)) [a0] [] tt
theorem om569 {a0 : Nat} : (130 : Nat) ≤ a0 → ((2 : Nat) ≤ a0) := fm 1 2 3 [nl (nk 130) (nv 0)] (nl (nk 2) (nv 0)) [a0] [] tt
theorem om570 {a0 a1 a2 : Int} : (((a0 - a1) - (a2 - 1)) = (((a0 - a1) - a2) + 1)) := fm 0 2 3 [] (ie (is (is (iv 0) (iv 1)) (is (iv 2) (ik 1))) (ia (is (is (iv 0) (iv 1)) (iv 2)) (ik 1))) [] [a0, a1, a2] tt
theorem om571 {a0 a1 a2 a3 a4 : Int} : a0 ≤ (((a2 - a3) - a4) + 1) → (0 : Int) < a3 → a1 < (a4 - 1) → ((a0 + a1) < a2) := fm 0 2 15 [il (iv 0) (ia (is (is (iv 2) (iv 3)) (iv 4)) (ik 1)), il (ia (ik 0) (ik 1)) (iv 3), il (ia (iv 1) (ik 1)) (is (iv 4) (ik 1))] (il (ia (ia (iv 0) (iv 1)) (ik 1)) (iv 2)) [] [a0, a1, a2, a3, a4] tt
theorem om572 {a0 a1 a2 a3 : Nat} : a2 = (a3 + a1) → (130 : Nat) ≤ a1 → a0 ≤ a3 → (((a0 + a1) - 1) < a2) := fm 4 2 112682 [ne (nv 2) (na (nv 3) (nv 1)), nl (nk 130) (nv 1), nl (nv 0) (nv 3)] (nl (na (ns (na (nv 0) (nv 1)) (nk 1)) (nk 1)) (nv 2)) [a0, a1, a2, a3] [] tt
theorem om573 {a0 : Int} : ((a0 - 1) < a0) := fm 0 2 1 [] (il (ia (is (iv 0) (ik 1)) (ik 1)) (iv 0)) [] [a0] tt
theorem om574 {a0 a1 : Nat} : a0 < a1 → (a0 ≤ (a1 - 1)) := fm 2 2 229 [nl (na (nv 0) (nk 1)) (nv 1)] (nl (nv 0) (ns (nv 1) (nk 1))) [a0, a1] [] tt
theorem om575 {a0 : Nat} : (2 : Nat) ≤ a0 → (1 ≤ (a0 - 1)) := fm 1 2 53 [nl (nk 2) (nv 0)] (nl (nk 1) (ns (nv 0) (nk 1))) [a0] [] tt
theorem om576 {a0 : Nat} : (Int.natAbs ((((2 * a0) : Nat) : Int) - 1)) < a0 → False := fm 1 4 713 [nl (na (ab (is (ca (nm 2 (nv 0))) (ik 1))) (nk 1)) (nv 0)] ff [a0] [] tt
theorem om577 {a0 : Nat} : (1 : Nat) ≤ a0 → ((((a0 : Nat) : Int) - 1) = (((a0 - 1) : Nat) : Int)) := fm 1 2 25924 [nl (nk 1) (nv 0)] (ie (is (ca (nv 0)) (ik 1)) (ca (ns (nv 0) (nk 1)))) [a0] [] tt
theorem om578 {a0 a1 a2 : Nat} : (a1 + a2) = a0 → (((((a0 : Nat) : Int) + ((a1 : Nat) : Int)) - (2 * ((a1 : Nat) : Int))) = ((a2 : Nat) : Int)) := fm 3 2 389 [ne (na (nv 1) (nv 2)) (nv 0)] (ie (is (ia (ca (nv 0)) (ca (nv 1))) (im 2 (ca (nv 1)))) (ca (nv 2))) [a0, a1, a2] [] tt
theorem om579 {a0 a1 : Int} (h0 : (0 : Int) ≤ a1) (h1 : a1 < a0) : ((0 : Int) < a0) := Int.lt_of_le_of_lt (by assumption) (by assumption)
theorem om580 {a0 : Int} : ((0 + a0) = a0) := fm 0 2 3 [] (ie (ia (ik 0) (iv 0)) (iv 0)) [] [a0] tt
theorem om581 {a0 : Int} {a1 : Nat} : (-((a1 : Nat) : Int)) < a0 → a0 < ((a1 : Nat) : Int) → ((Int.natAbs a0) < a1) := fm 1 2 298 [il (ia (ig (ca (nv 0))) (ik 1)) (iv 0), il (ia (iv 0) (ik 1)) (ca (nv 0))] (nl (na (ab (iv 0)) (nk 1)) (nv 0)) [a1] [a0] tt
theorem om582 {a0 a1 a2 a3 : Int} : a2 = (a3 + a1) → (a3 + a0) < a2 → (a0 ≤ (a1 - 1)) := fm 0 2 13 [ie (iv 2) (ia (iv 3) (iv 1)), il (ia (ia (iv 3) (iv 0)) (ik 1)) (iv 2)] (il (iv 0) (is (iv 1) (ik 1))) [] [a0, a1, a2, a3] tt
theorem om583 {a0 a1 a2 a3 a4 a5 a6 : Int} : a0 = a4 → ((((a0 - a1) + (a2 - a3)) + (((((a4 + a5) - a4) + a1) + a6) - (a2 - a3))) = ((a4 + a5) + a6)) := fm 0 2 46 [ie (iv 0) (iv 4)] (ie (ia (ia (is (iv 0) (iv 1)) (is (iv 2) (iv 3))) (is (ia (ia (is (ia (iv 4) (iv 5)) (iv 4)) (iv 1)) (iv 6)) (is (iv 2) (iv 3)))) (ia (ia (iv 4) (iv 5)) (iv 6))) [] [a0, a1, a2, a3, a4, a5, a6] tt
theorem om584 {a0 a1 a2 a3 a4 a5 a6 a7 : Int} : a4 = a6 → a1 ≤ (a6 - a7) → a3 < a7 → ((((((a0 + a1) - a0) + a2) + a3) - (a4 - a5)) < (a2 + a5)) := fm 0 2 30 [ie (iv 4) (iv 6), il (iv 1) (is (iv 6) (iv 7)), il (ia (iv 3) (ik 1)) (iv 7)] (il (ia (is (ia (ia (is (ia (iv 0) (iv 1)) (iv 0)) (iv 2)) (iv 3)) (is (iv 4) (iv 5))) (ik 1)) (ia (iv 2) (iv 5))) [] [a0, a1, a2, a3, a4, a5, a6, a7] tt
theorem om585 {a0 a1 a2 a3 a4 : Int} : a4 = a0 → (((a0 + a1) + ((a2 + a3) - a1)) = ((a4 + a2) + a3)) := fm 0 2 53 [ie (iv 4) (iv 0)] (ie (ia (ia (iv 0) (iv 1)) (is (ia (iv 2) (iv 3)) (iv 1))) (ia (ia (iv 4) (iv 2)) (iv 3))) [] [a0, a1, a2, a3, a4] tt
theorem om586 {a0 a1 a2 a3 a4 a5 : Int} : (0 : Int) ≤ a2 → (0 : Int) ≤ a4 → a0 ≤ (a3 - a5) → a1 < a5 → (((a0 + a1) - a2) < (a3 + a4)) := fm 0 2 31 [il (ik 0) (iv 2), il (ik 0) (iv 4), il (iv 0) (is (iv 3) (iv 5)), il (ia (iv 1) (ik 1)) (iv 5)] (il (ia (is (ia (iv 0) (iv 1)) (iv 2)) (ik 1)) (ia (iv 3) (iv 4))) [] [a0, a1, a2, a3, a4, a5] tt
theorem om587 {a0 a1 : Int} (h0 : a1 ≤ a0) (h1 : (0 : Int) < a1) : ((0 : Int) < a0) := Int.lt_of_lt_of_le (by assumption) (by assumption)
theorem om588 {a0 a1 a2 a3 : Int} : a0 = ((a1 + a2) + a3) → (a0 = (a1 + (a2 + a3))) := fm 0 2 46 [ie (iv 0) (ia (ia (iv 1) (iv 2)) (iv 3))] (ie (iv 0) (ia (iv 1) (ia (iv 2) (iv 3)))) [] [a0, a1, a2, a3] tt
theorem om589 {a0 a1 : Int} : a0 ≤ a1 → ((1 * a0) ≤ a1) := fm 0 2 3 [il (iv 0) (iv 1)] (il (im 1 (iv 0)) (iv 1)) [] [a0, a1] tt
theorem om590 {a0 a1 : Int} : ((a0 + a1) = (a1 + a0)) := fm 0 2 3 [] (ie (ia (iv 0) (iv 1)) (ia (iv 1) (iv 0))) [] [a0, a1] tt
theorem om591 {a0 : Nat} : 0 < ((a0 : Nat) : Int) → (a0 ≠ 0) := fm 1 2 3 [il (ia (ik 0) (ik 1)) (ca (nv 0))] (no (ne (nv 0) (nk 0))) [a0] [] tt
theorem om592 {a0 a1 a2 a3 a4 : Nat} : a2 = (a3 + (a4 + 1)) → a0 ≤ ((max a1 ((a1 + a3) + a4)) + 1) → (a0 ≤ (a1 + a2)) := fm 5 2 813082 [ne (nv 2) (na (nv 3) (na (nv 4) (nk 1))), nl (nv 0) (na (nx (nv 1) (na (na (nv 1) (nv 3)) (nv 4))) (nk 1))] (nl (nv 0) (na (nv 1) (nv 2))) [a0, a1, a2, a3, a4] [] tt
theorem om593 {a0 a1 : Nat} : a0 ≤ a1 → (a0 = (min a0 a1)) := fm 2 2 170116 [nl (nv 0) (nv 1)] (ne (nv 0) (nn (nv 0) (nv 1))) [a0, a1] [] tt
theorem om594 {a0 a1 : Nat} : ¬ (a1 ≤ a0) → (a0 ≤ a1) := fm 2 2 3 [no (nl (nv 1) (nv 0))] (nl (nv 0) (nv 1)) [a0, a1] [] tt
theorem om595 {a0 : Int} {a1 : Nat} : a0 = ((a1 : Nat) : Int) → a1 ≤ 3 → (((-1) ≤ a0) ∧ (a0 ≤ 3)) := fm 1 2 442 [ie (iv 0) (ca (nv 0)), nl (nv 0) (nk 3)] (an (il (ig (ik 1)) (iv 0)) (il (iv 0) (ik 3))) [a1] [a0] tt
theorem om596 {a0 : Int} {a1 : Nat} : a0 = (((a1 : Nat) : Int) - 1) → a1 ≤ 3 → (((-1) ≤ a0) ∧ (a0 ≤ 3)) := fm 1 2 442 [ie (iv 0) (is (ca (nv 0)) (ik 1)), nl (nv 0) (nk 3)] (an (il (ig (ik 1)) (iv 0)) (il (iv 0) (ik 3))) [a1] [a0] tt
theorem om597 {a0 : Int} {a1 : Nat} : a0 = (((a1 : Nat) : Int) - 2) → (1 : Nat) ≤ a1 → a1 ≤ 3 → (((-1) ≤ a0) ∧ (a0 ≤ 3)) := fm 1 2 1622 [ie (iv 0) (is (ca (nv 0)) (ik 2)), nl (nk 1) (nv 0), nl (nv 0) (nk 3)] (an (il (ig (ik 1)) (iv 0)) (il (iv 0) (ik 3))) [a1] [a0] tt
theorem om598 {a0 : Int} : a0 ≤ 3 → ((Int.toNat (a0 - 1)) ≤ 4) := fm 0 2 37 [il (iv 0) (ik 3)] (nl (tn (is (iv 0) (ik 1))) (nk 4)) [] [a0] tt
theorem om599 {a0 a1 : Int} : a0 ≤ 3 → a1 ≤ (a0 + 1) → (((Int.toNat (a0 - 1)) + (Int.toNat (a1 - a0))) ≤ 4) := fm 0 2 543283 [il (iv 0) (ik 3), il (iv 1) (ia (iv 0) (ik 1))] (nl (na (tn (is (iv 0) (ik 1))) (tn (is (iv 1) (iv 0)))) (nk 4)) [] [a0, a1] tt
theorem om600 {a0 a1 a2 : Int} : a0 ≤ 3 → a1 ≤ (a0 + 1) → a2 ≤ (a1 + 1) → ((((Int.toNat (a0 - 1)) + (Int.toNat (a1 - a0))) + (Int.toNat (a2 - a1))) ≤ 4) := fm 0 2 36330150852387271 [il (iv 0) (ik 3), il (iv 1) (ia (iv 0) (ik 1)), il (iv 2) (ia (iv 1) (ik 1))] (nl (na (na (tn (is (iv 0) (ik 1))) (tn (is (iv 1) (iv 0)))) (tn (is (iv 2) (iv 1)))) (nk 4)) [] [a0, a1, a2] tt
theorem om601 {a0 a1 : Nat} : (((a0 + 1) + a1) = (a0 + (a1 + 1))) := fm 2 2 9 [] (ne (na (na (nv 0) (nk 1)) (nv 1)) (na (nv 0) (na (nv 1) (nk 1)))) [a0, a1] [] tt
theorem om602 {a0 : Int} : (-1000000) ≤ a0 → ((-(2 ^ 64)) < a0) := fm 0 2 3 [il (ig (ik 1000000)) (iv 0)] (il (ia (ig (ik 18446744073709551616)) (ik 1)) (iv 0)) [] [a0] tt
theorem om603 {a0 : Int} : a0 ≤ 1000000 → (a0 < (2 ^ 64)) := fm 0 2 3 [il (iv 0) (ik 1000000)] (il (ia (iv 0) (ik 1)) (ik 18446744073709551616)) [] [a0] tt
theorem om604 {a0 : Int} : (1 : Int) ≤ a0 → ((a0 - 1) = (((Int.toNat (a0 - 1)) : Nat) : Int)) := fm 0 2 3428 [il (ik 1) (iv 0)] (ie (is (iv 0) (ik 1)) (ca (tn (is (iv 0) (ik 1))))) [] [a0] tt
theorem om606 : (((-1000000) : Int) ≤ 1) := Int.natCast_nonneg _
theorem om607 {a0 : Nat} : a0 ≤ 3 → (((a0 : Nat) : Int) ≤ 1000000) := fm 1 2 3 [nl (nv 0) (nk 3)] (il (ca (nv 0)) (ik 1000000)) [a0] [] tt
theorem om608 {a0 : Nat} : (1 : Nat) ≤ a0 → ((1 + (((a0 - 1) : Nat) : Int)) = ((a0 : Nat) : Int)) := fm 1 2 22084 [nl (nk 1) (nv 0)] (ie (ia (ik 1) (ca (ns (nv 0) (nk 1)))) (ca (nv 0))) [a0] [] tt
theorem om610 {a0 a1 : Int} : a1 ≤ a0 → ((a0 - a1) = (((Int.toNat (a0 - a1)) : Nat) : Int)) := fm 0 2 3428 [il (iv 1) (iv 0)] (ie (is (iv 0) (iv 1)) (ca (tn (is (iv 0) (iv 1))))) [] [a0, a1] tt
theorem om631 {a0 a1 : Nat} : a1 ≤ 4 → ((2 + (min a0 a1)) ≤ 7) := fm 2 2 167 [nl (nv 1) (nk 4)] (nl (na (nk 2) (nn (nv 0) (nv 1))) (nk 7)) [a0, a1] [] tt
theorem om634 {a0 a1 : Nat} : a1 ≤ 7 → ((min a0 (a1 + 1)) ≤ 16777216) := fm 2 2 167 [nl (nv 1) (nk 7)] (nl (nn (nv 0) (na (nv 1) (nk 1))) (nk 16777216)) [a0, a1] [] tt
theorem om635 {a0 : Int} : (-1) ≤ a0 → ((-(2 ^ 64)) < a0) := fm 0 2 3 [il (ig (ik 1)) (iv 0)] (il (ia (ig (ik 18446744073709551616)) (ik 1)) (iv 0)) [] [a0] tt
theorem om636 {a0 : Int} : a0 ≤ 3 → (a0 < (2 ^ 64)) := fm 0 2 3 [il (iv 0) (ik 3)] (il (ia (iv 0) (ik 1)) (ik 18446744073709551616)) [] [a0] tt
theorem om637 {a0 : Nat} : (32 : Nat) ≤ a0 → (¬ (a0 ≤ 31)) := fm 1 2 3 [nl (nk 32) (nv 0)] (no (nl (nv 0) (nk 31))) [a0] [] tt
theorem om638 {a0 : Nat} (h0 : a0 < 127) : (¬ (a0 = 127)) := Nat.ne_of_lt (by assumption)
theorem om639 {a0 a1 : Nat} : ¬ (a0 ≥ a1) → (a0 < a1) := fm 2 2 3 [no (nl (nv 1) (nv 0))] (nl (na (nv 0) (nk 1)) (nv 1)) [a0, a1] [] tt
theorem om640 {a0 : Nat} : ((65 ≤ (65 + (((a0 % 16) : Nat) : Int))) ∧ ((65 + (((a0 % 16) : Nat) : Int)) < 81)) := fm 3 2 1608 [an (ne (na (nm 16 (nv 1)) (nv 2)) (nv 0)) (nl (na (nv 2) (nk 1)) (nk 16))] (an (il (ik 65) (ia (ik 65) (ca (nv 2)))) (il (ia (ia (ik 65) (ca (nv 2))) (ik 1)) (ik 81))) [a0, (a0 / 16), (a0 % 16)] [] tt (md a0 16 (by decide))
theorem om641 {a0 : Int} : a0 < 0 → (0 ≤ (-a0)) := fm 0 2 3 [il (ia (iv 0) (ik 1)) (ik 0)] (il (ik 0) (ig (iv 0))) [] [a0] tt
theorem om642 {a0 : Int} : a0 < 0 → ((Int.natAbs a0) = (Int.toNat (-a0))) := fm 0 2 1434989363 [il (ia (iv 0) (ik 1)) (ik 0)] (ne (ab (iv 0)) (tn (ig (iv 0)))) [] [a0] tt
theorem om643 {a0 : Int} : ¬ (a0 < 0) → ((Int.natAbs a0) = (Int.toNat a0)) := fm 0 3 649125631440558 [no (il (ia (iv 0) (ik 1)) (ik 0))] (ne (ab (iv 0)) (tn (iv 0))) [] [a0] tt
theorem om644 {a0 a1 : Nat} : (a1 + a0) ≤ 35 → (a0 ≤ 200) := fm 2 2 11 [nl (na (nv 1) (nv 0)) (nk 35)] (nl (nv 0) (nk 200)) [a0, a1] [] tt
theorem om647 {a0 : Nat} : ((a0 : Nat) : Int) = 0 → (a0 = 0) := fm 1 2 86 [ie (ca (nv 0)) (ik 0)] (ne (nv 0) (nk 0)) [a0] [] tt
theorem om648 {a0 : Nat} : ((1 + a0) = (a0 + 1)) := fm 1 2 5 [] (ne (na (nk 1) (nv 0)) (na (nv 0) (nk 1))) [a0] [] tt
theorem om649 {a0 : Nat} (h0 : a0 ≤ 35) : (a0 ≤ 36) := Nat.le_succ_of_le (by assumption)
theorem om650 {a0 a1 : Nat} : a1 ≤ 35 → ((min a0 a1) ≤ 16777216) := fm 2 2 167 [nl (nv 1) (nk 35)] (nl (nn (nv 0) (nv 1)) (nk 16777216)) [a0, a1] [] tt
theorem om653 {a0 : Nat} (h0 : a0 ≤ 35) : ((a0 + (a0 * 0)) ≤ 16777216) := Nat.le_trans (by assumption) (by decide)
theorem om654 {a0 : Int} : (65 : Int) ≤ a0 → (¬ ((Int.toNat a0) = 45)) := fm 0 2 133 [il (ik 65) (iv 0)] (no (ne (tn (iv 0)) (nk 45))) [] [a0] tt
theorem om655 {a0 : Int} : (65 : Int) ≤ a0 → (((((Int.toNat a0) : Nat) : Int) - 65) = (a0 - 65)) := fm 0 2 1764 [il (ik 65) (iv 0)] (ie (is (ca (tn (iv 0))) (ik 65)) (is (iv 0) (ik 65))) [] [a0] tt
theorem om656 {a0 : Nat} : ((((65 + (((a0 % 16) : Nat) : Int)) - 65) + (16 * (((a0 / 16) : Nat) : Int))) = ((a0 : Nat) : Int)) := fm 3 2 1162 [an (ne (na (nm 16 (nv 1)) (nv 2)) (nv 0)) (nl (na (nv 2) (nk 1)) (nk 16))] (ie (ia (is (ia (ik 65) (ca (nv 2))) (ik 65)) (im 16 (ca (nv 1)))) (ca (nv 0))) [a0, (a0 / 16), (a0 % 16)] [] tt (md a0 16 (by decide))
theorem om657 {a0 : Int} (h0 : (65 : Int) ≤ a0) : (0 ≤ (a0 - 65)) := Int.sub_nonneg_of_le (by assumption)
theorem om659 {a0 : Int} : (Int.toNat a0) = 45 → (65 : Int) ≤ a0 → False := fm 0 2 74 [ne (tn (iv 0)) (nk 45), il (ik 65) (iv 0)] ff [] [a0] tt
theorem om660 {a0 a1 : Nat} : a1 ≤ 36 → ((min a0 a1) ≤ 16777216) := fm 2 2 167 [nl (nv 1) (nk 36)] (nl (nn (nv 0) (nv 1)) (nk 16777216)) [a0, a1] [] tt
theorem om661 {a0 a1 : Nat} : a0 = a1 → a1 ≤ 36 → (a0 ≤ 16777216) := fm 2 2 13 [ne (nv 0) (nv 1), nl (nv 1) (nk 36)] (nl (nv 0) (nk 16777216)) [a0, a1] [] tt
theorem om662 {a0 : Nat} : a0 ≤ 36 → (((a0 + 3) + 1) ≤ 42) := fm 1 2 3 [nl (nv 0) (nk 36)] (nl (na (na (nv 0) (nk 3)) (nk 1)) (nk 42)) [a0] [] tt
theorem om663 {a0 : Nat} (h0 : a0 ≤ 36) : (a0 ≤ 100) := Nat.le_trans (by assumption) (by decide)
theorem om664 {a0 : Nat} (h0 : a0 ≤ 36) : (a0 ≤ 16777216) := Nat.le_trans (by assumption) (by decide)
theorem om665 {a0 : Int} : a0 < 0 → ((-(((Int.natAbs a0) : Nat) : Int)) = a0) := fm 0 2 2331 [il (ia (iv 0) (ik 1)) (ik 0)] (ie (ig (ca (ab (iv 0)))) (iv 0)) [] [a0] tt
theorem om666 {a0 : Int} : ¬ (a0 < 0) → ((((Int.natAbs a0) : Nat) : Int) = a0) := fm 0 3 227700 [no (il (ia (iv 0) (ik 1)) (ik 0))] (ie (ca (ab (iv 0))) (iv 0)) [] [a0] tt
theorem om667 {a0 : Nat} : ((((16 * (((a0 / 16) : Nat) : Int)) + (65 + (((a0 % 16) : Nat) : Int))) - 65) = ((a0 : Nat) : Int)) := fm 3 2 1162 [an (ne (na (nm 16 (nv 1)) (nv 2)) (nv 0)) (nl (na (nv 2) (nk 1)) (nk 16))] (ie (is (ia (im 16 (ca (nv 1))) (ia (ik 65) (ca (nv 2)))) (ik 65)) (ca (nv 0))) [a0, (a0 / 16), (a0 % 16)] [] tt (md a0 16 (by decide))
theorem om668 {a0 : Int} : a0 < 0 → ((((Int.natAbs a0) : Nat) : Int) = (-a0)) := fm 0 2 2331 [il (ia (iv 0) (ik 1)) (ik 0)] (ie (ca (ab (iv 0))) (ig (iv 0))) [] [a0] tt
theorem om669 {a0 : Int} {a1 : Nat} : a0 = (65 + (((a1 % 16) : Nat) : Int)) → (a1 / 16) = 0 → ¬ (a1 = 0) → (a0 ≠ 65) := fm 3 17 73382002079529221283671256 [an (ne (na (nm 16 (nv 1)) (nv 2)) (nv 0)) (nl (na (nv 2) (nk 1)) (nk 16)), ie (iv 0) (ia (ik 65) (ca (nv 2))), ne (nv 1) (nk 0), no (ne (nv 0) (nk 0))] (no (ie (iv 0) (ik 65))) [a1, (a1 / 16), (a1 % 16)] [a0] tt (md a1 16 (by decide))
theorem om670 {a0 : Int} : (Int.toNat a0) = 65 → a0 ≠ 65 → False := fm 0 2 17580 [ne (tn (iv 0)) (nk 65), no (ie (iv 0) (ik 65))] ff [] [a0] tt
theorem om671 {a0 : Nat} (h0 : a0 ≤ 35) : (a0 ≤ 16777216) := Nat.le_trans (by assumption) (by decide)
theorem om674 {a0 : Int} : a0 < 81 → (((Int.toNat a0) - 65) < 16) := fm 0 2 33929 [il (ia (iv 0) (ik 1)) (ik 81)] (nl (na (ns (tn (iv 0)) (nk 65)) (nk 1)) (nk 16)) [] [a0] tt
theorem om675 {a0 : Int} : (65 : Int) ≤ a0 → ((65 + ((Int.toNat a0) - 65)) = (Int.toNat a0)) := fm 0 2 132340549513556391142928 [il (ik 65) (iv 0)] (ne (na (nk 65) (ns (tn (iv 0)) (nk 65))) (tn (iv 0))) [] [a0] tt
theorem om676 {a0 : Int} : (65 : Int) ≤ a0 → ((((Int.toNat a0) : Nat) : Int) = a0) := fm 0 2 1764 [il (ik 65) (iv 0)] (ie (ca (tn (iv 0))) (iv 0)) [] [a0] tt
theorem om677 : (¬ ((((1 : Nat) : Int) : Int) ≥ (2 ^ 63))) := by decide
theorem om678 : (¬ ((((0 : Nat) : Int) : Int) ≥ (2 ^ 63))) := by decide
theorem om679 {a0 : Nat} : ((Int.toNat (((a0 : Nat) : Int) - 1)) = (a0 - 1)) := fm 1 2 1147495748 [] (ne (tn (is (ca (nv 0)) (ik 1))) (ns (nv 0) (nk 1))) [a0] [] tt
theorem om680 {a0 : Nat} : (130 : Nat) ≤ a0 → ((a0 - 1) < a0) := fm 1 2 52 [nl (nk 130) (nv 0)] (nl (na (ns (nv 0) (nk 1)) (nk 1)) (nv 0)) [a0] [] tt
theorem om687 {a0 : Nat} (h0 : a0 ≤ 12) : (a0 ≤ 107) := Nat.le_trans (by assumption) (by decide)
theorem om688 {a0 : Nat} (h0 : a0 ≤ 12) : (a0 ≤ 99) := Nat.le_trans (by assumption) (by decide)
theorem om689 {a0 : Nat} (h0 : a0 ≤ 4403) : (a0 ≤ 5000) := Nat.le_trans (by assumption) (by decide)
theorem om690 {a0 a1 : Nat} : a0 ≤ a1 → a1 ≤ 4403 → (a0 ≤ 5000) := fm 2 2 7 [nl (nv 0) (nv 1), nl (nv 1) (nk 4403)] (nl (nv 0) (nk 5000)) [a0, a1] [] tt
theorem om692 {a0 : Nat} : (130 : Nat) ≤ a0 → ((1 : Nat) ≤ a0) := fm 1 2 3 [nl (nk 130) (nv 0)] (nl (nk 1) (nv 0)) [a0] [] tt
theorem om693 {a0 : Int} (h0 : (2 ^ 1) ≤ a0) : (0 < (a0 - 1)) := Int.le_sub_one_of_lt (by assumption)
theorem om694 {a0 : Nat} (h0 : a0 ≤ 4403) : (a0 < 4600) := Nat.lt_of_le_of_lt (by assumption) (by decide)
theorem om695 {a0 : Nat} (h0 : a0 ≤ 12) : ((a0 + 1) ≤ 100) := Nat.lt_of_le_of_lt (by assumption) (by decide)
theorem om696 {a0 : Nat} : (130 : Nat) ≤ a0 → ((0 : Nat) < a0) := fm 1 2 3 [nl (nk 130) (nv 0)] (nl (na (nk 0) (nk 1)) (nv 0)) [a0] [] tt
theorem om697 {a0 : Nat} (h0 : a0 ≤ 12) : (a0 ≤ 100) := Nat.le_trans (by assumption) (by decide)
theorem om698 {a0 a1 : Nat} : a0 = a1 → a1 ≤ 12 → (a0 ≤ 16777216) := fm 2 2 13 [ne (nv 0) (nv 1), nl (nv 1) (nk 12)] (nl (nv 0) (nk 16777216)) [a0, a1] [] tt
theorem om701 {a0 a1 : Int} : (((a0 + a1) - a0) = a1) := fm 0 2 3 [] (ie (is (ia (iv 0) (iv 1)) (iv 0)) (iv 1)) [] [a0, a1] tt
theorem om706 {a0 : Nat} : ¬ (((-1) : Int) < 0) → (0 = (a0 - 1)) := fm 1 2 4369 [no (il (ia (ig (ik 1)) (ik 1)) (ik 0))] (ne (nk 0) (ns (nv 0) (nk 1))) [a0] [] tt
theorem om707 {a0 : Nat} (h0 : a0 ≤ 20) : (a0 ≤ 1000) := Nat.le_trans (by assumption) (by decide)
theorem om708 {a0 a1 : Nat} : a0 ≤ a1 → a1 ≤ 20 → (a0 ≤ 16777216) := fm 2 2 7 [nl (nv 0) (nv 1), nl (nv 1) (nk 20)] (nl (nv 0) (nk 16777216)) [a0, a1] [] tt
theorem om709 {a0 a1 a2 : Nat} : a1 ≤ a2 → a2 ≤ 20 → ((min a0 (a1 - 1)) ≤ 20) := fm 3 2 270013211 [nl (nv 1) (nv 2), nl (nv 2) (nk 20)] (nl (nn (nv 0) (ns (nv 1) (nk 1))) (nk 20)) [a0, a1, a2] [] tt
theorem om710 {a0 a1 a2 : Nat} : a0 ≤ a2 → a1 ≤ 20 → a2 ≤ 20 → ((a0 + a1) ≤ 1000) := fm 3 2 15 [nl (nv 0) (nv 2), nl (nv 1) (nk 20), nl (nv 2) (nk 20)] (nl (na (nv 0) (nv 1)) (nk 1000)) [a0, a1, a2] [] tt
theorem om711 {a0 a1 a2 : Nat} : (a1 - a0) = a2 → a0 ≤ a1 → a1 ≤ a2 → (a0 = 0) := fm 3 2 8078256224 [ne (ns (nv 1) (nv 0)) (nv 2), nl (nv 0) (nv 1), nl (nv 1) (nv 2)] (ne (nv 0) (nk 0)) [a0, a1, a2] [] tt
theorem om712 {a0 a1 : Nat} : a1 = a0 → (a0 ≤ a1) := fm 2 2 6 [ne (nv 1) (nv 0)] (nl (nv 0) (nv 1)) [a0, a1] [] tt
theorem om713 {a0 a1 : Nat} : ((min (min a0 a1) a1) = (min a0 a1)) := fm 2 2 10061040170370367511826055688 [] (ne (nn (nn (nv 0) (nv 1)) (nv 1)) (nn (nv 0) (nv 1))) [a0, a1] [] tt
theorem om714 {a0 : Nat} : (¬ (((a0 : Nat) : Int) < 0)) := fm 1 2 3 [] (no (il (ia (ca (nv 0)) (ik 1)) (ik 0))) [a0] [] tt
theorem om715 {a0 a1 : Nat} : (¬ ((((min a0 a1) : Nat) : Int) < 0)) := fm 2 2 166 [] (no (il (ia (ca (nn (nv 0) (nv 1))) (ik 1)) (ik 0))) [a0, a1] [] tt
theorem om716 : (¬ ((((0 : Nat) : Int) : Int) < 0)) := by decide
theorem om717 {a0 a1 : Nat} : ¬ ((((min a0 a1) : Nat) : Int) < 0) → ((max 0 (min ((a0 : Nat) : Int) ((a1 : Nat) : Int))) = (max 0 (min (((min a0 a1) : Nat) : Int) ((a1 : Nat) : Int)))) := fm 2 2 2604526570531146529769564126495084983302498164315522467362005594117624720394866450471497404258315483788259764722024725854001318534152466405321985467007655595616323454546213387799457492100839403854016022132326518728581316392034682180133264599812794957522144343146051217223159871265387095156187936456279858661842441950005836800479954074294508046138322350218490980327738944849929392226432 [no (il (ia (ca (nn (nv 0) (nv 1))) (ik 1)) (ik 0))] (ie (ix (ik 0) (iN (ca (nv 0)) (ca (nv 1)))) (ix (ik 0) (iN (ca (nn (nv 0) (nv 1))) (ca (nv 1))))) [a0, a1] [] tt
theorem om718 {a0 : Nat} : (((a0 : Nat) : Int) = (max 0 (min ((a0 : Nat) : Int) ((a0 : Nat) : Int)))) := fm 1 2 1816423492 [] (ie (ca (nv 0)) (ix (ik 0) (iN (ca (nv 0)) (ca (nv 0))))) [a0] [] tt
theorem om721 {a0 a1 : Nat} : (a1 - a0) = 0 → a0 ≤ a1 → (a0 = a1) := fm 2 2 50612370 [ne (ns (nv 1) (nv 0)) (nk 0), nl (nv 0) (nv 1)] (ne (nv 0) (nv 1)) [a0, a1] [] tt
theorem om722 {a0 a1 a2 : Nat} : (a1 - a0) = (a2 + 1) → (a0 < a1) := fm 3 2 8780 [ne (ns (nv 1) (nv 0)) (na (nv 2) (nk 1))] (nl (na (nv 0) (nk 1)) (nv 1)) [a0, a1, a2] [] tt
theorem om723 {a0 a1 a2 a3 : Nat} : (a0 - a1) = (a2 + 1) → a3 = a1 → ((a0 - (a1 + 1)) = a2) := fm 4 2 77980734069067422753755204 [ne (ns (nv 0) (nv 1)) (na (nv 2) (nk 1)), ne (nv 3) (nv 1)] (ne (ns (nv 0) (na (nv 1) (nk 1))) (nv 2)) [a0, a1, a2, a3] [] tt
theorem om724 {a0 a1 : Nat} : (a0 - a1) = 0 → a0 ≥ a1 → (a0 = a1) := fm 2 2 36047121 [ne (ns (nv 0) (nv 1)) (nk 0), nl (nv 1) (nv 0)] (ne (nv 0) (nv 1)) [a0, a1] [] tt
theorem om725 {a0 a1 a2 : Nat} : a0 = a1 → a2 ≤ 1000 → a1 < a2 → (a0 ≤ 16777216) := fm 3 2 29 [ne (nv 0) (nv 1), nl (nv 2) (nk 1000), nl (na (nv 1) (nk 1)) (nv 2)] (nl (nv 0) (nk 16777216)) [a0, a1, a2] [] tt
theorem om726 {a0 a1 : Int} : a1 ≤ (a0 + 1) → ((Int.toNat (a1 - a0)) ≤ (2 ^ 20)) := fm 0 2 37 [il (iv 1) (ia (iv 0) (ik 1))] (nl (tn (is (iv 1) (iv 0))) (nk 1048576)) [] [a0, a1] tt
theorem om727 {a0 a1 : Nat} : a0 ≤ 3 → a1 < (a0 - 1) → (a1 < 2) := fm 2 2 781 [nl (nv 0) (nk 3), nl (na (nv 1) (nk 1)) (ns (nv 0) (nk 1))] (nl (na (nv 1) (nk 1)) (nk 2)) [a0, a1] [] tt
theorem om728 {a0 : Nat} : (0 ≤ (1 + ((a0 : Nat) : Int))) := fm 1 2 3 [] (il (ik 0) (ia (ik 1) (ca (nv 0)))) [a0] [] tt
theorem om729 {a0 : Nat} : a0 < 2 → ((1 + ((a0 : Nat) : Int)) < 3) := fm 1 2 3 [nl (na (nv 0) (nk 1)) (nk 2)] (il (ia (ia (ik 1) (ca (nv 0))) (ik 1)) (ik 3)) [a0] [] tt
theorem om730 {a0 : Nat} : (0 ≤ ((1 + ((a0 : Nat) : Int)) - 1)) := fm 1 2 3 [] (il (ik 0) (is (ia (ik 1) (ca (nv 0))) (ik 1))) [a0] [] tt
theorem om731 {a0 : Nat} : a0 < 2 → (((1 + ((a0 : Nat) : Int)) - 1) < 3) := fm 1 2 3 [nl (na (nv 0) (nk 1)) (nk 2)] (il (ia (is (ia (ik 1) (ca (nv 0))) (ik 1)) (ik 1)) (ik 3)) [a0] [] tt
theorem om732 {a0 a1 : Nat} : a0 ≤ a1 → a1 ≤ 12 → (a0 ≤ 20) := fm 2 2 7 [nl (nv 0) (nv 1), nl (nv 1) (nk 12)] (nl (nv 0) (nk 20)) [a0, a1] [] tt
theorem om733 {a0 : Int} : a0 ≤ 3 → ((Int.toNat (a0 - 1)) ≤ (2 ^ 20)) := fm 0 2 37 [il (iv 0) (ik 3)] (nl (tn (is (iv 0) (ik 1))) (nk 1048576)) [] [a0] tt
theorem om734 {a0 a1 : Nat} : a1 ≤ (2 ^ 20) → a0 ≤ 4 → ((a0 + a1) ≤ 16777216) := fm 2 2 7 [nl (nv 1) (nk 1048576), nl (nv 0) (nk 4)] (nl (na (nv 0) (nv 1)) (nk 16777216)) [a0, a1] [] tt
theorem om735 {a0 : Nat} : a0 ≤ 7 → ((a0 + (0 + 1)) ≤ 16777216) := fm 1 2 3 [nl (nv 0) (nk 7)] (nl (na (nv 0) (na (nk 0) (nk 1))) (nk 16777216)) [a0] [] tt
theorem om736 {a0 : Nat} : a0 ≤ 7 → (((0 + 1) + a0) ≤ 16777216) := fm 1 2 3 [nl (nv 0) (nk 7)] (nl (na (na (nk 0) (nk 1)) (nv 0)) (nk 16777216)) [a0] [] tt
end
end
local macro_rules | `(tactic| k_lt $h:ident) => `(tactic| (replace $h := allLt_of $h; dsimp only [AllLt] at $h:ident))
local macro_rules | `(tactic| walk_at "my asm") => `(tactic| first | assumption | exact (by assumption : _ ∧ _).1 | exact (by assumption : _ ∧ _ ∧ _).2.1 | exact (by assumption : _ ∧ _ ∧ _ ∧ _).2.2.1 | exact (by assumption : _ ∧ _ ∧ _ ∧ _ ∧ _).2.2.2.1 | exact (by assumption : _ ∧ _ ∧ _ ∧ _ ∧ _ ∧ _).2.2.2.2.1 | exact (by assumption : _ ∧ _ ∧ _ ∧ _ ∧ _ ∧ _ ∧ _).2.2.2.2.2.1 | exact (by assumption : _ ∧ _ ∧ _ ∧ _ ∧ _ ∧ _ ∧ _ ∧ _).2.2.2.2.2.2.1 | exact (by assumption : _ ∧ _ ∧ _ ∧ _ ∧ _ ∧ _ ∧ _ ∧ _ ∧ _).2.2.2.2.2.2.2.1 | exact (by assumption : _ ∧ _).2 | exact (by assumption : _ ∧ _ ∧ _).2.2 | exact (by assumption : _ ∧ _ ∧ _ ∧ _).2.2.2 | exact (by assumption : _ ∧ _ ∧ _ ∧ _ ∧ _).2.2.2.2 | exact (by assumption : _ ∧ _ ∧ _ ∧ _ ∧ _ ∧ _).2.2.2.2.2 | exact (by assumption : _ ∧ _ ∧ _ ∧ _ ∧ _ ∧ _ ∧ _).2.2.2.2.2.2 | exact (by assumption : _ ∧ _ ∧ _ ∧ _ ∧ _ ∧ _ ∧ _ ∧ _).2.2.2.2.2.2.2 | exact (by assumption : _ ∧ _ ∧ _ ∧ _ ∧ _ ∧ _ ∧ _ ∧ _ ∧ _).2.2.2.2.2.2.2.2)
local macro_rules | `(tactic| walk_at "my lt") => `(tactic| first | walk_at "my asm" | exact Nat.lt_succ_self _ | (refine Nat.lt_succ_of_lt ?_; first | walk_at "my asm" | exact Nat.lt_succ_self _ | (refine Nat.lt_succ_of_lt ?_; first | walk_at "my asm" | exact Nat.lt_succ_self _ | (refine Nat.lt_succ_of_lt ?_; first | walk_at "my asm" | exact Nat.lt_succ_self _ | (refine Nat.lt_succ_of_lt ?_; first | walk_at "my asm" | exact Nat.lt_succ_self _ | (refine Nat.lt_succ_of_lt ?_; first | walk_at "my asm" | exact Nat.lt_succ_self _))))) | (refine Nat.lt_trans ?_ (by walk_at "my asm"); walk_at "my asm") | (refine Nat.lt_of_le_of_lt ?_ (by assumption : _ + 10 < _); (repeat first | exact Nat.le_add_right _ _ | refine Nat.succ_le_succ ?_); done) | (refine Nat.lt_of_le_of_lt (m := 61) (by decide) ?_; (repeat first | assumption | refine Nat.lt_succ_of_lt ?_); done))
local macro_rules | `(tactic| omega) => `(tactic| with_reducible first | exact Nat.ne_of_lt (by walk_at "my lt") | exact Nat.ne_of_gt (by walk_at "my lt") | exact Int.natCast_nonneg _ | exact Int.le_of_lt (by walk_at "my asm") | (refine Int.le_of_lt (Int.lt_of_le_of_lt ?_ (by assumption)); assumption) | exact Nat.le_trans (by walk_at "my asm") (by decide) | exact Ne.symm (by assumption) | decide)
section
noncomputable abbrev NoE : Value → Shared → Prop := fun _ _ => False

structure Room (n : Nat) (A : Around) : Prop where
  hh : A.handled = none
  hd : A.depth + n < 690
  hu : A.units + 10 * n < 9900

theorem Room.le {n m : Nat} {A : Around} (R : Room m A) (h : n ≤ m) : Room n A := ⟨R.hh, by have := R.hd; (first | exact om0 h this | omega), by have := R.hu; (first | exact om1 h this | omega)⟩
theorem Room.deep {n m : Nat} {A : Around} {env : Env} (R : Room m A) (h : n + 1 ≤ m) : Room n (A.deeper env) :=
  ⟨R.hh, by have := R.hd; show A.depth + 1 + n < 690; (first | exact om2 h this | omega), by have := R.hu; show A.units + 3 + 10 * n < 9900; (first | exact om3 h this | omega)⟩
theorem Room.one {n m : Nat} {A : Around} (R : Room m A) (h : n + 1 ≤ m) : Room n A.in1 :=
  ⟨R.hh, by have := R.hd; show A.depth + n < 690; (first | exact om4 h this | omega), by have := R.hu; show A.units + 1 + 10 * n < 9900; (first | exact om5 h this | omega)⟩
theorem Room.lim {n : Nat} {A : Around} (R : Room n A) : A.depth < recursionLimit := by have := R.hd; show A.depth < 1000; (first | exact om6 this | omega)
theorem Room.unit {n : Nat} {A : Around} (R : Room n A) : A.units < cLine := by have := R.hu; show A.units < 9900; (first | exact om7 this | omega)

section
variable {M : Model} {A : Around} {E : Value → Shared → Prop} {h h₀ : Heap} {L a : Addr} {m : Str → Option Value} {cn : Str} {cs : Scope} {ccd : Value} {cl : List (Str × Addr)}
  {x : Str} {v : Value} {Q : Unit → Shared → Prop} {news : List (Addr × Obj)} {ge : Array GenState} {dr : Drawn} {tk : Nat} {os : OsState} {i : Int} {t : Tok}
theorem storeT (F : Fr h₀ L h m) (N : News h₀ L h news)
    (hh : ∀ tk' h', Fr h₀ L h' (fun y => if y = x then some v else m y) → News h₀ L h' news → Q () ⟨h', ge, dr, tk', os⟩)
    (hk : cs.kind = .function) (hx : (envX cn cs L a ccd cl).kindOf x = some .local) : wpAny M A (storeName (envX cn cs L a ccd cl) x v) Q E ⟨h, ge, dr, tk, os⟩ :=
  storeX_L (s := ⟨h, ge, dr, tk, os⟩) F N (fun h' F' N' => hh _ h' F' N') hk hx
theorem storeI (F : Fr h₀ L h m) (N : News h₀ L h news)
    (hh : ∀ tk' t' h', Fr h₀ L h' (fun y => if y = x then some (.int i t') else m y) → News h₀ L h' news → Q () ⟨h', ge, dr, tk', os⟩)
    (hk : cs.kind = .function) (hx : (envX cn cs L a ccd cl).kindOf x = some .local) : wpAny M A (storeName (envX cn cs L a ccd cl) x (.int i t)) Q E ⟨h, ge, dr, tk, os⟩ :=
  storeX_L (s := ⟨h, ge, dr, tk, os⟩) F N (fun h' F' N' => hh _ _ h' F' N') hk hx
end

section
variable {prog : Program} {w : World} {p : Program} {loose : List Str} {mean : ExcName → Option Value} {mg mb : Str → Option Value} {K : Frag}
  {A : Around} {G : Heap} {s : Shared} {Q : Value → Shared → Prop} {E : Value → Shared → Prop} {f : Addr} {args : List Value} {kw : List (Str × Value)}
  {name qual : Str} {params : Arguments} {body : List Stmt} {scope : Scope} {dV kV doc pm cdv ct oc : Value} {an od : Option Addr} {osl : Array (Option Value)} {binds : List (Str × Value)}

theorem enter0 {n : Nat} (st : G.StaysIn s.heap) (X : K.In G) (T : Top p loose mean mg mb G) (R : Room n A)
    (ho : K.lookup f = some ⟨oc, od, .func (fnOf name qual params body scope dV kV doc pm an cdv ct), osl⟩) (hcd : codeIn K cdv qual = true)
    (hbind : BindsTo s (fnOf name qual params body scope dV kV doc pm an cdv ct) ⟨args, kw⟩ binds) (hloc : ∀ y ∈ binds, scope.names.lookup y.1 = some .local)
    (h : ∀ L' h₁ tk, Fr s.heap L' h₁ (fun y => binds.reverse.lookup y) → News s.heap L' h₁ [] → K.In s.heap → Top p loose mean mg mb s.heap →
      wpAny (model prog w) (A.deeper (envOf qual scope L' f cdv)) (execs body (envOf qual scope L' f cdv))
        (fun fl s' => Q (match fl with | .ret v => v | _ => .none) s') NoE { s with heap := h₁, toks := tk })
    (hco : scope.isCoroutine = false) (hgen : scope.isGenerator = false) (hk : scope.kind = .function)
    (hcell : ∀ x ∈ scope.names, x.2 ≠ .cell) : wpAny (model prog w) A (call (.ref f) args kw) Q E s := by
  refine wpAny_call (codeAny_call_def (fd := fnOf name qual params body scope dV kV doc pm an cdv ct) (body := body) (binds := binds) R.lim ((X.keeps st) _ _ ho) rfl (T.nolimit.keeps st) (codeRec_of (X.keeps st) hcd) rfl hbind hcell hloc (fun h₁ hns hk₁ => ?_) hco hgen hk)
  exact wpAny_mono (h s.heap.objs.size h₁ _ ⟨hns, hk₁, Nat.le_refl _⟩ News.nil (X.keeps st) (T.keeps st)) (fun fl s' hl => hl) fun _ _ y => y.elim
end

theorem StaysIn.refl (h : Heap) : h.StaysIn h := fun _ _ e => e
theorem StaysIn.trans {a b c : Heap} (x : a.StaysIn b) (y : b.StaysIn c) : a.StaysIn c := fun _ _ e => y _ _ (x _ _ e)
noncomputable abbrev tup (vs : List Value) : Obj := { cls := .type "tuple", data := .seq vs.toArray }

noncomputable def Halt (P : Prop) : Prop := P
theorem Halt.go {P : Prop} (h : Halt P) : P := h
section
variable {prog : Program} {w : World} {A : Around} {Q : Flow → Shared → Prop} {V : Value → Shared → Prop} {E : Value → Shared → Prop} {s : Shared} {e : Env} {r : List Stmt}
theorem haltN (n : String) {p v q} (h : Halt (wpAny (model prog w) A (execs (.Assign [.Name (Str.ofString n) p] v q :: r) e) Q E s)) : wpAny (model prog w) A (execs (.Assign [.Name (Str.ofString n) p] v q :: r) e) Q E s := h
theorem haltFor {a b c d f} (h : Halt (wpAny (model prog w) A (execs (.For a b c d f :: r) e) Q E s)) : wpAny (model prog w) A (execs (.For a b c d f :: r) e) Q E s := h
theorem haltEx {a b} (h : Halt (wpAny (model prog w) A (execs (.Expr a b :: r) e) Q E s)) : wpAny (model prog w) A (execs (.Expr a b :: r) e) Q E s := h
theorem haltIf {a b c d} (h : Halt (wpAny (model prog w) A (execs (.If a b c d :: r) e) Q E s)) : wpAny (model prog w) A (execs (.If a b c d :: r) e) Q E s := h
theorem haltM (n : String) {a b} {V} (h : Halt (wpAny (model prog w) A (getMethod (.ref a) (Str.ofString n) b) V E s)) : wpAny (model prog w) A (getMethod (.ref a) (Str.ofString n) b) V E s := h
theorem haltA (n : String) {a b} (h : Halt (wpAny (model prog w) A (getAttr (.ref a) (Str.ofString n) b) V E s)) : wpAny (model prog w) A (getAttr (.ref a) (Str.ofString n) b) V E s := h
theorem haltSub {a b c d x y} (h : Halt (wpAny (model prog w) A (subscriptTail (.List a b) c (.ref d) (.int x y)) V E s)) : wpAny (model prog w) A (subscriptTail (.List a b) c (.ref d) (.int x y)) V E s := h
end
theorem Fr.see {h₀ h : Heap} {L : Addr} {m : Str → Option Value} {x : Str} {v : Value} (F : Fr h₀ L h m) (e : m x = some v) : Fr h₀ L h (fun y => if y = x then some v else m y) := by
  have em : (fun y => if y = x then some v else m y) = m := by
    funext y
    by_cases hy : y = x
    · rw [if_pos hy, hy, e]
    · rw [if_neg hy]
  rw [em]; exact F
theorem fresh_of {g h : Heap} {q : Addr} (k : g.StaysIn h) (e : h.get? q = none) : g.get? q = none := by
  cases x : g.get? q with
  | none => rfl
  | some o => rw [k _ _ x] at e; cases e
theorem News.add {g h h' : Heap} {L q : Addr} {m : Str → Option Value} {news : List (Addr × Obj)} {o : Obj} (F : Fr g L h m) (N : News g L h news) (k : h.StaysIn h') (e : h'.get? q = some o) (f : h.get? q = none) :
    News g L h' ((q, o) :: news) := by
  intro p hp
  rcases List.mem_cons.mp hp with rfl | hp
  · refine ⟨e, fun (x : q = L) => ?_, fresh_of F.keep f⟩
    obtain ⟨oL, _, _, hL, _⟩ := F.ns
    rw [x, hL] at f; cases f
  · exact (News.grown N k) p hp
theorem News.none {g h : Heap} {L q : Addr} {o : Obj} {news : List (Addr × Obj)} (N : News g L h news) (hm : (q, o) ∈ news) : g.get? q = none := (N _ hm).2.2
theorem Fr.see2 {h₀ h : Heap} {L : Addr} {m : Str → Option Value} {x1 x2 : Str} {v1 v2 : Value} (F : Fr h₀ L h m) (e1 : m x1 = some v1) (e2 : m x2 = some v2) :
    Fr h₀ L h (fun y => if y = x1 then some v1 else if y = x2 then some v2 else m y) := by
  have em : (fun y => if y = x1 then some v1 else if y = x2 then some v2 else m y) = m := by
    funext y
    (repeat' split) <;> (try subst_vars) <;> first | rfl | exact e1.symm | exact e2.symm
  rw [em]; exact F
theorem Fr.see3 {h₀ h : Heap} {L : Addr} {m : Str → Option Value} {x1 x2 x3 : Str} {v1 v2 v3 : Value} (F : Fr h₀ L h m) (e1 : m x1 = some v1) (e2 : m x2 = some v2) (e3 : m x3 = some v3) :
    Fr h₀ L h (fun y => if y = x1 then some v1 else if y = x2 then some v2 else if y = x3 then some v3 else m y) := by
  have em : (fun y => if y = x1 then some v1 else if y = x2 then some v2 else if y = x3 then some v3 else m y) = m := by
    funext y
    (repeat' split) <;> (try subst_vars) <;> first | rfl | exact e1.symm | exact e2.symm | exact e3.symm
  rw [em]; exact F
theorem Fr.see4 {h₀ h : Heap} {L : Addr} {m : Str → Option Value} {x1 x2 x3 x4 : Str} {v1 v2 v3 v4 : Value} (F : Fr h₀ L h m) (e1 : m x1 = some v1) (e2 : m x2 = some v2) (e3 : m x3 = some v3) (e4 : m x4 = some v4) :
    Fr h₀ L h (fun y => if y = x1 then some v1 else if y = x2 then some v2 else if y = x3 then some v3 else if y = x4 then some v4 else m y) := by
  have em : (fun y => if y = x1 then some v1 else if y = x2 then some v2 else if y = x3 then some v3 else if y = x4 then some v4 else m y) = m := by
    funext y
    (repeat' split) <;> (try subst_vars) <;> first | rfl | exact e1.symm | exact e2.symm | exact e3.symm | exact e4.symm
  rw [em]; exact F
section
variable {prog : Program} {w : World} {A : Around} {E : Value → Shared → Prop} {s : Shared} {a b c n : Int} {t u : Tok} {Q : Value → Shared → Prop}
theorem and_is (e : Builtin.bitAnd a b = c) (h : Q (.int c s.toks) { s with toks := s.toks + 1 }) : wpAny (model prog w) A (binaryOp .BitAnd (.int a t) (.int b u)) Q E s := by subst e; exact and_int h
theorem or_is (e : Builtin.bitOr a b = c) (h : Q (.int c s.toks) { s with toks := s.toks + 1 }) : wpAny (model prog w) A (binaryOp .BitOr (.int a t) (.int b u)) Q E s := by subst e; exact or_int h
theorem xor_is (e : Builtin.bitXor a b = c) (h : Q (.int c s.toks) { s with toks := s.toks + 1 }) : wpAny (model prog w) A (binaryOp .BitXor (.int a t) (.int b u)) Q E s := by subst e; exact xor_int h
theorem rshift_is (hn : 0 ≤ n) (e : a.fdiv (2 ^ n.toNat) = c) (h : Q (.int c s.toks) { s with toks := s.toks + 1 }) : wpAny (model prog w) A (binaryOp .RShift (.int a t) (.int n u)) Q E s := by subst e; exact rshift_int hn h
theorem irshift_is (hn : 0 ≤ n) (e : a.fdiv (2 ^ n.toNat) = c) (h : Q (.int c s.toks) { s with toks := s.toks + 1 }) : wpAny (model prog w) A (inplaceOp .RShift (.int a t) (.int n u)) Q E s := by subst e; exact irshift_int hn h
theorem lshift_is (hn : 0 ≤ n) (hsz : (Builtin.Int.intBits a : Int) + n ≤ 2 ^ 27) (e : a * 2 ^ n.toNat = c) (h : Q (.int c s.toks) { s with toks := s.toks + 1 }) : wpAny (model prog w) A (binaryOp .LShift (.int a t) (.int n u)) Q E s := by subst e; exact lshift_int hn hsz h
theorem ilshift_is (hn : 0 ≤ n) (hsz : (Builtin.Int.intBits a : Int) + n ≤ 2 ^ 27) (e : a * 2 ^ n.toNat = c) (h : Q (.int c s.toks) { s with toks := s.toks + 1 }) : wpAny (model prog w) A (inplaceOp .LShift (.int a t) (.int n u)) Q E s := by subst e; exact ilshift_int hn hsz h
theorem mul_is (hm : IntMulOk a b) (e : a * b = c) (h : Q (.int c s.toks) { s with toks := s.toks + 1 }) : wpAny (model prog w) A (binaryOp .Mult (.int a t) (.int b u)) Q E s := by subst e; exact mul_int h hm
end
end
section
section
variable {prog : Program} {w : World} {p : Program} {loose : List Str} {mean : ExcName → Option Value} {mg mb : Str → Option Value} {K : Frag}
  {A : Around} {G : Heap} {s : Shared} {Q : Value → Shared → Prop} {E : Value → Shared → Prop} {f : Addr} {args : List Value} {kw : List (Str × Value)}
  {name qual : Str} {params : Arguments} {body : List Stmt} {scope : Scope} {dV kV doc pm cdv ct oc : Value} {an od : Option Addr} {osl : Array (Option Value)} {binds : List (Str × Value)}

noncomputable def Less (hid : List (Addr × Obj)) (h g : Heap) : Prop := ∀ b o, (∀ q ∈ hid, b ≠ q.1) → h.get? b = some o → g.get? b = some o

theorem less_hide (hid : List (Addr × Obj)) (h : Heap) : Less hid h (hideAll h (hid.map (·.1))) := fun b o hb e => hideAll_get _ e fun hm => by
  obtain ⟨q, hq, rfl⟩ := List.mem_map.mp hm
  exact hb q hq rfl

theorem Less.nil {h g : Heap} (l : Less [] h g) : h.StaysIn g := fun b o e => l b o (fun _ hq => nomatch hq) e

theorem enterH {n : Nat} (hid : List (Addr × Obj)) (st : G.StaysIn s.heap) (hH : ∀ q ∈ hid, s.heap.get? q.1 = some q.2 ∧ G.get? q.1 = none) (X : K.In G) (T : Top p loose mean mg mb G) (R : Room n A)
    (ho : K.lookup f = some ⟨oc, od, .func (fnOf name qual params body scope dV kV doc pm an cdv ct), osl⟩) (hcd : codeIn K cdv qual = true)
    (hbind : BindsTo s (fnOf name qual params body scope dV kV doc pm an cdv ct) ⟨args, kw⟩ binds) (hloc : ∀ y ∈ binds, scope.names.lookup y.1 = some .local)
    (h : ∀ g L' h₁ tk, g.StaysIn s.heap → Less hid s.heap g → G.StaysIn g → Fr g L' h₁ (fun y => binds.reverse.lookup y) → News g L' h₁ hid → K.In g → Top p loose mean mg mb g → (∀ q ∈ hid, q.1 < L') → s.heap.objs.size ≤ L' →
      wpAny (model prog w) (A.deeper (envOf qual scope L' f cdv)) (execs body (envOf qual scope L' f cdv))
        (fun fl s' => Q (match fl with | .ret v => v | _ => .none) s') NoE { s with heap := h₁, toks := tk })
    (hco : scope.isCoroutine = false) (hgen : scope.isGenerator = false) (hk : scope.kind = .function)
    (hcell : ∀ x ∈ scope.names, x.2 ≠ .cell) : wpAny (model prog w) A (call (.ref f) args kw) Q E s := by
  refine wpAny_call (codeAny_call_def (fd := fnOf name qual params body scope dV kV doc pm an cdv ct) (body := body) (binds := binds) R.lim ((X.keeps st) _ _ ho) rfl (T.nolimit.keeps st) (codeRec_of (X.keeps st) hcd) rfl hbind hcell hloc (fun h₁ hns hk₁ => ?_) hco hgen hk)
  have sg : G.StaysIn (hideAll s.heap (hid.map (·.1))) := fun b o e => hideAll_get _ (st b o e) fun hm => by
    obtain ⟨q, hq, rfl⟩ := List.mem_map.mp hm
    rw [(hH q hq).2] at e; cases e
  exact wpAny_mono (h _ s.heap.objs.size h₁ _ (fun b o e => of_hideAll _ e) (less_hide hid s.heap) sg ⟨hns, fun b o e => hk₁ b o (of_hideAll _ e), Nat.le_of_eq (hideAll_size _ _)⟩
    (fun q hq => ⟨hk₁ _ _ (hH q hq).1, Nat.ne_of_lt (Heap.lt_size (hH q hq).1), hideAll_none _ (List.mem_map_of_mem hq)⟩) (X.keeps sg) (T.keeps sg) (fun q hq => Heap.lt_size (hH q hq).1) (Nat.le_refl _)) (fun fl s' hl => hl) fun _ _ y => y.elim

theorem enterC {n : Nat} (hid : List (Addr × Obj)) (st : G.StaysIn s.heap) (hH : ∀ q ∈ hid, s.heap.get? q.1 = some q.2 ∧ G.get? q.1 = none) (X : K.In G) (T : Top p loose mean mg mb G) (R : Room n A)
    (ho : K.lookup f = some ⟨oc, od, .func (fnOf name qual params body scope dV kV doc pm an cdv ct), osl⟩) (hcd : codeIn K cdv qual = true)
    (hbind : BindsTo s (fnOf name qual params body scope dV kV doc pm an cdv ct) ⟨args, kw⟩ binds) (hkind : (binds.all fun y => scope.names.lookup y.1 == some .local || scope.names.lookup y.1 == some .cell) = true)
    (hnd : ((cellsFrom 0 scope.names []).map (·.1)).Nodup)
    (h : ∀ g L' h₁ tk cells, g.StaysIn s.heap → Less hid s.heap g → G.StaysIn g → Fr g L' h₁ (bindL (envOfC qual scope L' f cdv).kindOf binds fun _ => none) → News g L' h₁ (cells ++ hid) →
      CellsAre (bindC (envOfC qual scope L' f cdv).kindOf binds fun _ => none) (cellsFrom (L' + 1) scope.names []) cells → K.In g → Top p loose mean mg mb g → (∀ q ∈ hid, q.1 < L') → s.heap.objs.size ≤ L' →
      wpAny (model prog w) (A.deeper (envOfC qual scope L' f cdv)) (execs body (envOfC qual scope L' f cdv))
        (fun fl s' => Q (match fl with | .ret v => v | _ => .none) s') NoE { s with heap := h₁, toks := tk })
    (hco : scope.isCoroutine = false) (hgen : scope.isGenerator = false) (hk : scope.kind = .function) : wpAny (model prog w) A (call (.ref f) args kw) Q E s := by
  refine wpAny_call (codeAny_call_function R.lim ((X.keeps st) _ _ ho) rfl hco hgen rfl (codeRec_of (X.keeps st) hcd) (hbind _ _ _ _ ?_))
  refine wpAny_newFunctionEnv_cells hk (kindsX hkind _) fun env' he s' x => ?_
  subst he
  refine ⟨(T.nolimit.keeps st).keeps x.toInCall.keep, codeAny_func ?_⟩
  obtain ⟨h₁, tk, rfl, _⟩ := x.done
  have hk₁ := x.toInCall.keep
  obtain ⟨cells, NC, Y⟩ := Cl.news (h₀ := s.heap) (Nat.le_refl _) fun n c hm => ⟨x.cell n c (lookup_of_mem_nodup (cellsFrom_names scope.names 0 (s.heap.objs.size + 1) [] [] rfl ▸ hnd) hm), x.above n c hm⟩
  have sg : G.StaysIn (hideAll s.heap (hid.map (·.1))) := fun b o e => hideAll_get _ (st b o e) fun hm => by
    obtain ⟨q, hq, rfl⟩ := List.mem_map.mp hm
    rw [(hH q hq).2] at e; cases e
  refine wpAny_mono (h _ s.heap.objs.size h₁ tk cells (fun b o e => of_hideAll _ e) (less_hide hid s.heap) sg ⟨x.toInCall.ns, fun b o e => hk₁ b o (of_hideAll _ e), Nat.le_of_eq (hideAll_size _ _)⟩ (fun p hp => ?_) Y (X.keeps sg) (T.keeps sg) (fun q hq => Heap.lt_size (hH q hq).1) (Nat.le_refl _)) (fun fl s' hl => hl) fun _ _ y => y.elim
  rcases List.mem_append.mp hp with hp | hp
  · refine ⟨(NC p hp).1, (NC p hp).2.1, ?_⟩
    cases q : (hideAll s.heap (hid.map (·.1))).get? p.1 with
    | none => rfl
    | some o => have := of_hideAll _ q; rw [(NC p hp).2.2] at this; cases this
  · exact ⟨hk₁ _ _ (hH p hp).1, Nat.ne_of_lt (Heap.lt_size (hH p hp).1), hideAll_none _ (List.mem_map_of_mem hp)⟩

theorem enterF {n : Nat} {cl : List (Str × Addr)} {ctv : Value} {c' : Addr} (st : G.StaysIn s.heap) (X : K.In G) (T : Top p loose mean mg mb G) (R : Room n A)
    (ho : s.heap.get? f = some (fnMade name qual params body scope cl doc pm c' ctv)) (hcd : s.heap.CodeRec (.ref c') qual)
    (hbind : BindsTo s (fnX name qual params body scope cl .none .none doc pm none (.ref c') ctv) ⟨args, kw⟩ binds) (hloc : ∀ y ∈ binds, scope.names.lookup y.1 = some .local)
    (h : ∀ L' h₁ tk, Fr s.heap L' h₁ (fun y => binds.reverse.lookup y) → News s.heap L' h₁ [] → K.In s.heap → Top p loose mean mg mb s.heap →
      wpAny (model prog w) (A.deeper (envX qual scope L' f (.ref c') cl)) (execs body (envX qual scope L' f (.ref c') cl))
        (fun fl s' => Q (match fl with | .ret v => v | _ => .none) s') NoE { s with heap := h₁, toks := tk })
    (hco : scope.isCoroutine = false) (hgen : scope.isGenerator = false) (hk : scope.kind = .function)
    (hcell : ∀ x ∈ scope.names, x.2 ≠ .cell) : wpAny (model prog w) A (call (.ref f) args kw) Q E s := by
  refine wpAny_call (codeAny_call_def (fd := fnX name qual params body scope cl .none .none doc pm none (.ref c') ctv) (body := body) (binds := binds) R.lim ho rfl (T.nolimit.keeps st) hcd rfl hbind hcell hloc (fun h₁ hns hk₁ => ?_) hco hgen hk)
  exact wpAny_mono (h s.heap.objs.size h₁ _ ⟨hns, hk₁, Nat.le_refl _⟩ News.nil (X.keeps st) (T.keeps st)) (fun fl s' hl => hl) fun _ _ y => y.elim
end

section
variable {M : Model} {A : Around} {E : Value → Shared → Prop} {s : Shared} {h₀ : Heap} {L a : Addr} {m : Str → Option Value} {cn : Str} {cs : Scope} {ccd : Value} {cl : List (Str × Addr)} {x : Str} {pos : Pos} {v : Value} {Q : Value → Shared → Prop} {c : Addr} {o : Obj}
theorem nameX_Fb (F : Fr h₀ L s.heap m) (hc : cl.lookup x = some c) (hm : h₀.get? c = some o) (hd : o.data = .cell (some v)) (h : Q v s)
    (hk : cs.kind = .function := by rfl) (hx : (envX cn cs L a ccd cl).kindOf x = some .free := by rfl) (hb : (x == ("__debug__" : Str)) = false := by decide) (hn : (x == ("__classdict__" : Str)) = false := by decide) :
    wpAny M A (eval (.Name x pos) (envX cn cs L a ccd cl)) Q E s := wpAny_Name (wpAny_loadName_free hk hx hc ⟨o, F.keep _ _ hm, hd⟩ h hn) hb
end

noncomputable def TbAt (P line col : Nat) (qual : Str) (h : Heap) (ps : Array Value) : Prop :=
  h.get? P = some (tabObj ps) ∧ (ps = #[] ∨ ∃ c' oc vs t, ps = #[rawInt line, rawInt col, .ref c'] ∧ c' ≠ 54 ∧ c' ≠ 61 ∧ h.get? c' = some oc ∧ oc.data = .fields vs ∧ vs[1]? = some (.str qual t))
noncomputable abbrev KeepT (h h' : Heap) : Prop := ∀ b o, b ≠ 54 → b ≠ 61 → h.get? b = some o → h'.get? b = some o
structure Tabs (h : Heap) : Prop where
  one : ∃ ps, TbAt 54 36 4 (Str.ofString "_int2digits.<locals>.inner") h ps
  two : ∃ ps, TbAt 61 51 4 (Str.ofString "_digits2int.<locals>.inner") h ps
theorem TbAt.keep {P line col : Nat} {qual : Str} {h h' : Heap} {ps : Array Value} (x : TbAt P line col qual h ps) (hP : h'.get? P = some (tabObj ps)) (k : KeepT h h') : TbAt P line col qual h' ps :=
  ⟨hP, x.2.imp id fun ⟨c', oc, vs, t, a1, a2, a3, a4, a5, a6⟩ => ⟨c', oc, vs, t, a1, a2, a3, k _ _ a2 a3 a4, a5, a6⟩⟩
theorem KeepT.of {h h' : Heap} (k : h.StaysIn h') : KeepT h h' := fun b o _ _ e => k b o e
theorem KeepT.trans {a b c : Heap} (x : KeepT a b) (y : KeepT b c) : KeepT a c := fun q o h1 h2 e => y q o h1 h2 (x q o h1 h2 e)
theorem Tabs.stay {h h' : Heap} (x : Tabs h) (k : h.StaysIn h') : Tabs h' :=
  ⟨let ⟨ps, q⟩ := x.one; ⟨ps, q.keep (k _ _ q.1) (KeepT.of k)⟩, let ⟨ps, q⟩ := x.two; ⟨ps, q.keep (k _ _ q.1) (KeepT.of k)⟩⟩
theorem stays_keepT {G h h' : Heap} (st : G.StaysIn h) (n1 : G.get? 54 = none) (n2 : G.get? 61 = none) (k : KeepT h h') : G.StaysIn h' := fun b o e =>
  k b o (fun q => by rw [q, n1] at e; cases e) (fun q => by rw [q, n2] at e; cases e) (st b o e)
theorem FnAt.stay {q : Addr} {h h' : Heap} (x : FnAt q h) (k : h.StaysIn h') : FnAt q h' := let ⟨oc, od, fd, sl, e⟩ := x; ⟨oc, od, fd, sl, k _ _ e⟩
theorem FnAt.mk {q : Addr} {h : Heap} {oc : Value} {od : Option Addr} {fd : FuncData} {sl : Array (Option Value)} (e : h.get? q = some ⟨oc, od, .func fd, sl⟩) : FnAt q h := ⟨oc, od, fd, sl, e⟩
noncomputable abbrev KeepBut (al : Addr) (h h' : Heap) : Prop := ∀ b o, b ≠ al → h.get? b = some o → h'.get? b = some o
theorem Fr.but {g h h' : Heap} {L al : Addr} {m : Str → Option Value} {news : List (Addr × Obj)} {o : Obj} (F : Fr g L h m) (N : News g L h news) (hm : (al, o) ∈ news) (k : KeepBut al h h') : Fr g L h' m :=
  ⟨F.ns.at fun o e => k L o (fun q => (N _ hm).2.1 q.symm) e, fun b x e => k b x (fun q => by have := (N _ hm).2.2; rw [← q, e] at this; cases this) (F.keep b x e), F.above⟩
theorem News.but {g h h' : Heap} {L al : Addr} {news : List (Addr × Obj)} {gg : Obj → List (Addr × Obj)} {o o' : Obj} (N : News g L h news) (U : UpdF al o news gg) (k : KeepBut al h h') (e : h'.get? al = some o') : News g L h' (gg o') := by
  obtain ⟨own, rest, rfl, hg, h1, h2⟩ := U.split
  rw [hg]
  have hd := N (al, o) (List.mem_append_right _ (.head _))
  intro q hq
  rcases List.mem_append.mp hq with hq | hq
  · have := N q (List.mem_append_left _ hq)
    exact ⟨k _ _ (h1 q hq) this.1, this.2⟩
  · rcases List.mem_cons.mp hq with rfl | hq
    · exact ⟨e, hd.2⟩
    · have := N q (List.mem_append_right _ (.tail _ hq))
      exact ⟨k _ _ (h2 q hq) this.1, this.2⟩
section
variable {prog : Program} {w : World} {p : Program} {loose : List Str} {mean : ExcName → Option Value} {mg mb : Str → Option Value} {K : Frag}
  {A : Around} {G : Heap} {s : Shared} {Q : Value → Shared → Prop} {E : Value → Shared → Prop} {f : Addr} {args : List Value} {kw : List (Str × Value)}
  {name qual : Str} {params : Arguments} {body : List Stmt} {scope : Scope} {dV kV doc pm cdv ct oc : Value} {an od : Option Addr} {osl : Array (Option Value)} {binds : List (Str × Value)}
theorem enterFH {n : Nat} {cl : List (Str × Addr)} {ctv : Value} {c' : Addr} (hid : List (Addr × Obj)) (st : G.StaysIn s.heap) (hH : ∀ q ∈ hid, s.heap.get? q.1 = some q.2 ∧ G.get? q.1 = none) (X : K.In G) (T : Top p loose mean mg mb G) (R : Room n A)
    (ho : s.heap.get? f = some (fnMade name qual params body scope cl doc pm c' ctv)) (hcd : s.heap.CodeRec (.ref c') qual)
    (hbind : BindsTo s (fnX name qual params body scope cl .none .none doc pm none (.ref c') ctv) ⟨args, kw⟩ binds) (hloc : ∀ y ∈ binds, scope.names.lookup y.1 = some .local)
    (h : ∀ g L' h₁ tk, g.StaysIn s.heap → Less hid s.heap g → G.StaysIn g → Fr g L' h₁ (fun y => binds.reverse.lookup y) → News g L' h₁ hid → K.In g → Top p loose mean mg mb g → (∀ q ∈ hid, q.1 < L') →
      wpAny (model prog w) (A.deeper (envX qual scope L' f (.ref c') cl)) (execs body (envX qual scope L' f (.ref c') cl))
        (fun fl s' => Q (match fl with | .ret v => v | _ => .none) s') NoE { s with heap := h₁, toks := tk })
    (hco : scope.isCoroutine = false) (hgen : scope.isGenerator = false) (hk : scope.kind = .function)
    (hcell : ∀ x ∈ scope.names, x.2 ≠ .cell) : wpAny (model prog w) A (call (.ref f) args kw) Q E s := by
  refine wpAny_call (codeAny_call_def (fd := fnX name qual params body scope cl .none .none doc pm none (.ref c') ctv) (body := body) (binds := binds) R.lim ho rfl (T.nolimit.keeps st) hcd rfl hbind hcell hloc (fun h₁ hns hk₁ => ?_) hco hgen hk)
  have sg : G.StaysIn (hideAll s.heap (hid.map (·.1))) := fun b o e => hideAll_get _ (st b o e) fun hm => by
    obtain ⟨q, hq, rfl⟩ := List.mem_map.mp hm
    rw [(hH q hq).2] at e; cases e
  exact wpAny_mono (h _ s.heap.objs.size h₁ _ (fun b o e => of_hideAll _ e) (less_hide hid s.heap) sg ⟨hns, fun b o e => hk₁ b o (of_hideAll _ e), Nat.le_of_eq (hideAll_size _ _)⟩
    (fun q hq => ⟨hk₁ _ _ (hH q hq).1, Nat.ne_of_lt (Heap.lt_size (hH q hq).1), hideAll_none _ (List.mem_map_of_mem hq)⟩) (X.keeps sg) (T.keeps sg) (fun q hq => Heap.lt_size (hH q hq).1)) (fun fl s' hl => hl) fun _ _ y => y.elim
end
section
variable {prog : Program} {w : World} {A : Around} {E : Value → Shared → Prop} {s : Shared} {a b c n : Int} {t u : Tok} {Q : Value → Shared → Prop} {h₀ : Heap} {L : Addr} {m : Str → Option Value} {news : List (Addr × Obj)}
theorem floordiv_is (hb : b ≠ 0) (hp : b.natAbs.log2 < 9000) (e : a.fdiv b = c) (h : Q (.int c s.toks) { s with toks := s.toks + 1 }) : wpAny (model prog w) A (binaryOp .FloorDiv (.int a t) (.int b u)) Q E s := by
  subst e; exact floordiv_int hb h (Or.inl (PyProof.noPylong_of_log2 hp))
theorem rep_flat (v : Value) (c : Nat) : (List.replicate c [v]).flatten = List.replicate c v := by
  induction c with
  | zero => rfl
  | succ c ih => rw [List.replicate_succ, List.flatten_cons, List.replicate_succ, ih]; rfl
theorem mul_rep {l : Addr} {v : Value} {k c : Nat} (F : Fr h₀ L s.heap m) (N : News h₀ L s.heap news) (hm : (l, listOf #[v] k) ∈ news) (hc : c ≤ 2 ^ 24)
    (h : ∀ q h', Fr h₀ L h' m → News h₀ L h' ((q, listOf (List.replicate c v).toArray 0) :: news) → (∀ p ∈ news, p.1 < q) → Q (.ref q) { s with heap := h' }) :
    wpAny (model prog w) A (binaryOp .Mult (.ref l) (.int (c : Int) u)) Q E s := by
  refine mul_list F N (N.get hm) (by (first | exact om8 | omega)) (by (first | exact om9 hc | omega)) (by simpa using hc) fun h' F' N' => h _ h' F' ?_ fun p hp => Heap.lt_size (N p hp).1
  rw [listMul_foldl_if] at N'
  have e : (List.replicate (c : Int).toNat (#[v] : Array Value).toList).flatten = List.replicate c v := by
    rw [Int.toNat_natCast]; exact rep_flat v c
  rw [e] at N'
  exact N'
end
end
section
section
variable {prog : Program} {w : World} {p : Program} {loose : List Str} {mean : ExcName → Option Value} {mg mb : Str → Option Value} {K : Frag}
  {A : Around} {G : Heap} {s : Shared} {Q : Value → Shared → Prop} {E : Value → Shared → Prop} {f : Addr} {args : List Value} {kw : List (Str × Value)}
  {name qual : Str} {params : Arguments} {body : List Stmt} {scope : Scope} {dV kV doc pm cdv ct oc : Value} {an od : Option Addr} {osl : Array (Option Value)}
theorem enterK {n : Nat} {front : List (Str × Value)} {nm : Str} (hid : List (Addr × Obj)) (st : G.StaysIn s.heap) (hH : ∀ q ∈ hid, s.heap.get? q.1 = some q.2 ∧ G.get? q.1 = none) (X : K.In G) (T : Top p loose mean mg mb G) (R : Room n A)
    (ho : K.lookup f = some ⟨oc, od, .func (fnOf name qual params body scope dV kV doc pm an cdv ct), osl⟩) (hcd : codeIn K cdv qual = true)
    (hbind : bindArgs (fnOf name qual params body scope dV kV doc pm an cdv ct) ⟨args, kw⟩ = (newDict >>= fun d => pure (front ++ [(nm, d)]))) (hloc : ∀ D : Addr, ∀ y ∈ front ++ [(nm, Value.ref D)], scope.names.lookup y.1 = some .local)
    (h : ∀ g L' h₁ tk D, g.StaysIn s.heap → Less hid s.heap g → G.StaysIn g → Fr g L' h₁ (fun y => (front ++ [(nm, Value.ref D)]).reverse.lookup y) → News g L' h₁ ((D, dictOf [] 0) :: hid) → K.In g → Top p loose mean mg mb g → (∀ q ∈ hid, q.1 < D) → @LT.lt Nat _ D L' → (D == sysModules) = false →
      wpAny (model prog w) (A.deeper (envOf qual scope L' f cdv)) (execs body (envOf qual scope L' f cdv))
        (fun fl s' => Q (match fl with | .ret v => v | _ => .none) s') NoE { s with heap := h₁, toks := tk })
    (hco : scope.isCoroutine = false) (hgen : scope.isGenerator = false) (hk : scope.kind = .function)
    (hcell : ∀ x ∈ scope.names, x.2 ≠ .cell) : wpAny (model prog w) A (call (.ref f) args kw) Q E s := by
  refine wpAny_call (codeAny_call_function (fd := fnOf name qual params body scope dV kV doc pm an cdv ct) (body := body) R.lim ((X.keeps st) _ _ ho) rfl hco hgen rfl (codeRec_of (X.keeps st) hcd) ?_)
  rw [hbind]
  refine wpAny_bind (wpAny_newObj_type (wpAny_pure ?_))
  have up : ∀ b o, s.heap.get? b = some o → (s.heap.push (dictOf [] 0)).get? b = some o := fun b o e => Heap.get?_push_of_some _ e
  have hD : (s.heap.push (dictOf [] 0)).get? s.heap.objs.size = some (dictOf [] 0) := Heap.get?_push_size _ rfl
  have hsz : (s.heap.push (dictOf [] 0)).objs.size = s.heap.objs.size + 1 := Heap.size_push ..
  refine wpAny_newFunctionEnv hcell (hloc _) (fun h₀ hns₀ hsb₀ => ?_) hk
  have k₀ : ∀ b o, (s.heap.push (dictOf [] 0)).get? b = some o → h₀.get? b = some o := fun b o e => hsb₀.extBut b o (Nat.ne_of_lt (Heap.lt_size e)) (Heap.get?_push_of_some _ e)
  refine ⟨(T.nolimit.keeps fun b o e => k₀ b o (up b o (st b o e))), codeAny_func ?_⟩
  have sg : G.StaysIn (hideAll s.heap (hid.map (·.1))) := fun b o e => hideAll_get _ (st b o e) fun hm => by
    obtain ⟨q, hq, rfl⟩ := List.mem_map.mp hm
    rw [(hH q hq).2] at e; cases e
  have Xg : K.In (hideAll s.heap (hid.map (·.1))) := X.keeps sg
  have Tg : Top p loose mean mg mb (hideAll s.heap (hid.map (·.1))) := T.keeps sg
  have hlt : @LT.lt Nat _ s.heap.objs.size (s.heap.push (dictOf [] 0)).objs.size := by rw [hsz]; exact Nat.lt_succ_self _
  refine wpAny_mono (h (hideAll s.heap (hid.map (·.1))) _ h₀ _ s.heap.objs.size (fun b o e => of_hideAll _ e) (less_hide hid s.heap) sg ⟨hns₀, fun b o e => k₀ b o (up b o (of_hideAll _ e)), ?_⟩ (fun q hq => ?_) Xg Tg (fun q hq => Heap.lt_size (hH q hq).1) hlt (beq_eq_false_iff_ne.mpr (Nat.ne_of_gt (modules_low (T.nolimit.keeps st))))) (fun fl s' hl => hl) fun _ _ y => y.elim
  · rw [hideAll_size]; exact Nat.le_of_lt hlt
  · rcases List.mem_cons.mp hq with rfl | hq
    · refine ⟨k₀ _ _ hD, Nat.ne_of_lt hlt, ?_⟩
      cases e : (hideAll s.heap (hid.map (·.1))).get? s.heap.objs.size with
      | none => rfl
      | some o => exact absurd (Heap.lt_size (of_hideAll _ e)) (Nat.lt_irrefl _)
    · exact ⟨k₀ _ _ (up _ _ (hH q hq).1), Nat.ne_of_lt (Nat.lt_trans (Heap.lt_size (hH q hq).1) hlt), hideAll_none _ (List.mem_map_of_mem hq)⟩
end
section
variable {prog : Program} {w : World} {A : Around} {s : Shared} {env : Env} {h₀ : Heap} {L : Addr} {m : Str → Option Value} {news : List (Addr × Obj)}
theorem tab_none {D : Addr} {h : Heap} (e : h.get? D = some (dictOf [] 0)) (hm : (D == sysModules) = false) : TabAt (strKind prog w) PyData.str h D [] := by
  refine ⟨hm, [], Heap.dictOf_iff.mpr ⟨_, e, ?_⟩, .nil⟩
  obtain ⟨o, ho, hd⟩ := Heap.dictOf_iff.mp (Heap.DictOf.new (knd := strKind prog w) h)
  rw [Heap.get?_push_size _ rfl] at ho
  have ho2 := Option.some.inj ho
  rw [← ho2] at hd
  exact hd
theorem for_items_none {D vw : Addr} {target : Expr} {body : List Stmt} {E : Value → Shared → Prop} {R : Result → Shared → Prop} (hh : A.handled = none) (F : Fr h₀ L s.heap m) (N : News h₀ L s.heap news) (e : s.heap.get? D = some (dictOf [] 0)) (hm : (D == sysModules) = false)
    (hv : ∃ ov, s.heap.get? vw = some ov ∧ ov.cls = .type "dict_items" ∧ ov.data = .fields #[.ref D])
    (done : ∀ h' tk, Fr h₀ L h' m → News h₀ L h' news → R (.ok .next) { s with heap := h', toks := tk }) :
    wpAny (model prog w) A (pyIter (.ref vw)) (fun it s₂ => codeAny (model prog w) A (.forLoop target it body [] env) R s₂) E s := by
  obtain ⟨_, kvs, hdo, hf⟩ := tab_none (prog := prog) (w := w) e hm
  cases hf
  obtain ⟨ep, hat⟩ := hdo.dictAt
  have hne : D ≠ s.heap.objs.size := Nat.ne_of_lt (Heap.lt_size e)
  refine wpAny_pyIter_items hv hat ?_
  refine codeAny_forLoop_any (fun k s' => s' = { s with heap := s.heap.push { cls := .type "dict_itemiterator", data := .fields #[.none, .bool false, .ref D, .int 0 0, .int (([] : List (Str × Value)).length : Int) 0, .int ep 0, .none, .none] } }) ?_ 0 rfl
  rintro k s' rfl
  refine wpAny_pyNext_items_end (i := 0) hh (Heap.get?_push_size _ rfl) (hat.push _) rfl fun h' hx => ?_
  have kk : ∀ b o, s.heap.get? b = some o → h'.get? b = some o := fun b o e => hx b o (Nat.ne_of_lt (Heap.lt_size e)) (Heap.get?_push_of_some _ e)
  exact wpAny_pure (done h' _ (Fr.keeps F kk) (News.grown N kk))
end
end
section
section
variable {prog : Program} {w : World} {A : Around} {E : Value → Shared → Prop} {s : Shared} {env : Env} {h₀ : Heap} {x : Str} {body : List Stmt} {Q : Flow → Shared → Prop}
inductive TurnNext (h₀ : Heap) (L I : Addr) (it : Obj) (Jn : (Str → Option Value) → List (Addr × Obj) → Prop) (s₁ s₂ : Shared) : Prop
  | mk (h' : Heap) (tk : Nat) (m' : Str → Option Value) (news' : List (Addr × Obj)) (e : s₂ = { s₁ with heap := h', toks := tk }) (F : Fr h₀ L h' m') (N : News h₀ L h' ((I, it) :: news')) (off : ∀ p ∈ news', p.1 ≠ I) (j : Jn m' news') : TurnNext h₀ L I it Jn s₁ s₂
noncomputable def TurnEnd (h₀ : Heap) (L I : Addr) (it : Obj) (Jn : (Str → Option Value) → List (Addr × Obj) → Prop) (s₁ : Shared) (Q : Flow → Shared → Prop) (f : Flow) (s₂ : Shared) : Prop :=
  match f with
  | .ret v => Q (.ret v) s₂
  | .brk => Q .next s₂
  | _ => TurnNext h₀ L I it Jn s₁ s₂
theorem TurnEnd.intro {L I : Addr} {it : Obj} {Jn : (Str → Option Value) → List (Addr × Obj) → Prop} {s₁ : Shared} {h' : Heap} {tk : Nat} {m' : Str → Option Value} {news' : List (Addr × Obj)} (F : Fr h₀ L h' m') (N : News h₀ L h' ((I, it) :: news')) (hI : ∀ p ∈ news', p.1 ≠ I) (hj : Jn m' news') :
    TurnEnd h₀ L I it Jn s₁ Q .next { s₁ with heap := h', toks := tk } := ⟨h', tk, m', news', rfl, F, N, hI, hj⟩
theorem TurnEnd.cont {L I : Addr} {it : Obj} {Jn : (Str → Option Value) → List (Addr × Obj) → Prop} {s₁ : Shared} {h' : Heap} {tk : Nat} {m' : Str → Option Value} {news' : List (Addr × Obj)} (F : Fr h₀ L h' m') (N : News h₀ L h' ((I, it) :: news')) (hI : ∀ p ∈ news', p.1 ≠ I) (hj : Jn m' news') :
    TurnEnd h₀ L I it Jn s₁ Q .cont { s₁ with heap := h', toks := tk } := ⟨h', tk, m', news', rfl, F, N, hI, hj⟩

theorem loop_at {I : Addr} {ex : List Addr} {n : Nat} {P : Nat → Value → Prop} {St : Nat → Heap → Prop} {m₀ : Str → Option Value} {news : List (Addr × Obj)} (J : Nat → (Str → Option Value) → List (Addr × Obj) → Prop)
    (W : Walks prog w A I (I :: ex) [I] n P St) (hL : env.locals ∉ I :: ex) (hI : h₀.get? I = none) (hit : ∀ i h, St i h → ∃ o, h.get? I = some o)
    (hex : ∀ b ∈ ex, (∃ o, h₀.get? b = some o) ∨ ∃ o, ∀ i m n, J i m n → (b, o) ∈ n) (hof : ∀ p ∈ news, p.1 ≠ I) (h0 : St 0 s.heap) (F : Fr h₀ env.locals s.heap m₀) (N : News h₀ env.locals s.heap news) (hj : J 0 m₀ news)
    (turn : ∀ i v m₁ news₁ it h tk, i < n → P i v → J i m₁ news₁ → (∀ p ∈ news₁, p.1 ≠ I) → Fr h₀ env.locals h (fun y => if y = x then some v else m₁ y) → News h₀ env.locals h ((I, it) :: news₁) →
      wpAny (model prog w) A (execs body env) (TurnEnd h₀ env.locals I it (J (i + 1)) { s with heap := h, toks := tk } Q) E { s with heap := h, toks := tk })
    (done : ∀ m₁ news₁ h tk, J n m₁ news₁ → Fr h₀ env.locals h m₁ → News h₀ env.locals h news₁ → Q .next { s with heap := h, toks := tk }) :
    LoopAtV prog w A h₀ env x body Q E (.ref I) s := by
  refine ⟨I, I :: ex, [I], n, P, St, m₀, news, J, rfl, W, hL, ?_, ?_, h0, F, N, hj, ?_, ?_⟩
  · intro b hb
    rw [List.mem_singleton.mp hb]; exact hI
  · intro p hp hm
    exact hof p hp (List.mem_singleton.mp hm)
  · rintro i v m₁ news₁ s₁ own ⟨hh', tk', rfl⟩ hin hP hJ hofs hown hget hall hst F₁ N₁
    obtain ⟨it, hit'⟩ := hit _ _ hst
    have hmemI := hall I (List.mem_cons_self ..) hI _ hit'
    have N₂ : News h₀ env.locals hh' ((I, it) :: news₁) := fun p hp => by
      rcases List.mem_cons.mp hp with rfl | hp
      · exact N₁ _ (List.mem_append_left _ hmemI)
      · exact N₁ _ (List.mem_append_right _ hp)
    refine wpAny_mono (turn i v m₁ news₁ it hh' tk' hin hP hJ (fun p hp hm => hofs p hp (List.mem_singleton.mpr hm)) F₁ N₂) (fun f s₂ p => ?_) fun _ _ e => e
    have fin : TurnNext h₀ env.locals I it (J (i + 1)) { s with heap := hh', toks := tk' } s₂ →
        LoopStepU h₀ env.locals [I] own (J (i + 1)) { s with heap := hh', toks := tk' } .next s₂ := by
      rintro ⟨h', tk, m', news', e, F', N', ho, hj'⟩
      refine ⟨rfl, h', tk, m', news', e, F', fun p hp => ?_, fun p hp hI => ho p hp (List.mem_singleton.mp hI), hj'⟩
      rcases List.mem_append.mp hp with hp | hp
      · have h2 : hh'.get? p.1 = some p.2 := hget p hp
        rcases List.mem_cons.mp (hown p hp) with h1 | h1
        · have h3 : p = (I, it) := by
            rw [h1, hit'] at h2
            exact Prod.ext h1 (Option.some.inj h2).symm
          rw [h3]; exact N' _ (List.mem_cons_self ..)
        · rcases hex _ h1 with ⟨o, ho⟩ | ⟨o, ho⟩
          · have := (N₁ _ (List.mem_append_left _ hp)).2.2
            rw [ho] at this; cases this
          · have h3 : p = (p.1, o) := by
              have := (N₁ _ (List.mem_append_right _ (ho _ _ _ hJ))).1
              rw [h2] at this
              exact Prod.ext rfl (Option.some.inj this)
            rw [h3]; exact N' _ (List.mem_cons_of_mem _ (ho _ _ _ hj'))
      · exact N' _ (List.mem_cons_of_mem _ hp)
    cases f with
    | ret v => exact .ret p
    | brk => exact .brk p
    | next => exact .next (fin p)
    | cont => exact .cont (fin p)
  · rintro h' tk m' news' F' N' _ hJ
    exact done m' news' h' tk hJ F' N'

theorem loc_none {L : Addr} {h : Heap} {m : Str → Option Value} (F : Fr h₀ L h m) : ∃ o, h.get? L = some o := let ⟨o, _, _, h, _⟩ := F.ns; ⟨o, h⟩
theorem new_ne_loc {L : Addr} {h : Heap} {m : Str → Option Value} (F : Fr h₀ L h m) : L ≠ h.objs.size := fun e => by
  obtain ⟨o, ho⟩ := loc_none F
  exact absurd (Heap.lt_size ho) (by rw [e]; exact Nat.lt_irrefl _)
theorem new_none_base {L : Addr} {h : Heap} {m : Str → Option Value} (F : Fr h₀ L h m) : h₀.get? h.objs.size = none := by
  cases x : h₀.get? h.objs.size with
  | none => rfl
  | some o => exact absurd (Heap.lt_size (F.keep _ _ x)) (Nat.lt_irrefl _)

theorem loop_list {l : Addr} {vs : List Value} {nn : Nat} {m₀ : Str → Option Value} {news : List (Addr × Obj)} (J : Nat → (Str → Option Value) → List (Addr × Obj) → Prop) (hh : A.handled = none)
    (F : Fr h₀ env.locals s.heap m₀) (N : News h₀ env.locals s.heap news) (hl : s.heap.get? l = some (listOf vs.toArray nn)) (hlL : l ≠ env.locals) (hex : (∃ o, h₀.get? l = some o) ∨ ∃ o, ∀ i m n, J i m n → (l, o) ∈ n) (hj : J 0 m₀ news)
    (turn : ∀ i v m₁ news₁ I it h tk, vs[i]? = some v → J i m₁ news₁ → (∀ p ∈ news₁, p.1 ≠ I) → (∀ p ∈ news, p.1 < I) → Fr h₀ env.locals h (fun y => if y = x then some v else m₁ y) → News h₀ env.locals h ((I, it) :: news₁) →
      wpAny (model prog w) A (execs body env) (TurnEnd h₀ env.locals I it (J (i + 1)) { s with heap := h, toks := tk } Q) E { s with heap := h, toks := tk })
    (done : ∀ m₁ news₁ h tk, J vs.length m₁ news₁ → Fr h₀ env.locals h m₁ → News h₀ env.locals h news₁ → Q .next { s with heap := h, toks := tk }) :
    wpAny (model prog w) A (pyIter (.ref l)) (fun it s₂ => LoopAtV prog w A h₀ env x body Q E it s₂) E s := by
  have hls : s.heap.IsList l vs.toArray := ⟨_, hl, rfl, _, rfl⟩
  have hne : l ≠ s.heap.objs.size := Nat.ne_of_lt (Heap.lt_size hl)
  refine wpAny_pyIter_list hls ?_
  refine loop_at (s := { s with heap := s.heap.push _ }) J (Walks.list hh _ l hne vs.toArray) ?_ (new_none_base F) (fun i h st => let ⟨⟨o, e, _⟩, _⟩ := st; ⟨o, e⟩) (fun b hb => by rw [List.mem_singleton.mp hb]; exact hex)
    (fun p hp => Nat.ne_of_lt (Heap.lt_size (N p hp).1)) ⟨⟨_, Heap.get?_push_size _ rfl, rfl, rfl⟩, hls.at fun o e => Heap.get?_push_of_some _ e⟩ (F.push _) (fun p hp => ⟨Heap.get?_push_of_some _ (N p hp).1, (N p hp).2⟩) hj ?_ ?_
  · intro hm
    rcases List.mem_cons.mp hm with e | hm
    · exact new_ne_loc F e
    · exact hlL (List.mem_singleton.mp hm).symm
  · intro i v m₁ news₁ it h tk hin hP hJ hof F₁ N₁
    exact turn i v m₁ news₁ _ it h tk (by simpa using hP) hJ hof (fun p hp => Heap.lt_size (N p hp).1) F₁ N₁
  · intro m₁ news₁ h tk hJ F₁ N₁
    exact done m₁ news₁ h tk (by simpa using hJ) F₁ N₁

theorem loop_rev {I l : Addr} {vs : List Value} {nn : Nat} {m₀ : Str → Option Value} {news : List (Addr × Obj)} (J : Nat → (Str → Option Value) → List (Addr × Obj) → Prop) (hh : A.handled = none)
    (F : Fr h₀ env.locals s.heap m₀) (N : News h₀ env.locals s.heap news) (hI : News h₀ env.locals s.heap [(I, revObj l ((vs.length : Int) - 1))]) (hof : ∀ p ∈ news, p.1 ≠ I) (hl : s.heap.get? l = some (listOf vs.toArray nn)) (hlL : l ≠ env.locals) (hex : (∃ o, h₀.get? l = some o) ∨ ∃ o, ∀ i m n, J i m n → (l, o) ∈ n) (hj : J 0 m₀ news)
    (turn : ∀ i v m₁ news₁ it h tk, vs.reverse[i]? = some v → J i m₁ news₁ → (∀ p ∈ news₁, p.1 ≠ I) → Fr h₀ env.locals h (fun y => if y = x then some v else m₁ y) → News h₀ env.locals h ((I, it) :: news₁) →
      wpAny (model prog w) A (execs body env) (TurnEnd h₀ env.locals I it (J (i + 1)) { s with heap := h, toks := tk } Q) E { s with heap := h, toks := tk })
    (done : ∀ m₁ news₁ h tk, J vs.length m₁ news₁ → Fr h₀ env.locals h m₁ → News h₀ env.locals h news₁ → Q .next { s with heap := h, toks := tk }) :
    wpAny (model prog w) A (pyIter (.ref I)) (fun it s₂ => LoopAtV prog w A h₀ env x body Q E it s₂) E s := by
  have hls : s.heap.IsList l vs.toArray := ⟨_, hl, rfl, _, rfl⟩
  have hIx := hI _ (.head _)
  have hit : s.heap.IsRevIter I l ((vs.length : Int) - 1) := ⟨_, hIx.1, rfl, rfl⟩
  have hne : l ≠ I := fun e => by
    have h1 := hIx.1
    rw [← e, hl] at h1
    have h2 := congrArg Obj.cls (Option.some.inj h1)
    exact absurd (show (Value.type "list") = Value.type "list_reverseiterator" from h2) (by decide)
  refine wpAny_pyIter_revIter hit ?_
  have hsz : vs.toArray.size = vs.length := by simp
  refine loop_at J (Walks.listRev hh I l hne vs.toArray) ?_ hIx.2.2 (fun i h st => let ⟨o, e, _⟩ := st.2.1; ⟨o, e⟩) (fun b hb => by rw [List.mem_singleton.mp hb]; exact hex) hof ⟨Nat.zero_le _, by rw [hsz]; simpa using hit, hls⟩ F N hj ?_ ?_
  · intro hm
    rcases List.mem_cons.mp hm with e | hm
    · exact hIx.2.1 e.symm
    · exact hlL (List.mem_singleton.mp hm).symm
  · intro i v m₁ news₁ it h tk hin hP hJ hof F₁ N₁
    refine turn i v m₁ news₁ it h tk ?_ hJ hof F₁ N₁
    rw [hsz] at hin
    rw [List.getElem?_reverse hin]
    simpa using hP
  · intro m₁ news₁ h tk hJ F₁ N₁
    exact done m₁ news₁ h tk (by simpa using hJ) F₁ N₁
end
theorem News.sub {h₀ h : Heap} {L : Addr} {news ms : List (Addr × Obj)} (N : News h₀ L h news) (k : ∀ p ∈ ms, p ∈ news) : News h₀ L h ms := fun p hp => N p (k p hp)
theorem Fr.seeX4 {h₀ h : Heap} {L : Addr} {m : Str → Option Value} {x x1 x2 x3 x4 : Str} {v v1 v2 v3 v4 : Value} (F : Fr h₀ L h (fun y => if y = x then some v else m y)) (e1 : m x1 = some v1) (e2 : m x2 = some v2) (e3 : m x3 = some v3) (e4 : m x4 = some v4) :
    Fr h₀ L h (fun y => if y = x then some v else if y = x1 then some v1 else if y = x2 then some v2 else if y = x3 then some v3 else if y = x4 then some v4 else m y) := by
  have em : (fun y => if y = x then some v else if y = x1 then some v1 else if y = x2 then some v2 else if y = x3 then some v3 else if y = x4 then some v4 else m y) = (fun y => if y = x then some v else m y) := by
    funext y
    by_cases h : y = x
    · rw [if_pos h, if_pos h]
    · rw [if_neg h, if_neg h]
      (repeat' split) <;> (try subst_vars) <;> first | rfl | exact e1.symm | exact e2.symm | exact e3.symm | exact e4.symm
  rw [em]; exact F
section
variable {prog : Program} {w : World} {A : Around} {E : Value → Shared → Prop} {s : Shared} {h₀ : Heap} {L : Addr} {m : Str → Option Value} {news : List (Addr × Obj)} {Q : Value → Shared → Prop}
theorem KeepBut.of {l : Addr} {h h' : Heap} (k : Heap.SameBut l h h') : KeepBut l h h' := fun b o hb e => (k.2 b hb).trans e
theorem append_is {l : Addr} {vs : List Value} {nn : Nat} {v : Value} {gg : Obj → List (Addr × Obj)} (F : Fr h₀ L s.heap m) (N : News h₀ L s.heap news) (hm : (l, listOf vs.toArray nn) ∈ news) (U : UpdF l (listOf vs.toArray nn) news gg) (hz : vs.length ≤ 16777216)
    (h : ∀ h', Fr h₀ L h' m → News h₀ L h' (gg (listOf (vs ++ [v]).toArray (nn + 1))) → KeepBut l s.heap h' → Q .none { s with heap := h' }) :
    wpAny (model prog w) A (call (.builtin "list.append") [.ref l, v]) Q E s := by
  refine append_at (N.get hm) (fun h' hs e => ?_) (by rw [sizeLine_eq]; simpa using hz)
  have e' : h'.get? l = some (listOf (vs ++ [v]).toArray (nn + 1)) := by simpa using e
  exact h h' (Fr.but F N hm (KeepBut.of hs)) (News.but N U (KeepBut.of hs) e') (KeepBut.of hs)
theorem reverse_is {l : Addr} {vs : List Value} {nn : Nat} {gg : Obj → List (Addr × Obj)} (F : Fr h₀ L s.heap m) (N : News h₀ L s.heap news) (hm : (l, listOf vs.toArray nn) ∈ news) (U : UpdF l (listOf vs.toArray nn) news gg) (hz : vs.length ≤ 16777216)
    (h : ∀ h', Fr h₀ L h' m → News h₀ L h' (gg (listOf vs.reverse.toArray nn)) → KeepBut l s.heap h' → Q .none { s with heap := h' }) :
    wpAny (model prog w) A (call (.builtin "list.reverse") [.ref l]) Q E s := by
  have ho := N.get hm
  have kb : KeepBut l s.heap (s.heap.update l (Obj.mapSeq fun x => x.reverse)) := KeepBut.of (Heap.SameBut.update ..)
  have e : (s.heap.update l (Obj.mapSeq fun x => x.reverse)).get? l = some (listOf vs.reverse.toArray nn) := by
    have q := PySem.IsL.update ho fun x => x.reverse
    simpa using q
  exact call_meets PySem.F.slot_list_reverse ⟨_, ho, rfl⟩ PySem.F.entry_list_reverse (PySem.F.args_list_reverse_1 _) (PySem.AutoSeq1.list_reverse_list_0 l vs.toArray nn (by rw [sizeLine_eq]; simpa using hz)) ⟨ho, h _ (Fr.but F N hm kb) (News.but N U kb e) kb⟩
end
end
section
theorem two_pow_cast (k : Nat) : ((2 ^ k : Nat) : Int) = (2 : Int) ^ k := by norm_cast
theorem two_pow_pos (k : Nat) : (0 : Int) < 2 ^ k := by rw [← two_pow_cast]; exact_mod_cast Nat.two_pow_pos k

theorem nat_and_top (x k : Nat) : x &&& (x / 2 ^ k * 2 ^ k) = x / 2 ^ k * 2 ^ k := by
  apply Nat.eq_of_testBit_eq
  intro i
  rw [Nat.testBit_and, ← Nat.shiftLeft_eq, Nat.testBit_shiftLeft, Nat.testBit_div_two_pow]
  by_cases h : k ≤ i
  · simp [h, Nat.sub_add_cancel h, Nat.add_sub_cancel' h]
  · simp [h]
theorem nat_and_low (r a k : Nat) (h : a < 2 ^ k) : (r * 2 ^ k) &&& a = 0 := by
  apply Nat.eq_of_testBit_eq
  intro i
  rw [Nat.testBit_and, ← Nat.shiftLeft_eq, Nat.testBit_shiftLeft, Nat.zero_testBit]
  by_cases hi : k ≤ i
  · rw [Nat.testBit_lt_two_pow (Nat.lt_of_lt_of_le h (Nat.pow_le_pow_right (by decide) hi)), Bool.and_false]
  · simp [hi]

theorem bitAnd_nat (a b : Nat) : Builtin.bitAnd (a : Int) (b : Int) = ((a &&& b : Nat) : Int) := by
  rw [bitAnd_pp (Int.natCast_nonneg a) (Int.natCast_nonneg b)]
  simp

theorem or_add {r a : Int} {k : Nat} (hr : 0 ≤ r) (ha : 0 ≤ a) (hk : a < 2 ^ k) : Builtin.bitOr (r * 2 ^ k) a = r * 2 ^ k + a := by
  obtain ⟨r, rfl⟩ := Int.eq_ofNat_of_zero_le hr
  obtain ⟨a, rfl⟩ := Int.eq_ofNat_of_zero_le ha
  have hk' : a < 2 ^ k := by rw [← two_pow_cast] at hk; exact_mod_cast hk
  rw [bitOr_and]
  have e : (r : Int) * 2 ^ k = ((r * 2 ^ k : Nat) : Int) := by push_cast; rfl
  rw [e, bitAnd_nat, nat_and_low r a k hk']
  simp

theorem and_mask {x : Int} {k : Nat} (hx : 0 ≤ x) : Builtin.bitAnd x (2 ^ k - 1) = x % 2 ^ k := by
  obtain ⟨x, rfl⟩ := Int.eq_ofNat_of_zero_le hx
  have h1 : 1 ≤ 2 ^ k := Nat.one_le_two_pow
  have e : (2 : Int) ^ k - 1 = ((2 ^ k - 1 : Nat) : Int) := by rw [← two_pow_cast]; (first | exact om577 h1 | omega)
  rw [e, bitAnd_nat, Nat.and_two_pow_sub_one_eq_mod]
  push_cast
  rfl

theorem fdiv_pow {x : Int} {k : Nat} : x.fdiv (2 ^ k) = x / 2 ^ k := Int.fdiv_eq_ediv_of_nonneg _ (Int.le_of_lt (two_pow_pos k))
theorem xor_top {x : Int} {k : Nat} (hx : 0 ≤ x) : Builtin.bitXor x (x.fdiv (2 ^ k) * 2 ^ k) = x % 2 ^ k := by
  rw [fdiv_pow]
  obtain ⟨x, rfl⟩ := Int.eq_ofNat_of_zero_le hx
  rw [bitXor_and]
  have e : (x : Int) / 2 ^ k * 2 ^ k = ((x / 2 ^ k * 2 ^ k : Nat) : Int) := by push_cast; rfl
  rw [e, bitAnd_nat, nat_and_top]
  have h := Nat.div_add_mod x (2 ^ k)
  rw [Nat.mul_comm] at h
  have e2 : (x : Int) % 2 ^ k = ((x % 2 ^ k : Nat) : Int) := by push_cast; rfl
  rw [e2]
  (first | exact om578 h | omega)
theorem div_is {A b q r : Int} (h : q * b + r = A) (h0 : 0 ≤ r) (h1 : r < b) : A.fdiv b = q ∧ A.fmod b = r := by
  have hb : 0 < b := by (first | exact om579 h0 h1 | omega)
  have hq : A / b = q := by
    rw [← h, Int.add_comm, Int.add_mul_ediv_right _ _ (by (first | exact om64 hb | omega)), Int.ediv_eq_zero_of_lt h0 h1]; (first | exact om580 | omega)
  have hr : A % b = r := by
    rw [← h, Int.add_comm, Int.add_mul_emod_self_right]; exact Int.emod_eq_of_lt h0 h1
  exact ⟨by rw [Int.fdiv_eq_ediv_of_nonneg _ (by (first | exact om61 hb | omega))]; exact hq, by rw [Int.fmod_eq_emod_of_nonneg _ (by (first | exact om61 hb | omega))]; exact hr⟩
theorem bits_lt {x : Int} {m : Nat} (h0 : 0 ≤ x) (h : x < 2 ^ m) : Builtin.Int.intBits x ≤ m := by
  rw [intBits_le_iff]
  obtain ⟨x, rfl⟩ := Int.eq_ofNat_of_zero_le h0
  rw [← two_pow_cast] at h
  simpa using (by exact_mod_cast h : x < 2 ^ m)
theorem bits_abs {x : Int} {m : Nat} (h0 : -(2 ^ m) < x) (h : x < 2 ^ m) : Builtin.Int.intBits x ≤ m := by
  rw [intBits_le_iff]
  rw [← two_pow_cast] at h h0
  (first | exact om581 h0 h | omega)
theorem pow_bits {k m : Nat} (h : k < m) : Builtin.Int.intBits ((2 : Int) ^ k) ≤ m := by
  refine bits_lt (Int.le_of_lt (two_pow_pos k)) ?_
  rw [← two_pow_cast, ← two_pow_cast]
  exact_mod_cast Nat.pow_lt_pow_right (by decide) h
theorem le_mul_pow {b : Int} (k : Nat) (h : 0 ≤ b) : b ≤ b * 2 ^ k := by
  have h1 := Int.mul_le_mul_of_nonneg_left (show (1 : Int) ≤ 2 ^ k from two_pow_pos k) h
  rwa [Int.mul_one] at h1
theorem d3_first {a12 a3 b b1 b2 P : Int} (hP : 0 < P) (hq : a12 / P = b1) (h1 : a12 < b) (h3 : a3 < P) (h5 : b = b1 * P + b2) :
    (P - 1) * b + ((a12 - b1 * P + b1) * P + a3 - (P - 1) * b2) = a12 * P + a3 ∧ (a12 - b1 * P + b1) * P + a3 - (P - 1) * b2 < b := by
  have hm := Int.mul_ediv_add_emod a12 P
  rw [hq] at hm
  have hm' : b1 * P + a12 % P = a12 := by rw [Int.mul_comm]; exact hm
  generalize a12 % P = x at hm'
  subst hm'
  have hx : x ≤ b2 - 1 := by (first | exact om582 h5 h1 | omega)
  have hx2 := Int.mul_le_mul_of_nonneg_right hx (Int.le_of_lt hP)
  constructor
  · subst h5
    simp only [Int.sub_mul, Int.mul_add, Int.add_mul, Int.one_mul, Int.mul_sub, Int.mul_one]
    have e1 : P * (b1 * P) = b1 * P * P := Int.mul_comm _ _
    (first | exact om583 e1 | omega)
  · subst h5
    simp only [Int.sub_mul, Int.mul_add, Int.add_mul, Int.one_mul, Int.mul_sub, Int.mul_one] at hx2 ⊢
    have e2 : P * b2 = b2 * P := Int.mul_comm _ _
    (first | exact om584 e2 hx2 h3 | omega)
theorem d3_second {a12 a3 b b1 b2 P q r : Int} (hP : 0 < P) (hq : q * b1 + r = a12) (hr : r < b1) (hq0 : 0 ≤ q) (h3 : a3 < P) (h6 : 0 ≤ b2) (h5 : b = b1 * P + b2) :
    q * b + (r * P + a3 - q * b2) = a12 * P + a3 ∧ r * P + a3 - q * b2 < b := by
  have h1 : r * P ≤ (b1 - 1) * P := Int.mul_le_mul_of_nonneg_right (by (first | exact om203 hr | omega)) (Int.le_of_lt hP)
  have h2 : 0 ≤ q * b2 := Int.mul_nonneg hq0 h6
  subst h5 hq
  constructor
  · simp only [Int.mul_add, Int.add_mul]
    have e1 : q * b1 * P = q * (b1 * P) := Int.mul_assoc _ _ _
    (first | exact om585 e1 | omega)
  · simp only [Int.sub_mul, Int.one_mul] at h1
    (first | exact om586 h2 h6 h1 h3 | omega)
theorem halves {a b : Int} {k : Nat} (h0 : 0 ≤ a) (hb : 2 ^ k ≤ b) (hl : a < b * (2 ^ k * 2 ^ k)) :
    0 ≤ a / (2 ^ k * 2 ^ k) ∧ a / (2 ^ k * 2 ^ k) < b ∧ 0 < b / 2 ^ k ∧ b = b / 2 ^ k * 2 ^ k + b % 2 ^ k ∧ a / 2 ^ k = a / (2 ^ k * 2 ^ k) * 2 ^ k + a / 2 ^ k % 2 ^ k ∧
    a / 2 ^ k / b < 2 ^ k ∧ (a / 2 ^ k / b) * 2 ^ k + (a / 2 ^ k % b * 2 ^ k + a % 2 ^ k) / b = a / b ∧ (a / 2 ^ k % b * 2 ^ k + a % 2 ^ k) % b = a % b ∧ 0 ≤ (a / 2 ^ k % b * 2 ^ k + a % 2 ^ k) / b ∧ (a / 2 ^ k % b * 2 ^ k + a % 2 ^ k) / b < 2 ^ k := by
  have hP := two_pow_pos k
  generalize (2 : Int) ^ k = P at *
  have hb0 : 0 < b := by (first | exact om587 hb hP | omega)
  have hPP : 0 < P * P := Int.mul_pos hP hP
  have k1 : a / P = a / (P * P) * P + a / P % P := by
    have := Int.ediv_mul_add_emod (a / P) P
    rw [Int.ediv_ediv_of_nonneg (Int.le_of_lt hP)] at this
    exact this.symm
  have k2 : a / P / b < P := by
    apply Int.ediv_lt_of_lt_mul hb0
    apply Int.ediv_lt_of_lt_mul hP
    rw [Int.mul_comm P b, Int.mul_assoc]
    exact hl
  have hr0 : 0 ≤ a / P % b := Int.emod_nonneg _ (by (first | exact om64 hb0 | omega))
  have hr1 : a / P % b < b := Int.emod_lt_of_pos _ hb0
  have hm0 : 0 ≤ a % P := Int.emod_nonneg _ (by (first | exact om64 hP | omega))
  have hm1 : a % P < P := Int.emod_lt_of_pos _ hP
  have e1 : a = a / P * P + a % P := (Int.ediv_mul_add_emod a P).symm
  have e2 : a / P = a / P / b * b + a / P % b := (Int.ediv_mul_add_emod (a / P) b).symm
  have e3 : a = a / P / b * P * b + (a / P % b * P + a % P) := by
    have : a = (a / P / b * b + a / P % b) * P + a % P := by rw [← e2]; exact e1
    rw [Int.add_mul] at this
    have c : a / P / b * P * b = a / P / b * b * P := by rw [Int.mul_assoc, Int.mul_comm P b, ← Int.mul_assoc]
    rw [c]; (first | exact om588 this | omega)
  have hy0 : 0 ≤ a / P % b * P + a % P := by
    have := Int.mul_nonneg hr0 (Int.le_of_lt hP)
    (first | exact om204 this hm0 | omega)
  have hy1 : a / P % b * P + a % P < P * b := by
    have h1 : a / P % b * P ≤ (b - 1) * P := Int.mul_le_mul_of_nonneg_right (by (first | exact om203 hr1 | omega)) (Int.le_of_lt hP)
    rw [Int.sub_mul, Int.one_mul, Int.mul_comm b P] at h1
    (first | exact om205 h1 hm1 | omega)
  refine ⟨Int.ediv_nonneg h0 (Int.le_of_lt hPP), Int.ediv_lt_of_lt_mul hPP hl, ?_, (Int.ediv_mul_add_emod b P).symm, k1, k2, ?_, ?_, Int.ediv_nonneg hy0 (Int.le_of_lt hb0), Int.ediv_lt_of_lt_mul hb0 hy1⟩
  · exact Int.lt_of_lt_of_le (by decide) (Int.le_ediv_of_mul_le hP (by (first | exact om589 hb | omega) : 1 * P ≤ b))
  · conv => rhs; rw [e3]
    rw [Int.add_comm _ (a / P % b * P + a % P), Int.add_mul_ediv_right _ _ (by (first | exact om64 hb0 | omega))]
    (first | exact om590 | omega)
  · conv => rhs; rw [e3]
    rw [Int.add_comm _ (a / P % b * P + a % P), Int.add_mul_emod_self_right]
theorem log2_lt_of {b : Int} {m : Nat} (h0 : 0 < b) (h : b < 2 ^ m) : b.natAbs.log2 < m := by
  obtain ⟨b, rfl⟩ := Int.eq_ofNat_of_zero_le (Int.le_of_lt h0)
  rw [← two_pow_cast] at h
  have h' : b < 2 ^ m := by exact_mod_cast h
  have hne : b ≠ 0 := by (first | exact om591 h0 | omega)
  simpa using (Nat.log2_lt hne).mpr h'
theorem pow_le_pow {k m : Nat} (h : k ≤ m) : (2 : Int) ^ k ≤ 2 ^ m := by
  rw [← two_pow_cast, ← two_pow_cast]
  exact_mod_cast Nat.pow_le_pow_right (by decide) h
noncomputable def Lt20k (b : Int) : Prop := b < 2 ^ 20000
noncomputable def horner (n : Nat) : List Int → Int
  | [] => 0
  | d :: r => d + 2 ^ n * horner n r
theorem horner_append (n : Nat) (xs ys : List Int) : horner n (xs ++ ys) = horner n xs + horner n ys * 2 ^ (xs.length * n) := by
  induction xs with
  | nil => simp [horner]
  | cons x r ih =>
    simp only [List.cons_append, horner, ih, List.length_cons]
    rw [Nat.succ_mul, Int.pow_add, Int.mul_add, Int.mul_comm (2 ^ n) (horner n ys * _), Int.mul_assoc, Int.add_assoc]
theorem horner_abs {n B : Nat} : ∀ {ds : List Int}, (∀ d ∈ ds, Builtin.Int.intBits d ≤ B) → Builtin.Int.intBits (horner n ds) ≤ B + (n + 1) * ds.length
  | [], _ => by rw [show horner n [] = 0 from rfl, show Builtin.Int.intBits 0 = 0 from by decide]; exact Nat.zero_le _
  | d :: r, h => by
    have h1 := h d (.head _)
    have h2 := horner_abs (n := n) (fun x hx => h x (List.mem_cons_of_mem d hx))
    show Builtin.Int.intBits (d + 2 ^ n * horner n r) ≤ B + (n + 1) * (r.length + 1)
    have h3 : Builtin.Int.intBits (2 ^ n * horner n r) ≤ B + (n + 1) * r.length + n := by
      rw [intBits_le_iff] at h2 ⊢
      rw [Int.natAbs_mul, Int.natAbs_pow, Nat.pow_add, Nat.mul_comm]
      exact Nat.mul_lt_mul_of_pos_right h2 (Nat.two_pow_pos n)
    have h4 := intBits_add_le h1 h3
    have h5 : (n + 1) * (r.length + 1) = (n + 1) * r.length + (n + 1) := Nat.mul_succ _ _
    (first | exact om592 h5 h4 | omega)
theorem slice_split {α : Type} (ds : List α) (L M R : Nat) (h1 : L ≤ M) (h2 : M ≤ R) : (ds.take R).drop L = (ds.take M).drop L ++ (ds.take R).drop M := by
  have e : ds.take M = (ds.take R).take M := by rw [List.take_take]; congr 1; (first | exact om593 h2 | omega)
  rw [e]
  conv => lhs; rw [← List.take_append_drop M (ds.take R)]
  rw [List.drop_append]
  by_cases hl : M ≤ (ds.take R).length
  · rw [List.length_take, Nat.min_eq_left hl, Nat.sub_eq_zero_of_le h1, List.drop_zero]
  · have e2 : (ds.take R).drop M = [] := List.drop_eq_nil_of_le (by (first | exact om594 hl | omega))
    rw [e2]; simp
end
section
noncomputable def rxName : Array Nat := #[14, 10, 4, 1, 1, 22, 0, 31, 16, 127, 0, 13, 7, 22, 0, 31, 16, 127, 0, 1]
noncomputable def rxVal : Array Nat := #[14, 14, 4, 1, 1, 9, 4294966783, 0, 0, 2147483648, 0, 0, 0, 0, 0, 13, 11, 9, 4294966783, 0, 0, 2147483648, 0, 0, 0, 0, 0, 1]
theorem rx_out {r : Except String (Bool × PySem.Sre.Seen)} (h : r.map (·.1) = .ok false) : ∃ seen', r = .ok (false, seen') := by
  cases r with
  | error e => cases h
  | ok x =>
    obtain ⟨b, s⟩ := x
    have : b = false := by injection h
    exact ⟨s, by rw [this]⟩
theorem rx_name_set (c : Nat) (h1 : 32 ≤ c) (h2 : c < 127) (seen : PySem.Sre.Seen) : ∃ seen', PySem.Sre.inSet rxName c rxName.size 5 true seen = .ok (false, seen') := by
  have e1 : ¬ (c ≤ 31) := by (first | exact om637 h1 | omega)
  have e2 : ¬ c = 127 := by (first | exact om638 h2 | omega)
  refine rx_out ?_
  show Except.map _ (if (decide (0 ≤ c) && decide (c ≤ 31)) = true then _ else PySem.Sre.inSet rxName c (17 + 1 + 1) 8 true _) = _
  rw [if_neg (by rw [decide_eq_false e1, Bool.and_false]; decide)]
  show Except.map _ (if (c == 127) = true then _ else PySem.Sre.inSet rxName c (17 + 1) 10 true _) = _
  rw [if_neg (fun h => e2 (eq_of_beq h))]
  rfl
theorem rx_bits : ∀ c : Fin 127, 32 ≤ (c : Nat) → (rxVal.getD (5 + (1 + (c : Nat) / 32)) 0).testBit ((c : Nat) % 32) = false := by decide
theorem rx_val_set (c : Nat) (h1 : 32 ≤ c) (h2 : c < 127) (seen : PySem.Sre.Seen) : ∃ seen', PySem.Sre.inSet rxVal c rxVal.size 5 true seen = .ok (false, seen') := by
  have e1 := rx_bits ⟨c, h2⟩ h1
  refine rx_out ?_
  show Except.map _ (if (decide (c < 256) && (rxVal.getD (5 + (1 + c / 32)) 0).testBit (c % 32)) = true then _ else PySem.Sre.inSet rxVal c (26 + 1) 14 true _) = _
  rw [if_neg (by rw [e1, Bool.and_false]; decide)]
  rfl
theorem rx_none {m : PySem.Sre.M} (hset : ∀ i, i < m.lim → ∀ seen, ∃ seen', PySem.Sre.inSet m.code (m.text.getD i 0) m.code.size 5 true seen = .ok (false, seen')) : ∀ (fuel s : Nat) (seen : PySem.Sre.Seen), ∃ seen', PySem.Sre.M.admitted m fuel s seen = .ok (none, seen')
  | 0, _, seen => ⟨seen, rfl⟩
  | fuel + 1, s, seen => by
    by_cases h : s ≥ m.lim
    · exact ⟨seen, if_pos h⟩
    · obtain ⟨s1, e1⟩ := hset s (by (first | exact om639 h | omega)) seen
      obtain ⟨s2, e2⟩ := rx_none hset fuel (s + 1) s1
      refine ⟨s2, (if_neg h).trans ?_⟩
      rw [e1]; exact e2
theorem rx_from (m : PySem.Sre.M) (first : Bool) (hf : m.hasFirstSet = true) (h1 : m.frames = []) (h2 : m.outcome = none) (hset : ∀ i, i < m.lim → ∀ seen, ∃ seen', PySem.Sre.inSet m.code (m.text.getD i 0) m.code.size 5 true seen = .ok (false, seen')) :
    ∃ m' : PySem.Sre.M, m.attemptFrom 0 first = m'.say false ∧ m'.frames = [] ∧ m'.outcome = none := by
  obtain ⟨s', es⟩ := rx_none hset (m.lim + 1 - 0) 0 m.seen
  unfold PySem.Sre.M.attemptFrom
  rw [hf, if_neg (by decide), es]
  exact ⟨{ m with seen := s' }, rfl, h1, h2⟩
noncomputable def rx0 (code text : Array Nat) (lim : Nat) : PySem.Sre.M :=
  { code, text, lim, start := 0, pc := (PySem.Sre.header code).2, pos := 0, handed := 0, marks := Array.replicate (2 * 0) none, mustAdvance := false, seen := if (PySem.Sre.header code).2 == 0 then {} else ({} : PySem.Sre.Seen).add 14 }
theorem rx_search (code text : Array Nat) (lim : Nat) (hf : ∀ m : PySem.Sre.M, m.code = code → m.hasFirstSet = true) (hset : ∀ i, i < lim → ∀ seen, ∃ seen', PySem.Sre.inSet code (text.getD i 0) code.size 5 true seen = .ok (false, seen')) :
    ∃ m : PySem.Sre.M, PySem.Sre.forSearch code text 0 0 lim false = m.say false ∧ m.frames = [] ∧ m.outcome = none := by
  have e : PySem.Sre.forSearch code text 0 0 lim false = (if (decide (0 > lim) || decide (lim - 0 < (PySem.Sre.header code).1)) = true then (rx0 code text lim).say false else PySem.Sre.M.attemptFrom { rx0 code text lim with lastStart := if ((PySem.Sre.header code).1 > 1 && !((PySem.Sre.header code).2 != 0 && code.getD 2 0 &&& 5 != 0)) = true then max 0 (lim - ((PySem.Sre.header code).1 - 1)) else lim } 0 true) := rfl
  rw [e]
  split
  · exact ⟨_, rfl, rfl, rfl⟩
  · exact rx_from _ true (hf _ rfl) rfl rfl hset
theorem rx_first (code : Array Nat) (h0 : code.getD 0 0 = 14) (h2 : code.getD 2 0 = 4) : ∀ m : PySem.Sre.M, m.code = code → m.hasFirstSet = true := by
  intro m hm
  unfold PySem.Sre.M.hasFirstSet
  rw [hm, h0, h2]
  rfl
theorem rx_run (m : PySem.Sre.M) (h1 : m.frames = []) (h2 : m.outcome = none) : ∃ m', (m.say false).runFor 4 = m' ∧ m'.outcome = some .failed := by
  have e : (m.say false).step = { m.say false with outcome := some .failed } := by
    unfold PySem.Sre.M.step
    rw [show (m.say false).outcome = none from h2, if_neg (by decide)]
    show (match (some false : Option Bool), m.frames with | some yes, [] => _ | some yes, f :: rest => _ | none, _ => _) = _
    rw [h1]; rfl
  refine ⟨_, rfl, ?_⟩
  show (if (m.say false).outcome.isSome = true then m.say false else PySem.Sre.M.runFor 3 (m.say false).step).outcome = _
  rw [show (m.say false).outcome = none from h2, if_neg (by decide), e]
  rfl

section
variable {prog : Program} {w : World} {A : Around} {E : Value → Shared → Prop} {s : Shared}
theorem rx_drive (m : PySem.Sre.M) (h1 : m.frames = []) (h2 : m.outcome = none) {Q : PySem.Sre.M → Shared → Prop} (h : ∀ m', m'.outcome = some .failed → Q m' s) : wpAny (model prog w) A (Builtin.Re.reDrive (2 ^ 64) (m.say false)) Q E s := by
  obtain ⟨m', e1, e2⟩ := rx_run m h1 h2
  have e3 : Builtin.Re.reDrive (2 ^ 64) (m.say false) = Builtin.Re.reDrive (18446744073709551615 + 1) (m.say false) := rfl
  rw [e3]
  show wpAny _ _ (if ((m.say false).runFor 4).outcome.isSome = true then pure ((m.say false).runFor 4) else _) _ _ _
  rw [e1, e2]
  rw [if_pos (show (some PySem.Sre.Outcome.failed).isSome = true from rfl)]
  exact wpAny_pure (h m' e2)
theorem rx_seen (m : PySem.Sre.M) : ∀ (l : List Nat) {Q : PUnit → Shared → Prop}, Q ⟨⟩ s → wpAny (model prog w) A (forIn l PUnit.unit (fun i _ => (if m.seen.has i = true then (do rule (PySem.Sre.names.getD i ""); pure (ForInStep.yield PUnit.unit)) else pure (ForInStep.yield PUnit.unit) : Sem (ForInStep PUnit)))) Q E s
  | [], Q, h => by
    rw [List.forIn_nil]; exact wpAny_pure h
  | i :: l, Q, h => by
    rw [List.forIn_cons]
    refine wpAny_bind ?_
    cases q : m.seen.has i with
    | false =>
      rw [if_neg (by decide)]
      exact wpAny_pure (rx_seen m l h)
    | true =>
      rw [if_pos rfl]
      exact wpAny_bind (wpAny_rule (wpAny_pure (rx_seen m l h)))
theorem rx_end (m : PySem.Sre.M) (h1 : m.frames = []) (h2 : m.outcome = none) {Q : Option PySem.Sre.M → Shared → Prop} (h : Q none s) : wpAny (model prog w) A (Builtin.Re.reRunToEnd (m.say false)) Q E s := by
  unfold Builtin.Re.reRunToEnd
  refine wpAny_bind (rx_drive m h1 h2 fun m' e => ?_)
  refine wpAny_bind (rx_seen m' _ ?_)
  rw [e]
  exact wpAny_pure h
end
end
section
theorem owner_pat : Manifest.owners.lookup (String.ofList ['n', 'r', 'e', 't', 't', 'a', 'P', '.', 'e', 'r'].reverse) = some Manifest.sig_re_Pattern := by kernel_rfl
theorem slot_search : Slot "re.Pattern" "search" "re.Pattern.search" :=
  .of (owner := "re.Pattern") (n := "search") (by rw [typeLookup_type, builtinLookup_eq_fast]; kernel_rfl) (by decide +kernel) (by decide +kernel) (by decide +kernel)
    (by first | exact .inl (by decide +kernel) | exact .inr (by decide +kernel)) (by rw [isSubtype_type]; kernel_rfl)
theorem entry_search : entryFor table "re.Pattern.search" = some Builtin.«re.Pattern.search» := entryFor_of_tree (by kernel_rfl)
theorem args_search (a b : Value) : argsOk "re.Pattern.search" ⟨[a, b], []⟩ := by
  unfold argsOk; rw [signature?_of (id := "re.Pattern.search") (n := ['h', 'c', 'r', 'a', 'e', 's']) (o := ['n', 'r', 'e', 't', 't', 'a', 'P', '.', 'e', 'r']) (by kernel_rfl) owner_pat]; kernel_rfl
theorem plain_pat : PlainAttrs "re.Pattern" := by
  first
  | exact ⟨⟨"object.__getattribute__", by rw [typeLookup_type, builtinLookup_eq_fast]; kernel_rfl, by decide +kernel⟩, by rw [typeLookup_type, builtinLookup_eq_fast]; kernel_rfl⟩
  | exact ⟨⟨"re.Pattern.__getattribute__", by rw [typeLookup_type, builtinLookup_eq_fast]; kernel_rfl, by decide +kernel⟩, by rw [typeLookup_type, builtinLookup_eq_fast]; kernel_rfl⟩
theorem type_search : typeOf (.builtin "re.Pattern.search") = pure (.type "method_descriptor") := by show builtinType _ = _; rw [builtinType_eq_fast]; kernel_rfl
section
variable {prog : Program} {w : World} {A : Around} {E : Value → Shared → Prop} {s : Shared}
theorem named_one (v : Value) : Builtin.Re.reNamed "re.Pattern.search" "search" ["string", "pos", "endpos"] 1 [v] [] = pure [some v, none, none] := by first | rfl | kernel_rfl
theorem text_of (t : Str) (tx : Tok) : Builtin.Re.reTextOf (.str t tx) = pure (t.cps, 0) := by first | rfl | kernel_rfl
noncomputable abbrev patObj (src : Str) (t1 t2 t3 t4 : Tok) (cA : Addr) : Obj := { cls := .type "re.Pattern", data := .fields #[.str src t1, .int 32 t2, .int 0 t3, .none, .none, .ref cA, .int 0 t4] }
theorem search_tail {P : Value} {t : Str} {tx : Tok} {cs x : Array Nat} {Q : Value → Shared → Prop} {lim : Int} {g0 : Value} (hcs : x = cs) (h0 : cs.getD 0 0 = 14) (h2 : cs.getD 2 0 = 4)
    (hset : ∀ c, c ∈ t.cps.toList → ∀ seen, ∃ seen', PySem.Sre.inSet cs c cs.size 5 true seen = .ok (false, seen')) (hg : Builtin.Re.reRawNat g0 = 0) (h : ∀ k, Q .none { s with toks := k }) :
    wpAny (model prog w) A (Builtin.Re.reAnswer { pattern := P, string := .str t tx, code := x, text := t.cps, kind := 0, groups := Builtin.Re.reRawNat g0, pos := min (0 : Int).toNat t.cps.size, lim := min lim.toNat t.cps.size } (Sre.forSearch x t.cps (Builtin.Re.reRawNat g0) (min (0 : Int).toNat t.cps.size) (min lim.toNat t.cps.size) false)) (fun fin s' => ∃ v, fin = Fin.done (Flow.ret v) ∧ Q v s') E s := by
  subst hcs
  rw [hg, show min (0 : Int).toNat t.cps.size = 0 from Nat.zero_min _]
  obtain ⟨m, e1, f1, f2⟩ := rx_search x t.cps (min lim.toNat t.cps.size) (rx_first x h0 h2) (fun i hi seen => hset _ (by
    have hi2 : i < t.cps.size := Nat.lt_of_lt_of_le hi (Nat.min_le_right _ _)
    rw [show t.cps.getD i 0 = t.cps[i] from by simp [Array.getD, hi2]]
    exact Array.getElem_mem_toList hi2) seen)
  rw [e1]
  unfold Builtin.Re.reAnswer
  refine wpAny_bind (rx_end m f1 f2 ?_)
  exact wpAny_pure ⟨_, rfl, h s.toks⟩
theorem search_none {P cA : Addr} {src t : Str} {t1 t2 t3 t4 tx : Tok} {code : List Value} {cs : Array Nat} {n : Nat} {Q : Value → Shared → Prop}
    (hP : s.heap.get? P = some (patObj src t1 t2 t3 t4 cA)) (hc : s.heap.get? cA = some { cls := .type "tuple", data := .seq code.toArray n }) (hcs : (code.toArray.map Builtin.Re.reRawOf).map (·.toNat) = cs)
    (h0 : cs.getD 0 0 = 14) (h2 : cs.getD 2 0 = 4) (hset : ∀ c, c ∈ t.cps.toList → ∀ seen, ∃ seen', PySem.Sre.inSet cs c cs.size 5 true seen = .ok (false, seen'))
    (h : ∀ k, Q .none { s with toks := k }) : wpAny (model prog w) A (call (.builtin "re.Pattern.search") [.ref P, .str t tx]) Q E s := by
  refine wpAny_call_entry slot_search ⟨_, hP, rfl⟩ entry_search ?_ (args_search _ _)
  unfold Builtin.«re.Pattern.search»
  unfold Builtin.Re.reTarget
  refine wpAny_bind ?_
  show wpAny _ _ (Builtin.Re.reNamed "re.Pattern.search" "search" ["string", "pos", "endpos"] 1 [.str t tx] [] >>= _) _ _ _
  rw [named_one]
  refine wpAny_bind (wpAny_pure ?_)
  refine wpAny_bind (wpAny_pure ?_)
  refine wpAny_bind (wpAny_pure ?_)
  refine wpAny_bind (wpAny_fieldsOf hP rfl ?_)
  rw [text_of]
  refine wpAny_bind (wpAny_pure ?_)
  show wpAny _ _ (if (((0 : Nat) == 0 && (0 : Nat) == 1) = true) then _ else _) _ _ _
  rw [if_neg (by decide)]
  show wpAny _ _ (if (((0 : Nat) == 1 && (0 : Nat) == 0) = true) then _ else _) _ _ _
  rw [if_neg (by decide)]
  refine wpAny_bind ?_
  show wpAny _ _ (if (((0 : Nat) == 1) = true) then _ else pure ()) _ _ _
  rw [if_neg (by decide)]
  refine wpAny_pure ?_
  refine wpAny_bind ?_
  show wpAny _ _ (Builtin.Re.reRawItems (.ref cA)) _ _ _
  unfold Builtin.Re.reRawItems
  refine wpAny_bind (wpAny_seqItems hc rfl ?_)
  refine wpAny_pure ?_
  refine wpAny_pure ?_
  refine search_tail (g0 := .int 0 t3) (lim := 2 ^ 63 - 1) hcs h0 h2 hset rfl h
end
end
section
noncomputable def TabN (g : Heap) (p1 p2 : Array Value) (c1 : Addr) (o1 : Obj) (c2 : Addr) (o2 : Obj) : Prop :=
  ∀ h', g.StaysIn h' → h'.get? 54 = some (tabObj p1) → h'.get? 61 = some (tabObj p2) → h'.get? c1 = some o1 → h'.get? c2 = some o2 → Tabs h'
theorem not_loc {g h : Heap} {L c : Addr} {m : Str → Option Value} {o : Obj} (F : Fr g L h m) (e : h.get? c = some o) (hd : ∀ es ep, o.data ≠ .dict es ep) : c ≠ L := fun q => by
  obtain ⟨oL, es, ep, hL, dL, _⟩ := F.ns
  rw [← q, e] at hL
  cases hL
  exact hd _ _ dL
theorem TbAt.led {P line col : Nat} {qual : Str} {g h : Heap} {L : Addr} {m : Str → Option Value} {ps : Array Value} (x : TbAt P line col qual h ps) (F : Fr g L h m) (gP : g.get? P = none) :
    ∃ c o, News g L h [(P, tabObj ps), (c, o)] ∧ ∀ h', g.StaysIn h' → h'.get? P = some (tabObj ps) → h'.get? c = some o → TbAt P line col qual h' ps := by
  have nP : h.get? P = some (tabObj ps) ∧ P ≠ L ∧ g.get? P = none := ⟨x.1, not_loc F x.1 (fun es ep q => by cases q), gP⟩
  obtain ⟨xP, rfl | ⟨c', oc, vs, t, rfl, x1, x2, x3, x4, x5⟩⟩ := x
  · refine ⟨P, _, List.forall_mem_cons.mpr ⟨nP, List.forall_mem_cons.mpr ⟨nP, List.forall_mem_nil _⟩⟩, fun h' _ e _ => ⟨e, .inl rfl⟩⟩
  · cases q : g.get? c' with
    | none => exact ⟨c', oc, List.forall_mem_cons.mpr ⟨nP, List.forall_mem_cons.mpr ⟨⟨x3, not_loc F x3 (fun es ep q => by rw [x4] at q; cases q), q⟩, List.forall_mem_nil _⟩⟩, fun h' _ e e2 => ⟨e, .inr ⟨c', oc, vs, t, rfl, x1, x2, e2, x4, x5⟩⟩⟩
    | some o =>
      have : o = oc := by
        have := F.keep _ _ q
        rw [x3] at this; exact (Option.some.inj this).symm
      subst this
      exact ⟨P, _, List.forall_mem_cons.mpr ⟨nP, List.forall_mem_cons.mpr ⟨nP, List.forall_mem_nil _⟩⟩, fun h' k e _ => ⟨e, .inr ⟨c', o, vs, t, rfl, x1, x2, k _ _ q, x4, x5⟩⟩⟩
theorem Tabs.led {g h : Heap} {L : Addr} {m : Str → Option Value} (x : Tabs h) (F : Fr g L h m) (n54 : g.get? 54 = none) (n61 : g.get? 61 = none) :
    ∃ p1 p2 c1 o1 c2 o2, News g L h [(54, tabObj p1), (61, tabObj p2), (c1, o1), (c2, o2)] ∧ TabN g p1 p2 c1 o1 c2 o2 := by
  obtain ⟨p1, x1⟩ := x.one
  obtain ⟨p2, x2⟩ := x.two
  obtain ⟨c1, o1, N1, k1⟩ := x1.led F n54
  obtain ⟨c2, o2, N2, k2⟩ := x2.led F n61
  exact ⟨p1, p2, c1, o1, c2, o2, List.forall_mem_cons.mpr ⟨N1 _ (.head _), List.forall_mem_cons.mpr ⟨N2 _ (.head _), List.forall_mem_cons.mpr ⟨N1 _ (.tail _ (.head _)), List.forall_mem_cons.mpr ⟨N2 _ (.tail _ (.head _)), List.forall_mem_nil _⟩⟩⟩⟩,
    fun h' k a b c d => ⟨⟨p1, k1 h' k a c⟩, ⟨p2, k2 h' k b d⟩⟩⟩
theorem News.app {g h : Heap} {L : Addr} {a b : List (Addr × Obj)} (x : News g L h a) (y : News g L h b) : News g L h (a ++ b) := fun p hp => (List.mem_append.mp hp).elim (x p) (y p)
theorem Fr.keepT {g h h' : Heap} {L : Addr} {m : Str → Option Value} (F : Fr g L h m) (tb : Tabs h) (n54 : g.get? 54 = none) (n61 : g.get? 61 = none) (k : KeepT h h') : Fr g L h' m := by
  obtain ⟨p1, x1⟩ := tb.one
  obtain ⟨p2, x2⟩ := tb.two
  have l1 : L ≠ 54 := fun q => not_loc F x1.1 (fun es ep q => by cases q) q.symm
  have l2 : L ≠ 61 := fun q => not_loc F x2.1 (fun es ep q => by cases q) q.symm
  exact ⟨F.ns.at fun o e => k L o l1 l2 e, stays_keepT F.keep n54 n61 k, F.above⟩
theorem keepT1 {g h h' : Heap} {L : Addr} {q1 : Addr × Obj} {tl : List (Addr × Obj)} (N : News g L h (q1 :: tl)) (k : KeepT h h') (a : q1.1 ≠ 54) (b : q1.1 ≠ 61) : News g L h' [q1] :=
  List.forall_mem_cons.mpr ⟨⟨k _ _ a b (N _ (.head _)).1, (N _ (.head _)).2⟩, List.forall_mem_nil _⟩
theorem keepT2 {g h h' : Heap} {L : Addr} {q1 q2 : Addr × Obj} {tl : List (Addr × Obj)} (N : News g L h (q1 :: q2 :: tl)) (k : KeepT h h') (a : q1.1 ≠ 54) (b : q1.1 ≠ 61) (c : q2.1 ≠ 54) (d : q2.1 ≠ 61) : News g L h' [q1, q2] :=
  List.forall_mem_cons.mpr ⟨⟨k _ _ a b (N _ (.head _)).1, (N _ (.head _)).2⟩, keepT1 (News.sub N fun p hp => .tail _ hp) k c d⟩
theorem news_new {g h h' : Heap} {L q : Addr} {m : Str → Option Value} {o : Obj} (F : Fr g L h m) (f : h.get? q = none) (e : h'.get? q = some o) : News g L h' [(q, o)] := by
  refine List.forall_mem_cons.mpr ⟨⟨e, fun (x : q = L) => ?_, fresh_of F.keep f⟩, List.forall_mem_nil _⟩
  obtain ⟨oL, _, _, hL, _⟩ := F.ns
  rw [x, hL] at f; cases f
end
section
section
variable {prog : Program} {w : World} {A : Around} {E : Value → Shared → Prop} {R : Result → Shared → Prop} {s : Shared} {env : Env}
noncomputable def CompGo (prog : Program) (w : World) (A : Around) (env : Env) (cl : List (Str × Addr)) (scope : Scope) (e : Expr) (E : Value → Shared → Prop) (RR : Value → Addr → Result → Shared → Prop) (it : Value) (s₂ : Shared) : Prop :=
  wpAny (model prog w) A (newList []) (fun acc s₃ => wpAny (model prog w) A (newFunctionEnv scope env.globals cl [] env.qual none .none (some env)) (fun cenv s₄ =>
    codeAny (model prog w) A (.compStart e 0 it acc { cenv with scope := relabel scope env }) (RR acc cenv.locals) s₄) E s₃) E s₂
theorem lc_go {elt target iter : Expr} {ifs : List Expr} {rest : List Comprehension} {scope : Scope} {cl : List (Str × Addr)} {pos : Pos} {Q : Value → Shared → Prop}
    (hclos : closureFor scope env = pure cl) (hkind : scope.kind = .function) (hnames : ∀ y ∈ scope.names, y.2 = .local → scope.names.lookup y.1 = some .local)
    (h : wpAny (model prog w) A (eval iter env) (fun xv s₁ => wpAny (model prog w) A (pyIter xv) (fun it s₂ => CompGo prog w A env cl scope (.ListComp elt (⟨target, iter, ifs, 0⟩ :: rest) scope pos) E (compPost (model prog w) A E none Q) it s₂) E s₁) E s)
    (hs : ∀ x, foldedSetIterable iter env x = pure x := by intro _; rfl) :
    wpAny (model prog w) A (eval (.ListComp elt (⟨target, iter, ifs, 0⟩ :: rest) scope pos) env) Q E s := by
  rw [eval_ListComp]
  exact wpAny_comprehension_free (use := none) rfl hs hclos hkind hnames h

theorem lc_assign {elt target iter : Expr} {y : Str} {py : Pos} {ifs : List Expr} {rest : List Comprehension} {scope : Scope} {cl : List (Str × Addr)} {pos spos : Pos} {Q : Flow → Shared → Prop}
    (hsw : swapsWith (.ListComp elt (⟨target, iter, ifs, 0⟩ :: rest) scope pos) (some (.Name y py)) spos.line env = pure true)
    (hclos : closureFor scope env = pure cl) (hkind : scope.kind = .function) (hnames : ∀ y ∈ scope.names, y.2 = .local → scope.names.lookup y.1 = some .local)
    (h : wpAny (model prog w) A (eval iter env) (fun xv s₁ => wpAny (model prog w) A (pyIter xv) (fun it s₂ => CompGo prog w A env cl scope (.ListComp elt (⟨target, iter, ifs, 0⟩ :: rest) scope pos) E (compPost (model prog w) A E (some (assign (.Name y py) env)) (fun _ s' => Q .next s')) it s₂) E s₁) E s)
    (hs : ∀ x, foldedSetIterable iter env x = pure x := by intro _; rfl) :
    wpAny (model prog w) A (exec (.Assign [.Name y py] (.ListComp elt (⟨target, iter, ifs, 0⟩ :: rest) scope pos) spos) env) Q E s := by
  rw [exec_Assign_Name_used _ _ _ _ hsw]
  refine wpAny_bind (wpAny_standAt (wpAny_bind ?_))
  show wpAny _ A (do let _ ← comprehension (.ListComp elt (⟨target, iter, ifs, 0⟩ :: rest) scope pos) scope env _ (newList []) false (eval iter env) (some (assign (.Name y py) env))) _ _ s
  exact wpAny_bind (wpAny_mono (wpAny_comprehension_free (use := some (assign (.Name y py) env)) (Q := fun _ s' => Q .next s') rfl hs hclos hkind hnames h) (fun _ s' hq => wpAny_pure (wpAny_pure hq)) fun _ _ e => e)

theorem comp_turns {elt target iter : Expr} {ifs : List Expr} {scope : Scope} {pos : Pos} {it acc : Value} {env : Env} (I : Nat → Shared → Prop)
    (turn : ∀ n s, I n s → wpAny (model prog w) A (pyNext it) (fun r s₁ => match r with
      | none => R (.ok .next) s₁
      | some v => wpAny (model prog w) A (letOwnedTupleGo target it v) (fun _ s₀ => wpAny (model prog w) A (assign target env v) (fun _ s₂ =>
          wpAny (model prog w) A (forIn ifs true fun c r => if r = true then do let ok ← isTrue c env (eval c env); pure (ForInStep.yield ok) else pure (ForInStep.yield r)) (fun ok s₃ =>
            if ok = true then wpAny (model prog w) A (eval elt env) (fun x s₄ =>
              wpAny (model prog w) A (call (.builtin "list.append") [acc, x]) (fun _ s₅ => ∃ m, m < n ∧ I m s₅) (notedBy (model prog w) A env fun e s' => R (.error e) s') s₄) (notedBy (model prog w) A env fun e s' => R (.error e) s') s₃
            else ∃ m, m < n ∧ I m s₃) (notedBy (model prog w) A env fun e s' => R (.error e) s') s₂) (notedBy (model prog w) A env fun e s' => R (.error e) s') s₀) (notedBy (model prog w) A env fun e s' => R (.error e) s') s₁) (notedBy (model prog w) A env fun e s' => R (.error e) s') s)
    (n : Nat) (h : I n s) :
    codeAny (model prog w) A (.compLoop (.ListComp elt [⟨target, iter, ifs, 0⟩] scope pos) 0 it acc env) R s := by
  refine codeAny_loop rfl I (fun n s hI => ?_) n h
  show wpAny _ A ((compTurn (.ListComp elt [⟨target, iter, ifs, 0⟩] scope pos) 0 it acc env).onRaise (fun x => do noteFrame x env; theTreesLotGoes x)) _ _ s
  refine wpAny_noted ?_
  rw [compTurn_list]
  refine wpAny_bind (wpAny_standAt (wpAny_bind (wpAny_mono (turn n s hI) (fun r s₁ h₁ => ?_) fun _ _ h' => h')))
  cases r with
  | none => exact wpAny_pure h₁
  | some v =>
    refine wpAny_bind (wpAny_mono h₁ (fun _ s₀ h₀ => ?_) fun _ _ h' => h')
    refine wpAny_bind (wpAny_mono h₀ (fun _ s₂ h₂ => wpAny_bind (wpAny_mono h₂ (fun ok s₃ h₃ => ?_) fun _ _ h' => h')) fun _ _ h' => h')
    cases ok with
    | false => exact wpAny_pure ⟨rfl, h₃⟩
    | true =>
      exact wpAny_bind (wpAny_bind (wpAny_mono h₃ (fun x s₄ h₄ => wpAny_bind (wpAny_mono h₄ (fun _ s₅ h₅ => wpAny_pure (wpAny_pure ⟨rfl, h₅⟩)) fun _ _ h' => h')) fun _ _ h' => h'))

structure Src (prog : Program) (w : World) (A : Around) (cenv : Env) (target : Expr) (I : Addr) (ex : List Addr) (g : Heap) (n : Nat) (St : Nat → Heap → Prop) (Up : Nat → (Str → Option Value) → (Str → Option Value) → Prop) : Prop where
  hit : ∀ i h, St i h → ∃ o, h.get? I = some o
  frame : ∀ i h h', St i h → (∀ b ∈ I :: ex, ∀ o, h.get? b = some o → h'.get? b = some o) → St i h'
  step : ∀ i (s : Shared) mC it nw (Q : Shared → Prop) (E : Value → Shared → Prop), i < n → St i s.heap → Fr g cenv.locals s.heap mC → News g cenv.locals s.heap ((I, it) :: nw) → (∀ p ∈ nw, p.1 ≠ I) →
    (∀ it' h' tk' m', Up i mC m' → Fr g cenv.locals h' m' → News g cenv.locals h' ((I, it') :: nw) → St (i + 1) h' → Q { s with heap := h', toks := tk' }) →
    wpAny (model prog w) A (pyNext (.ref I)) (fun r s₁ => match r with
      | none => False
      | some v => wpAny (model prog w) A (letOwnedTupleGo target (.ref I) v) (fun _ s₀ => wpAny (model prog w) A (assign target cenv v) (fun _ s₂ => Q s₂) E s₀) E s₁) E s
  done : ∀ (s : Shared) mC it nw (Q : Option Value → Shared → Prop) (E : Value → Shared → Prop), St n s.heap → Fr g cenv.locals s.heap mC → News g cenv.locals s.heap ((I, it) :: nw) → (∀ p ∈ nw, p.1 ≠ I) →
    (∀ h' tk', Fr g cenv.locals h' mC → News g cenv.locals h' nw → Q none { s with heap := h', toks := tk' }) → wpAny (model prog w) A (pyNext (.ref I)) Q E s
  self : ∀ i (s : Shared) (Q : Value → Shared → Prop) (E : Value → Shared → Prop), St i s.heap → Q (.ref I) s → wpAny (model prog w) A (pyIter (.ref I)) Q E s

theorem src_walks {cenv : Env} {x : Str} {px : Pos} {I : Addr} {ex : List Addr} {g : Heap} {n : Nat} {P : Nat → Value → Prop} {St : Nat → Heap → Prop} (W : Walks prog w A I (I :: ex) [I] n P St) (hit : ∀ i h, St i h → ∃ o, h.get? I = some o)
    (hx : cenv.kindOf x = some .local) (hp : (cenv.scope.kind == .class || (cenv.scope.kind == .module && cenv.locals != cenv.globals)) = false) (hex : cenv.locals ∉ ex) :
    Src prog w A cenv (.Name x px) I ex g n St (fun i m m' => ∃ v, P i v ∧ m' = fun y => if y = x then some v else m y) where
  hit := hit
  frame := W.frame
  step := fun i s mC it nw Q E hi st F N off k => by
    have hI := N _ (.head _)
    refine wpAny_mono (W.item i s (fun r s₁ => match r with | none => False | some v => ∃ h' tk', s₁ = { s with heap := h', toks := tk' } ∧ P i v ∧ St (i + 1) h' ∧ ∀ b o, b ∉ [I] → s.heap.get? b = some o → h'.get? b = some o) E hi st fun v h' tk' hP hst hk => ⟨h', tk', rfl, hP, hst, hk⟩) (fun r s₁ hr => ?_) fun _ _ e => e
    cases r with
    | none => exact hr
    | some v =>
      obtain ⟨h₁, tk₁, rfl, hP, hst, hk⟩ := hr
      have hk' : ∀ b o, b ≠ I → s.heap.get? b = some o → h₁.get? b = some o := fun b o hb e => hk b o (fun x => hb (List.mem_singleton.mp x)) e
      refine wpAny_of_eq (show letOwnedTupleGo (.Name x px) (.ref I) v = pure () from rfl) ?_
      have hn₁ := F.ns.at' fun o e => hk' _ o (fun q => hI.2.1 q.symm) e
      refine wpAny_assign_Name (wpAny_storeName_local hx hn₁ (fun h₂ hn₂ hs₂ => ?_) hp)
      have e₂ : ∀ b o, b ≠ cenv.locals → h₁.get? b = some o → h₂.get? b = some o := fun b o hb e => (hs₂.2 b hb).trans e
      obtain ⟨it', hit'⟩ := hit _ _ hst
      have hCi : cenv.locals ≠ I := fun q => hI.2.1 q.symm
      refine k it' h₂ _ _ ⟨v, hP, rfl⟩ ⟨hn₂, fun b o e => ?_, F.above⟩ (List.forall_mem_cons.mpr ⟨⟨e₂ _ _ hI.2.1 hit', hI.2.1, hI.2.2⟩, fun p hp => ?_⟩) (W.frame _ _ _ hst fun b hb o e => e₂ b o ?_ e)
      · refine e₂ b o ?_ (hk' b o (fun q => by rw [q, hI.2.2] at e; cases e) (F.keep b o e))
        intro q
        have h1 := Heap.lt_size e
        rw [q] at h1
        exact absurd (Nat.lt_of_lt_of_le h1 F.above) (Nat.lt_irrefl _)
      · have := N p (.tail _ hp)
        exact ⟨e₂ _ _ this.2.1 (hk' _ _ (off p hp) this.1), this.2⟩
      · rcases List.mem_cons.mp hb with q | q
        · rw [q]; exact hI.2.1
        · exact fun z => hex (z ▸ q)
  done := fun s mC it nw Q E st F N off k => by
    have hI := N _ (.head _)
    refine W.done s Q E st fun h' tk' hk => ?_
    have hk' : ∀ b o, b ≠ I → s.heap.get? b = some o → h'.get? b = some o := fun b o hb e => hk b o (fun x => hb (List.mem_singleton.mp x)) e
    refine k h' tk' ⟨F.ns.at' fun o e => hk' _ o (fun q => hI.2.1 q.symm) e, fun b o e => hk' b o (fun q => by rw [q, hI.2.2] at e; cases e) (F.keep b o e), F.above⟩ fun p hp => ?_
    have := N p (.tail _ hp)
    exact ⟨hk' _ _ (off p hp) this.1, this.2⟩
  self := W.self

inductive ElemEnd (g : Heap) (C D I : Addr) (dob it : Obj) (Jn : Value → List (Addr × Obj) → Prop) (s₁ : Shared) (y : Value) (s₂ : Shared) : Prop
  | mk (h' : Heap) (tk : Nat) (m' : Str → Option Value) (nw' : List (Addr × Obj)) (e : s₂ = { s₁ with heap := h', toks := tk }) (F : Fr g C h' m') (N : News g C h' ((D, dob) :: (I, it) :: nw')) (off : ∀ p ∈ nw', p.1 ≠ D ∧ p.1 ≠ I) (j : Jn y nw') : ElemEnd g C D I dob it Jn s₁ y s₂
theorem ElemEnd.intro {g : Heap} {C D I : Addr} {dob it : Obj} {Jn : Value → List (Addr × Obj) → Prop} {s₁ : Shared} {y : Value} {h' : Heap} {tk : Nat} {m' : Str → Option Value} {nw' : List (Addr × Obj)} (F : Fr g C h' m') (N : News g C h' ((D, dob) :: (I, it) :: nw')) (off : ∀ p ∈ nw', p.1 ≠ D ∧ p.1 ≠ I) (hj : Jn y nw') :
    ElemEnd g C D I dob it Jn s₁ y { s₁ with heap := h', toks := tk } := ⟨h', tk, m', nw', rfl, F, N, off, hj⟩

inductive CompI (g : Heap) (C D I : Addr) (n : Nat) (St : Nat → Heap → Prop) (J : Nat → List Value → List (Addr × Obj) → Prop) (s : Shared) (k : Nat) (s' : Shared) : Prop
  | mk (i : Nat) (h : Heap) (tk : Nat) (m : Str → Option Value) (ys : List Value) (kk : Nat) (it : Obj) (nw : List (Addr × Obj)) (ek : k = n - i) (hi : i ≤ n) (e : s' = { s with heap := h, toks := tk }) (st : St i h) (F : Fr g C h m) (N : News g C h ((D, listOf ys.toArray kk) :: (I, it) :: nw)) (off : ∀ p ∈ nw, p.1 ≠ D ∧ p.1 ≠ I) (j : J i ys nw) : CompI g C D I n St J s k s'
theorem comp_loop {elt target iter : Expr} {ifs : List Expr} {scope : Scope} {pos : Pos} {cenv : Env} {I D : Addr} {ex : List Addr} {g : Heap} {n : Nat} {St : Nat → Heap → Prop} {Up : Nat → (Str → Option Value) → (Str → Option Value) → Prop}
    (W : Src prog w A cenv target I ex g n St Up) (J : Nat → List Value → List (Addr × Obj) → Prop) (hz : ∀ i ys nw, J i ys nw → ys.length ≤ 16777216)
    (hex : ∀ b ∈ ex, (∃ o, g.get? b = some o) ∨ ∃ o, ∀ i ys nw, J i ys nw → (b, o) ∈ nw)
    (turn : ∀ i ys nw it k h tk mC m' (E' : Value → Shared → Prop), i < n → J i ys nw → Up i mC m' → (∀ p ∈ nw, p.1 ≠ D ∧ p.1 ≠ I) → Fr g cenv.locals h m' → News g cenv.locals h ((D, listOf ys.toArray k) :: (I, it) :: nw) →
      wpAny (model prog w) A (forIn ifs true fun c r => if r = true then do let ok ← isTrue c cenv (eval c cenv); pure (ForInStep.yield ok) else pure (ForInStep.yield r)) (fun ok s₃ =>
        if ok = true then wpAny (model prog w) A (eval elt cenv) (ElemEnd g cenv.locals D I (listOf ys.toArray k) it (fun y nw' => J (i + 1) (ys ++ [y]) nw') { s with heap := h, toks := tk }) E' s₃
        else ElemEnd g cenv.locals D I (listOf ys.toArray k) it (fun _ nw' => J (i + 1) ys nw') { s with heap := h, toks := tk } .none s₃) E' { s with heap := h, toks := tk })
    (done : ∀ ys nw k h tk mC, J n ys nw → (∀ p ∈ nw, p.1 ≠ D ∧ p.1 ≠ I) → Fr g cenv.locals h mC → News g cenv.locals h ((D, listOf ys.toArray k) :: nw) → R (.ok .next) { s with heap := h, toks := tk })
    {it0 : Obj} {nw0 : List (Addr × Obj)} {m0 : Str → Option Value} {ys0 : List Value} {k0 : Nat} (hDI : D ≠ I) (st : St 0 s.heap) (F : Fr g cenv.locals s.heap m0) (N : News g cenv.locals s.heap ((D, listOf ys0.toArray k0) :: (I, it0) :: nw0)) (off : ∀ p ∈ nw0, p.1 ≠ D ∧ p.1 ≠ I) (hj : J 0 ys0 nw0) :
    codeAny (model prog w) A (.compLoop (.ListComp elt [⟨target, iter, ifs, 0⟩] scope pos) 0 (.ref I) (.ref D) cenv) R s := by
  refine comp_turns (CompI g cenv.locals D I n St J s) ?_ n
    ⟨0, s.heap, s.toks, m0, ys0, k0, it0, nw0, rfl, Nat.zero_le _, rfl, st, F, N, off, hj⟩
  rintro kk s' ⟨i, h, tk, m, ys, kd, it, nw, rfl, hi, rfl, st, F, N, off, hj⟩
  have N' : News g cenv.locals h ((I, it) :: (D, listOf ys.toArray kd) :: nw) := fun p hp => by
    rcases List.mem_cons.mp hp with rfl | hp
    · exact N _ (.tail _ (.head _))
    · rcases List.mem_cons.mp hp with rfl | hp
      · exact N _ (.head _)
      · exact N _ (.tail _ (.tail _ hp))
  have off' : ∀ p ∈ (D, listOf ys.toArray kd) :: nw, p.1 ≠ I := fun p hp => by
    rcases List.mem_cons.mp hp with rfl | hp
    · exact hDI
    · exact (off p hp).2
  rcases Nat.lt_or_ge i n with hlt | hge
  · refine wpAny_mono (W.step i _ m it _ (fun s₂ => wpAny (model prog w) A (forIn ifs true fun c r => if r = true then do let ok ← isTrue c cenv (eval c cenv); pure (ForInStep.yield ok) else pure (ForInStep.yield r)) (fun ok s₃ =>
            if ok = true then wpAny (model prog w) A (eval elt cenv) (fun x s₄ =>
              wpAny (model prog w) A (call (.builtin "list.append") [.ref D, x]) (fun _ s₅ => ∃ m, m < n - i ∧ (CompI g cenv.locals D I n St J s) m s₅) (notedBy (model prog w) A cenv fun e s' => R (.error e) s') s₄) (notedBy (model prog w) A cenv fun e s' => R (.error e) s') s₃
            else ∃ m, m < n - i ∧ (CompI g cenv.locals D I n St J s) m s₃) (notedBy (model prog w) A cenv fun e s' => R (.error e) s') s₂) _ hlt st F N' off' ?_) (fun r s₁ hr => ?_) fun _ _ e => e
    · rintro it' h' tk' m' hU F' N1 st'
      have N2 : News g cenv.locals h' ((D, listOf ys.toArray kd) :: (I, it') :: nw) := fun p hp => by
        rcases List.mem_cons.mp hp with rfl | hp
        · exact N1 _ (.tail _ (.head _))
        · rcases List.mem_cons.mp hp with rfl | hp
          · exact N1 _ (.head _)
          · exact N1 _ (.tail _ (.tail _ hp))
      have again : ∀ h'' (dob : Obj) (nw' : List (Addr × Obj)) m'', Fr g cenv.locals h'' m'' → News g cenv.locals h'' ((D, dob) :: (I, it') :: nw') → ∀ ys', J (i + 1) ys' nw' → St (i + 1) h'' := by
        intro h'' dob nw' m'' F'' N'' ys' hj'
        refine W.frame _ _ _ st' fun b hb o e => ?_
        rcases List.mem_cons.mp hb with q | q
        · rw [q, (N2 _ (.tail _ (.head _))).1] at e
          rw [q, ← e]; exact (N'' _ (.tail _ (.head _))).1
        · rcases hex b q with ⟨o', ho'⟩ | ⟨o', ho'⟩
          · have e1 := F'.keep _ _ ho'
            rw [e] at e1
            rw [Option.some.inj e1]; exact F''.keep _ _ ho'
          · have e1 := (N2 _ (.tail _ (.tail _ (ho' _ _ _ hj)))).1
            rw [e] at e1
            rw [Option.some.inj e1]; exact (N'' _ (.tail _ (.tail _ (ho' _ _ _ hj')))).1
      refine wpAny_mono (turn i ys nw it' kd h' tk' m m' _ hlt hj hU off F' N2) (fun ok s₃ hs => ?_) fun _ _ e => e
      cases ok with
      | true =>
        rw [if_pos rfl] at hs ⊢
        refine wpAny_mono hs (fun y s₄ h₄ => ?_) fun _ _ e => e
        obtain ⟨h₅, tk₅, m₅, nw₅, rfl, F₅, N₅, off₅, hj₅⟩ := h₄
        have hu : UpdF D (listOf ys.toArray kd) ((D, listOf ys.toArray kd) :: (I, it') :: nw₅) (fun o' => (D, o') :: (I, it') :: nw₅) := .head fun p hp => by
          rcases List.mem_cons.mp hp with rfl | hp
          · exact hDI.symm
          · exact (off₅ p hp).1
        refine append_is F₅ N₅ (.head _) hu (hz _ _ _ hj) fun h₆ F₆ N₆ _ => ⟨n - (i + 1), by (first | exact om10 hlt | omega), i + 1, h₆, tk₅, m₅, ys ++ [y], kd + 1, it', nw₅, rfl, hlt, rfl, again _ _ _ _ F₆ N₆ _ hj₅, F₆, N₆, off₅, hj₅⟩
      | false =>
        rw [if_neg (by decide)] at hs ⊢
        obtain ⟨h₅, tk₅, m₅, nw₅, rfl, F₅, N₅, off₅, hj₅⟩ := hs
        exact ⟨n - (i + 1), by (first | exact om10 hlt | omega), i + 1, h₅, tk₅, m₅, ys, kd, it', nw₅, rfl, hlt, rfl, again _ _ _ _ F₅ N₅ _ hj₅, F₅, N₅, off₅, hj₅⟩
    · cases r with
      | none => exact hr.elim
      | some v => exact hr
  · have : i = n := Nat.le_antisymm hi hge
    subst this
    refine W.done _ m it _ _ _ st F N' off' fun h' tk' F' N1 => ?_
    exact done ys nw kd h' tk' m hj off F' N1
end
section
variable {prog : Program} {w : World} {A : Around} {E : Value → Shared → Prop} {s : Shared} {env : Env}
noncomputable def CompEndR (s : Shared) (h₀ : Heap) (L : Addr) (m : Str → Option Value) (news : List (Addr × Obj)) (n : Nat) (J : Nat → List Value → List (Addr × Obj) → Prop) (RR : Value → Addr → Result → Shared → Prop) : Prop :=
  ∀ ys nw k D C h tk mC, J n ys nw → (∀ p ∈ nw, p.1 ≠ D ∧ p.1 ≠ C) → C ≠ L → D ≠ C → h₀.get? C = none → h.Ns C mC → Fr h₀ L h m → News h₀ L h ((D, listOf ys.toArray k) :: nw) → (∀ p ∈ news, p.1 < D) → RR (.ref D) C (.ok .next) { s with heap := h, toks := tk }
theorem comp_run {elt target iter : Expr} {ifs : List Expr} {scope : Scope} {cl : List (Str × Addr)} {pos : Pos} {RR : Value → Addr → Result → Shared → Prop} {h₀ : Heap} {L I : Addr} {m : Str → Option Value} {news : List (Addr × Obj)} {it0 : Obj} {ex : List Addr} {n : Nat} {St : Nat → Heap → Prop} {Up : Nat → (Str → Option Value) → (Str → Option Value) → Prop}
    (hcell : ∀ y ∈ scope.names, y.2 ≠ .cell) (hkind : scope.kind = .function) (F : Fr h₀ L s.heap m) (N : News h₀ L s.heap ((I, it0) :: news)) (offI : ∀ p ∈ news, p.1 ≠ I) (st : St 0 s.heap) (hfp : ∀ b ∈ ex, b < s.heap.objs.size)
    (W : ∀ C g, s.heap.objs.size < C → Src prog w A (compEnvC scope cl C env) target I ex g n St Up) (J : Nat → List Value → List (Addr × Obj) → Prop) (hz : ∀ i ys nw, J i ys nw → ys.length ≤ 16777216)
    (hex : ∀ b ∈ ex, (b ≠ I ∧ (∀ p ∈ news, b ≠ p.1) ∧ ∃ o, s.heap.get? b = some o) ∨ ∃ o, ∀ i ys nw, J i ys nw → (b, o) ∈ nw) (hj : J 0 [] news)
    (turn : ∀ g C D, g.StaysIn s.heap → h₀.StaysIn g → (∀ b o, b ≠ I → (∀ p ∈ news, b ≠ p.1) → s.heap.get? b = some o → g.get? b = some o) → (∀ p ∈ news, p.1 < D) → I < D → D < C →
      ∀ i ys nw it k h tk mC m' (E' : Value → Shared → Prop), i < n → J i ys nw → Up i mC m' → (∀ p ∈ nw, p.1 ≠ D ∧ p.1 ≠ I) → Fr g C h m' → News g C h ((D, listOf ys.toArray k) :: (I, it) :: nw) →
      wpAny (model prog w) A (forIn ifs true fun c r => if r = true then do let ok ← isTrue c (compEnvC scope cl C env) (eval c (compEnvC scope cl C env)); pure (ForInStep.yield ok) else pure (ForInStep.yield r)) (fun ok s₃ =>
        if ok = true then wpAny (model prog w) A (eval elt (compEnvC scope cl C env)) (ElemEnd g C D I (listOf ys.toArray k) it (fun y nw' => J (i + 1) (ys ++ [y]) nw') { s with heap := h, toks := tk }) E' s₃
        else ElemEnd g C D I (listOf ys.toArray k) it (fun _ nw' => J (i + 1) ys nw') { s with heap := h, toks := tk } .none s₃) E' { s with heap := h, toks := tk })
    (done : CompEndR s h₀ L m news n J RR) :
    CompGo prog w A env cl scope (.ListComp elt [⟨target, iter, ifs, 0⟩] scope pos) E RR (.ref I) s := by
  have hIx := N _ (.head _)
  have hI : I < s.heap.objs.size := Heap.lt_size hIx.1
  have hnew : ∀ p ∈ news, p.1 < s.heap.objs.size := fun p hp => Heap.lt_size (N p (.tail _ hp)).1
  unfold CompGo
  refine wpAny_newObj_type (wpAny_newFunctionEnv hcell (by intro y hy; simp at hy) (fun h₁ hns₁ hsb₁ => ?_) hkind)
  dsimp only at hns₁ hsb₁ ⊢
  generalize hH2 : s.heap.push { cls := .type "list", dict := none, data := .seq ([] : List Value).toArray } = H2 at hns₁ hsb₁ ⊢
  have hC : H2.objs.size = s.heap.objs.size + 1 := by rw [← hH2, Heap.size_push]
  have hDC : s.heap.objs.size ≠ H2.objs.size := by rw [hC]; exact Nat.ne_of_lt (Nat.lt_succ_self _)
  have hne : ∀ b, b < s.heap.objs.size → b ≠ H2.objs.size := fun b h => Nat.ne_of_lt (by rw [hC]; exact Nat.lt_succ_of_lt h)
  have old : ∀ b o, s.heap.get? b = some o → h₁.get? b = some o := fun b o e => hsb₁.extBut b o (hne b (Heap.lt_size e)) (Heap.get?_push_of_some _ (hH2 ▸ Heap.get?_push_of_some _ e))
  have hacc : h₁.get? s.heap.objs.size = some (listOf ([] : List Value).toArray 0) := hsb₁.extBut _ _ hDC (Heap.get?_push_of_some _ (hH2 ▸ Heap.get?_push_size _ rfl))
  obtain ⟨g, hg⟩ : ∃ g, g = hideAll s.heap (((I, it0) :: news).map (·.1)) := ⟨_, rfl⟩
  have gs : g.StaysIn s.heap := fun b o e => by rw [hg] at e; exact of_hideAll _ e
  have gz : g.objs.size = s.heap.objs.size := by rw [hg]; exact hideAll_size _ _
  have less : ∀ b o, b ≠ I → (∀ p ∈ news, b ≠ p.1) → s.heap.get? b = some o → g.get? b = some o := fun b o h1 h2 e => by
    rw [hg]
    refine hideAll_get _ e fun hm => ?_
    rcases List.mem_map.mp hm with ⟨q, hq, rfl⟩
    rcases List.mem_cons.mp hq with rfl | hq
    · exact h1 rfl
    · exact h2 q hq rfl
  have hs₀ : h₀.StaysIn g := fun b o e => less b o (fun q => by rw [q, hIx.2.2] at e; cases e) (fun p hp q => by rw [q, (N p (.tail _ hp)).2.2] at e; cases e) (F.keep b o e)
  obtain ⟨oL, hoL⟩ := loc_none F
  have gL : g.get? L = some oL := less L oL (fun q => hIx.2.1 q.symm) (fun p hp q => (N p (.tail _ hp)).2.1 q.symm) hoL
  have F₁ : Fr g H2.objs.size h₁ (fun x => ([] : List (Str × Value)).reverse.lookup x) := ⟨hns₁, fun b o e => old b o (gs b o e), by rw [gz, hC]; exact Nat.le_succ _⟩
  have gnone : ∀ a, s.heap.objs.size ≤ a → g.get? a = none := fun a ha => by
    cases e : g.get? a with
    | none => rfl
    | some o' => exact absurd (Heap.lt_size e) (by rw [gz]; exact Nat.not_lt.mpr ha)
  have hide : ∀ p ∈ (I, it0) :: news, g.get? p.1 = none := fun p hp => by rw [hg]; exact hideAll_none _ (List.mem_map_of_mem hp)
  have N₁ : News g H2.objs.size h₁ ((s.heap.objs.size, listOf ([] : List Value).toArray 0) :: (I, it0) :: news) := fun p hp => by
    rcases List.mem_cons.mp hp with rfl | hp
    · exact ⟨hacc, hDC, gnone _ (Nat.le_refl _)⟩
    · have h1 := N p hp
      exact ⟨old _ _ h1.1, hne _ (Heap.lt_size h1.1), hide p hp⟩
  have offD : ∀ p ∈ news, p.1 ≠ s.heap.objs.size ∧ p.1 ≠ I := fun p hp => ⟨Nat.ne_of_lt (hnew p hp), offI p hp⟩
  have hCenv : ({ (newEnv scope H2.objs.size env.globals cl env.qual none .none (some env) 0) with scope := relabel scope env } : Env) = { (newEnv scope H2.objs.size env.globals cl env.qual none .none (some env) 0) with scope := relabel scope env } := rfl
  have W₁ := W H2.objs.size g (by rw [hC]; exact Nat.lt_succ_self _)
  have st₁ : St 0 h₁ := W₁.frame _ _ _ st fun b _ o e => old b o e
  have loop : ∀ s₃ : Shared, s₃ = { s with heap := h₁, toks := s.toks + ([] : List (Str × Value)).length } →
      codeAny (model prog w) A (.compLoop (.ListComp elt [⟨target, iter, ifs, 0⟩] scope pos) 0 (.ref I) (.ref s.heap.objs.size) (compEnvC scope cl H2.objs.size env))
        (RR (.ref s.heap.objs.size) H2.objs.size) s₃ := by
    rintro s₃ rfl
    refine comp_loop W₁ J hz (fun b hb => (hex b hb).imp (fun ⟨h1, h2, o, e⟩ => ⟨o, less b o h1 h2 e⟩) id) (turn g H2.objs.size s.heap.objs.size gs hs₀ less hnew hI (by rw [hC]; exact Nat.lt_succ_self _)) ?_ (Ne.symm (Nat.ne_of_lt hI)) st₁ F₁ N₁ offD hj
    intro ys nw k h tk mC hJ off F₂ N₂
    have hlt0 : ∀ b o, h₀.get? b = some o → b ≠ H2.objs.size := fun b o e => hne b (Heap.lt_size (F.keep b o e))
    have hLC : L ≠ H2.objs.size := hne L (Heap.lt_size hoL)
    refine done ys nw k s.heap.objs.size H2.objs.size h tk mC hJ (fun p hp => ⟨(off p hp).1, (N₂ p (.tail _ hp)).2.1⟩) hLC.symm hDC ?_ F₂.ns ⟨F.ns.at' fun o e => ?_, fun b o e => F₂.keep b o (hs₀ b o e), F.above⟩ (fun p hp => ?_) hnew
    · cases e : h₀.get? H2.objs.size with
      | none => rfl
      | some o => exact absurd rfl (hlt0 _ _ e)
    · rw [hoL] at e
      cases e
      exact F₂.keep _ _ gL
    · have h1 := N₂ p hp
      refine ⟨h1.1, fun q => ?_, ?_⟩
      · have := h1.2.2
        rw [q, gL] at this; cases this
      · cases e : h₀.get? p.1 with
        | none => rfl
        | some o => rw [hs₀ _ _ e] at h1; cases h1.2.2
  exact codeAny_compStart_list (loop _ rfl) (W₁.self 0 _ _ _ st₁ (loop _ rfl))

theorem end_value {s : Shared} {h₀ : Heap} {L : Addr} {m : Str → Option Value} {news : List (Addr × Obj)} {n : Nat} {J : Nat → List Value → List (Addr × Obj) → Prop} {Q : Value → Shared → Prop}
    (done : ∀ ys nw k D h tk, J n ys nw → (∀ p ∈ nw, p.1 ≠ D) → Fr h₀ L h m → News h₀ L h ((D, listOf ys.toArray k) :: nw) → (∀ p ∈ news, p.1 < D) → Q (.ref D) { s with heap := h, toks := tk }) : CompEndR s h₀ L m news n J (compPost (model prog w) A E none Q) := by
  intro ys nw k D C h tk mC hJ off hCL hDC hC nsC F N lt
  refine ⟨mC, nsC, fun h' hs' => ?_⟩
  have kk : ∀ b o, b ≠ C → h.get? b = some o → h'.get? b = some o := fun b o hb e => (hs'.2 b hb).trans e
  refine done ys nw k D h' tk hJ (fun p hp => (off p hp).1) ⟨F.ns.at' fun o e => kk _ o hCL.symm e, fun b o e => kk b o (fun q => by rw [q, hC] at e; cases e) (F.keep b o e), F.above⟩ (fun p hp => ?_) lt
  have hpC : p.1 ≠ C := by
    rcases List.mem_cons.mp hp with rfl | hp
    · exact hDC
    · exact (off p hp).2
  exact ⟨kk _ _ hpC (N p hp).1, (N p hp).2⟩
theorem end_local {s : Shared} {h₀ : Heap} {L : Addr} {m : Str → Option Value} {news : List (Addr × Obj)} {n : Nat} {J : Nat → List Value → List (Addr × Obj) → Prop} {Q : Shared → Prop} {y : Str} {py : Pos}
    (hL : env.locals = L) (hy : env.kindOf y = some .local) (hp : (env.scope.kind == .class || (env.scope.kind == .module && env.locals != env.globals)) = false)
    (done : ∀ ys nw k D h tk, J n ys nw → (∀ p ∈ nw, p.1 ≠ D) → Fr h₀ L h (fun z => if z = y then some (.ref D) else m z) → News h₀ L h ((D, listOf ys.toArray k) :: nw) → (∀ p ∈ news, p.1 < D) → Q { s with heap := h, toks := tk }) :
    CompEndR s h₀ L m news n J (compPost (model prog w) A E (some (assign (.Name y py) env)) (fun _ s' => Q s')) := by
  subst hL
  intro ys nw k D C h tk mC hJ off hCL hDC hC nsC F N lt
  show wpAny _ A (assign (.Name y py) env (.ref D)) _ _ _
  refine wpAny_assign_Name (wpAny_storeName_local hy F.ns (fun h₂ hn₂ hs₂ => ?_) hp)
  refine ⟨mC, nsC.sameBut hs₂ hCL, fun h' hs' => ?_⟩
  have kk : ∀ b o, b ≠ C → b ≠ env.locals → h.get? b = some o → h'.get? b = some o := fun b o hb hb' e => (hs'.2 b hb).trans ((hs₂.2 b hb').trans e)
  refine done ys nw k D h' _ hJ (fun p hp => (off p hp).1) ⟨hn₂.sameBut hs' hCL.symm, fun b o e => kk b o (fun q => by rw [q, hC] at e; cases e) (fun q => ?_) (F.keep b o e), F.above⟩ (fun p hp => ?_) lt
  · have h1 := Heap.lt_size e
    rw [q] at h1
    exact absurd (Nat.lt_of_lt_of_le h1 F.above) (Nat.lt_irrefl _)
  · have hpC : p.1 ≠ C := by
      rcases List.mem_cons.mp hp with rfl | hp
      · exact hDC
      · exact (off p hp).2
    exact ⟨kk _ _ hpC (N p hp).2.1 (N p hp).1, (N p hp).2⟩
end
end
section
section
variable {prog : Program} {w : World} {A : Around} {E : Value → Shared → Prop} {s : Shared} {env : Env}
theorem push_lt {h : Heap} {o : Obj} {b : Addr} (hb : b < h.objs.size) : (h.push o).get? b = h.get? b := by
  have hne : b ≠ h.objs.size := Nat.ne_of_lt hb
  simp [Heap.get?, Heap.push, Array.getElem?_push, hne]
noncomputable def CompTurn (prog : Program) (w : World) (A : Around) (env : Env) (s : Shared) (h₀ : Heap) (cl : List (Str × Addr)) (scope : Scope) (elt : Expr) (ifs : List Expr) (x : Str) (news : List (Addr × Obj)) (n : Nat) (P : Nat → Value → Prop) (J : Nat → List Value → List (Addr × Obj) → Prop) : Prop :=
  ∀ g C D I, g.StaysIn s.heap → h₀.StaysIn g → (∀ b o, (∀ p ∈ news, b ≠ p.1) → s.heap.get? b = some o → g.get? b = some o) → (∀ p ∈ news, p.1 < I) → s.heap.objs.size ≤ I → I < D → D < C →
      ∀ i v ys nw it k h tk (mC : Str → Option Value) (E' : Value → Shared → Prop), i < n → P i v → J i ys nw → (∀ p ∈ nw, p.1 ≠ D ∧ p.1 ≠ I) → Fr g C h (fun y => if y = x then some v else mC y) → News g C h ((D, listOf ys.toArray k) :: (I, it) :: nw) →
      wpAny (model prog w) A (forIn ifs true fun c r => if r = true then do let ok ← isTrue c (compEnvC scope cl C env) (eval c (compEnvC scope cl C env)); pure (ForInStep.yield ok) else pure (ForInStep.yield r)) (fun ok s₃ =>
        if ok = true then wpAny (model prog w) A (eval elt (compEnvC scope cl C env)) (ElemEnd g C D I (listOf ys.toArray k) it (fun y nw' => J (i + 1) (ys ++ [y]) nw') { s with heap := h, toks := tk }) E' s₃
        else ElemEnd g C D I (listOf ys.toArray k) it (fun _ nw' => J (i + 1) ys nw') { s with heap := h, toks := tk } .none s₃) E' { s with heap := h, toks := tk }
theorem comp_walk {elt iter : Expr} {x : Str} {px : Pos} {ifs : List Expr} {scope : Scope} {cl : List (Str × Addr)} {pos : Pos} {RR : Value → Addr → Result → Shared → Prop} {h₀ : Heap} {L : Addr} {m : Str → Option Value} {news : List (Addr × Obj)} {ex : List Addr} {n : Nat} {P : Nat → Value → Prop} {St : Nat → Heap → Prop}
    (o : Obj) (ho : o.isFreed = false) (W : Walks prog w A s.heap.objs.size (s.heap.objs.size :: ex) [s.heap.objs.size] n P St) (hit : ∀ i h, St i h → ∃ o, h.get? s.heap.objs.size = some o) (st : St 0 (s.heap.push o)) (hxs : ∀ b ∈ ex, ∃ o, s.heap.get? b = some o)
    (hcell : ∀ y ∈ scope.names, y.2 ≠ .cell) (hkind : scope.kind = .function) (hx : scope.names.lookup x = some .local) (F : Fr h₀ L s.heap m) (N : News h₀ L s.heap news) (J : Nat → List Value → List (Addr × Obj) → Prop) (hz : ∀ i ys nw, J i ys nw → ys.length ≤ 16777216)
    (hex : ∀ b ∈ ex, (∀ p ∈ news, b ≠ p.1) ∨ ∃ o, ∀ i ys nw, J i ys nw → (b, o) ∈ nw) (hj : J 0 [] news)
    (turn : CompTurn prog w A env s h₀ cl scope elt ifs x news n P J) (done : CompEndR s h₀ L m news n J RR) :
    CompGo prog w A env cl scope (.ListComp elt [⟨.Name x px, iter, ifs, 0⟩] scope pos) E RR (.ref s.heap.objs.size) { s with heap := s.heap.push o } := by
  have F' : Fr h₀ L (s.heap.push o) m := F.push _
  have hnew : ∀ p ∈ news, p.1 < s.heap.objs.size := fun p hp => Heap.lt_size (N p hp).1
  have hI : News h₀ L (s.heap.push o) ((s.heap.objs.size, o) :: news) := fun p hp => by
    rcases List.mem_cons.mp hp with rfl | hp
    · exact ⟨Heap.get?_push_size _ ho, (new_ne_loc F).symm, new_none_base F⟩
    · exact ⟨Heap.get?_push_of_some _ (N p hp).1, (N p hp).2⟩
  refine comp_run (s := { s with heap := s.heap.push o }) (I := s.heap.objs.size) (St := St) (n := n) (ex := ex) (Up := fun i m m' => ∃ v, P i v ∧ m' = fun y => if y = x then some v else m y) hcell hkind F' hI (fun p hp => Nat.ne_of_lt (hnew p hp)) st
    (fun b hb => let ⟨o', e⟩ := hxs b hb; Heap.lt_size (Heap.get?_push_of_some o e)) (fun C g hC => src_walks W hit (lookup_relabel_local hx) (by simp [compEnvC, relabel, hkind]) ?_) J hz (fun b hb => (hex b hb).imp (fun h => ?_) id) hj ?_ ?_
  · intro hm
    obtain ⟨o', e⟩ := hxs _ hm
    have h1 := Heap.lt_size (Heap.get?_push_of_some o e)
    exact absurd (Nat.lt_trans h1 hC) (Nat.lt_irrefl _)
  · obtain ⟨o', e⟩ := hxs b hb
    exact ⟨Nat.ne_of_lt (Heap.lt_size e), h, o', Heap.get?_push_of_some o e⟩
  · intro g C D gs hg less lt hID hDC i ys nw it k h tk mC m' E' hi hJ ⟨v, hP, em⟩ off F₁ N₁
    subst em
    have gs' : g.StaysIn s.heap := fun b o' e => by
      have h1 := gs b o' e
      have h2 : b < s.heap.objs.size ∨ b = s.heap.objs.size := by
        have := Heap.lt_size h1
        have e2 : (s.heap.push o).objs.size = s.heap.objs.size + 1 := Heap.size_push ..
        exact Nat.lt_or_eq_of_le (Nat.le_of_lt_succ (by rw [e2] at this; exact this))
      rcases h2 with h2 | h2
      · rw [← h1]; exact (push_lt h2).symm
      · have := (N₁ _ (.tail _ (.head _))).2.2
        rw [← h2, e] at this; cases this
    exact turn g C D s.heap.objs.size gs' hg (fun b o' h1 h2 => less b o' (Nat.ne_of_lt (Heap.lt_size h2)) h1 (Heap.get?_push_of_some _ h2)) hnew (Nat.le_refl _) hID hDC i v ys nw it k h tk mC E' hi hP hJ off F₁ N₁
  · exact done
variable {elt iter : Expr} {x : Str} {px : Pos} {ifs : List Expr} {scope : Scope} {cl : List (Str × Addr)} {pos : Pos} {RR : Value → Addr → Result → Shared → Prop} {h₀ : Heap} {L : Addr} {m : Str → Option Value} {news : List (Addr × Obj)}
theorem comp_list {l : Addr} {vs : List Value} {nn : Nat} (hh : A.handled = none) (hl : s.heap.get? l = some (listOf vs.toArray nn)) (hcell : ∀ y ∈ scope.names, y.2 ≠ .cell) (hkind : scope.kind = .function) (hx : scope.names.lookup x = some .local) (F : Fr h₀ L s.heap m) (N : News h₀ L s.heap news)
    (J : Nat → List Value → List (Addr × Obj) → Prop) (hz : ∀ i ys nw, J i ys nw → ys.length ≤ 16777216) (hex : (∀ p ∈ news, l ≠ p.1) ∨ ∃ o, ∀ i ys nw, J i ys nw → (l, o) ∈ nw) (hj : J 0 [] news)
    (turn : CompTurn prog w A env s h₀ cl scope elt ifs x news vs.length (fun i v => vs[i]? = some v) J) (done : CompEndR s h₀ L m news vs.length J RR) :
    wpAny (model prog w) A (pyIter (.ref l)) (fun it s₂ => CompGo prog w A env cl scope (.ListComp elt [⟨.Name x px, iter, ifs, 0⟩] scope pos) E RR it s₂) E s := by
  have hls : s.heap.IsList l vs.toArray := ⟨_, hl, rfl, _, rfl⟩
  have hne : l ≠ s.heap.objs.size := Nat.ne_of_lt (Heap.lt_size hl)
  refine wpAny_pyIter_list hls ?_
  have hsz : vs.toArray.size = vs.length := by simp
  have W := Walks.list (prog := prog) (w := w) hh s.heap.objs.size l hne vs.toArray
  rw [hsz] at W
  exact comp_walk (ex := [l]) (P := fun i v => vs[i]? = some v) (St := fun i h => h.IsListIter s.heap.objs.size l i ∧ h.IsList l vs.toArray) _ rfl (by simpa using W) (fun i h st => let ⟨⟨o, e, _⟩, _⟩ := st; ⟨o, e⟩) ⟨⟨_, Heap.get?_push_size _ rfl, rfl, rfl⟩, hls.at fun o e => Heap.get?_push_of_some _ e⟩ (fun b hb => by rw [List.mem_singleton.mp hb]; exact ⟨_, hl⟩) hcell hkind hx F N J hz (fun b hb => by rw [List.mem_singleton.mp hb]; exact hex) hj turn done
theorem comp_bytes {b : Array UInt8} {tb : Tok} {ks : List Int} (hh : A.handled = none) (hb : KBw.bInts b = ks) (hcell : ∀ y ∈ scope.names, y.2 ≠ .cell) (hkind : scope.kind = .function) (hx : scope.names.lookup x = some .local) (F : Fr h₀ L s.heap m) (N : News h₀ L s.heap news)
    (J : Nat → List Value → List (Addr × Obj) → Prop) (hz : ∀ i ys nw, J i ys nw → ys.length ≤ 16777216) (hj : J 0 [] news)
    (turn : CompTurn prog w A env s h₀ cl scope elt ifs x news ks.length (fun i v => ∃ c t, ks[i]? = some c ∧ v = .int c t) J) (done : CompEndR s h₀ L m news ks.length J RR) :
    wpAny (model prog w) A (pyIter (.bytes b tb)) (fun it s₂ => CompGo prog w A env cl scope (.ListComp elt [⟨.Name x px, iter, ifs, 0⟩] scope pos) E RR it s₂) E s := by
  subst hb
  refine KBw.pyIter_bytes ?_
  have hsz : (KBw.bInts b).length = b.size := KBw.ints_length b
  rw [hsz] at turn done
  refine comp_walk (ex := []) _ rfl (KBw.walks (prog := prog) (w := w) hh s.heap.objs.size b tb) (fun i h st => let ⟨o, e, _⟩ := st; ⟨o, e⟩) ⟨_, Heap.get?_push_size _ rfl, rfl, rfl⟩ (fun b hb => nomatch hb) hcell hkind hx F N J hz (fun b hb => nomatch hb) hj ?_ done
  show CompTurn prog w A env s h₀ cl scope elt ifs x news b.size _ J
  unfold CompTurn
  rintro g C D I gs hg less lt hI hID hDC i v ys nw it k h tk mC E' hi ⟨c, u, hc, rfl⟩
  exact turn g C D I gs hg less lt hI hID hDC i _ ys nw it k h tk mC E' hi ⟨_, u, KBw.ints_get hc, rfl⟩
theorem comp_str {r : Str} {t : Tok} (hh : A.handled = none) (hcell : ∀ y ∈ scope.names, y.2 ≠ .cell) (hkind : scope.kind = .function) (hx : scope.names.lookup x = some .local) (F : Fr h₀ L s.heap m) (N : News h₀ L s.heap news)
    (J : Nat → List Value → List (Addr × Obj) → Prop) (hz : ∀ i ys nw, J i ys nw → ys.length ≤ 16777216) (hj : J 0 [] news)
    (turn : CompTurn prog w A env s h₀ cl scope elt ifs x news r.cps.size (SignAt r) J) (done : CompEndR s h₀ L m news r.cps.size J RR) :
    wpAny (model prog w) A (pyIter (.str r t)) (fun it s₂ => CompGo prog w A env cl scope (.ListComp elt [⟨.Name x px, iter, ifs, 0⟩] scope pos) E RR it s₂) E s := by
  cases ha : r.cps.all (· < 128)
  · exact wpAny_pyIter_wide ha (comp_walk (ex := []) _ rfl (Walks.strWide hh _ r t) (fun i h st => let ⟨o, e, _⟩ := st; ⟨o, e⟩) ⟨_, Heap.get?_push_size _ rfl, rfl, rfl⟩ (fun b hb => nomatch hb) hcell hkind hx F N J hz (fun b hb => nomatch hb) hj turn done)
  · exact wpAny_pyIter_ascii ha (comp_walk (ex := []) _ rfl (Walks.strAscii hh _ r t) (fun i h st => let ⟨o, e, _⟩ := st; ⟨o, e⟩) ⟨_, Heap.get?_push_size _ rfl, rfl, rfl⟩ (fun b hb => nomatch hb) hcell hkind hx F N J hz (fun b hb => nomatch hb) hj turn done)
theorem comp_tuple {l : Addr} {vs : List Value} (hh : A.handled = none) (hl : s.heap.get? l = some (tup vs)) (hcell : ∀ y ∈ scope.names, y.2 ≠ .cell) (hkind : scope.kind = .function) (hx : scope.names.lookup x = some .local) (F : Fr h₀ L s.heap m) (N : News h₀ L s.heap news)
    (J : Nat → List Value → List (Addr × Obj) → Prop) (hz : ∀ i ys nw, J i ys nw → ys.length ≤ 16777216) (hex : (∀ p ∈ news, l ≠ p.1) ∨ ∃ o, ∀ i ys nw, J i ys nw → (l, o) ∈ nw) (hj : J 0 [] news)
    (turn : CompTurn prog w A env s h₀ cl scope elt ifs x news vs.length (fun i v => vs[i]? = some v) J) (done : CompEndR s h₀ L m news vs.length J RR) :
    wpAny (model prog w) A (pyIter (.ref l)) (fun it s₂ => CompGo prog w A env cl scope (.ListComp elt [⟨.Name x px, iter, ifs, 0⟩] scope pos) E RR it s₂) E s := by
  have hls : s.heap.IsTuple l vs.toArray := ⟨_, hl, rfl, _, rfl⟩
  have hne : l ≠ s.heap.objs.size := Nat.ne_of_lt (Heap.lt_size hl)
  refine wpAny_pyIter_tuple hls ?_
  have hsz : vs.toArray.size = vs.length := by simp
  have W := Walks.tuple (prog := prog) (w := w) hh s.heap.objs.size l hne vs.toArray
  rw [hsz] at W
  exact comp_walk (ex := [l]) (P := fun i v => vs[i]? = some v) (St := fun i h => h.IsTupleIter s.heap.objs.size l i ∧ h.IsTuple l vs.toArray) _ rfl (by simpa using W) (fun i h st => let ⟨⟨o, e, _⟩, _⟩ := st; ⟨o, e⟩) ⟨⟨_, Heap.get?_push_size _ rfl, rfl, rfl⟩, hls.at fun o e => Heap.get?_push_of_some _ e⟩ (fun b hb => by rw [List.mem_singleton.mp hb]; exact ⟨_, hl⟩) hcell hkind hx F N J hz (fun b hb => by rw [List.mem_singleton.mp hb]; exact hex) hj turn done
end
section
variable {prog : Program} {w : World} {A : Around} {E : Value → Shared → Prop} {s : Shared} {env : Env} {g : Heap} {C c : Addr} {m mg mb : Str → Option Value} {scope : Scope} {cl : List (Str × Addr)} {x : Str} {pos : Pos} {v : Value} {Q : Value → Shared → Prop} {K : Frag} {p : Program} {loose : List Str} {mean : ExcName → Option Value} {news : List (Addr × Obj)} {o : Obj}
theorem nameV_L (F : Fr g C s.heap m) (hv : m x = some v) (h : Q v s) (hk : scope.kind = .function) (hx : (compEnvC scope cl C env).kindOf x = some .local) (hd : (x == ("__debug__" : Str)) = false) :
    wpAny (model prog w) A (eval (.Name x pos) (compEnvC scope cl C env)) Q E s := wpAny_Name (wpAny_loadName_local (env := compEnvC scope cl C env) hk hx F.ns hv h) hd
theorem nameV_G (F : Fr g C s.heap m) (X : K.In g) (T : Top p loose mean mg mb g) (e : nsIn K mainGlobals x = some (some v)) (h : Q v s) (hg : env.globals = mainGlobals) (hk : scope.kind = .function) (hx : (compEnvC scope cl C env).kindOf x = some .globalImplicit) (hd : (x == ("__debug__" : Str)) = false) :
    wpAny (model prog w) A (eval (.Name x pos) (compEnvC scope cl C env)) Q E s := nameG_K F X (topRead_of T) e h hg hk hx hd
theorem nameV_B (F : Fr g C s.heap m) (X : K.In g) (T : Top p loose mean mg mb g) (e : nsIn K mainGlobals x = some none) (hv : bootBuiltins x = some v) (hn : x ≠ "__name__") (h : Q v s) (hg : env.globals = mainGlobals) (hb : (compEnvC scope cl C env).builtins = 0) (hk : scope.kind = .function) (hx : (compEnvC scope cl C env).kindOf x = some .globalImplicit) (hd : (x == ("__debug__" : Str)) = false) :
    wpAny (model prog w) A (eval (.Name x pos) (compEnvC scope cl C env)) Q E s :=
  Name_function_global hk hx (loadGlobal_builtin (env := compEnvC scope cl C env) (by show Heap.Ns _ env.globals _; rw [hg]; exact (topRead_of T).g.keeps F.keep) (mg_none_of X (topRead_of T).g e) (by rw [hb]; exact (topRead_of T).b.keeps F.keep) (((topRead_of T).builtins x hn).trans hv) h) hd
theorem nameV_CN (N : News g C s.heap news) (hc : cl.lookup x = some c) (hm : (c, o) ∈ news) (hd : o.data = .cell (some v)) (h : Q v s) (hk : scope.kind = .function) (hx : (compEnvC scope cl C env).kindOf x = some .cell) (hb : (x == ("__debug__" : Str)) = false) :
    wpAny (model prog w) A (eval (.Name x pos) (compEnvC scope cl C env)) Q E s := wpAny_Name (wpAny_loadName_cell (env := compEnvC scope cl C env) hk hx hc ⟨o, N.get hm, hd⟩ h) hb
theorem nameV_CG (F : Fr g C s.heap m) (hc : cl.lookup x = some c) (hm : g.get? c = some o) (hd : o.data = .cell (some v)) (h : Q v s) (hk : scope.kind = .function) (hx : (compEnvC scope cl C env).kindOf x = some .cell) (hb : (x == ("__debug__" : Str)) = false) :
    wpAny (model prog w) A (eval (.Name x pos) (compEnvC scope cl C env)) Q E s := wpAny_Name (wpAny_loadName_cell (env := compEnvC scope cl C env) hk hx hc ⟨o, F.keep _ _ hm, hd⟩ h) hb
end
theorem led_list {h₀ h : Heap} {L l : Addr} {news : List (Addr × Obj)} {vs : List Value} {nn : Nat} (N : News h₀ L h news) (hm : (l, listOf vs.toArray nn) ∈ news) : h.IsList l vs.toArray := ⟨_, (N _ hm).1, rfl, _, rfl⟩
end
section
section
variable {prog : Program} {w : World} {A : Around} {E : Value → Shared → Prop} {R : Result → Shared → Prop} {s : Shared} {env : Env}
inductive PairElt (g : Heap) (C : Addr) (Jn : Value → List (Addr × Obj) → Prop) (s₁ : Shared) (y : Value) (s₂ : Shared) : Prop
  | mk (h' : Heap) (tk : Nat) (nw : List (Addr × Obj)) (e : s₂ = { s₁ with heap := h', toks := tk }) (k : s₁.heap.StaysIn h') (hn : ∀ p ∈ nw, s₁.heap.get? p.1 = none ∧ h'.get? p.1 = some p.2) (j : Jn y nw) : PairElt g C Jn s₁ y s₂
inductive PairI (g : Heap) (C D : Addr) (wr : List Addr) (n : Nat) (St : Nat → Heap → Prop) (J : Nat → List Value → List (Addr × Obj) → Prop) (s : Shared) (k : Nat) (s' : Shared) : Prop
  | mk (i : Nat) (h : Heap) (tk : Nat) (m : Str → Option Value) (ys : List Value) (kk : Nat) (made : List (Addr × Obj)) (ek : k = n - i) (hi : i ≤ n) (e : s' = { s with heap := h, toks := tk }) (st : St i h) (F : Fr g C h m) (N : News g C h ((D, listOf ys.toArray kk) :: made)) (off : ∀ p ∈ made, p.1 ≠ D ∧ p.1 ∉ wr) (j : J i ys made) : PairI g C D wr n St J s k s'
theorem PairElt.intro {g : Heap} {C : Addr} {Jn : Value → List (Addr × Obj) → Prop} {s₁ : Shared} {y : Value} {h' : Heap} {tk : Nat} (nw : List (Addr × Obj)) (k : s₁.heap.StaysIn h') (hn : ∀ p ∈ nw, s₁.heap.get? p.1 = none ∧ h'.get? p.1 = some p.2) (hj : Jn y nw) :
    PairElt g C Jn s₁ y { s₁ with heap := h', toks := tk } := ⟨h', tk, nw, rfl, k, hn, hj⟩

theorem pair_loop {elt iter : Expr} {a b : Str} {pa pb tp : Pos} {kk : Nat} {scope : Scope} {pos : Pos} {cenv : Env} {I D : Addr} {wr fp : List Addr} {g : Heap} {n : Nat} {Pt : Nat → Array Value → Prop} {St : Nat → Heap → Prop} {Mid : Nat → Addr → Heap → Prop}
    (W : WalksU prog w A I fp wr n Pt St Mid) (hh : A.handled = none) (hPt : ∀ i vals, Pt i vals → ∃ v1 v2, vals = #[v1, v2]) (hwr : ∀ i h, St i h → ∀ c ∈ wr, ∃ o, h.get? c = some o)
    (hLf : cenv.locals ∉ fp) (hDf : D ∉ fp) (hg : ∀ c ∈ wr, g.get? c = none)
    (ha : cenv.kindOf a = some .local) (hb : cenv.kindOf b = some .local) (hp : (cenv.scope.kind == .class || (cenv.scope.kind == .module && cenv.locals != cenv.globals)) = false)
    (J : Nat → List Value → List (Addr × Obj) → Prop) (hz : ∀ i ys nw, J i ys nw → ys.length ≤ 16777216)
    (turn : ∀ i v1 v2 ys made k h tk (mC : Str → Option Value) (E' : Value → Shared → Prop), i < n → Pt i #[v1, v2] → J i ys made → Fr g cenv.locals h (fun z => if z = b then some v2 else if z = a then some v1 else mC z) → News g cenv.locals h ((D, listOf ys.toArray k) :: made) →
      wpAny (model prog w) A (eval elt cenv) (PairElt g cenv.locals (fun y nw => J (i + 1) (ys ++ [y]) (nw ++ made)) { s with heap := h, toks := tk }) E' { s with heap := h, toks := tk })
    (done : ∀ ys made k h tk mC, J n ys made → (∀ p ∈ made, p.1 ≠ D) → Fr g cenv.locals h mC → News g cenv.locals h ((D, listOf ys.toArray k) :: made) → R (.ok .next) { s with heap := h, toks := tk })
    {m0 : Str → Option Value} {k0 : Nat} (st : St 0 s.heap) (F : Fr g cenv.locals s.heap m0) (N : News g cenv.locals s.heap [(D, listOf ([] : List Value).toArray k0)]) (hj : J 0 [] []) :
    codeAny (model prog w) A (.compLoop (.ListComp elt [⟨.Tuple [.Name a pa, .Name b pb] kk tp, iter, [], 0⟩] scope pos) 0 (.ref I) (.ref D) cenv) R s := by
  refine comp_turns (PairI g cenv.locals D wr n St J s) ?_ n
    ⟨0, s.heap, s.toks, m0, [], k0, [], rfl, Nat.zero_le _, rfl, st, F, N, (fun p hp => nomatch hp), hj⟩
  rintro kn s' ⟨i, h, tk, m, ys, kd, made, rfl, hi, rfl, st, F, N, off, hj⟩
  have hCw : cenv.locals ∉ wr := fun q => hLf (W.sub _ q)
  have hDw : D ∉ wr := fun q => hDf (W.sub _ q)
  have keepF : ∀ {h1 h2 : Heap}, (∀ c o, c ∉ wr → h1.get? c = some o → h2.get? c = some o) → ∀ {m1}, Fr g cenv.locals h1 m1 → Fr g cenv.locals h2 m1 := fun k _ F => ⟨F.ns.at' fun o e => k _ o hCw e, fun c o e => k c o (fun q => by rw [hg c q] at e; cases e) (F.keep c o e), F.above⟩
  have keepN : ∀ {h1 h2 : Heap}, (∀ c o, c ∉ wr → h1.get? c = some o → h2.get? c = some o) → News g cenv.locals h1 ((D, listOf ys.toArray kd) :: made) → News g cenv.locals h2 ((D, listOf ys.toArray kd) :: made) := fun k N p hp => by
    have hpw : p.1 ∉ wr := by
      rcases List.mem_cons.mp hp with rfl | hp
      · exact hDw
      · exact (off p hp).2
    exact ⟨k _ _ hpw (N p hp).1, (N p hp).2⟩
  rcases Nat.lt_or_ge i n with hlt | hge
  · refine W.item i _ _ _ hlt st fun T vals h₁ tk₁ hPv hT hM hk₁ => ?_
    obtain ⟨v1, v2, rfl⟩ := hPt _ _ hPv
    refine W.go _ _ _ i T _ _ _ hM fun h₂ st₂ hk₂ => ?_
    have k12 : ∀ c o, c ∉ wr → h.get? c = some o → h₂.get? c = some o := fun c o hc e => hk₂ c o hc (hk₁ c o hc e)
    have F₂ := keepF k12 F
    have N₂ := keepN k12 N
    have hT₂ : h₂.IsTuple T #[v1, v2] := hT.at fun o e => hk₂ T o (W.apart _ _ _ hM) e
    refine kcp_assign hh hT₂ ha hb hp F₂.ns fun h₃ tk₃ hn₃ hk₃ => ?_
    have F₃ : Fr g cenv.locals h₃ (fun z => if z = b then some v2 else if z = a then some v1 else m z) := ⟨hn₃, fun c o e => hk₃ c o (fun q => by
      have h1 := Heap.lt_size e
      rw [q] at h1
      exact absurd (Nat.lt_of_lt_of_le h1 F.above) (Nat.lt_irrefl _)) (F₂.keep c o e), F.above⟩
    have N₃ : News g cenv.locals h₃ ((D, listOf ys.toArray kd) :: made) := fun p hp => ⟨hk₃ _ _ (N₂ p hp).2.1 (N₂ p hp).1, (N₂ p hp).2⟩
    have st₃ : St (i + 1) h₃ := W.frame _ _ _ st₂ fun c hc o e => hk₃ c o (fun q => hLf (q ▸ hc)) e
    refine wpAny_tests_nil ?_
    rw [if_pos rfl]
    refine wpAny_mono (turn i v1 v2 ys made kd h₃ tk₃ m _ hlt hPv hj F₃ N₃) (fun y s₄ h₄ => ?_) fun _ _ e => e
    obtain ⟨h₄, tk₄, nw, rfl, k₄, hnw, hj'⟩ := h₄
    have F₄ := Fr.keeps F₃ k₄
    have N₄ : News g cenv.locals h₄ ((D, listOf ys.toArray kd) :: (nw ++ made)) := fun p hp => by
      rcases List.mem_cons.mp hp with rfl | hp
      · exact ⟨k₄ _ _ (N₃ _ (.head _)).1, (N₃ _ (.head _)).2⟩
      · rcases List.mem_append.mp hp with hp | hp
        · refine ⟨(hnw p hp).2, fun q => ?_, fresh_of F₃.keep (hnw p hp).1⟩
          obtain ⟨oC, hC⟩ := loc_none F₃
          have := (hnw p hp).1
          rw [q] at this
          rw [show h₃.get? cenv.locals = some oC from hC] at this; cases this
        · exact ⟨k₄ _ _ (N₃ _ (.tail _ hp)).1, (N₃ _ (.tail _ hp)).2⟩
    have off₄ : ∀ p ∈ nw ++ made, p.1 ≠ D ∧ p.1 ∉ wr := fun p hp => by
      rcases List.mem_append.mp hp with hp | hp
      · refine ⟨fun q => ?_, fun q => ?_⟩
        · have := (hnw p hp).1
          rw [q, show h₃.get? D = _ from (N₃ _ (.head _)).1] at this; cases this
        · obtain ⟨o, ho⟩ := hwr _ _ st₃ _ q
          have := (hnw p hp).1
          rw [show h₃.get? p.1 = _ from ho] at this; cases this
      · exact off p hp
    have hu : UpdF D (listOf ys.toArray kd) ((D, listOf ys.toArray kd) :: (nw ++ made)) (fun o' => (D, o') :: (nw ++ made)) := .head fun p hp => (off₄ p hp).1
    refine append_is F₄ N₄ (.head _) hu (hz _ _ _ hj) fun h₅ F₅ N₅ kb => ⟨n - (i + 1), by (first | exact om10 hlt | omega), i + 1, h₅, tk₄, _, ys ++ [y], kd + 1, nw ++ made, rfl, hlt, rfl, ?_, F₅, N₅, off₄, hj'⟩
    exact W.frame _ _ _ st₃ fun c hc o e => kb c o (fun q => hDf (q ▸ hc)) (k₄ c o e)
  · have : i = n := Nat.le_antisymm hi hge
    subst this
    refine W.done _ _ _ st fun h' tk' hk => ?_
    exact done ys made kd h' tk' m hj (fun p hp => (off p hp).1) (keepF hk F) (keepN hk N)
end
section
variable {prog : Program} {w : World} {A : Around} {E : Value → Shared → Prop} {s : Shared} {env : Env}
theorem pair_run {elt iter : Expr} {a b : Str} {pa pb tp : Pos} {kk : Nat} {scope : Scope} {cl : List (Str × Addr)} {pos : Pos} {RR : Value → Addr → Result → Shared → Prop} {h₀ : Heap} {L I : Addr} {m : Str → Option Value} {news : List (Addr × Obj)} {wr fp : List Addr} {n : Nat} {Pt : Nat → Array Value → Prop} {St : Nat → Heap → Prop} {Mid : Nat → Addr → Heap → Prop}
    (W : WalksU prog w A I fp wr n Pt St Mid) (hh : A.handled = none) (hPt : ∀ i vals, Pt i vals → ∃ v1 v2, vals = #[v1, v2]) (hwr : ∀ i h, St i h → ∀ c ∈ wr, ∃ o, h.get? c = some o)
    (hcell : ∀ y ∈ scope.names, y.2 ≠ .cell) (hkind : scope.kind = .function) (hxa : scope.names.lookup a = some .local) (hxb : scope.names.lookup b = some .local)
    (F : Fr h₀ L s.heap m) (N : News h₀ L s.heap news) (hw0 : ∀ c ∈ wr, h₀.get? c = none ∧ c ≠ L ∧ ∀ p ∈ news, p.1 ≠ c) (hfp : ∀ c ∈ fp, c < s.heap.objs.size) (st : St 0 s.heap)
    (J : Nat → List Value → List (Addr × Obj) → Prop) (hz : ∀ i ys nw, J i ys nw → ys.length ≤ 16777216) (hj : J 0 [] [])
    (turn : ∀ g C D, (∀ c o, c ∉ wr → s.heap.get? c = some o → g.get? c = some o) → h₀.StaysIn g → D < C → ∀ i v1 v2 ys made k h tk (mC : Str → Option Value) (E' : Value → Shared → Prop), i < n → Pt i #[v1, v2] → J i ys made → Fr g C h (fun z => if z = b then some v2 else if z = a then some v1 else mC z) → News g C h ((D, listOf ys.toArray k) :: made) →
      wpAny (model prog w) A (eval elt (compEnvC scope cl C env)) (PairElt g C (fun y nw => J (i + 1) (ys ++ [y]) (nw ++ made)) { s with heap := h, toks := tk }) E' { s with heap := h, toks := tk })
    (done : CompEndR s h₀ L m news n (fun i ys nw => ∃ made, nw = made ++ news ∧ J i ys made) RR) :
    CompGo prog w A env cl scope (.ListComp elt [⟨.Tuple [.Name a pa, .Name b pb] kk tp, iter, [], 0⟩] scope pos) E RR (.ref I) s := by
  unfold CompGo
  refine wpAny_newObj_type (wpAny_newFunctionEnv hcell (by intro y hy; simp at hy) (fun h₁ hns₁ hsb₁ => ?_) hkind)
  dsimp only at hns₁ hsb₁ ⊢
  generalize hH2 : s.heap.push { cls := .type "list", dict := none, data := .seq ([] : List Value).toArray } = H2 at hns₁ hsb₁ ⊢
  have hC : H2.objs.size = s.heap.objs.size + 1 := by rw [← hH2, Heap.size_push]
  have hDC : s.heap.objs.size ≠ H2.objs.size := by rw [hC]; exact Nat.ne_of_lt (Nat.lt_succ_self _)
  have hne : ∀ b, b < s.heap.objs.size → b ≠ H2.objs.size := fun b h => Nat.ne_of_lt (by rw [hC]; exact Nat.lt_succ_of_lt h)
  have old : ∀ b o, s.heap.get? b = some o → h₁.get? b = some o := fun b o e => hsb₁.extBut b o (hne b (Heap.lt_size e)) (Heap.get?_push_of_some _ (hH2 ▸ Heap.get?_push_of_some _ e))
  have hacc : h₁.get? s.heap.objs.size = some (listOf ([] : List Value).toArray 0) := hsb₁.extBut _ _ hDC (Heap.get?_push_of_some _ (hH2 ▸ Heap.get?_push_size _ rfl))
  obtain ⟨g, hg⟩ : ∃ g, g = hideAll s.heap wr := ⟨_, rfl⟩
  have gs : g.StaysIn s.heap := fun b o e => by rw [hg] at e; exact of_hideAll _ e
  have gz : g.objs.size = s.heap.objs.size := by rw [hg]; exact hideAll_size _ _
  have less : ∀ b o, b ∉ wr → s.heap.get? b = some o → g.get? b = some o := fun b o h1 e => by rw [hg]; exact hideAll_get _ e h1
  have hs₀ : h₀.StaysIn g := fun b o e => less b o (fun q => by rw [(hw0 b q).1] at e; cases e) (F.keep b o e)
  obtain ⟨oL, hoL⟩ := loc_none F
  have gL : g.get? L = some oL := less L oL (fun q => (hw0 L q).2.1 rfl) hoL
  have F₁ : Fr g H2.objs.size h₁ (fun x => ([] : List (Str × Value)).reverse.lookup x) := ⟨hns₁, fun b o e => old b o (gs b o e), by rw [gz, hC]; exact Nat.le_succ _⟩
  have gnone : ∀ a, s.heap.objs.size ≤ a → g.get? a = none := fun a ha => by
    cases e : g.get? a with
    | none => rfl
    | some o' => exact absurd (Heap.lt_size e) (by rw [gz]; exact Nat.not_lt.mpr ha)
  have N₁ : News g H2.objs.size h₁ [(s.heap.objs.size, listOf ([] : List Value).toArray 0)] := List.forall_mem_cons.mpr ⟨⟨hacc, hDC, gnone _ (Nat.le_refl _)⟩, List.forall_mem_nil _⟩
  have st₁ : St 0 h₁ := W.frame _ _ _ st fun b _ o e => old b o e
  have loop : ∀ s₃ : Shared, s₃ = { s with heap := h₁, toks := s.toks + ([] : List (Str × Value)).length } →
      codeAny (model prog w) A (.compLoop (.ListComp elt [⟨.Tuple [.Name a pa, .Name b pb] kk tp, iter, [], 0⟩] scope pos) 0 (.ref I) (.ref s.heap.objs.size) (compEnvC scope cl H2.objs.size env))
        (RR (.ref s.heap.objs.size) H2.objs.size) s₃ := by
    rintro s₃ rfl
    refine pair_loop (g := g) (cenv := compEnvC scope cl H2.objs.size env) W hh hPt hwr (fun q => hne _ (hfp _ q) rfl) (fun q => absurd (hfp _ q) (Nat.lt_irrefl _)) (fun c hc => by rw [hg]; exact hideAll_none _ hc) (lookup_relabel_local hxa) (lookup_relabel_local hxb) (by simp [compEnvC, relabel, hkind]) J hz
      (turn g H2.objs.size s.heap.objs.size less hs₀ (by rw [hC]; exact Nat.lt_succ_self _)) ?_ st₁ F₁ N₁ hj
    intro ys made k h tk mC hJ off F₂ N₂
    have hlt0 : ∀ b o, h₀.get? b = some o → b ≠ H2.objs.size := fun b o e => hne b (Heap.lt_size (F.keep b o e))
    have hLC : L ≠ H2.objs.size := hne L (Heap.lt_size hoL)
    have hgn : ∀ p ∈ news, g.get? p.1 = some p.2 := fun p hp => less _ _ (fun q => (hw0 _ q).2.2 p hp rfl) (N p hp).1
    refine done (made ++ news |> fun nw => ys) (made ++ news) k s.heap.objs.size H2.objs.size h tk mC ⟨made, rfl, hJ⟩ (fun p hp => ?_) hLC.symm hDC ?_ F₂.ns ⟨F.ns.at' fun o e => ?_, fun b o e => F₂.keep b o (hs₀ b o e), F.above⟩ (fun p hp => ?_) (fun p hp => Heap.lt_size (N p hp).1)
    · rcases List.mem_append.mp hp with hp | hp
      · exact ⟨off p hp, (N₂ p (.tail _ hp)).2.1⟩
      · have := Heap.lt_size (N p hp).1
        exact ⟨Nat.ne_of_lt this, hne _ this⟩
    · cases e : h₀.get? H2.objs.size with
      | none => rfl
      | some o => exact absurd rfl (hlt0 _ _ e)
    · rw [hoL] at e
      cases e
      exact F₂.keep _ _ gL
    · have h1 : p ∈ (s.heap.objs.size, listOf ys.toArray k) :: made ∨ p ∈ news := by
        rcases List.mem_cons.mp hp with rfl | hp
        · exact .inl (.head _)
        · exact (List.mem_append.mp hp).imp (.tail _) id
      rcases h1 with h1 | h1
      · have h2 := N₂ p h1
        refine ⟨h2.1, fun q => ?_, ?_⟩
        · have := h2.2.2
          rw [q, gL] at this; cases this
        · cases e : h₀.get? p.1 with
          | none => rfl
          | some o => rw [hs₀ _ _ e] at h2; cases h2.2.2
      · exact ⟨F₂.keep _ _ (hgn p h1), (N p h1).2⟩
  exact codeAny_compStart_list (loop _ rfl) (W.self 0 _ _ _ st₁ (loop _ rfl))

variable {elt iter : Expr} {a b : Str} {pa pb tp : Pos} {kk : Nat} {scope : Scope} {cl : List (Str × Addr)} {pos : Pos} {RR : Value → Addr → Result → Shared → Prop} {h₀ : Heap} {L : Addr} {m : Str → Option Value} {news : List (Addr × Obj)}
theorem comp_zip {l1 l2 : Addr} {vs1 vs2 : List Value} {n1 n2 : Nat} (hh : A.handled = none) (hl1 : s.heap.get? l1 = some (listOf vs1.toArray n1)) (hl2 : s.heap.get? l2 = some (listOf vs2.toArray n2)) (hlen : vs1.length = vs2.length)
    (hcell : ∀ y ∈ scope.names, y.2 ≠ .cell) (hkind : scope.kind = .function) (hxa : scope.names.lookup a = some .local) (hxb : scope.names.lookup b = some .local) (F : Fr h₀ L s.heap m) (N : News h₀ L s.heap news)
    (J : Nat → List Value → List (Addr × Obj) → Prop) (hz : ∀ i ys nw, J i ys nw → ys.length ≤ 16777216) (hj : J 0 [] [])
    (turn : ∀ g C D, s.heap.StaysIn g → h₀.StaysIn g → D < C → ∀ i v1 v2 ys made k h tk (mC : Str → Option Value) (E' : Value → Shared → Prop), vs1[i]? = some v1 → vs2[i]? = some v2 → J i ys made → Fr g C h (fun z => if z = b then some v2 else if z = a then some v1 else mC z) → News g C h ((D, listOf ys.toArray k) :: made) →
      wpAny (model prog w) A (eval elt (compEnvC scope cl C env)) (PairElt g C (fun y nw => J (i + 1) (ys ++ [y]) (nw ++ made)) { s with heap := h, toks := tk }) E' { s with heap := h, toks := tk })
    (done : CompEndR s h₀ L m news vs1.length (fun i ys nw => ∃ made, nw = made ++ news ∧ J i ys made) RR) :
    wpAny (model prog w) A (call (.type "zip") [.ref l1, .ref l2]) (fun xv s₁ => wpAny (model prog w) A (pyIter xv) (fun it s₂ => CompGo prog w A env cl scope (.ListComp elt [⟨.Tuple [.Name a pa, .Name b pb] kk tp, iter, [], 0⟩] scope pos) E RR it s₂) E s₁) E s := by
  have hs1 : s.heap.IsList l1 vs1.toArray := ⟨_, hl1, rfl, _, rfl⟩
  have hs2 : s.heap.IsList l2 vs2.toArray := ⟨_, hl2, rfl, _, rfl⟩
  obtain ⟨z, hzz⟩ : ∃ z : Nat, z = s.heap.objs.size := ⟨_, rfl⟩
  have lt1 : @LT.lt Nat _ l1 z := by rw [hzz]; exact Heap.lt_size hl1
  have lt2 : @LT.lt Nat _ l2 z := by rw [hzz]; exact Heap.lt_size hl2
  refine call_zip_2 hs1 hs2 fun h' g5 g3 g4 g1 g2 hsz hk => ?_
  rw [← hzz] at g5 g3 g4 g1 g2 hsz ⊢
  have D : ZipApart (z + 4) (z + 2) (z + 3) z (z + 1) l1 l2 := by constructor <;> (refine neN ?_; (first | exact om12 | exact om13 | exact om14 | exact om15 | exact om16 | exact om17 | exact om18 | exact om19 | exact om20 | exact om21 | exact om22 lt1 | exact om23 lt1 | exact om24 lt1 | exact om25 lt1 | exact om22 lt2 | exact om23 lt2 | exact om24 lt2 | exact om25 lt2 | omega))
  have W := WalksT.zip2 (prog := prog) (w := w) hh (z + 4) (z + 2) (z + 3) z (z + 1) l1 l2 D vs1.toArray vs2.toArray
  have hmin : min vs1.toArray.size vs2.toArray.size = vs1.length := by simp; (first | exact om26 hlen | omega)
  rw [hmin] at W
  have st : IsZip h' (z + 4) (z + 2) (z + 3) .none ∧ IsPair h' (z + 2) (.ref z) (.ref (z + 1)) ∧ (∃ a b, IsPair h' (z + 3) a b) ∧ h'.IsListIter z l1 0 ∧ h'.IsListIter (z + 1) l2 0 ∧ h'.IsList l1 vs1.toArray ∧ h'.IsList l2 vs2.toArray :=
    ⟨g5, g3, ⟨_, _, g4⟩, g1, g2, hs1.at fun o e => hk _ o e, hs2.at fun o e => hk _ o e⟩
  refine wpAny_pyIter_zip g5 ?_
  have F' : Fr h₀ L h' m := Fr.keeps F hk
  have N' : News h₀ L h' news := News.grown N hk
  have big : ∀ c, z ≤ c → s.heap.get? c = none := fun c hc => by
    cases e : s.heap.get? c with
    | none => rfl
    | some o => exact absurd (Heap.lt_size e) (by rw [← hzz]; exact Nat.not_lt.mpr hc)
  have wrz : ∀ c ∈ [z + 4, z + 3, z, z + 1], z ≤ c := fun c hc => by
    simp only [List.mem_cons, List.not_mem_nil, or_false] at hc
    rcases hc with rfl | rfl | rfl | rfl <;> (first | exact om27 | exact om28 | exact om29 | exact om30 | omega)
  refine pair_run (s := { s with heap := h' }) W.toU hh (fun i vals ⟨x, y, _, _, e⟩ => ⟨x, y, e⟩) (fun i h hst c hc => ?_) hcell hkind hxa hxb F' N' (fun c hc => ⟨fresh_of F.keep (big c (wrz c hc)), fun q => ?_, fun p hp q => ?_⟩) (fun c hc => ?_) st J hz hj ?_ done
  · obtain ⟨a1, a2, ⟨_, _, a3⟩, ⟨_, a4, _⟩, ⟨_, a5, _⟩, _⟩ := hst
    simp only [List.mem_cons, List.not_mem_nil, or_false] at hc
    rcases hc with rfl | rfl | rfl | rfl
    · exact ⟨_, a1⟩
    · exact ⟨_, a3⟩
    · exact ⟨_, a4⟩
    · exact ⟨_, a5⟩
  · obtain ⟨oL, hoL⟩ := loc_none F
    have := big c (wrz c hc)
    rw [q, hoL] at this; cases this
  · have := big c (wrz c hc)
    rw [← q, (N p hp).1] at this; cases this
  · show @LT.lt Nat _ c h'.objs.size
    rw [hsz]
    simp only [List.mem_cons, List.not_mem_nil, or_false] at hc
    rcases hc with rfl | rfl | rfl | rfl | rfl | rfl | rfl <;> (first | exact om31 | exact om32 | exact om33 | exact om34 | exact om35 | exact om36 lt1 | exact om36 lt2 | omega)
  · rintro g C D' less hs₀ hDC i v1 v2 ys made k h tk mC E' hi ⟨x, y, hx, hy, e⟩ hJ F₁ N₁
    have e1 : v1 = x ∧ v2 = y := by
      have := congrArg Array.toList e
      simpa using this
    obtain ⟨rfl, rfl⟩ := e1
    exact turn g C D' (fun c o ec => less c o (fun q => by rw [big c (wrz c q)] at ec; cases ec) (hk c o ec)) hs₀ hDC i v1 v2 ys made k h tk mC E' (by simpa using hx) (by simpa using hy) hJ F₁ N₁
theorem comp_enum {l : Addr} {vs : List Value} {nn : Nat} (hh : A.handled = none) (hl : s.heap.get? l = some (listOf vs.toArray nn))
    (hcell : ∀ y ∈ scope.names, y.2 ≠ .cell) (hkind : scope.kind = .function) (hxa : scope.names.lookup a = some .local) (hxb : scope.names.lookup b = some .local) (F : Fr h₀ L s.heap m) (N : News h₀ L s.heap news)
    (J : Nat → List Value → List (Addr × Obj) → Prop) (hz : ∀ i ys nw, J i ys nw → ys.length ≤ 16777216) (hj : J 0 [] [])
    (turn : ∀ g C D, s.heap.StaysIn g → h₀.StaysIn g → D < C → ∀ i t v2 ys made k h tk (mC : Str → Option Value) (E' : Value → Shared → Prop), vs[i]? = some v2 → J i ys made → Fr g C h (fun z => if z = b then some v2 else if z = a then some (.int (i : Int) t) else mC z) → News g C h ((D, listOf ys.toArray k) :: made) →
      wpAny (model prog w) A (eval elt (compEnvC scope cl C env)) (PairElt g C (fun y nw => J (i + 1) (ys ++ [y]) (nw ++ made)) { s with heap := h, toks := tk }) E' { s with heap := h, toks := tk })
    (done : CompEndR s h₀ L m news vs.length (fun i ys nw => ∃ made, nw = made ++ news ∧ J i ys made) RR) :
    wpAny (model prog w) A (call (.type "enumerate") [.ref l]) (fun xv s₁ => wpAny (model prog w) A (pyIter xv) (fun it s₂ => CompGo prog w A env cl scope (.ListComp elt [⟨.Tuple [.Name a pa, .Name b pb] kk tp, iter, [], 0⟩] scope pos) E RR it s₂) E s₁) E s := by
  have hs1 : s.heap.IsList l vs.toArray := ⟨_, hl, rfl, _, rfl⟩
  obtain ⟨z, hzz⟩ : ∃ z : Nat, z = s.heap.objs.size := ⟨_, rfl⟩
  have lt1 : @LT.lt Nat _ l z := by rw [hzz]; exact Heap.lt_size hl
  refine call_enumerate_list hs1 fun h' g1 g2 hsz hk => ?_
  rw [← hzz] at g1 g2 hsz ⊢
  have W := WalksT.enumerate (prog := prog) (w := w) hh (z + 1) z l (by refine neN ?_; (first | exact om37 | omega)) (by refine neN ?_; (first | exact om25 lt1 | omega)) (by refine neN ?_; (first | exact om24 lt1 | omega)) vs.toArray
  rw [show vs.toArray.size = vs.length from by simp] at W
  refine W.self 0 { s with heap := h' } _ _ ⟨⟨_, g1⟩, g2, hs1.at fun o e => hk _ o e⟩ ?_
  have F' : Fr h₀ L h' m := Fr.keeps F hk
  have N' : News h₀ L h' news := News.grown N hk
  have big : ∀ c, z ≤ c → s.heap.get? c = none := fun c hc => by
    cases e : s.heap.get? c with
    | none => rfl
    | some o => exact absurd (Heap.lt_size e) (by rw [← hzz]; exact Nat.not_lt.mpr hc)
  have wrz : ∀ c ∈ [z + 1, z], z ≤ c := fun c hc => by
    simp only [List.mem_cons, List.not_mem_nil, or_false] at hc
    rcases hc with rfl | rfl <;> (first | exact om30 | exact om29 | omega)
  refine pair_run (s := { s with heap := h' }) W.toU hh (fun i vals ⟨t, y, _, e⟩ => ⟨_, y, e⟩) (fun i h hst c hc => ?_) hcell hkind hxa hxb F' N' (fun c hc => ⟨fresh_of F.keep (big c (wrz c hc)), fun q => ?_, fun p hp q => ?_⟩) (fun c hc => ?_) ⟨⟨_, g1⟩, g2, hs1.at fun o e => hk _ o e⟩ J hz hj ?_ done
  · obtain ⟨⟨_, a1⟩, ⟨_, a2, _⟩, _⟩ := hst
    simp only [List.mem_cons, List.not_mem_nil, or_false] at hc
    rcases hc with rfl | rfl
    · exact ⟨_, a1⟩
    · exact ⟨_, a2⟩
  · obtain ⟨oL, hoL⟩ := loc_none F
    have := big c (wrz c hc)
    rw [q, hoL] at this; cases this
  · have := big c (wrz c hc)
    rw [← q, (N p hp).1] at this; cases this
  · show @LT.lt Nat _ c h'.objs.size
    rw [hsz]
    simp only [List.mem_cons, List.not_mem_nil, or_false] at hc
    rcases hc with rfl | rfl | rfl <;> (first | exact om38 | exact om39 | exact om40 lt1 | omega)
  · rintro g C D' less hs₀ hDC i v1 v2 ys made k h tk mC E' hi ⟨t, x, hx, e⟩ hJ F₁ N₁
    have e1 : v1 = .int (i : Int) t ∧ v2 = x := by
      have := congrArg Array.toList e
      simpa using this
    obtain ⟨rfl, rfl⟩ := e1
    exact turn g C D' (fun c o ec => less c o (fun q => by rw [big c (wrz c q)] at ec; cases ec) (hk c o ec)) hs₀ hDC i t v2 ys made k h tk mC E' (by simpa using hx) hJ F₁ N₁
end
end
section
section
variable {prog : Program} {w : World} {A : Around} {E : Value → Shared → Prop} {s : Shared} {env : Env}
noncomputable abbrev Pr := Addr × Value × Value
noncomputable def tupObj (q : Pr) : Obj := tup [q.2.1, q.2.2]
theorem pairs_walks (hh : A.handled = none) (I l : Addr) (hl : l ≠ I) (ps : List Pr) (hp : ∀ q ∈ ps, q.1 ≠ I) :
    WalksU prog w A I (I :: l :: ps.map (·.1)) [I] ps.length (fun i vals => ∃ q, ps[i]? = some q ∧ vals = #[q.2.1, q.2.2])
      (fun i h => h.IsListIter I l i ∧ h.IsList l (ps.map fun q => Value.ref q.1).toArray ∧ ∀ q ∈ ps, h.get? q.1 = some (tupObj q))
      (fun i T h => h.IsListIter I l (i + 1) ∧ h.IsList l (ps.map fun q => Value.ref q.1).toArray ∧ (∀ q ∈ ps, h.get? q.1 = some (tupObj q)) ∧ T ≠ I) where
  sub := fun b hb => by rw [List.mem_singleton.mp hb]; exact .head _
  frame := fun i h h' ⟨a, b, c⟩ hk => ⟨a.at fun o e => hk I (.head _) o e, b.at fun o e => hk l (.tail _ (.head _)) o e, fun q hq => hk _ (.tail _ (.tail _ (List.mem_map_of_mem hq))) _ (c q hq)⟩
  item := fun i s Q E hi ⟨a, b, c⟩ hQ => by
    have hx : ps[i]? = some ps[i] := List.getElem?_eq_getElem hi
    have hxv : (ps.map fun q => Value.ref q.1).toArray[i]? = some (Value.ref ps[i].1) := by simp [hi]
    refine wpAny_pyNext_list_item a b hxv fun h' hit' hs' => ?_
    have hm : ps[i] ∈ ps := List.getElem_mem hi
    have keep : ∀ b o, b ∉ [I] → s.heap.get? b = some o → h'.get? b = some o := fun b o hb e => hs'.extBut b o (fun h => hb (by simp [h])) e
    refine hQ ps[i].1 #[ps[i].2.1, ps[i].2.2] h' s.toks ⟨ps[i], hx, rfl⟩ ⟨_, keep _ _ (fun h => hp _ hm (List.mem_singleton.mp h)) (c _ hm), rfl, _, rfl⟩ ⟨hit', b.extBut hs'.extBut hl, fun q hq => keep _ _ (fun h => hp _ hq (List.mem_singleton.mp h)) (c q hq), hp _ hm⟩ keep
  go := fun elts k pos i T s Q E ⟨a, b, c, d⟩ hQ => wpAny_letOwnedTupleGo_listiter a (hQ s.heap ⟨a, b, c⟩ fun _ _ _ e => e)
  apart := fun i T h ⟨_, _, _, d⟩ hT => d (List.mem_singleton.mp hT)
  done := fun s Q E ⟨a, b, c⟩ hQ => wpAny_pyNext_list_end hh a b (by simp) fun h' he' => hQ h' s.toks fun b o hb e => he' b o (fun h => hb (by simp [h])) e
  self := fun _ _ _ _ ⟨a, _, _⟩ hQ => wpAny_pyIter_listiter a hQ

variable {elt iter : Expr} {a b : Str} {pa pb tp : Pos} {kk : Nat} {scope : Scope} {cl : List (Str × Addr)} {pos : Pos} {RR : Value → Addr → Result → Shared → Prop} {h₀ : Heap} {L : Addr} {m : Str → Option Value} {news : List (Addr × Obj)}
theorem comp_pairs {l : Addr} {ps : List Pr} {nn : Nat} (hh : A.handled = none) (hl : s.heap.get? l = some (listOf (ps.map fun q => Value.ref q.1).toArray nn)) (hps : ∀ q ∈ ps, s.heap.get? q.1 = some (tupObj q))
    (hcell : ∀ y ∈ scope.names, y.2 ≠ .cell) (hkind : scope.kind = .function) (hxa : scope.names.lookup a = some .local) (hxb : scope.names.lookup b = some .local) (F : Fr h₀ L s.heap m) (N : News h₀ L s.heap news)
    (J : Nat → List Value → List (Addr × Obj) → Prop) (hz : ∀ i ys nw, J i ys nw → ys.length ≤ 16777216) (hj : J 0 [] [])
    (turn : ∀ g C D, s.heap.StaysIn g → h₀.StaysIn g → D < C → ∀ i q ys made k h tk (mC : Str → Option Value) (E' : Value → Shared → Prop), ps[i]? = some q → J i ys made → Fr g C h (fun z => if z = b then some q.2.2 else if z = a then some q.2.1 else mC z) → News g C h ((D, listOf ys.toArray k) :: made) →
      wpAny (model prog w) A (eval elt (compEnvC scope cl C env)) (PairElt g C (fun y nw => J (i + 1) (ys ++ [y]) (nw ++ made)) { s with heap := h, toks := tk }) E' { s with heap := h, toks := tk })
    (done : CompEndR s h₀ L m news ps.length (fun i ys nw => ∃ made, nw = made ++ news ∧ J i ys made) RR) :
    wpAny (model prog w) A (pyIter (.ref l)) (fun it s₂ => CompGo prog w A env cl scope (.ListComp elt [⟨.Tuple [.Name a pa, .Name b pb] kk tp, iter, [], 0⟩] scope pos) E RR it s₂) E s := by
  have hs1 : s.heap.IsList l (ps.map fun q => Value.ref q.1).toArray := ⟨_, hl, rfl, _, rfl⟩
  have hne : l ≠ s.heap.objs.size := Nat.ne_of_lt (Heap.lt_size hl)
  refine wpAny_pyIter_list hs1 ?_
  have W := pairs_walks (prog := prog) (w := w) hh s.heap.objs.size l hne ps fun q hq => Nat.ne_of_lt (Heap.lt_size (hps q hq))
  have up : ∀ (o : Obj) c oc, s.heap.get? c = some oc → (s.heap.push o).get? c = some oc := fun o c oc e => Heap.get?_push_of_some o e
  have big : s.heap.get? s.heap.objs.size = none := by
    cases e : s.heap.get? s.heap.objs.size with
    | none => rfl
    | some o => exact absurd (Heap.lt_size e) (Nat.lt_irrefl _)
  refine pair_run (s := { s with heap := s.heap.push _ }) W hh (fun i vals ⟨q, _, e⟩ => ⟨_, _, e⟩) (fun i h ⟨⟨o, e, _⟩, _⟩ c hc => by rw [List.mem_singleton.mp hc]; exact ⟨o, e⟩) hcell hkind hxa hxb (F.push _) (fun p hp => ⟨up _ _ _ (N p hp).1, (N p hp).2⟩)
    (fun c hc => ?_) (fun c hc => ?_) ⟨⟨_, Heap.get?_push_size _ rfl, rfl, rfl⟩, hs1.at fun o e => up _ _ _ e, fun q hq => up _ _ _ (hps q hq)⟩ J hz hj ?_ done
  · rw [List.mem_singleton.mp hc]
    exact ⟨new_none_base F, (new_ne_loc F).symm, fun p hp => Nat.ne_of_lt (Heap.lt_size (N p hp).1)⟩
  · show @LT.lt Nat _ c (s.heap.push _).objs.size
    rw [Heap.size_push]
    rcases List.mem_cons.mp hc with rfl | hc
    · exact Nat.lt_succ_self _
    · rcases List.mem_cons.mp hc with rfl | hc
      · exact Nat.lt_succ_of_lt (Heap.lt_size hl)
      · obtain ⟨q, hq, rfl⟩ := List.mem_map.mp hc
        exact Nat.lt_succ_of_lt (Heap.lt_size (hps q hq))
  · rintro g C D' less hs₀ hDC i v1 v2 ys made k h tk mC E' hi ⟨q, hq, e⟩ hJ F₁ N₁
    have e1 : v1 = q.2.1 ∧ v2 = q.2.2 := by
      have := congrArg Array.toList e
      simpa using this
    obtain ⟨rfl, rfl⟩ := e1
    exact turn g C D' (fun c o ec => less c o (fun hm => by rw [List.mem_singleton.mp hm, big] at ec; cases ec) (up _ _ _ ec)) hs₀ hDC i q ys made k h tk mC E' hq hJ F₁ N₁
end
end
section
section
variable {prog : Program} {w : World} {A : Around} {E : Value → Shared → Prop} {R : Result → Shared → Prop} {s : Shared} {env : Env}
noncomputable abbrev lc2 (elt t1 i1 t2 i2 : Expr) (scope : Scope) (pos : Pos) : Expr := .ListComp elt [⟨t1, i1, [], 0⟩, ⟨t2, i2, [], 0⟩] scope pos
theorem compTurn_in (elt t1 i1 t2 i2 : Expr) (scope : Scope) (pos : Pos) (it acc : Value) (env : Env) :
    compTurn (lc2 elt t1 i1 t2 i2 scope pos) 1 it acc env = (standAt i2.pos >>= fun _ => pyNext it >>= fun r => match r with
      | none => pure (.done .next)
      | some v => letOwnedTupleGo t2 it v >>= fun _ => assign t2 env v >>= fun _ =>
        (eval elt env >>= fun x => call (.builtin "list.append") [acc, x] >>= fun _ => pure ()) >>= fun _ =>
          again (.compLoop (lc2 elt t1 i1 t2 i2 scope pos) 1 it acc env)) := by rfl
theorem compTurn_out (elt t1 i1 t2 i2 : Expr) (scope : Scope) (pos : Pos) (it acc : Value) (env : Env) :
    compTurn (lc2 elt t1 i1 t2 i2 scope pos) 0 it acc env = (standAt i1.pos >>= fun _ => pyNext it >>= fun r => match r with
      | none => pure (.done .next)
      | some v => letOwnedTupleGo t1 it v >>= fun _ => assign t1 env v >>= fun _ =>
        eval i2 env >>= fun x => standAt i2.pos >>= fun _ => foldedSetIterable i2 env x >>= fun x => holding [x] (pyIter x) >>= fun it2 => runOwn (.compStart (lc2 elt t1 i1 t2 i2 scope pos) 1 it2 acc env) env >>= fun _ =>
          again (.compLoop (lc2 elt t1 i1 t2 i2 scope pos) 0 it acc env)) := by rfl
theorem start_in {elt t1 i1 t2 i2 : Expr} {scope : Scope} {pos : Pos} {it acc : Value}
    (h0 : codeAny (model prog w) A (.compLoop (lc2 elt t1 i1 t2 i2 scope pos) 1 it acc env) R s)
    (h : wpAny (model prog w) A (pyIter it) (fun it' s' => codeAny (model prog w) A (.compLoop (lc2 elt t1 i1 t2 i2 scope pos) 1 it' acc env) R s')
      (notedBy (model prog w) A env fun x s' => R (.error x) s') s) :
    codeAny (model prog w) A (.compStart (lc2 elt t1 i1 t2 i2 scope pos) 1 it acc env) R s := by
  refine codeAny_of_tree ?_
  show wpAny _ _ ((compStart (lc2 elt t1 i1 t2 i2 scope pos) 1 it acc env).onRaise (fun x => do noteFrame x env; standAt theWindowsPlace)) _ _ s
  refine wpAny_notedAt ?_
  unfold compStart
  show wpAny _ _ (ask >>= _) _ _ s
  refine wpAny_bind (wpAny_askSetting (wpAny_ite ?_))
  split
  · first
      | exact wpAny_bind (wpAny_pure (wpAny_pure (And.intro rfl h0)))
      | exact wpAny_pure (And.intro rfl h0)
  · refine wpAny_bind (wpAny_rule ?_)
    show wpAny _ _ (standAt i2.pos >>= _) _ _ s
    exact wpAny_bind (wpAny_standAt (wpAny_bind (wpAny_mono h (fun it' s' h' => wpAny_pure (And.intro rfl h')) fun _ _ x => x)))

noncomputable abbrev NB (prog : Program) (w : World) (A : Around) (env : Env) (R : Result → Shared → Prop) : Value → Shared → Prop := notedBy (model prog w) A env fun e s' => R (.error e) s'
theorem turns_in {elt t1 i1 i2 : Expr} {x2 : Str} {px : Pos} {scope : Scope} {pos : Pos} {it acc : Value} {env : Env} (I : Nat → Shared → Prop)
    (turn : ∀ n s, I n s → wpAny (model prog w) A (pyNext it) (fun r s₁ => match r with
      | none => R (.ok .next) s₁
      | some v => wpAny (model prog w) A (assign (.Name x2 px) env v) (fun _ s₂ => wpAny (model prog w) A (eval elt env) (fun x s₃ =>
          wpAny (model prog w) A (call (.builtin "list.append") [acc, x]) (fun _ s₄ => ∃ m, m < n ∧ I m s₄) (NB prog w A env R) s₃) (NB prog w A env R) s₂) (NB prog w A env R) s₁) (NB prog w A env R) s)
    (n : Nat) (h : I n s) : codeAny (model prog w) A (.compLoop (lc2 elt t1 i1 (.Name x2 px) i2 scope pos) 1 it acc env) R s := by
  refine codeAny_loop rfl I (fun n s hI => ?_) n h
  show wpAny _ _ ((compTurn (lc2 elt t1 i1 (.Name x2 px) i2 scope pos) 1 it acc env).onRaise (fun x => do noteFrame x env; theTreesLotGoes x)) _ _ s
  refine wpAny_noted ?_
  rw [compTurn_in]
  refine wpAny_bind (wpAny_standAt (wpAny_bind (wpAny_mono (turn n s hI) (fun r s₁ h₁ => ?_) fun _ _ h' => h')))
  cases r with
  | none => exact wpAny_pure h₁
  | some v =>
    refine wpAny_bind (wpAny_of_eq (show letOwnedTupleGo (.Name x2 px) it v = pure () from rfl) ?_)
    exact wpAny_bind (wpAny_mono h₁ (fun _ s₂ h₂ => wpAny_bind (wpAny_bind (wpAny_mono h₂ (fun x s₃ h₃ => wpAny_bind (wpAny_mono h₃
      (fun _ s₄ h₄ => wpAny_pure (wpAny_pure ⟨rfl, h₄⟩)) fun _ _ h' => h')) fun _ _ h' => h'))) fun _ _ h' => h')
theorem turns_out {elt i1 t2 i2 : Expr} {x1 : Str} {px : Pos} {scope : Scope} {pos : Pos} {it acc : Value} {env : Env} (I : Nat → Shared → Prop) (hs : ∀ x, foldedSetIterable i2 env x = pure x)
    (turn : ∀ n s, I n s → wpAny (model prog w) A (pyNext it) (fun r s₁ => match r with
      | none => R (.ok .next) s₁
      | some v => wpAny (model prog w) A (assign (.Name x1 px) env v) (fun _ s₂ => wpAny (model prog w) A (eval i2 env) (fun xv s₃ => wpAny (model prog w) A (pyIter xv) (fun it2 s₄ =>
          codeAny (model prog w) A (.compStart (lc2 elt (.Name x1 px) i1 t2 i2 scope pos) 1 it2 acc env) (fun r s₅ => r = .ok .next ∧ ∃ m, m < n ∧ I m s₅) s₄) (NB prog w A env R) s₃) (NB prog w A env R) s₂) (NB prog w A env R) s₁) (NB prog w A env R) s)
    (n : Nat) (h : I n s) : codeAny (model prog w) A (.compLoop (lc2 elt (.Name x1 px) i1 t2 i2 scope pos) 0 it acc env) R s := by
  refine codeAny_loop rfl I (fun n s hI => ?_) n h
  show wpAny _ _ ((compTurn (lc2 elt (.Name x1 px) i1 t2 i2 scope pos) 0 it acc env).onRaise (fun x => do noteFrame x env; theTreesLotGoes x)) _ _ s
  refine wpAny_noted ?_
  rw [compTurn_out]
  refine wpAny_bind (wpAny_standAt (wpAny_bind (wpAny_mono (turn n s hI) (fun r s₁ h₁ => ?_) fun _ _ h' => h')))
  cases r with
  | none => exact wpAny_pure h₁
  | some v =>
    refine wpAny_bind (wpAny_of_eq (show letOwnedTupleGo (.Name x1 px) it v = pure () from rfl) ?_)
    refine wpAny_bind (wpAny_mono h₁ (fun _ s₂ h₂ => wpAny_bind (wpAny_mono h₂ (fun xv s₃ h₃ => wpAny_bind (wpAny_standAt (wpAny_bind (wpAny_of_eq (hs xv) (wpAny_bind (wpAny_holding (wpAny_mono h₃ (fun it2 s₄ h₄ => wpAny_bind (wpAny_runOwn (codeAny_mono h₄ fun r s₅ hr => ?_))) fun _ _ h' => h'))))))) fun _ _ h' => h')) fun _ _ h' => h')
    obtain ⟨rfl, hr⟩ := hr
    exact wpAny_pure ⟨rfl, hr⟩
inductive OutI (g : Heap) (C D I : Addr) (n : Nat) (St : Nat → Heap → Prop) (J : Nat → List Value → Prop) (s : Shared) (k : Nat) (s' : Shared) : Prop
  | mk (i : Nat) (h : Heap) (tk : Nat) (m : Str → Option Value) (ys : List Value) (kk : Nat) (it : Obj) (ek : k = n - i) (hi : i ≤ n) (e : s' = { s with heap := h, toks := tk }) (st : St i h) (F : Fr g C h m) (N : News g C h [(D, listOf ys.toArray kk), (I, it)]) (j : J i ys) : OutI g C D I n St J s k s'
inductive InnI (g : Heap) (C D : Addr) (n : Nat) (St : Nat → Heap → Prop) (J : Nat → List Value → Prop) (x2 : Str) (m₀ : Str → Option Value) (news : List (Addr × Obj)) (s : Shared) (k : Nat) (s' : Shared) : Prop
  | mk (j : Nat) (h : Heap) (tk : Nat) (m : Str → Option Value) (ys : List Value) (kk : Nat) (ek : k = n - j) (hi : j ≤ n) (e : s' = { s with heap := h, toks := tk }) (st : St j h) (F : Fr g C h m) (hm : ∀ z, z ≠ x2 → m z = m₀ z) (N : News g C h ((D, listOf ys.toArray kk) :: news)) (hj : J j ys) : InnI g C D n St J x2 m₀ news s k s'
section
variable {elt t1 i1 i2 : Expr} {x2 : Str} {px : Pos} {scope : Scope} {pos : Pos} {cenv : Env} {I2 D : Addr} {ex : List Addr} {g : Heap} {n : Nat} {P : Nat → Value → Prop} {St : Nat → Heap → Prop} {news : List (Addr × Obj)} {m₀ : Str → Option Value}
theorem inner_loop (W : Walks prog w A I2 (I2 :: ex) [I2] n P St) (hx : cenv.kindOf x2 = some .local) (hp : (cenv.scope.kind == .class || (cenv.scope.kind == .module && cenv.locals != cenv.globals)) = false)
    (hexL : cenv.locals ∉ ex) (hexD : D ∉ ex) (hI2 : g.get? I2 = none) (hI2C : I2 ≠ cenv.locals) (hDI : D ≠ I2) (hoff : ∀ p ∈ news, p.1 ≠ I2 ∧ p.1 ≠ D)
    (J : Nat → List Value → Prop) (hz : ∀ i ys, J i ys → ys.length ≤ 16777216)
    (turn : ∀ j v ys h tk k (mC : Str → Option Value) (E' : Value → Shared → Prop), j < n → P j v → J j ys → (∀ z, z ≠ x2 → mC z = m₀ z) → Fr g cenv.locals h (fun z => if z = x2 then some v else mC z) → News g cenv.locals h ((D, listOf ys.toArray k) :: news) →
      wpAny (model prog w) A (eval elt cenv) (fun y s₂ => ∃ h' tk', s₂ = { s with heap := h', toks := tk' } ∧ h.StaysIn h' ∧ J (j + 1) (ys ++ [y])) E' { s with heap := h, toks := tk })
    (done : ∀ ys k h tk m', J n ys → Fr g cenv.locals h m' → News g cenv.locals h ((D, listOf ys.toArray k) :: news) → R (.ok .next) { s with heap := h, toks := tk })
    {m1 : Str → Option Value} {ys0 : List Value} {k0 : Nat} (hm1 : ∀ z, z ≠ x2 → m1 z = m₀ z) (st : St 0 s.heap) (F : Fr g cenv.locals s.heap m1) (N : News g cenv.locals s.heap ((D, listOf ys0.toArray k0) :: news)) (hj : J 0 ys0) :
    codeAny (model prog w) A (.compLoop (lc2 elt t1 i1 (.Name x2 px) i2 scope pos) 1 (.ref I2) (.ref D) cenv) R s := by
  refine turns_in (InnI g cenv.locals D n St J x2 m₀ news s) ?_ n
    ⟨0, s.heap, s.toks, m1, ys0, k0, rfl, Nat.zero_le _, rfl, st, F, hm1, N, hj⟩
  rintro kn s' ⟨j, h, tk, m, ys, kd, rfl, hjn, rfl, st, F, hm, N, hj⟩
  have keepF : ∀ {h1 h2 : Heap}, (∀ c o, c ∉ [I2] → h1.get? c = some o → h2.get? c = some o) → ∀ {m1}, Fr g cenv.locals h1 m1 → Fr g cenv.locals h2 m1 := fun k _ F => ⟨F.ns.at' fun o e => k _ o (fun q => hI2C (List.mem_singleton.mp q).symm) e, fun c o e => k c o (fun q => by rw [List.mem_singleton.mp q, hI2] at e; cases e) (F.keep c o e), F.above⟩
  have keepN : ∀ {h1 h2 : Heap}, (∀ c o, c ∉ [I2] → h1.get? c = some o → h2.get? c = some o) → News g cenv.locals h1 ((D, listOf ys.toArray kd) :: news) → News g cenv.locals h2 ((D, listOf ys.toArray kd) :: news) := fun k N p hp => by
    have hpI : p.1 ≠ I2 := by
      rcases List.mem_cons.mp hp with rfl | hp
      · exact hDI
      · exact (hoff p hp).1
    exact ⟨k _ _ (fun q => hpI (List.mem_singleton.mp q)) (N p hp).1, (N p hp).2⟩
  rcases Nat.lt_or_ge j n with hlt | hge
  · refine W.item j _ _ _ hlt st fun v h₁ tk₁ hP st₁ hk₁ => ?_
    have F₁ := keepF hk₁ F
    have N₁ := keepN hk₁ N
    refine wpAny_assign_Name (wpAny_storeName_local hx F₁.ns (fun h₂ hn₂ hs₂ => ?_) hp)
    have k₂ : ∀ b o, b ≠ cenv.locals → h₁.get? b = some o → h₂.get? b = some o := fun b o hb e => (hs₂.2 b hb).trans e
    have F₂ : Fr g cenv.locals h₂ (fun z => if z = x2 then some v else m z) := ⟨hn₂, fun c o e => k₂ c o (fun q => by
      have h1 := Heap.lt_size e
      rw [q] at h1
      exact absurd (Nat.lt_of_lt_of_le h1 F.above) (Nat.lt_irrefl _)) (F₁.keep c o e), F.above⟩
    have N₂ : News g cenv.locals h₂ ((D, listOf ys.toArray kd) :: news) := fun p hp => ⟨k₂ _ _ (N₁ p hp).2.1 (N₁ p hp).1, (N₁ p hp).2⟩
    have st₂ : St (j + 1) h₂ := W.frame _ _ _ st₁ fun b hb o e => k₂ b o (fun q => by
      rcases List.mem_cons.mp hb with r | r
      · exact hI2C (r.symm.trans q)
      · exact hexL (q ▸ r)) e
    refine wpAny_mono (turn j v ys h₂ _ kd m _ hlt hP hj hm F₂ N₂) (fun y s₃ h₃ => ?_) fun _ _ e => e
    obtain ⟨h₄, tk₄, rfl, k₄, hj'⟩ := h₃
    have F₄ := Fr.keeps F₂ k₄
    have N₄ := News.grown N₂ k₄
    have hu : UpdF D (listOf ys.toArray kd) ((D, listOf ys.toArray kd) :: news) (fun o' => (D, o') :: news) := .head fun p hp => (hoff p hp).2
    refine append_is F₄ N₄ (.head _) hu (hz _ _ hj) fun h₅ F₅ N₅ kb => ⟨n - (j + 1), by (first | exact om10 hlt | omega), j + 1, h₅, tk₄, _, ys ++ [y], kd + 1, rfl, hlt, rfl, ?_, F₅, fun z hz' => by rw [if_neg hz', hm z hz'], N₅, hj'⟩
    exact W.frame _ _ _ st₂ fun b hb o e => kb b o (fun q => by
      rcases List.mem_cons.mp hb with r | r
      · exact hDI (q.symm.trans r)
      · exact hexD (q ▸ r)) (k₄ b o e)
  · have : j = n := Nat.le_antisymm hjn hge
    subst this
    refine W.done _ _ _ st fun h' tk' hk => ?_
    exact done ys kd h' tk' m hj (keepF hk F) (keepN hk N)
end
inductive OutEnd (g : Heap) (C D I : Addr) (it : Obj) (Jn : List Value → Prop) (s₁ : Shared) (r : Result) (s₂ : Shared) : Prop
  | mk (er : r = .ok .next) (ys : List Value) (k : Nat) (h' : Heap) (tk : Nat) (m' : Str → Option Value) (e : s₂ = { s₁ with heap := h', toks := tk }) (j : Jn ys) (F : Fr g C h' m') (N : News g C h' [(D, listOf ys.toArray k), (I, it)]) : OutEnd g C D I it Jn s₁ r s₂
section
variable {elt i1 t2 i2 : Expr} {x1 : Str} {px : Pos} {scope : Scope} {pos : Pos} {cenv : Env} {I D : Addr} {ex : List Addr} {g : Heap} {n : Nat} {P : Nat → Value → Prop} {St : Nat → Heap → Prop}
theorem outer_loop (hs : ∀ x, foldedSetIterable i2 cenv x = pure x) (W : Walks prog w A I (I :: ex) [I] n P St) (hit : ∀ i h, St i h → ∃ o, h.get? I = some o) (hx : cenv.kindOf x1 = some .local) (hp : (cenv.scope.kind == .class || (cenv.scope.kind == .module && cenv.locals != cenv.globals)) = false)
    (hexL : cenv.locals ∉ ex) (hexg : ∀ b ∈ ex, ∃ o, g.get? b = some o) (hI : g.get? I = none) (hIC : I ≠ cenv.locals) (hDI : D ≠ I)
    (J : Nat → List Value → Prop)
    (turn : ∀ i v ys h tk k it (mC : Str → Option Value) (E' : Value → Shared → Prop), i < n → P i v → J i ys → Fr g cenv.locals h (fun z => if z = x1 then some v else mC z) → News g cenv.locals h [(D, listOf ys.toArray k), (I, it)] →
      wpAny (model prog w) A (eval i2 cenv) (fun xv s₁ => wpAny (model prog w) A (pyIter xv) (fun it2 s₂ => codeAny (model prog w) A (.compStart (lc2 elt (.Name x1 px) i1 t2 i2 scope pos) 1 it2 (.ref D) cenv) (OutEnd g cenv.locals D I it (J (i + 1)) { s with heap := h, toks := tk }) s₂) E' s₁) E' { s with heap := h, toks := tk })
    (done : ∀ ys k h tk m', J n ys → Fr g cenv.locals h m' → News g cenv.locals h [(D, listOf ys.toArray k)] → R (.ok .next) { s with heap := h, toks := tk })
    {m1 : Str → Option Value} {it0 : Obj} {k0 : Nat} (st : St 0 s.heap) (F : Fr g cenv.locals s.heap m1) (N : News g cenv.locals s.heap [(D, listOf ([] : List Value).toArray k0), (I, it0)]) (hj : J 0 []) :
    codeAny (model prog w) A (.compLoop (lc2 elt (.Name x1 px) i1 t2 i2 scope pos) 0 (.ref I) (.ref D) cenv) R s := by
  refine turns_out (OutI g cenv.locals D I n St J s) hs ?_ n
    ⟨0, s.heap, s.toks, m1, [], k0, it0, rfl, Nat.zero_le _, rfl, st, F, N, hj⟩
  rintro kn s' ⟨i, h, tk, m, ys, kd, it, rfl, hin, rfl, st, F, N, hj⟩
  have keepF : ∀ {h1 h2 : Heap}, (∀ c o, c ∉ [I] → h1.get? c = some o → h2.get? c = some o) → ∀ {m1}, Fr g cenv.locals h1 m1 → Fr g cenv.locals h2 m1 := fun k _ F => ⟨F.ns.at' fun o e => k _ o (fun q => hIC (List.mem_singleton.mp q).symm) e, fun c o e => k c o (fun q => by rw [List.mem_singleton.mp q, hI] at e; cases e) (F.keep c o e), F.above⟩
  have keepD : ∀ {h1 h2 : Heap}, (∀ c o, c ∉ [I] → h1.get? c = some o → h2.get? c = some o) → News g cenv.locals h1 [(D, listOf ys.toArray kd)] → News g cenv.locals h2 [(D, listOf ys.toArray kd)] := fun k N p hp => by
    have e : p = (D, listOf ys.toArray kd) := List.mem_singleton.mp hp
    subst e
    exact ⟨k _ _ (fun q => hDI (List.mem_singleton.mp q)) (N _ (.head _)).1, (N _ (.head _)).2⟩
  have ND : News g cenv.locals h [(D, listOf ys.toArray kd)] := fun p hp => N p (by rw [List.mem_singleton.mp hp]; exact .head _)
  rcases Nat.lt_or_ge i n with hlt | hge
  · refine W.item i _ _ _ hlt st fun v h₁ tk₁ hP st₁ hk₁ => ?_
    have F₁ := keepF hk₁ F
    have N₁ := keepD hk₁ ND
    refine wpAny_assign_Name (wpAny_storeName_local hx F₁.ns (fun h₂ hn₂ hs₂ => ?_) hp)
    have k₂ : ∀ b o, b ≠ cenv.locals → h₁.get? b = some o → h₂.get? b = some o := fun b o hb e => (hs₂.2 b hb).trans e
    have F₂ : Fr g cenv.locals h₂ (fun z => if z = x1 then some v else m z) := ⟨hn₂, fun c o e => k₂ c o (fun q => by
      have h1 := Heap.lt_size e
      rw [q] at h1
      exact absurd (Nat.lt_of_lt_of_le h1 F.above) (Nat.lt_irrefl _)) (F₁.keep c o e), F.above⟩
    obtain ⟨it', hit'⟩ := hit _ _ st₁
    have N₂ : News g cenv.locals h₂ [(D, listOf ys.toArray kd), (I, it')] := List.forall_mem_cons.mpr ⟨⟨k₂ _ _ (N₁ _ (.head _)).2.1 (N₁ _ (.head _)).1, (N₁ _ (.head _)).2⟩, List.forall_mem_cons.mpr ⟨⟨k₂ _ _ hIC hit', hIC, hI⟩, List.forall_mem_nil _⟩⟩
    have st₂ : St (i + 1) h₂ := W.frame _ _ _ st₁ fun b hb o e => k₂ b o (fun q => by
      rcases List.mem_cons.mp hb with r | r
      · exact hIC (r.symm.trans q)
      · exact hexL (q ▸ r)) e
    refine wpAny_mono (turn i v ys h₂ _ kd it' m _ hlt hP hj F₂ N₂) (fun xv s₃ h₃ => wpAny_mono h₃ (fun it2 s₄ h₄ => codeAny_mono h₄ fun r s₅ h₅ => ?_) fun _ _ e => e) fun _ _ e => e
    obtain ⟨rfl, ys', k', h₆, tk₆, m₆, rfl, hj', F₆, N₆⟩ := h₅
    refine ⟨rfl, n - (i + 1), by (first | exact om10 hlt | omega), i + 1, h₆, tk₆, m₆, ys', k', it', rfl, hlt, rfl, W.frame _ _ _ st₂ fun b hb o e => ?_, F₆, N₆, hj'⟩
    rcases List.mem_cons.mp hb with r | r
    · rw [r, (N₂ _ (.tail _ (.head _))).1] at e
      rw [r, ← e]; exact (N₆ _ (.tail _ (.head _))).1
    · obtain ⟨o', ho'⟩ := hexg b r
      have e1 := F₂.keep _ _ ho'
      rw [e] at e1
      rw [Option.some.inj e1]; exact F₆.keep _ _ ho'
  · have : i = n := Nat.le_antisymm hin hge
    subst this
    refine W.done _ _ _ st fun h' tk' hk => ?_
    exact done ys kd h' tk' m hj (keepF hk F) (keepD hk ND)
end
end
end
section
section
variable {prog : Program} {w : World} {A : Around} {E : Value → Shared → Prop} {s : Shared} {env : Env} {h₀ : Heap} {a b : Str} {pa pb tp : Pos} {kk : Nat} {body : List Stmt} {R : Result → Shared → Prop} {m₀ : Str → Option Value} {news : List (Addr × Obj)}
inductive ForI (h₀ : Heap) (L : Addr) (n : Nat) (St : Nat → Heap → Prop) (a b : Str) (m₀ : Str → Option Value) (news : List (Addr × Obj)) (s : Shared) (k : Nat) (s' : Shared) : Prop
  | mk (i : Nat) (h : Heap) (tk : Nat) (m : Str → Option Value) (ek : k = n - i) (hi : i ≤ n) (e : s' = { s with heap := h, toks := tk }) (st : St i h) (F : Fr h₀ L h m) (N : News h₀ L h news) (hm : ∀ z, z ≠ a → z ≠ b → m z = m₀ z) : ForI h₀ L n St a b m₀ news s k s'
noncomputable def ForEnd (R : Result → Shared → Prop) (s₁ : Shared) (f : Flow) (s₂ : Shared) : Prop := match f with
  | .ret v => R (.ok (.ret v)) s₂
  | .brk => R (.ok .next) s₂
  | _ => ∃ h' tk', s₂ = { s₁ with heap := h', toks := tk' } ∧ s₁.heap.StaysIn h'
theorem ForEnd.intro {s₁ : Shared} {h' : Heap} {tk' : Nat} (k : s₁.heap.StaysIn h') : ForEnd R s₁ .next { s₁ with heap := h', toks := tk' } := ⟨h', tk', rfl, k⟩
theorem pair_for {I : Addr} {wr fp : List Addr} {n : Nat} {Pt : Nat → Array Value → Prop} {St : Nat → Heap → Prop} {Mid : Nat → Addr → Heap → Prop}
    (W : WalksU prog w A I fp wr n Pt St Mid) (hh : A.handled = none) (hPt : ∀ i vals, Pt i vals → ∃ v1 v2, vals = #[v1, v2])
    (hLf : env.locals ∉ fp) (hg : ∀ c ∈ wr, h₀.get? c = none) (hoff : ∀ p ∈ news, p.1 ∉ wr)
    (ha : env.kindOf a = some .local) (hb : env.kindOf b = some .local) (hp : (env.scope.kind == .class || (env.scope.kind == .module && env.locals != env.globals)) = false)
    (st : St 0 s.heap) (F : Fr h₀ env.locals s.heap m₀) (N : News h₀ env.locals s.heap news)
    (turn : ∀ i v1 v2 h tk (E' : Value → Shared → Prop), i < n → Pt i #[v1, v2] → Fr h₀ env.locals h (fun z => if z = b then some v2 else if z = a then some v1 else m₀ z) → News h₀ env.locals h news →
      wpAny (model prog w) A (execs body env) (ForEnd R { s with heap := h, toks := tk }) E' { s with heap := h, toks := tk })
    (done : ∀ h tk m₁, (∀ z, z ≠ a → z ≠ b → m₁ z = m₀ z) → Fr h₀ env.locals h m₁ → News h₀ env.locals h news → R (.ok .next) { s with heap := h, toks := tk }) :
    codeAny (model prog w) A (.forLoop (.Tuple [.Name a pa, .Name b pb] kk tp) (.ref I) body [] env) R s := by
  refine codeAny_forLoop_any (ForI h₀ env.locals n St a b m₀ news s) ?_ n
    ⟨0, s.heap, s.toks, m₀, rfl, Nat.zero_le _, rfl, st, F, N, fun _ _ _ => rfl⟩
  rintro kn s' ⟨i, h, tk, m, rfl, hi, rfl, st, F, N, hm⟩
  have hCw : env.locals ∉ wr := fun q => hLf (W.sub _ q)
  have keepF : ∀ {h1 h2 : Heap}, (∀ c o, c ∉ wr → h1.get? c = some o → h2.get? c = some o) → ∀ {m1}, Fr h₀ env.locals h1 m1 → Fr h₀ env.locals h2 m1 := fun k _ F => ⟨F.ns.at' fun o e => k _ o hCw e, fun c o e => k c o (fun q => by rw [hg c q] at e; cases e) (F.keep c o e), F.above⟩
  have keepN : ∀ {h1 h2 : Heap}, (∀ c o, c ∉ wr → h1.get? c = some o → h2.get? c = some o) → News h₀ env.locals h1 news → News h₀ env.locals h2 news := fun k N p hp => ⟨k _ _ (hoff p hp) (N p hp).1, (N p hp).2⟩
  rcases Nat.lt_or_ge i n with hlt | hge
  · refine W.item i _ _ _ hlt st fun T vals h₁ tk₁ hPv hT hM hk₁ => ?_
    obtain ⟨v1, v2, rfl⟩ := hPt _ _ hPv
    refine W.go _ _ _ i T _ _ _ hM fun h₂ st₂ hk₂ => ?_
    have k12 : ∀ c o, c ∉ wr → h.get? c = some o → h₂.get? c = some o := fun c o hc e => hk₂ c o hc (hk₁ c o hc e)
    have F₂ := keepF k12 F
    have N₂ := keepN k12 N
    have hT₂ : h₂.IsTuple T #[v1, v2] := hT.at fun o e => hk₂ T o (W.apart _ _ _ hM) e
    refine kcp_assign hh hT₂ ha hb hp F₂.ns fun h₃ tk₃ hn₃ hk₃ => ?_
    have em : (fun z => if z = b then some v2 else if z = a then some v1 else m z) = (fun z => if z = b then some v2 else if z = a then some v1 else m₀ z) := by
      funext z
      by_cases hzb : z = b
      · rw [if_pos hzb, if_pos hzb]
      · rw [if_neg hzb, if_neg hzb]
        by_cases hza : z = a
        · rw [if_pos hza, if_pos hza]
        · rw [if_neg hza, if_neg hza, hm z hza hzb]
    rw [em] at hn₃
    have F₃ : Fr h₀ env.locals h₃ (fun z => if z = b then some v2 else if z = a then some v1 else m₀ z) := ⟨hn₃, fun c o e => hk₃ c o (fun q => by
      have h1 := Heap.lt_size e
      rw [q] at h1
      exact absurd (Nat.lt_of_lt_of_le h1 F.above) (Nat.lt_irrefl _)) (F₂.keep c o e), F.above⟩
    have N₃ : News h₀ env.locals h₃ news := fun p hp => ⟨hk₃ _ _ (N₂ p hp).2.1 (N₂ p hp).1, (N₂ p hp).2⟩
    have st₃ : St (i + 1) h₃ := W.frame _ _ _ st₂ fun c hc o e => hk₃ c o (fun q => hLf (q ▸ hc)) e
    refine wpAny_mono (turn i v1 v2 h₃ tk₃ _ hlt hPv F₃ N₃) (fun f s₄ h₄ => ?_) fun _ _ e => e
    have fin : (∃ h' tk', s₄ = { s with heap := h', toks := tk' } ∧ h₃.StaysIn h') → ∃ m', m' < n - i ∧ ForI h₀ env.locals n St a b m₀ news s m' s₄ := by
      rintro ⟨h', tk', rfl, k'⟩
      exact ⟨n - (i + 1), by (first | exact om10 hlt | omega), i + 1, h', tk', _, rfl, hlt, rfl, W.frame _ _ _ st₃ fun c _ o e => k' c o e, Fr.keeps F₃ k', News.grown N₃ k', fun z h1 h2 => by rw [if_neg h2, if_neg h1]⟩
    cases f with
    | ret v => exact h₄
    | brk => exact h₄
    | next => exact fin h₄
    | cont => exact fin h₄
  · have : i = n := Nat.le_antisymm hi hge
    subst this
    refine W.done _ _ _ st fun h' tk' hk => ?_
    exact wpAny_pure (done h' tk' m hm (keepF hk F) (keepN hk N))
theorem for_pairs {l : Addr} {ps : List Pr} {nn : Nat} (hh : A.handled = none) (hl : s.heap.get? l = some (listOf (ps.map fun q => Value.ref q.1).toArray nn)) (hps : ∀ q ∈ ps, s.heap.get? q.1 = some (tupObj q)) (hlL : l ≠ env.locals) (hpL : ∀ q ∈ ps, q.1 ≠ env.locals)
    (ha : env.kindOf a = some .local) (hb : env.kindOf b = some .local) (hp : (env.scope.kind == .class || (env.scope.kind == .module && env.locals != env.globals)) = false)
    (F : Fr h₀ env.locals s.heap m₀) (N : News h₀ env.locals s.heap news)
    (turn : ∀ (i : Nat) (q : Pr) h tk (E' : Value → Shared → Prop), ps[i]? = some q → Fr h₀ env.locals h (fun z => if z = b then some q.2.2 else if z = a then some q.2.1 else m₀ z) → News h₀ env.locals h news →
      wpAny (model prog w) A (execs body env) (ForEnd R { s with heap := h, toks := tk }) E' { s with heap := h, toks := tk })
    (done : ∀ h tk m₁, (∀ z, z ≠ a → z ≠ b → m₁ z = m₀ z) → Fr h₀ env.locals h m₁ → News h₀ env.locals h news → R (.ok .next) { s with heap := h, toks := tk }) :
    wpAny (model prog w) A (pyIter (.ref l)) (fun it s₂ => codeAny (model prog w) A (.forLoop (.Tuple [.Name a pa, .Name b pb] kk tp) it body [] env) R s₂) E s := by
  have hs1 : s.heap.IsList l (ps.map fun q => Value.ref q.1).toArray := ⟨_, hl, rfl, _, rfl⟩
  have hne : l ≠ s.heap.objs.size := Nat.ne_of_lt (Heap.lt_size hl)
  refine wpAny_pyIter_list hs1 ?_
  have W := pairs_walks (prog := prog) (w := w) hh s.heap.objs.size l hne ps fun q hq => Nat.ne_of_lt (Heap.lt_size (hps q hq))
  have up : ∀ (o : Obj) c oc, s.heap.get? c = some oc → (s.heap.push o).get? c = some oc := fun o c oc e => Heap.get?_push_of_some o e
  refine pair_for (s := { s with heap := s.heap.push _ }) W hh (fun i vals ⟨q, _, e⟩ => ⟨_, _, e⟩) (fun hm => ?_) (fun c hc => by rw [List.mem_singleton.mp hc]; exact new_none_base F) (fun p hp hc => absurd (Heap.lt_size (N p hp).1) ((List.mem_singleton.mp hc) ▸ Nat.lt_irrefl _)) ha hb hp
    ⟨⟨_, Heap.get?_push_size _ rfl, rfl, rfl⟩, hs1.at fun o e => up _ _ _ e, fun q hq => up _ _ _ (hps q hq)⟩ (F.push _) (fun p hp => ⟨up _ _ _ (N p hp).1, (N p hp).2⟩) ?_ done
  · rcases List.mem_cons.mp hm with e | hm
    · exact new_ne_loc F e
    · rcases List.mem_cons.mp hm with e | hm
      · exact hlL e.symm
      · obtain ⟨q, hq, e⟩ := List.mem_map.mp hm
        exact hpL q hq e
  · rintro i v1 v2 h tk E' hi ⟨q, hq, e⟩ F₁ N₁
    have e1 : v1 = q.2.1 ∧ v2 = q.2.2 := by
      have := congrArg Array.toList e
      simpa using this
    obtain ⟨rfl, rfl⟩ := e1
    exact turn i q h tk E' hq F₁ N₁
theorem for_zip {l1 l2 : Addr} {vs1 vs2 : List Value} {n1 n2 : Nat} (hh : A.handled = none) (hl1 : s.heap.get? l1 = some (listOf vs1.toArray n1)) (hl2 : s.heap.get? l2 = some (listOf vs2.toArray n2)) (hlen : vs1.length = vs2.length) (h1L : l1 ≠ env.locals) (h2L : l2 ≠ env.locals)
    (ha : env.kindOf a = some .local) (hb : env.kindOf b = some .local) (hp : (env.scope.kind == .class || (env.scope.kind == .module && env.locals != env.globals)) = false)
    (F : Fr h₀ env.locals s.heap m₀) (N : News h₀ env.locals s.heap news)
    (turn : ∀ (i : Nat) (v1 v2 : Value) h tk (E' : Value → Shared → Prop), vs1[i]? = some v1 → vs2[i]? = some v2 → Fr h₀ env.locals h (fun z => if z = b then some v2 else if z = a then some v1 else m₀ z) → News h₀ env.locals h news →
      wpAny (model prog w) A (execs body env) (ForEnd R { s with heap := h, toks := tk }) E' { s with heap := h, toks := tk })
    (done : ∀ h tk m₁, (∀ z, z ≠ a → z ≠ b → m₁ z = m₀ z) → Fr h₀ env.locals h m₁ → News h₀ env.locals h news → R (.ok .next) { s with heap := h, toks := tk }) :
    wpAny (model prog w) A (call (.type "zip") [.ref l1, .ref l2]) (fun xv s₁ => wpAny (model prog w) A (pyIter xv) (fun it s₂ => codeAny (model prog w) A (.forLoop (.Tuple [.Name a pa, .Name b pb] kk tp) it body [] env) R s₂) E s₁) E s := by
  have hs1 : s.heap.IsList l1 vs1.toArray := ⟨_, hl1, rfl, _, rfl⟩
  have hs2 : s.heap.IsList l2 vs2.toArray := ⟨_, hl2, rfl, _, rfl⟩
  obtain ⟨z, hzz⟩ : ∃ z : Nat, z = s.heap.objs.size := ⟨_, rfl⟩
  have lt1 : @LT.lt Nat _ l1 z := by rw [hzz]; exact Heap.lt_size hl1
  have lt2 : @LT.lt Nat _ l2 z := by rw [hzz]; exact Heap.lt_size hl2
  have ltL : @LT.lt Nat _ env.locals z := by
    obtain ⟨oL, hoL⟩ := loc_none F
    rw [hzz]; exact Heap.lt_size hoL
  refine call_zip_2 hs1 hs2 fun h' g5 g3 g4 g1 g2 hsz hk => ?_
  rw [← hzz] at g5 g3 g4 g1 g2 hsz ⊢
  have D : ZipApart (z + 4) (z + 2) (z + 3) z (z + 1) l1 l2 := by constructor <;> (refine neN ?_; (first | exact om12 | exact om13 | exact om14 | exact om15 | exact om16 | exact om17 | exact om18 | exact om19 | exact om20 | exact om21 | exact om22 lt1 | exact om23 lt1 | exact om24 lt1 | exact om25 lt1 | exact om22 lt2 | exact om23 lt2 | exact om24 lt2 | exact om25 lt2 | omega))
  have W := WalksT.zip2 (prog := prog) (w := w) hh (z + 4) (z + 2) (z + 3) z (z + 1) l1 l2 D vs1.toArray vs2.toArray
  have hmin : min vs1.toArray.size vs2.toArray.size = vs1.length := by simp; (first | exact om26 hlen | omega)
  rw [hmin] at W
  have st : IsZip h' (z + 4) (z + 2) (z + 3) .none ∧ IsPair h' (z + 2) (.ref z) (.ref (z + 1)) ∧ (∃ a b, IsPair h' (z + 3) a b) ∧ h'.IsListIter z l1 0 ∧ h'.IsListIter (z + 1) l2 0 ∧ h'.IsList l1 vs1.toArray ∧ h'.IsList l2 vs2.toArray :=
    ⟨g5, g3, ⟨_, _, g4⟩, g1, g2, hs1.at fun o e => hk _ o e, hs2.at fun o e => hk _ o e⟩
  refine wpAny_pyIter_zip g5 ?_
  have big : ∀ c, z ≤ c → s.heap.get? c = none := fun c hc => by
    cases e : s.heap.get? c with
    | none => rfl
    | some o => exact absurd (Heap.lt_size e) (by rw [← hzz]; exact Nat.not_lt.mpr hc)
  have wrz : ∀ c ∈ [z + 4, z + 3, z, z + 1], z ≤ c := fun c hc => by
    simp only [List.mem_cons, List.not_mem_nil, or_false] at hc
    rcases hc with rfl | rfl | rfl | rfl <;> (first | exact om27 | exact om28 | exact om29 | exact om30 | omega)
  refine pair_for (s := { s with heap := h' }) W.toU hh (fun i vals ⟨x, y, _, _, e⟩ => ⟨x, y, e⟩) (fun hm => ?_) (fun c hc => fresh_of F.keep (big c (wrz c hc))) (fun p hp hc => ?_) ha hb hp st (Fr.keeps F hk) (News.grown N hk) ?_ done
  · simp only [List.mem_cons, List.not_mem_nil, or_false] at hm
    rcases hm with e | e | e | e | e | e | e
    · exact absurd (e ▸ ltL : @LT.lt Nat _ (z + 4) z) (by (first | exact om115 | omega))
    · exact absurd (e ▸ ltL : @LT.lt Nat _ (z + 2) z) (by (first | exact om41 | omega))
    · exact absurd (e ▸ ltL : @LT.lt Nat _ (z + 3) z) (by (first | exact om116 | omega))
    · exact absurd (e ▸ ltL : @LT.lt Nat _ z z) (by (first | exact om117 | omega))
    · exact absurd (e ▸ ltL : @LT.lt Nat _ (z + 1) z) (by (first | exact om118 | omega))
    · exact h1L e.symm
    · exact h2L e.symm
  · have := big p.1 (wrz _ hc)
    rw [(N p hp).1] at this; cases this
  · rintro i v1 v2 h tk E' hi ⟨x, y, hx, hy, e⟩ F₁ N₁
    have e1 : v1 = x ∧ v2 = y := by
      have := congrArg Array.toList e
      simpa using this
    obtain ⟨rfl, rfl⟩ := e1
    exact turn i v1 v2 h tk E' (by simpa using hx) (by simpa using hy) F₁ N₁
end
end
section
section
variable {prog : Program} {w : World} {A : Around} {E : Value → Shared → Prop} {s : Shared} {env : Env} {h₀ : Heap} {x : Str} {body : List Stmt} {R : Result → Shared → Prop}
inductive CellNext (h₀ : Heap) (L I c : Addr) (it : Obj) (Jn : (Str → Option Value) → List (Addr × Obj) → Prop) (s₁ s₂ : Shared) : Prop
  | mk (h' : Heap) (tk : Nat) (m' : Str → Option Value) (news' : List (Addr × Obj)) (oc : Obj) (v : Option Value) (e : s₂ = { s₁ with heap := h', toks := tk }) (F : Fr h₀ L h' m') (N : News h₀ L h' ((I, it) :: (c, oc) :: news')) (d : oc.data = .cell v) (off : ∀ p ∈ news', p.1 ≠ I ∧ p.1 ≠ c) (j : Jn m' news') : CellNext h₀ L I c it Jn s₁ s₂
inductive CellI (h₀ : Heap) (L I c : Addr) (n : Nat) (St : Nat → Heap → Prop) (J : Nat → (Str → Option Value) → List (Addr × Obj) → Prop) (s : Shared) (k : Nat) (s' : Shared) : Prop
  | mk (i : Nat) (h : Heap) (tk : Nat) (m : Str → Option Value) (it oc : Obj) (v : Option Value) (nw : List (Addr × Obj)) (ek : k = n - i) (hi : i ≤ n) (e : s' = { s with heap := h, toks := tk }) (st : St i h) (F : Fr h₀ L h m) (N : News h₀ L h ((I, it) :: (c, oc) :: nw)) (d : oc.data = .cell v) (off : ∀ p ∈ nw, p.1 ≠ I ∧ p.1 ≠ c) (j : J i m nw) : CellI h₀ L I c n St J s k s'
noncomputable def CellEnd (h₀ : Heap) (L I c : Addr) (it : Obj) (Jn : (Str → Option Value) → List (Addr × Obj) → Prop) (s₁ : Shared) (R : Result → Shared → Prop) (f : Flow) (s₂ : Shared) : Prop :=
  match f with
  | .ret v => R (.ok (.ret v)) s₂
  | .brk => R (.ok .next) s₂
  | _ => CellNext h₀ L I c it Jn s₁ s₂
theorem CellEnd.intro {L I c : Addr} {it oc : Obj} {v : Option Value} {Jn : (Str → Option Value) → List (Addr × Obj) → Prop} {s₁ : Shared} {h' : Heap} {tk : Nat} {m' : Str → Option Value} {news' : List (Addr × Obj)} (F : Fr h₀ L h' m') (N : News h₀ L h' ((I, it) :: (c, oc) :: news')) (hd : oc.data = .cell v) (hI : ∀ p ∈ news', p.1 ≠ I ∧ p.1 ≠ c) (hj : Jn m' news') :
    CellEnd h₀ L I c it Jn s₁ R .next { s₁ with heap := h', toks := tk } := ⟨h', tk, m', news', oc, v, rfl, F, N, hd, hI, hj⟩

theorem for_cell_at {I c : Addr} {px : Pos} {ex : List Addr} {n : Nat} {P : Nat → Value → Prop} {St : Nat → Heap → Prop} {L : Addr} {m₀ : Str → Option Value} {news : List (Addr × Obj)} {it0 oc0 : Obj} {v0 : Option Value} (J : Nat → (Str → Option Value) → List (Addr × Obj) → Prop)
    (W : Walks prog w A I (I :: ex) [I] n P St) (hL : L ∉ I :: ex) (hc : c ∉ ex) (hit : ∀ i h, St i h → ∃ o, h.get? I = some o) (hk : env.scope.kind = .function) (hx : env.kindOf x = some .cell) (hcl : env.cells.lookup x = some c)
    (hex : ∀ b ∈ ex, (∃ o, h₀.get? b = some o) ∨ ∃ o, ∀ i m n, J i m n → (b, o) ∈ n) (hof : ∀ p ∈ news, p.1 ≠ I ∧ p.1 ≠ c) (hIc : I ≠ c) (h0 : St 0 s.heap) (F : Fr h₀ L s.heap m₀) (N : News h₀ L s.heap ((I, it0) :: (c, oc0) :: news)) (hd : oc0.data = .cell v0) (hj : J 0 m₀ news)
    (turn : ∀ i v m₁ news₁ it oc h tk (E' : Value → Shared → Prop), i < n → P i v → J i m₁ news₁ → (∀ p ∈ news₁, p.1 ≠ I ∧ p.1 ≠ c) → oc.data = .cell (some v) → St (i + 1) h → Fr h₀ L h m₁ → News h₀ L h ((I, it) :: (c, oc) :: news₁) →
      wpAny (model prog w) A (execs body env) (CellEnd h₀ L I c it (J (i + 1)) { s with heap := h, toks := tk } R) E' { s with heap := h, toks := tk })
    (done : ∀ m₁ news₁ oc v h tk, J n m₁ news₁ → oc.data = .cell v → (∀ p ∈ news₁, p.1 ≠ c) → Fr h₀ L h m₁ → News h₀ L h ((c, oc) :: news₁) → R (.ok .next) { s with heap := h, toks := tk }) :
    codeAny (model prog w) A (.forLoop (.Name x px) (.ref I) body [] env) R s := by
  refine codeAny_forLoop (CellI h₀ L I c n St J s) ?_ n
    ⟨0, s.heap, s.toks, m₀, it0, oc0, v0, news, rfl, Nat.zero_le _, rfl, h0, F, N, hd, hof, hj⟩
  rintro kn s' ⟨i, h, tk, m, it, oc, v, nw, rfl, hi, rfl, st, F, N, hdc, off, hj⟩
  have hIx := N _ (.head _)
  have hcx := N _ (.tail _ (.head _))
  have keepF : ∀ {h1 h2 : Heap}, (∀ b o, b ∉ [I] → h1.get? b = some o → h2.get? b = some o) → ∀ {m1}, Fr h₀ L h1 m1 → Fr h₀ L h2 m1 := fun k _ F => ⟨F.ns.at' fun o e => k _ o (fun q => hIx.2.1 (List.mem_singleton.mp q).symm) e, fun b o e => k b o (fun q => by rw [List.mem_singleton.mp q, hIx.2.2] at e; cases e) (F.keep b o e), F.above⟩
  rcases Nat.lt_or_ge i n with hlt | hge
  · refine W.item i _ _ _ hlt st fun v₁ h₁ tk₁ hP st₁ hk₁ => ?_
    have F₁ := keepF hk₁ F
    obtain ⟨it', hit'⟩ := hit _ _ st₁
    have hoc₁ : h₁.get? c = some oc := hk₁ _ _ (fun q => hIc (List.mem_singleton.mp q).symm) hcx.1
    refine wpAny_assign_Name (wpAny_storeName_cell hk hx hcl ⟨oc, hoc₁, hdc⟩ fun h₂ hv₂ hs₂ => ?_)
    obtain ⟨oc', ho', hd'⟩ := hv₂
    have k₂ : ∀ b o, b ≠ c → h₁.get? b = some o → h₂.get? b = some o := fun b o hb e => (hs₂.2 b hb).trans e
    have F₂ : Fr h₀ L h₂ m := ⟨F₁.ns.at' fun o e => k₂ _ o (fun q => hcx.2.1 q.symm) e, fun b o e => k₂ b o (fun q => by rw [q, hcx.2.2] at e; cases e) (F₁.keep b o e), F₁.above⟩
    have N₂ : News h₀ L h₂ ((I, it') :: (c, oc') :: nw) := fun p hp => by
      rcases List.mem_cons.mp hp with rfl | hp
      · exact ⟨k₂ _ _ hIc hit', hIx.2⟩
      · rcases List.mem_cons.mp hp with rfl | hp
        · exact ⟨ho', hcx.2⟩
        · have h1 := N p (.tail _ (.tail _ hp))
          exact ⟨k₂ _ _ (off p hp).2 (hk₁ _ _ (fun q => (off p hp).1 (List.mem_singleton.mp q)) h1.1), h1.2⟩
    have st₂ : St (i + 1) h₂ := W.frame _ _ _ st₁ fun b hb o e => k₂ b o (fun q => by
      rcases List.mem_cons.mp hb with r | r
      · exact hIc (r.symm.trans q)
      · exact hc (q ▸ r)) e
    refine wpAny_mono (turn i v₁ m nw it' oc' h₂ tk₁ _ hlt hP hj off hd' st₂ F₂ N₂) (fun f s₃ p => ?_) fun _ _ e => e
    have fin : CellNext h₀ L I c it' (J (i + 1)) { s with heap := h₂, toks := tk₁ } s₃ →
        ∃ m', m' < n - i ∧ (CellI h₀ L I c n St J s) m' s₃ := by
      rintro ⟨h', tk', m', news', oc'', v'', e, F', N', hd'', ho, hj'⟩
      refine ⟨n - (i + 1), by (first | exact om10 hlt | omega), i + 1, h', tk', m', it', oc'', v'', news', rfl, hlt, e, W.frame _ _ _ st₂ fun b hb o e2 => ?_, F', N', hd'', ho, hj'⟩
      rcases List.mem_cons.mp hb with r | r
      · rw [r, (N₂ _ (.head _)).1] at e2
        rw [r, ← e2]; exact (N' _ (.head _)).1
      · rcases hex b r with ⟨o', ho'⟩ | ⟨o', ho'⟩
        · have e3 := F₂.keep _ _ ho'
          rw [e2] at e3
          rw [Option.some.inj e3]; exact F'.keep _ _ ho'
        · have e3 := (N₂ _ (.tail _ (.tail _ (ho' _ _ _ hj)))).1
          rw [e2] at e3
          rw [Option.some.inj e3]; exact (N' _ (.tail _ (.tail _ (ho' _ _ _ hj')))).1
    cases f with
    | ret v => exact p
    | brk => exact p
    | next => exact fin p
    | cont => exact fin p
  · have : i = n := Nat.le_antisymm hi hge
    subst this
    refine W.done _ _ _ st fun h' tk' hk => ?_
    refine wpAny_pure (done m nw oc v h' tk' hj hdc (fun p hp => (off p hp).2) (keepF hk F) fun p hp => ?_)
    have hpI : p.1 ≠ I := by
      rcases List.mem_cons.mp hp with rfl | hp
      · exact hIc.symm
      · exact (off p hp).1
    exact ⟨hk _ _ (fun q => hpI (List.mem_singleton.mp q)) (N p (.tail _ hp)).1, (N p (.tail _ hp)).2⟩

variable {L c : Addr} {px : Pos} {m₀ : Str → Option Value} {news : List (Addr × Obj)} {oc0 : Obj} {v0 : Option Value}
theorem for_cell_list {l : Addr} {vs : List Value} {nn : Nat} (J : Nat → (Str → Option Value) → List (Addr × Obj) → Prop) (hh : A.handled = none) (hk : env.scope.kind = .function) (hx : env.kindOf x = some .cell) (hcl : env.cells.lookup x = some c)
    (F : Fr h₀ L s.heap m₀) (N : News h₀ L s.heap ((c, oc0) :: news)) (hd : oc0.data = .cell v0) (hof : ∀ p ∈ news, p.1 ≠ c) (hl : s.heap.get? l = some (listOf vs.toArray nn)) (hlL : l ≠ L) (hlc : c ≠ l) (hex : (∃ o, h₀.get? l = some o) ∨ ∃ o, ∀ i m n, J i m n → (l, o) ∈ n) (hj : J 0 m₀ news)
    (turn : ∀ I, (∀ p ∈ (c, oc0) :: news, p.1 < I) → ∀ i v m₁ news₁ it oc h tk (E' : Value → Shared → Prop), vs[i]? = some v → J i m₁ news₁ → (∀ p ∈ news₁, p.1 ≠ I ∧ p.1 ≠ c) → oc.data = .cell (some v) → Fr h₀ L h m₁ → News h₀ L h ((I, it) :: (c, oc) :: news₁) →
      wpAny (model prog w) A (execs body env) (CellEnd h₀ L I c it (J (i + 1)) { s with heap := h, toks := tk } R) E' { s with heap := h, toks := tk })
    (done : ∀ m₁ news₁ oc v h tk, J vs.length m₁ news₁ → oc.data = .cell v → (∀ p ∈ news₁, p.1 ≠ c) → Fr h₀ L h m₁ → News h₀ L h ((c, oc) :: news₁) → R (.ok .next) { s with heap := h, toks := tk }) :
    wpAny (model prog w) A (pyIter (.ref l)) (fun it s₂ => codeAny (model prog w) A (.forLoop (.Name x px) it body [] env) R s₂) E s := by
  have hls : s.heap.IsList l vs.toArray := ⟨_, hl, rfl, _, rfl⟩
  have hne : l ≠ s.heap.objs.size := Nat.ne_of_lt (Heap.lt_size hl)
  have lt : ∀ p ∈ (c, oc0) :: news, p.1 < s.heap.objs.size := fun p hp => Heap.lt_size (N p hp).1
  refine wpAny_pyIter_list hls ?_
  refine for_cell_at (s := { s with heap := s.heap.push _ }) (I := s.heap.objs.size) (ex := [l]) (it0 := { cls := .type "list_iterator", data := .fields #[.ref l, .int 0 0] }) J (Walks.list hh _ l hne vs.toArray) ?_ (fun q => hlc (List.mem_singleton.mp q)) (fun i h st => let ⟨⟨o, e, _⟩, _⟩ := st; ⟨o, e⟩) hk hx hcl (fun b hb => by rw [List.mem_singleton.mp hb]; exact hex)
    (fun p hp => ⟨Nat.ne_of_lt (lt p (.tail _ hp)), hof p hp⟩) (Nat.ne_of_gt (lt (c, oc0) (.head _))) ⟨⟨_, Heap.get?_push_size _ rfl, rfl, rfl⟩, hls.at fun o e => Heap.get?_push_of_some _ e⟩ (F.push _) (fun p hp => ?_) hd hj ?_ ?_
  · intro hm
    rcases List.mem_cons.mp hm with e | hm
    · exact new_ne_loc F e
    · exact hlL (List.mem_singleton.mp hm).symm
  · rcases List.mem_cons.mp hp with rfl | hp
    · exact ⟨Heap.get?_push_size _ rfl, (new_ne_loc F).symm, new_none_base F⟩
    · exact ⟨Heap.get?_push_of_some _ (N p hp).1, (N p hp).2⟩
  · intro i v m₁ news₁ it oc h tk E' hin hP hJ hof' hdo _ F₁ N₁
    exact turn _ lt i v m₁ news₁ it oc h tk E' (by simpa using hP) hJ hof' hdo F₁ N₁
  · intro m₁ news₁ oc v h tk hJ hdo ho F₁ N₁
    exact done m₁ news₁ oc v h tk (by simpa using hJ) hdo ho F₁ N₁
end
section
variable {prog : Program} {w : World} {A : Around} {E : Value → Shared → Prop} {s : Shared} {env : Env} {h₀ : Heap} {x : Str} {body : List Stmt}
theorem iter_range {r : Addr} {a b : Int} {n : Nat} {t u v : Tok} {Q : Value → Shared → Prop} (hr : IsRange s.heap r a b 1 t u v) (ha : -1000000 ≤ a) (hb : b ≤ 1000000) (hab : a + n = b)
    (h : ∀ o : Obj, o.isFreed = false → IsRangeIter (s.heap.push o) s.heap.objs.size (a + ((0 : Nat) : Int) * 1) ((n : Int) - ((0 : Nat) : Int)) 1 → Q (.ref s.heap.objs.size) { s with heap := s.heap.push o }) : wpAny (model prog w) A (pyIter (.ref r)) Q E s := by
  refine wpAny_pyIter_range hr (small_one (by (first | exact om390 ha | omega)) (by (first | exact om548 hab hb | omega)) (by (first | exact om549 hab ha | omega)) (by (first | exact om391 hb | omega))) ?_
  have e : Builtin.Range.rangeSize a b 1 = (n : Int) := by rw [rangeSize_one]; split <;> (first | exact om550 hab | exact om551 hab (by walk_at "my asm") | omega)
  rw [e]
  refine h _ rfl ?_
  have := Heap.get?_push_size s.heap (o := { cls := .type "range_iterator", data := .fields #[rawInt a, rawInt (n : Int), rawInt 1] }) rfl
  simpa using this
theorem loop_range {r : Addr} {a b : Int} {n : Nat} {t u v : Tok} {Q : Flow → Shared → Prop} {m₀ : Str → Option Value} {news : List (Addr × Obj)} (J : Nat → (Str → Option Value) → List (Addr × Obj) → Prop) (hh : A.handled = none) (hr : IsRange s.heap r a b 1 t u v) (ha : -1000000 ≤ a) (hb : b ≤ 1000000) (hab : a + n = b)
    (F : Fr h₀ env.locals s.heap m₀) (N : News h₀ env.locals s.heap news) (hj : J 0 m₀ news)
    (turn : ∀ i u m₁ news₁ I it h tk, i < n → J i m₁ news₁ → (∀ p ∈ news₁, p.1 ≠ I) → (∀ p ∈ news, p.1 < I) → Fr h₀ env.locals h (fun y => if y = x then some (.int (a + (i : Int)) u) else m₁ y) → News h₀ env.locals h ((I, it) :: news₁) →
      wpAny (model prog w) A (execs body env) (TurnEnd h₀ env.locals I it (J (i + 1)) { s with heap := h, toks := tk } Q) E { s with heap := h, toks := tk })
    (done : ∀ m₁ news₁ h tk, J n m₁ news₁ → Fr h₀ env.locals h m₁ → News h₀ env.locals h news₁ → Q .next { s with heap := h, toks := tk }) :
    wpAny (model prog w) A (pyIter (.ref r)) (fun it s₂ => LoopAtV prog w A h₀ env x body Q E it s₂) E s := by
  refine iter_range hr ha hb hab fun o ho st => ?_
  refine loop_at (s := { s with heap := s.heap.push o }) (ex := []) J (LCg.range_walks hh a n) ?_ (new_none_base F) (fun i h st => ⟨_, st⟩) (fun b hb => nomatch hb) (fun p hp => Nat.ne_of_lt (Heap.lt_size (N p hp).1)) st (F.push _) (fun p hp => ⟨Heap.get?_push_of_some _ (N p hp).1, (N p hp).2⟩) hj ?_ done
  · intro hm
    exact new_ne_loc F (List.mem_singleton.mp hm)
  · rintro i v m₁ news₁ it h tk hin ⟨u, rfl⟩ hJ hof F₁ N₁
    exact turn i u m₁ news₁ _ it h tk hin hJ hof (fun p hp => Heap.lt_size (N p hp).1) F₁ N₁
variable {R : Result → Shared → Prop} {L c : Addr} {px : Pos} {m₀ : Str → Option Value} {news : List (Addr × Obj)} {oc0 : Obj} {v0 : Option Value}
theorem for_cell_range {r : Addr} {a b : Int} {n : Nat} {t u v : Tok} (J : Nat → (Str → Option Value) → List (Addr × Obj) → Prop) (hh : A.handled = none) (hr : IsRange s.heap r a b 1 t u v) (ha : -1000000 ≤ a) (hb : b ≤ 1000000) (hab : a + n = b) (hk : env.scope.kind = .function) (hx : env.kindOf x = some .cell) (hcl : env.cells.lookup x = some c)
    (F : Fr h₀ L s.heap m₀) (N : News h₀ L s.heap ((c, oc0) :: news)) (hd : oc0.data = .cell v0) (hof : ∀ p ∈ news, p.1 ≠ c) (hj : J 0 m₀ news)
    (turn : ∀ I, (∀ p ∈ (c, oc0) :: news, p.1 < I) → ∀ i u m₁ news₁ it oc h tk (E' : Value → Shared → Prop), i < n → J i m₁ news₁ → (∀ p ∈ news₁, p.1 ≠ I ∧ p.1 ≠ c) → oc.data = .cell (some (.int (a + (i : Int)) u)) → IsRangeIter h I (a + ((i + 1 : Nat) : Int) * 1) ((n : Int) - ((i + 1 : Nat) : Int)) 1 → Fr h₀ L h m₁ → News h₀ L h ((I, it) :: (c, oc) :: news₁) →
      wpAny (model prog w) A (execs body env) (CellEnd h₀ L I c it (J (i + 1)) { s with heap := h, toks := tk } R) E' { s with heap := h, toks := tk })
    (done : ∀ m₁ news₁ oc v h tk, J n m₁ news₁ → oc.data = .cell v → (∀ p ∈ news₁, p.1 ≠ c) → Fr h₀ L h m₁ → News h₀ L h ((c, oc) :: news₁) → R (.ok .next) { s with heap := h, toks := tk }) :
    wpAny (model prog w) A (pyIter (.ref r)) (fun it s₂ => codeAny (model prog w) A (.forLoop (.Name x px) it body [] env) R s₂) E s := by
  have lt : ∀ p ∈ (c, oc0) :: news, p.1 < s.heap.objs.size := fun p hp => Heap.lt_size (N p hp).1
  refine iter_range hr ha hb hab fun o ho st => ?_
  refine for_cell_at (s := { s with heap := s.heap.push o }) (I := s.heap.objs.size) (ex := []) (it0 := o) J (LCg.range_walks hh a n) ?_ (fun q => nomatch q) (fun i h st => ⟨_, st⟩) hk hx hcl (fun b hb => nomatch hb)
    (fun p hp => ⟨Nat.ne_of_lt (lt p (.tail _ hp)), hof p hp⟩) (Nat.ne_of_gt (lt (c, oc0) (.head _))) st (F.push _) (fun p hp => ?_) hd hj ?_ done
  · intro hm
    exact new_ne_loc F (List.mem_singleton.mp hm)
  · rcases List.mem_cons.mp hp with rfl | hp
    · exact ⟨Heap.get?_push_size _ ho, (new_ne_loc F).symm, new_none_base F⟩
    · exact ⟨Heap.get?_push_of_some _ (N p hp).1, (N p hp).2⟩
  · rintro i v m₁ news₁ it oc h tk E' hin ⟨u, rfl⟩ hJ hof' hdo st₁ F₁ N₁
    exact turn _ lt i u m₁ news₁ it oc h tk E' hin hJ hof' hdo st₁ F₁ N₁
end
end
section
section
variable {prog : Program} {w : World} {A : Around} {E : Value → Shared → Prop} {s : Shared} {env : Env}
variable {elt i1 t2 i2 : Expr} {x1 : Str} {px : Pos} {scope : Scope} {cl : List (Str × Addr)} {pos : Pos} {RR : Value → Addr → Result → Shared → Prop} {h₀ : Heap} {L : Addr} {m : Str → Option Value} {news : List (Addr × Obj)}
noncomputable def OutTurn (prog : Program) (w : World) (A : Around) (env : Env) (s : Shared) (cl : List (Str × Addr)) (scope : Scope) (pos : Pos) (elt : Expr) (x1 : Str) (px : Pos) (i1 t2 i2 : Expr) (n : Nat) (P : Nat → Value → Prop) (J : Nat → List Value → Prop) : Prop :=
  ∀ C D I, s.heap.objs.size ≤ I → I < D → D < C → ∀ i v ys h tk k it (mC : Str → Option Value) (E' : Value → Shared → Prop), i < n → P i v → J i ys → Fr s.heap C h (fun z => if z = x1 then some v else mC z) → News s.heap C h [(D, listOf ys.toArray k), (I, it)] →
      wpAny (model prog w) A (eval i2 (compEnvC scope cl C env)) (fun xv s₁ => wpAny (model prog w) A (pyIter xv) (fun it2 s₂ => codeAny (model prog w) A (.compStart (lc2 elt (.Name x1 px) i1 t2 i2 scope pos) 1 it2 (.ref D) (compEnvC scope cl C env)) (OutEnd s.heap C D I it (J (i + 1)) { s with heap := h, toks := tk }) s₂) E' s₁) E' { s with heap := h, toks := tk }
theorem comp2_walk {ex : List Addr} {n : Nat} {P : Nat → Value → Prop} {St : Nat → Heap → Prop}
    (o : Obj) (ho : o.isFreed = false) (W : Walks prog w A s.heap.objs.size (s.heap.objs.size :: ex) [s.heap.objs.size] n P St) (hit : ∀ i h, St i h → ∃ o, h.get? s.heap.objs.size = some o) (st : St 0 (s.heap.push o)) (hxs : ∀ b ∈ ex, ∃ o, s.heap.get? b = some o)
    (hs : ∀ C x, foldedSetIterable i2 (compEnvC scope cl C env) x = pure x) (hcell : ∀ y ∈ scope.names, y.2 ≠ .cell) (hkind : scope.kind = .function) (hx : scope.names.lookup x1 = some .local) (F : Fr h₀ L s.heap m) (N : News h₀ L s.heap news) (J : Nat → List Value → Prop) (hj : J 0 [])
    (turn : OutTurn prog w A env s cl scope pos elt x1 px i1 t2 i2 n P J) (done : CompEndR s h₀ L m news n (fun i ys nw => nw = news ∧ J i ys) RR) :
    CompGo prog w A env cl scope (lc2 elt (.Name x1 px) i1 t2 i2 scope pos) E RR (.ref s.heap.objs.size) { s with heap := s.heap.push o } := by
  have up : ∀ b o', s.heap.get? b = some o' → (s.heap.push o).get? b = some o' := fun b o' e => Heap.get?_push_of_some _ e
  have hsz : (s.heap.push o).objs.size = s.heap.objs.size + 1 := Heap.size_push ..
  have hIo : (s.heap.push o).get? s.heap.objs.size = some o := Heap.get?_push_size _ ho
  unfold CompGo
  refine wpAny_newObj_type (wpAny_newFunctionEnv hcell (by intro y hy; simp at hy) (fun h₁ hns₁ hsb₁ => ?_) hkind)
  dsimp only at hns₁ hsb₁ ⊢
  generalize hH2 : (s.heap.push o).push { cls := .type "list", dict := none, data := .seq ([] : List Value).toArray } = H2 at hns₁ hsb₁ ⊢
  have hC : H2.objs.size = s.heap.objs.size + 2 := by rw [← hH2, Heap.size_push, hsz]
  rw [hsz]
  have big : ∀ c, s.heap.objs.size ≤ c → s.heap.get? c = none := fun c hc => by
    cases e : s.heap.get? c with
    | none => rfl
    | some o => exact absurd (Heap.lt_size e) (Nat.not_lt.mpr hc)
  have hne : ∀ b, b < s.heap.objs.size + 2 → b ≠ H2.objs.size := fun b h => Nat.ne_of_lt (by rw [hC]; exact h)
  have old1 : ∀ b o', (s.heap.push o).get? b = some o' → h₁.get? b = some o' := fun b o' e => hsb₁.extBut b o' (hne b (by have := Heap.lt_size e; rw [hsz] at this; exact Nat.lt_succ_of_lt this)) (Heap.get?_push_of_some _ (hH2 ▸ Heap.get?_push_of_some _ e))
  have old : ∀ b o', s.heap.get? b = some o' → h₁.get? b = some o' := fun b o' e => old1 b o' (up b o' e)
  have hacc : h₁.get? (s.heap.objs.size + 1) = some (listOf ([] : List Value).toArray 0) := hsb₁.extBut _ _ (hne _ (Nat.lt_succ_self _)) (Heap.get?_push_of_some _ (hH2 ▸ hsz ▸ Heap.get?_push_size _ rfl))
  have F₁ : Fr s.heap H2.objs.size h₁ (fun x => ([] : List (Str × Value)).reverse.lookup x) := ⟨hns₁, old, by rw [hC]; exact Nat.le_add_right _ _⟩
  have N₁ : News s.heap H2.objs.size h₁ [(s.heap.objs.size + 1, listOf ([] : List Value).toArray 0), (s.heap.objs.size, o)] := List.forall_mem_cons.mpr ⟨⟨hacc, hne _ (Nat.lt_succ_self _), big _ (Nat.le_succ _)⟩, List.forall_mem_cons.mpr ⟨⟨old1 _ _ hIo, hne _ (by (first | exact om39 | omega)), big _ (Nat.le_refl _)⟩, List.forall_mem_nil _⟩⟩
  have st₁ : St 0 h₁ := W.frame _ _ _ st fun b _ o' e => old1 b o' e
  obtain ⟨oL, hoL⟩ := loc_none F
  have loop : ∀ s₃ : Shared, s₃ = { s with heap := h₁, toks := s.toks + ([] : List (Str × Value)).length } →
      codeAny (model prog w) A (.compLoop (lc2 elt (.Name x1 px) i1 t2 i2 scope pos) 0 (.ref s.heap.objs.size) (.ref (s.heap.objs.size + 1)) (compEnvC scope cl H2.objs.size env))
        (RR (.ref (s.heap.objs.size + 1)) H2.objs.size) s₃ := by
    rintro s₃ rfl
    refine outer_loop (g := s.heap) (cenv := compEnvC scope cl H2.objs.size env) (hs _) W hit (lookup_relabel_local hx) (by simp [compEnvC, relabel, hkind]) (fun q => ?_) hxs (big _ (Nat.le_refl _)) (hne _ (by (first | exact om39 | omega))) (by refine neN ?_; (first | exact om37 | omega)) J
      (turn H2.objs.size (s.heap.objs.size + 1) s.heap.objs.size (Nat.le_refl _) (Nat.lt_succ_self _) (by rw [hC]; exact Nat.lt_succ_self _)) ?_ st₁ F₁ N₁ hj
    · obtain ⟨o', e⟩ := hxs _ q
      exact absurd (Heap.lt_size e) (by show ¬ @LT.lt Nat _ H2.objs.size s.heap.objs.size; rw [hC]; (first | exact om41 | omega))
    · intro ys k h tk m' hJ F₂ N₂
      have nD := N₂ _ (.head _)
      refine done ys news k (s.heap.objs.size + 1) H2.objs.size h tk m' ⟨rfl, hJ⟩ (fun p hp => ?_) ?_ (hne _ (Nat.lt_succ_self _)) ?_ F₂.ns ⟨F.ns.at' fun o' e => F₂.keep _ _ e, fun b o' e => F₂.keep b o' (F.keep b o' e), F.above⟩ (fun p hp => ?_) (fun p hp => Nat.lt_succ_of_lt (Heap.lt_size (N p hp).1))
      · have := Heap.lt_size (N p hp).1
        exact ⟨Nat.ne_of_lt (Nat.lt_succ_of_lt this), hne _ (Nat.lt_succ_of_lt (Nat.lt_succ_of_lt this))⟩
      · exact (hne L (Nat.lt_succ_of_lt (Nat.lt_succ_of_lt (Heap.lt_size hoL)))).symm
      · exact fresh_of F.keep (big _ (by rw [hC]; exact Nat.le_add_right _ _))
      · rcases List.mem_cons.mp hp with rfl | hp
        · exact ⟨nD.1, fun q => absurd (Heap.lt_size hoL) (by rw [← q]; exact Nat.not_lt.mpr (Nat.le_succ _)), fresh_of F.keep (big _ (Nat.le_succ _))⟩
        · exact ⟨F₂.keep _ _ (N p hp).1, (N p hp).2⟩
  exact codeAny_compStart_list (loop _ rfl) (W.self 0 _ _ _ st₁ (loop _ rfl))
theorem comp2_list {l : Addr} {vs : List Value} {nn : Nat} (hh : A.handled = none) (hl : s.heap.get? l = some (listOf vs.toArray nn)) (hs : ∀ C x, foldedSetIterable i2 (compEnvC scope cl C env) x = pure x) (hcell : ∀ y ∈ scope.names, y.2 ≠ .cell) (hkind : scope.kind = .function) (hx : scope.names.lookup x1 = some .local) (F : Fr h₀ L s.heap m) (N : News h₀ L s.heap news) (J : Nat → List Value → Prop) (hj : J 0 [])
    (turn : OutTurn prog w A env s cl scope pos elt x1 px i1 t2 i2 vs.length (fun i v => vs[i]? = some v) J) (done : CompEndR s h₀ L m news vs.length (fun i ys nw => nw = news ∧ J i ys) RR) :
    wpAny (model prog w) A (pyIter (.ref l)) (fun it s₂ => CompGo prog w A env cl scope (lc2 elt (.Name x1 px) i1 t2 i2 scope pos) E RR it s₂) E s := by
  have hls : s.heap.IsList l vs.toArray := ⟨_, hl, rfl, _, rfl⟩
  have hne : l ≠ s.heap.objs.size := Nat.ne_of_lt (Heap.lt_size hl)
  refine wpAny_pyIter_list hls ?_
  have W := Walks.list (prog := prog) (w := w) hh s.heap.objs.size l hne vs.toArray
  rw [show vs.toArray.size = vs.length from by simp] at W
  exact comp2_walk (ex := [l]) (P := fun i v => vs[i]? = some v) (St := fun i h => h.IsListIter s.heap.objs.size l i ∧ h.IsList l vs.toArray) _ rfl (by simpa using W) (fun i h st => let ⟨⟨o, e, _⟩, _⟩ := st; ⟨o, e⟩) ⟨⟨_, Heap.get?_push_size _ rfl, rfl, rfl⟩, hls.at fun o e => Heap.get?_push_of_some _ e⟩ (fun b hb => by rw [List.mem_singleton.mp hb]; exact ⟨_, hl⟩) hs hcell hkind hx F N J hj turn done
theorem comp2_range {r : Addr} {a b : Int} {n : Nat} {t u v : Tok} (hh : A.handled = none) (hr : IsRange s.heap r a b 1 t u v) (ha : -1000000 ≤ a) (hb : b ≤ 1000000) (hab : a + n = b) (hs : ∀ C x, foldedSetIterable i2 (compEnvC scope cl C env) x = pure x) (hcell : ∀ y ∈ scope.names, y.2 ≠ .cell) (hkind : scope.kind = .function) (hx : scope.names.lookup x1 = some .local) (F : Fr h₀ L s.heap m) (N : News h₀ L s.heap news) (J : Nat → List Value → Prop) (hj : J 0 [])
    (turn : OutTurn prog w A env s cl scope pos elt x1 px i1 t2 i2 n (fun i v => ∃ t, v = .int (a + (i : Int)) t) J) (done : CompEndR s h₀ L m news n (fun i ys nw => nw = news ∧ J i ys) RR) :
    wpAny (model prog w) A (pyIter (.ref r)) (fun it s₂ => CompGo prog w A env cl scope (lc2 elt (.Name x1 px) i1 t2 i2 scope pos) E RR it s₂) E s := by
  refine iter_range hr ha hb hab fun o ho st => ?_
  exact comp2_walk (ex := []) o ho (LCg.range_walks hh a n) (fun i h st => ⟨_, st⟩) st (fun b hb => nomatch hb) hs hcell hkind hx F N J hj turn done
end
section
variable {prog : Program} {w : World} {A : Around} {s : Shared} {elt t1 i1 i2 : Expr} {x2 : Str} {px : Pos} {scope : Scope} {pos : Pos} {cenv : Env} {I D : Addr} {it : Obj} {g : Heap} {E' : Value → Shared → Prop} {m : Str → Option Value} {ys : List Value} {k : Nat} {Jn : List Value → Prop} {s₀ : Shared}
theorem in_walk {I2 : Addr} {ex : List Addr} {n : Nat} {P : Nat → Value → Prop} {St : Nat → Heap → Prop} (o : Obj) (ho : o.isFreed = false) (hI2 : I2 = s.heap.objs.size) (W : Walks prog w A I2 (I2 :: ex) [I2] n P St) (hx : cenv.kindOf x2 = some .local) (hp : (cenv.scope.kind == .class || (cenv.scope.kind == .module && cenv.locals != cenv.globals)) = false)
    (hexL : cenv.locals ∉ ex) (hexD : D ∉ ex) (hDI : I ≠ D) (st : St 0 (s.heap.push o)) (F : Fr g cenv.locals s.heap m) (N : News g cenv.locals s.heap [(D, listOf ys.toArray k), (I, it)])
    (J : Nat → List Value → Prop) (hz : ∀ i ys, J i ys → ys.length ≤ 16777216) (hj : J 0 ys) (hn : ∀ ys, J n ys → Jn ys)
    (turn : ∀ j v ys h tk k (mC : Str → Option Value) (E' : Value → Shared → Prop), j < n → P j v → J j ys → (∀ z, z ≠ x2 → mC z = m z) → Fr g cenv.locals h (fun z => if z = x2 then some v else mC z) → News g cenv.locals h [(D, listOf ys.toArray k), (I, it)] →
      wpAny (model prog w) A (eval elt cenv) (fun y s₂ => ∃ h' tk', s₂ = { s with heap := h', toks := tk' } ∧ h.StaysIn h' ∧ J (j + 1) (ys ++ [y])) E' { s with heap := h, toks := tk })
    (hs : ∃ h tk, s = { s₀ with heap := h, toks := tk }) :
    codeAny (model prog w) A (.compStart (lc2 elt t1 i1 (.Name x2 px) i2 scope pos) 1 (.ref I2) (.ref D) cenv) (OutEnd g cenv.locals D I it Jn s₀) { s with heap := s.heap.push o } := by
  have lt : ∀ p ∈ [(D, listOf ys.toArray k), (I, it)], @LT.lt Nat _ p.1 I2 := fun p hp => by rw [hI2]; exact Heap.lt_size (N p hp).1
  have N' : News g cenv.locals (s.heap.push o) [(D, listOf ys.toArray k), (I, it)] := fun p hp => ⟨Heap.get?_push_of_some _ (N p hp).1, (N p hp).2⟩
  have inn : codeAny (model prog w) A (.compLoop (lc2 elt t1 i1 (.Name x2 px) i2 scope pos) 1 (.ref I2) (.ref D) cenv) (OutEnd g cenv.locals D I it Jn s₀) { s with heap := s.heap.push o } := by
    refine inner_loop (s := { s with heap := s.heap.push o }) (m₀ := m) W hx hp hexL hexD (by rw [hI2]; exact new_none_base F) (by rw [hI2]; exact (new_ne_loc F).symm) (Nat.ne_of_lt (lt _ (.head _))) (List.forall_mem_cons.mpr ⟨⟨Nat.ne_of_lt (lt _ (.tail _ (.head _))), hDI⟩, List.forall_mem_nil _⟩) J hz turn ?_ (fun _ _ => rfl) st (F.push _) N' hj
    intro ys' k' h' tk' m' hJ F' N''
    obtain ⟨h0, t0, e0⟩ := hs
    exact ⟨rfl, ys', k', h', tk', m', by rw [e0], hn _ hJ, F', N''⟩
  exact start_in inn (W.self 0 _ _ _ st inn)
theorem in_list {l : Addr} {vs : List Value} {nn : Nat} (hh : A.handled = none) (hl : s.heap.get? l = some (listOf vs.toArray nn)) (hlL : l ≠ cenv.locals) (hlD : l ≠ D) (hx : cenv.kindOf x2 = some .local) (hp : (cenv.scope.kind == .class || (cenv.scope.kind == .module && cenv.locals != cenv.globals)) = false)
    (hDI : I ≠ D) (F : Fr g cenv.locals s.heap m) (N : News g cenv.locals s.heap [(D, listOf ys.toArray k), (I, it)])
    (J : Nat → List Value → Prop) (hz : ∀ i ys, J i ys → ys.length ≤ 16777216) (hj : J 0 ys) (hn : ∀ ys, J vs.length ys → Jn ys)
    (turn : ∀ j v ys h tk k (mC : Str → Option Value) (E' : Value → Shared → Prop), vs[j]? = some v → J j ys → (∀ z, z ≠ x2 → mC z = m z) → Fr g cenv.locals h (fun z => if z = x2 then some v else mC z) → News g cenv.locals h [(D, listOf ys.toArray k), (I, it)] →
      wpAny (model prog w) A (eval elt cenv) (fun y s₂ => ∃ h' tk', s₂ = { s with heap := h', toks := tk' } ∧ h.StaysIn h' ∧ J (j + 1) (ys ++ [y])) E' { s with heap := h, toks := tk })
    (hs : ∃ h tk, s = { s₀ with heap := h, toks := tk }) :
    wpAny (model prog w) A (pyIter (.ref l)) (fun it2 s₂ => codeAny (model prog w) A (.compStart (lc2 elt t1 i1 (.Name x2 px) i2 scope pos) 1 it2 (.ref D) cenv) (OutEnd g cenv.locals D I it Jn s₀) s₂) E' s := by
  have hls : s.heap.IsList l vs.toArray := ⟨_, hl, rfl, _, rfl⟩
  have hne : l ≠ s.heap.objs.size := Nat.ne_of_lt (Heap.lt_size hl)
  refine wpAny_pyIter_list hls ?_
  have W := Walks.list (prog := prog) (w := w) hh s.heap.objs.size l hne vs.toArray
  rw [show vs.toArray.size = vs.length from by simp] at W
  exact in_walk (I2 := s.heap.objs.size) (ex := [l]) (P := fun i v => vs[i]? = some v) (St := fun i h => h.IsListIter s.heap.objs.size l i ∧ h.IsList l vs.toArray) _ rfl rfl (by simpa using W) hx hp (fun q => hlL (List.mem_singleton.mp q).symm) (fun q => hlD (List.mem_singleton.mp q).symm) hDI ⟨⟨_, Heap.get?_push_size _ rfl, rfl, rfl⟩, hls.at fun o e => Heap.get?_push_of_some _ e⟩ F N J hz hj hn (fun j v ys h tk k mC E' _ hP => turn j v ys h tk k mC E' hP) hs
theorem in_range {r : Addr} {a b : Int} {n : Nat} {t u v : Tok} (hh : A.handled = none) (hr : IsRange s.heap r a b 1 t u v) (ha : -1000000 ≤ a) (hb : b ≤ 1000000) (hab : a + n = b) (hx : cenv.kindOf x2 = some .local) (hp : (cenv.scope.kind == .class || (cenv.scope.kind == .module && cenv.locals != cenv.globals)) = false)
    (hDI : I ≠ D) (F : Fr g cenv.locals s.heap m) (N : News g cenv.locals s.heap [(D, listOf ys.toArray k), (I, it)])
    (J : Nat → List Value → Prop) (hz : ∀ i ys, J i ys → ys.length ≤ 16777216) (hj : J 0 ys) (hn : ∀ ys, J n ys → Jn ys)
    (turn : ∀ (j : Nat) (v : Value) ys h tk k (mC : Str → Option Value) (E' : Value → Shared → Prop), j < n → (∃ t, v = .int (a + (j : Int)) t) → J j ys → (∀ z, z ≠ x2 → mC z = m z) → Fr g cenv.locals h (fun z => if z = x2 then some v else mC z) → News g cenv.locals h [(D, listOf ys.toArray k), (I, it)] →
      wpAny (model prog w) A (eval elt cenv) (fun y s₂ => ∃ h' tk', s₂ = { s with heap := h', toks := tk' } ∧ h.StaysIn h' ∧ J (j + 1) (ys ++ [y])) E' { s with heap := h, toks := tk })
    (hs : ∃ h tk, s = { s₀ with heap := h, toks := tk }) :
    wpAny (model prog w) A (pyIter (.ref r)) (fun it2 s₂ => codeAny (model prog w) A (.compStart (lc2 elt t1 i1 (.Name x2 px) i2 scope pos) 1 it2 (.ref D) cenv) (OutEnd g cenv.locals D I it Jn s₀) s₂) E' s := by
  refine iter_range hr ha hb hab fun o ho st => ?_
  exact in_walk (ex := []) o ho rfl (LCg.range_walks hh a n) hx hp (fun q => nomatch q) (fun q => nomatch q) hDI st F N J hz hj hn turn hs
end
section
variable {prog : Program} {w : World} {A : Around} {s : Shared} {env : Env} {h₀ : Heap} {L : Addr} {m : Str → Option Value} {news : List (Addr × Obj)} {cl : List (Str × Addr)} {scope : Scope} {elt : Expr} {x : Str} {n : Nat} {P : Nat → Value → Prop}
theorem CompTurn.make (N : News h₀ L s.heap news) (J : Nat → List Value → List (Addr × Obj) → Prop)
    (turn : ∀ C D, s.heap.objs.size < D → D < C → ∀ i v ys made k h tk (mC : Str → Option Value) (E' : Value → Shared → Prop), i < n → P i v → J i ys made → Fr s.heap C h (fun y => if y = x then some v else mC y) → News s.heap C h ((D, listOf ys.toArray k) :: made) →
      wpAny (model prog w) A (eval elt (compEnvC scope cl C env)) (PairElt s.heap C (fun y nw => J (i + 1) (ys ++ [y]) (nw ++ made)) { s with heap := h, toks := tk }) E' { s with heap := h, toks := tk }) :
    CompTurn prog w A env s h₀ cl scope elt [] x news n P (fun i ys nw => ∃ made, nw = made ++ news ∧ (∀ p ∈ made, s.heap.get? p.1 = none) ∧ J i ys made) := by
  rintro g C D I gs hg less lt hI hID hDC i v ys nw it k h tk mC E' hi hP ⟨made, rfl, hmade, hJ⟩ off F1 N1
  have big : ∀ c, s.heap.objs.size ≤ c → s.heap.get? c = none := fun c hc => by
    cases e : s.heap.get? c with
    | none => rfl
    | some o => exact absurd (Heap.lt_size e) (Nat.not_lt.mpr hc)
  have keep : s.heap.StaysIn h := fun b o e => by
    by_cases hb : ∃ p ∈ news, b = p.1
    · obtain ⟨p, hp, rfl⟩ := hb
      have e1 := (N p hp).1
      rw [e] at e1
      rw [Option.some.inj e1]
      exact (N1 p (.tail _ (.tail _ (List.mem_append_right _ hp)))).1
    · exact F1.keep b o (less b o (fun p hp q => hb ⟨p, hp, q⟩) e)
  have hIs : @LE.le Nat _ s.heap.objs.size I := hI
  have hID' : @LT.lt Nat _ I D := hID
  have hDC' : @LT.lt Nat _ D C := hDC
  have F2 : Fr s.heap C h (fun y => if y = x then some v else mC y) := ⟨F1.ns, keep, by show @LE.le Nat _ s.heap.objs.size C; (first | exact om42 hI hID' hDC' | omega)⟩
  have N2 : News s.heap C h ((D, listOf ys.toArray k) :: made) := fun p hp => by
    rcases List.mem_cons.mp hp with rfl | hp
    · exact ⟨(N1 _ (.head _)).1, (N1 _ (.head _)).2.1, big _ (by show @LE.le Nat _ s.heap.objs.size D; (first | exact om43 hI hID' | omega))⟩
    · have := N1 p (.tail _ (.tail _ (List.mem_append_left _ hp)))
      exact ⟨this.1, this.2.1, hmade p hp⟩
  refine wpAny_tests_nil ?_
  rw [if_pos rfl]
  refine wpAny_mono (turn C D (by show @LT.lt Nat _ s.heap.objs.size D; (first | exact om44 hI hID' | omega)) hDC i v ys made k h tk mC E' hi hP hJ F2 N2) (fun y s₂ hs => ?_) fun _ _ e => e
  obtain ⟨h', tk', nw, rfl, k', hn, hJ'⟩ := hs
  have fresh : ∀ p ∈ nw, h.get? p.1 = none := fun p hp => (hn p hp).1
  refine ElemEnd.intro (Fr.keeps F1 k') (nw' := nw ++ (made ++ news)) (fun p hp => ?_) (fun p hp => ?_) ⟨nw ++ made, by rw [List.append_assoc], fun p hp => ?_, hJ'⟩
  · rcases List.mem_cons.mp hp with rfl | hp
    · exact ⟨k' _ _ (N1 _ (.head _)).1, (N1 _ (.head _)).2⟩
    · rcases List.mem_cons.mp hp with rfl | hp
      · exact ⟨k' _ _ (N1 _ (.tail _ (.head _))).1, (N1 _ (.tail _ (.head _))).2⟩
      · rcases List.mem_append.mp hp with hp | hp
        · refine ⟨(hn p hp).2, fun q => ?_, fresh_of F1.keep (fresh p hp)⟩
          obtain ⟨oC, hC⟩ := loc_none F1
          have := fresh p hp
          rw [q, hC] at this; cases this
        · have := N1 p (.tail _ (.tail _ hp))
          exact ⟨k' _ _ this.1, this.2⟩
  · rcases List.mem_append.mp hp with hp | hp
    · refine ⟨fun q => ?_, fun q => ?_⟩
      · have := fresh p hp
        rw [q, (N1 _ (.head _)).1] at this; cases this
      · have := fresh p hp
        rw [q, (N1 _ (.tail _ (.head _))).1] at this; cases this
    · exact off p hp
  · rcases List.mem_append.mp hp with hp | hp
    · exact fresh_of keep (fresh p hp)
    · exact hmade p hp
end
end
section
section
variable {prog : Program} {w : World} {A : Around} {E : Value → Shared → Prop} {R : Result → Shared → Prop} {s : Shared} {env : Env}
inductive TmpEnd (g : Heap) (C : Addr) (led : List (Addr × Obj)) (Jn : Value → Prop) (s₁ : Shared) (y : Value) (s₂ : Shared) : Prop
  | mk (h' : Heap) (tk : Nat) (m' : Str → Option Value) (e : s₂ = { s₁ with heap := h', toks := tk }) (F : Fr g C h' m') (N : News g C h' led) (j : Jn y) : TmpEnd g C led Jn s₁ y s₂
inductive TmpI (g : Heap) (C D : Addr) (n : Nat) (St : Nat → Heap → Prop) (J : Nat → List Value → Prop) (s : Shared) (k : Nat) (s' : Shared) : Prop
  | mk (i : Nat) (h : Heap) (tk : Nat) (m : Str → Option Value) (ys : List Value) (kk : Nat) (ek : k = n - i) (hi : i ≤ n) (e : s' = { s with heap := h, toks := tk }) (st : St i h) (F : Fr g C h m) (N : News g C h [(D, listOf ys.toArray kk)]) (j : J i ys) : TmpI g C D n St J s k s'
theorem TmpEnd.intro {g : Heap} {C : Addr} {led : List (Addr × Obj)} {Jn : Value → Prop} {s₁ : Shared} {y : Value} {h' : Heap} {tk : Nat} {m' : Str → Option Value} (F : Fr g C h' m') (N : News g C h' led) (hj : Jn y) : TmpEnd g C led Jn s₁ y { s₁ with heap := h', toks := tk } := ⟨h', tk, m', rfl, F, N, hj⟩
theorem tmp_loop {elt iter : Expr} {a b : Str} {pa pb tp : Pos} {kk : Nat} {scope : Scope} {pos : Pos} {cenv : Env} {I D w1 w2 : Addr} {fp : List Addr} {g : Heap} {n : Nat} {Pt : Nat → Array Value → Prop} {St : Nat → Heap → Prop} {Mid : Nat → Addr → Heap → Prop}
    (W : WalksU prog w A I fp [w1, w2] n Pt St Mid) (hh : A.handled = none) (hPt : ∀ i vals, Pt i vals → ∃ v1 v2, vals = #[v1, v2]) (hwr : ∀ i h, St i h → ∀ c ∈ [w1, w2], ∃ o, h.get? c = some o)
    (hLf : cenv.locals ∉ fp) (hDf : D ∉ fp) (hg : ∀ c ∈ [w1, w2], g.get? c = none) (hfg : ∀ c ∈ fp, c ∈ [w1, w2] ∨ ∃ o, g.get? c = some o)
    (ha : cenv.kindOf a = some .local) (hb : cenv.kindOf b = some .local) (hp : (cenv.scope.kind == .class || (cenv.scope.kind == .module && cenv.locals != cenv.globals)) = false)
    (J : Nat → List Value → Prop) (hz : ∀ i ys, J i ys → ys.length ≤ 16777216)
    (turn : ∀ i v1 v2 ys k h tk (mC : Str → Option Value) (E' : Value → Shared → Prop) b1 b2, i < n → Pt i #[v1, v2] → J i ys → Fr g cenv.locals h (fun z => if z = b then some v2 else if z = a then some v1 else mC z) → News g cenv.locals h [(D, listOf ys.toArray k), (w1, b1), (w2, b2)] →
      wpAny (model prog w) A (eval elt cenv) (TmpEnd g cenv.locals [(D, listOf ys.toArray k), (w1, b1), (w2, b2)] (fun y => J (i + 1) (ys ++ [y])) { s with heap := h, toks := tk }) E' { s with heap := h, toks := tk })
    (done : ∀ ys k h tk mC, J n ys → Fr g cenv.locals h mC → News g cenv.locals h [(D, listOf ys.toArray k)] → R (.ok .next) { s with heap := h, toks := tk })
    {m0 : Str → Option Value} {k0 : Nat} (st : St 0 s.heap) (F : Fr g cenv.locals s.heap m0) (N : News g cenv.locals s.heap [(D, listOf ([] : List Value).toArray k0)]) (hj : J 0 []) :
    codeAny (model prog w) A (.compLoop (.ListComp elt [⟨.Tuple [.Name a pa, .Name b pb] kk tp, iter, [], 0⟩] scope pos) 0 (.ref I) (.ref D) cenv) R s := by
  refine comp_turns (TmpI g cenv.locals D n St J s) ?_ n
    ⟨0, s.heap, s.toks, m0, [], k0, rfl, Nat.zero_le _, rfl, st, F, N, hj⟩
  rintro kn s' ⟨i, h, tk, m, ys, kd, rfl, hi, rfl, st, F, N, hj⟩
  have hCw : cenv.locals ∉ [w1, w2] := fun q => hLf (W.sub _ q)
  have hDw : D ∉ [w1, w2] := fun q => hDf (W.sub _ q)
  have keepF : ∀ {h1 h2 : Heap}, (∀ c o, c ∉ [w1, w2] → h1.get? c = some o → h2.get? c = some o) → ∀ {m1}, Fr g cenv.locals h1 m1 → Fr g cenv.locals h2 m1 := fun k _ F => ⟨F.ns.at' fun o e => k _ o hCw e, fun c o e => k c o (fun q => by rw [hg c q] at e; cases e) (F.keep c o e), F.above⟩
  have keepN : ∀ {h1 h2 : Heap}, (∀ c o, c ∉ [w1, w2] → h1.get? c = some o → h2.get? c = some o) → News g cenv.locals h1 [(D, listOf ys.toArray kd)] → News g cenv.locals h2 [(D, listOf ys.toArray kd)] := fun k N p hp => by
    have hpw : p.1 ∉ [w1, w2] := by rw [List.mem_singleton.mp hp]; exact hDw
    exact ⟨k _ _ hpw (N p hp).1, (N p hp).2⟩
  rcases Nat.lt_or_ge i n with hlt | hge
  · refine W.item i _ _ _ hlt st fun T vals h₁ tk₁ hPv hT hM hk₁ => ?_
    obtain ⟨v1, v2, rfl⟩ := hPt _ _ hPv
    refine W.go _ _ _ i T _ _ _ hM fun h₂ st₂ hk₂ => ?_
    have k12 : ∀ c o, c ∉ [w1, w2] → h.get? c = some o → h₂.get? c = some o := fun c o hc e => hk₂ c o hc (hk₁ c o hc e)
    have F₂ := keepF k12 F
    have N₂ := keepN k12 N
    have hT₂ : h₂.IsTuple T #[v1, v2] := hT.at fun o e => hk₂ T o (W.apart _ _ _ hM) e
    refine kcp_assign hh hT₂ ha hb hp F₂.ns fun h₃ tk₃ hn₃ hk₃ => ?_
    have F₃ : Fr g cenv.locals h₃ (fun z => if z = b then some v2 else if z = a then some v1 else m z) := ⟨hn₃, fun c o e => hk₃ c o (fun q => by
      have h1 := Heap.lt_size e
      rw [q] at h1
      exact absurd (Nat.lt_of_lt_of_le h1 F.above) (Nat.lt_irrefl _)) (F₂.keep c o e), F.above⟩
    have st₃ : St (i + 1) h₃ := W.frame _ _ _ st₂ fun c hc o e => hk₃ c o (fun q => hLf (q ▸ hc)) e
    obtain ⟨b1, hb1⟩ := hwr _ _ st₃ w1 (.head _)
    obtain ⟨b2, hb2⟩ := hwr _ _ st₃ w2 (.tail _ (.head _))
    have N₃ : News g cenv.locals h₃ [(D, listOf ys.toArray kd), (w1, b1), (w2, b2)] := List.forall_mem_cons.mpr ⟨⟨hk₃ _ _ (N₂ _ (.head _)).2.1 (N₂ _ (.head _)).1, (N₂ _ (.head _)).2⟩, List.forall_mem_cons.mpr ⟨⟨hb1, fun q => hCw (by rw [← q]; exact .head _), hg _ (.head _)⟩, List.forall_mem_cons.mpr ⟨⟨hb2, fun q => hCw (by rw [← q]; exact .tail _ (.head _)), hg _ (.tail _ (.head _))⟩, List.forall_mem_nil _⟩⟩⟩
    refine wpAny_tests_nil ?_
    rw [if_pos rfl]
    refine wpAny_mono (turn i v1 v2 ys kd h₃ tk₃ m _ b1 b2 hlt hPv hj F₃ N₃) (fun y s₄ h₄ => ?_) fun _ _ e => e
    obtain ⟨h₄, tk₄, m₄, rfl, F₄, N₄, hj'⟩ := h₄
    have st₄ : St (i + 1) h₄ := W.frame _ _ _ st₃ fun c hc o e => by
      rcases hfg c hc with q | ⟨o', ho'⟩
      · rcases List.mem_cons.mp q with q | q
        · rw [q, hb1] at e
          rw [q, ← e]; exact (N₄ _ (.tail _ (.head _))).1
        · rw [List.mem_singleton.mp q, hb2] at e
          rw [List.mem_singleton.mp q, ← e]; exact (N₄ _ (.tail _ (.tail _ (.head _)))).1
      · have e1 := F₃.keep _ _ ho'
        rw [e] at e1
        rw [Option.some.inj e1]; exact F₄.keep _ _ ho'
    have hu : UpdF D (listOf ys.toArray kd) [(D, listOf ys.toArray kd)] (fun o' => [(D, o')]) := .head fun p hp => nomatch hp
    refine append_is F₄ (News.sub N₄ (ms := [(D, listOf ys.toArray kd)]) fun p hp => by rw [List.mem_singleton.mp hp]; exact .head _) (.head _) hu (hz _ _ hj) fun h₅ F₅ N₅ kb => ⟨n - (i + 1), by (first | exact om10 hlt | omega), i + 1, h₅, tk₄, _, ys ++ [y], kd + 1, rfl, hlt, rfl, ?_, F₅, N₅, hj'⟩
    exact W.frame _ _ _ st₄ fun c hc o e => kb c o (fun q => hDf (q ▸ hc)) e
  · have : i = n := Nat.le_antisymm hi hge
    subst this
    refine W.done _ _ _ st fun h' tk' hk => ?_
    exact done ys kd h' tk' m hj (keepF hk F) (keepN hk N)
variable {elt iter : Expr} {a b : Str} {pa pb tp : Pos} {kk : Nat} {scope : Scope} {cl : List (Str × Addr)} {pos : Pos} {RR : Value → Addr → Result → Shared → Prop} {h₀ : Heap} {L : Addr} {m : Str → Option Value} {news : List (Addr × Obj)}
theorem tmp_enum {l : Addr} {vs : List Value} {nn : Nat} (hh : A.handled = none) (hl : s.heap.get? l = some (listOf vs.toArray nn))
    (hcell : ∀ y ∈ scope.names, y.2 ≠ .cell) (hkind : scope.kind = .function) (hxa : scope.names.lookup a = some .local) (hxb : scope.names.lookup b = some .local) (F : Fr h₀ L s.heap m) (N : News h₀ L s.heap news)
    (J : Nat → List Value → Prop) (hz : ∀ i ys, J i ys → ys.length ≤ 16777216) (hj : J 0 [])
    (turn : ∀ C D w1 w2, s.heap.objs.size ≤ w1 → w1 < C → s.heap.objs.size ≤ w2 → w2 < C → w1 < D → w2 < D → D < C → ∀ i t v2 ys k h tk (mC : Str → Option Value) (E' : Value → Shared → Prop) b1 b2, vs[i]? = some v2 → J i ys → Fr s.heap C h (fun z => if z = b then some v2 else if z = a then some (.int (i : Int) t) else mC z) → News s.heap C h [(D, listOf ys.toArray k), (w1, b1), (w2, b2)] →
      wpAny (model prog w) A (eval elt (compEnvC scope cl C env)) (TmpEnd s.heap C [(D, listOf ys.toArray k), (w1, b1), (w2, b2)] (fun y => J (i + 1) (ys ++ [y])) { s with heap := h, toks := tk }) E' { s with heap := h, toks := tk })
    (done : CompEndR s h₀ L m news vs.length (fun i ys nw => nw = news ∧ J i ys) RR) :
    wpAny (model prog w) A (call (.type "enumerate") [.ref l]) (fun xv s₁ => wpAny (model prog w) A (pyIter xv) (fun it s₂ => CompGo prog w A env cl scope (.ListComp elt [⟨.Tuple [.Name a pa, .Name b pb] kk tp, iter, [], 0⟩] scope pos) E RR it s₂) E s₁) E s := by
  have hs1 : s.heap.IsList l vs.toArray := ⟨_, hl, rfl, _, rfl⟩
  obtain ⟨z, hzz⟩ : ∃ z : Nat, z = s.heap.objs.size := ⟨_, rfl⟩
  have lt1 : @LT.lt Nat _ l z := by rw [hzz]; exact Heap.lt_size hl
  refine call_enumerate_list hs1 fun h' g1 g2 hsz hk => ?_
  rw [← hzz] at g1 g2 hsz ⊢
  have W := WalksT.enumerate (prog := prog) (w := w) hh (z + 1) z l (by refine neN ?_; (first | exact om37 | omega)) (by refine neN ?_; (first | exact om25 lt1 | omega)) (by refine neN ?_; (first | exact om24 lt1 | omega)) vs.toArray
  rw [show vs.toArray.size = vs.length from by simp] at W
  refine W.self 0 { s with heap := h' } _ _ ⟨⟨_, g1⟩, g2, hs1.at fun o e => hk _ o e⟩ ?_
  have big : ∀ c, z ≤ c → s.heap.get? c = none := fun c hc => by
    cases e : s.heap.get? c with
    | none => rfl
    | some o => exact absurd (Heap.lt_size e) (by rw [← hzz]; exact Nat.not_lt.mpr hc)
  obtain ⟨oL, hoL⟩ := loc_none F
  have ltL : @LT.lt Nat _ L z := by rw [hzz]; exact Heap.lt_size hoL
  unfold CompGo
  refine wpAny_newObj_type (wpAny_newFunctionEnv hcell (by intro y hy; simp at hy) (fun h₁ hns₁ hsb₁ => ?_) hkind)
  dsimp only at hns₁ hsb₁ ⊢
  generalize hH2 : h'.push { cls := .type "list", dict := none, data := .seq ([] : List Value).toArray } = H2 at hns₁ hsb₁ ⊢
  have hC : H2.objs.size = h'.objs.size + 1 := by rw [← hH2, Heap.size_push]
  have hz' : h'.objs.size = z + 2 := by rw [hsz]
  have hne : ∀ b, b < z + 3 → b ≠ H2.objs.size := fun b h => Nat.ne_of_lt (by rw [hC, hz']; exact h)
  have old1 : ∀ b o, h'.get? b = some o → h₁.get? b = some o := fun b o e => hsb₁.extBut b o (hne b (by have := Heap.lt_size e; rw [hz'] at this; exact Nat.lt_succ_of_lt this)) (Heap.get?_push_of_some _ (hH2 ▸ Heap.get?_push_of_some _ e))
  have hacc : h₁.get? h'.objs.size = some (listOf ([] : List Value).toArray 0) := hsb₁.extBut _ _ (hne _ (by rw [hz']; exact Nat.lt_succ_self _)) (Heap.get?_push_of_some _ (hH2 ▸ Heap.get?_push_size _ rfl))
  have F₁ : Fr s.heap H2.objs.size h₁ (fun x => ([] : List (Str × Value)).reverse.lookup x) := ⟨hns₁, fun b o e => old1 b o (hk b o e), by rw [hC, hz', ← hzz]; exact Nat.le_add_right z 3⟩
  have nD : s.heap.get? h'.objs.size = none := big _ (by rw [hz']; exact Nat.le_add_right _ _)
  have N₁ : News s.heap H2.objs.size h₁ [(h'.objs.size, listOf ([] : List Value).toArray 0)] := List.forall_mem_cons.mpr ⟨⟨hacc, hne _ (by rw [hz']; exact Nat.lt_succ_self _), nD⟩, List.forall_mem_nil _⟩
  have st₀ : (∃ old, IsEnum h' (z + 1) z ((0 : Nat) : Int) old) ∧ h'.IsListIter z l 0 ∧ h'.IsList l vs.toArray := ⟨⟨_, g1⟩, g2, hs1.at fun o e => hk _ o e⟩
  have st₁ := W.toU.frame 0 h' h₁ st₀ fun b _ o e => old1 b o e
  have loop : ∀ s₃ : Shared, s₃ = { s with heap := h₁, toks := s.toks + ([] : List (Str × Value)).length } →
      codeAny (model prog w) A (.compLoop (.ListComp elt [⟨.Tuple [.Name a pa, .Name b pb] kk tp, iter, [], 0⟩] scope pos) 0 (.ref (z + 1)) (.ref h'.objs.size) (compEnvC scope cl H2.objs.size env))
        (RR (.ref h'.objs.size) H2.objs.size) s₃ := by
    rintro s₃ rfl
    refine tmp_loop (g := s.heap) (cenv := compEnvC scope cl H2.objs.size env) (w1 := z + 1) (w2 := z) W.toU hh (fun i vals ⟨t, y, _, e⟩ => ⟨_, y, e⟩) (fun i h hst c hc => ?_) (fun hm => ?_) (fun hm => ?_) (fun c hc => big c ?_) (fun c hc => ?_) (lookup_relabel_local hxa) (lookup_relabel_local hxb) (by simp [compEnvC, relabel, hkind]) J hz ?_ ?_ st₁ F₁ N₁ hj
    · obtain ⟨⟨_, a1⟩, ⟨_, a2, _⟩, _⟩ := hst
      simp only [List.mem_cons, List.not_mem_nil, or_false] at hc
      rcases hc with rfl | rfl
      · exact ⟨_, a1⟩
      · exact ⟨_, a2⟩
    · simp only [List.mem_cons, List.not_mem_nil, or_false] at hm
      have e : @Eq Nat H2.objs.size (z + 3) := by rw [hC, hz']
      rcases hm with q | q | q
      · have q' : @Eq Nat H2.objs.size (z + 1) := q
        (first | exact om45 hsz hC q' | omega)
      · have q' : @Eq Nat H2.objs.size z := q
        (first | exact om46 hsz hC q' | omega)
      · have q' : @Eq Nat H2.objs.size l := q
        (first | exact om47 hsz hC q' lt1 | omega)
    · simp only [List.mem_cons, List.not_mem_nil, or_false] at hm
      have e : @Eq Nat h'.objs.size (z + 2) := hz'
      rcases hm with q | q | q
      · have q' : @Eq Nat h'.objs.size (z + 1) := q
        (first | exact om48 q' hsz | omega)
      · have q' : @Eq Nat h'.objs.size z := q
        (first | exact om49 hsz q' | omega)
      · have q' : @Eq Nat h'.objs.size l := q
        (first | exact om50 hsz q' lt1 | omega)
    · simp only [List.mem_cons, List.not_mem_nil, or_false] at hc
      rcases hc with rfl | rfl <;> (first | exact om30 | exact om29 | omega)
    · simp only [List.mem_cons, List.not_mem_nil, or_false] at hc
      rcases hc with rfl | rfl | rfl
      · exact .inl (.head _)
      · exact .inl (.tail _ (.head _))
      · exact .inr ⟨_, hl⟩
    · rintro i v1 v2 ys k h tk mC E' b1 b2 hi ⟨t, x, hx, e⟩ hJ F₂ N₂
      have e1 : v1 = .int (i : Int) t ∧ v2 = x := by
        have := congrArg Array.toList e
        simpa using this
      obtain ⟨rfl, rfl⟩ := e1
      have eC : @Eq Nat H2.objs.size (z + 3) := by rw [hC, hz']
      have eD : @Eq Nat h'.objs.size (z + 2) := hz'
      exact turn H2.objs.size h'.objs.size (z + 1) z (by rw [← hzz]; exact Nat.le_succ _) (ltN (by (first | exact om51 hC hsz | omega))) (by rw [← hzz]; exact Nat.le_refl _) (ltN (by (first | exact om52 hC hsz | omega))) (ltN (by (first | exact om53 hsz | omega))) (ltN (by (first | exact om54 hsz | omega))) (ltN (by (first | exact om55 hC | omega))) i t v2 ys k h tk mC E' b1 b2 (by simpa using hx) hJ F₂ N₂
    · intro ys k h tk mC hJ F₂ N₂
      have n2 := N₂ _ (.head _)
      refine done ys news k h'.objs.size H2.objs.size h tk mC ⟨rfl, hJ⟩ (fun p hp => ?_) (hne L (by (first | exact om56 ltL | omega))).symm (hne _ (by rw [hz']; exact Nat.lt_succ_self _)) (fresh_of F.keep (big _ (by rw [hC, hz']; exact Nat.le_add_right z 3))) F₂.ns ⟨F.ns.at' fun o' e => F₂.keep _ _ e, fun b o' e => F₂.keep b o' (F.keep b o' e), F.above⟩ (fun p hp => ?_) (fun p hp => ?_)
      · have hh1 : @LT.lt Nat _ p.1 z := by rw [hzz]; exact Heap.lt_size (N p hp).1
        refine ⟨Nat.ne_of_lt (by rw [hz']; exact Nat.lt_add_right 2 hh1), hne _ (Nat.lt_add_right 3 hh1)⟩
      · rcases List.mem_cons.mp hp with rfl | hp
        · refine ⟨n2.1, fun (q : h'.objs.size = L) => ?_, fresh_of F.keep nD⟩
          rw [q, hoL] at nD
          cases nD
        · exact ⟨F₂.keep _ _ (N p hp).1, (N p hp).2⟩
      · have hh1 : @LT.lt Nat _ p.1 z := by rw [hzz]; exact Heap.lt_size (N p hp).1
        rw [hz']; exact Nat.lt_add_right 2 hh1
  exact codeAny_compStart_list (loop _ rfl) (W.self 0 _ _ _ st₁ (loop _ rfl))
end
end
section
theorem slice_plain (x : Str) (l u : Option Int) {a b : Nat} (hab : a ≤ b) (hb : b ≤ x.length) (e : Builtin.Str.strSliceIndices l u 1 x.length = Builtin.Str.strSliceIndices (some (a : Int)) (some (b : Int)) 1 x.length) :
    PySem.Txt.slice x l u = ⟨((x.cps.toList.drop a).take (b - a)).toArray⟩ := by
  unfold PySem.Txt.slice
  rw [e]
  split
  · rename_i h
    have h1 : (Builtin.Str.strSliceIndices (some (a : Int)) (some (b : Int)) 1 x.length).length = x.length := by simpa using h
    rw [StrLaws.strSliceIndices_plain hab hb, List.length_map, List.length_range] at h1
    have ha : a = 0 := by (first | exact om711 h1 hab hb | omega)
    subst ha
    rw [List.drop_zero, List.take_of_length_le (by simp [Str.length] at h1 ⊢; (first | exact om712 h1 | omega))]
  · rw [StrLaws.sliced_plain x hab hb]
theorem slice_take (x : Str) (k : Nat) : PySem.Txt.slice x none (some (k : Int)) = ⟨(x.cps.toList.take k).toArray⟩ := by
  have hl : x.cps.toList.length = x.length := by simp [Str.length]
  rw [slice_plain x none (some (k : Int)) (a := 0) (b := min k x.length) (Nat.zero_le _) (Nat.min_le_right _ _), List.drop_zero, Nat.sub_zero]
  · congr 2
    rw [← hl, List.take_eq_take_iff]
    (first | exact om713 | omega)
  · unfold Builtin.Str.strSliceIndices
    have h1 : ¬ ((k : Int) < 0) := by (first | exact om714 | omega)
    have h2 : ¬ (((min k x.length : Nat) : Int) < 0) := by (first | exact om715 | omega)
    have h3 : ¬ (((0 : Nat) : Int) < 0) := by (first | exact om716 | omega)
    simp only [h1, h2, h3, if_false, show ((1 : Int) > 0) = True from by simp, if_true]
    congr 1 <;> (first | exact om717 h2 | omega)
theorem slice_drop (x : Str) (k : Nat) (hk : k ≤ x.length) : PySem.Txt.slice x (some (k : Int)) none = ⟨(x.cps.toList.drop k).toArray⟩ := by
  have hl : x.cps.toList.length = x.length := by simp [Str.length]
  rw [slice_plain x (some (k : Int)) none (a := k) (b := x.length) hk (Nat.le_refl _)]
  · rw [List.take_of_length_le (by rw [List.length_drop, hl]; exact Nat.le_refl _)]
  · unfold Builtin.Str.strSliceIndices
    have h1 : ¬ ((k : Int) < 0) := by (first | exact om714 | omega)
    have h2 : ¬ (((x.length : Nat) : Int) < 0) := by (first | exact om714 | omega)
    simp only [h1, h2, if_false, show ((1 : Int) > 0) = True from by simp, if_true]
    congr 1; (first | exact om718 | omega)
section
variable {prog : Program} {w : World} {A : Around} {E : Value → Shared → Prop} {s : Shared} {env : Env} {h₀ : Heap} {x : Str} {body : List Stmt} {Q : Flow → Shared → Prop}
theorem loop_str {r : Str} {t : Tok} {m₀ : Str → Option Value} {news : List (Addr × Obj)} (J : Nat → (Str → Option Value) → List (Addr × Obj) → Prop) (hh : A.handled = none)
    (F : Fr h₀ env.locals s.heap m₀) (N : News h₀ env.locals s.heap news) (hj : J 0 m₀ news)
    (turn : ∀ i c u m₁ news₁ I it h tk, r.cps[i]? = some c → J i m₁ news₁ → (∀ p ∈ news₁, p.1 ≠ I) → (∀ p ∈ news, p.1 < I) → Fr h₀ env.locals h (fun y => if y = x then some (.str ⟨#[c]⟩ u) else m₁ y) → News h₀ env.locals h ((I, it) :: news₁) →
      wpAny (model prog w) A (execs body env) (TurnEnd h₀ env.locals I it (J (i + 1)) { s with heap := h, toks := tk } Q) E { s with heap := h, toks := tk })
    (done : ∀ m₁ news₁ h tk, J r.cps.size m₁ news₁ → Fr h₀ env.locals h m₁ → News h₀ env.locals h news₁ → Q .next { s with heap := h, toks := tk }) :
    wpAny (model prog w) A (pyIter (.str r t)) (fun it s₂ => LoopAtV prog w A h₀ env x body Q E it s₂) E s := by
  have key : ∀ (o : Obj) (St : Nat → Heap → Prop), Walks prog w A s.heap.objs.size [s.heap.objs.size] [s.heap.objs.size] r.cps.size (SignAt r) St → (∀ i h, St i h → ∃ o, h.get? s.heap.objs.size = some o) → St 0 (s.heap.push o) →
      LoopAtV prog w A h₀ env x body Q E (.ref s.heap.objs.size) { s with heap := s.heap.push o } := by
    intro o St W hit st
    refine loop_at (s := { s with heap := s.heap.push o }) (ex := []) J W ?_ (new_none_base F) hit (fun b hb => nomatch hb) (fun p hp => Nat.ne_of_lt (Heap.lt_size (N p hp).1)) st (F.push _) (fun p hp => ⟨Heap.get?_push_of_some _ (N p hp).1, (N p hp).2⟩) hj ?_ done
    · intro hm
      exact new_ne_loc F (List.mem_singleton.mp hm)
    · rintro i v m₁ news₁ it h tk hin ⟨c, u, hc, rfl⟩ hJ hof F₁ N₁
      exact turn i c u m₁ news₁ _ it h tk hc hJ hof (fun p hp => Heap.lt_size (N p hp).1) F₁ N₁
  cases ha : r.cps.all (· < 128)
  · exact wpAny_pyIter_wide ha (key _ _ (Walks.strWide hh _ r t) (fun i h st => let ⟨o, e, _⟩ := st; ⟨o, e⟩) ⟨_, Heap.get?_push_size _ rfl, rfl, rfl⟩)
  · exact wpAny_pyIter_ascii ha (key _ _ (Walks.strAscii hh _ r t) (fun i h st => let ⟨o, e, _⟩ := st; ⟨o, e⟩) ⟨_, Heap.get?_push_size _ rfl, rfl, rfl⟩)
end
end
section
section
variable {prog : Program} {w : World} {A : Around} {E : Value → Shared → Prop} {s : Shared}
theorem listOf_mapSeq (xs ys : List Value) (n : Nat) (f : Array Value → Array Value) (e : f xs.toArray = ys.toArray) : ∃ n', Obj.mapSeq f (listOf xs.toArray n) = listOf ys.toArray n' := by
  show ∃ n', (⟨_, _, .seq (f xs.toArray) _, _⟩ : Obj) = _
  rw [e]; exact ⟨_, rfl⟩
theorem setItem_whole {l sl v : Addr} {items new : List Value} {nn : Nat} {Q : Unit → Shared → Prop} (ho : s.heap.get? l = some (listOf items.toArray nn)) (hv : s.heap.IsList v new.toArray) (hne : l ≠ v)
    (hs : s.heap.IsSliceOf sl .none .none .none) (hz : items.length + new.length ≤ 16777216)
    (h : ∀ h' nn', KeepBut l s.heap h' → h'.get? l = some (listOf new.toArray nn') → Q () { s with heap := h' }) :
    wpAny (model prog w) A (setItem (.ref l) (.ref sl) (.ref v)) Q E s := by
  obtain ⟨ov, hov, hcv, nv, hdv⟩ := id hv
  obtain ⟨os, hos, hcs, hds⟩ := id hs
  have hl : s.heap.IsList l items.toArray := ⟨_, ho, rfl, _, rfl⟩
  have hTs : s.TypeIs (.ref sl) "slice" := ⟨os, hos, hcs⟩
  have e0 : items.toArray.extract 0 (Int.toNat 0) ++ new.toArray ++ items.toArray.extract (max 0 (items.toArray.size : Int)).toNat items.toArray.size = new.toArray := by simp
  obtain ⟨nn', em⟩ := listOf_mapSeq items new nn (fun xs => xs.extract 0 (Int.toNat 0) ++ new.toArray ++ xs.extract (max 0 (items.toArray.size : Int)).toNat xs.size) e0
  have fin : Q () { s with heap := s.heap.update l (Obj.mapSeq fun xs => xs.extract 0 (Int.toNat 0) ++ new.toArray ++ xs.extract (max 0 (items.toArray.size : Int)).toNat xs.size) } := by
    refine h _ nn' (KeepBut.of (Heap.SameBut.update ..)) ?_
    rw [Heap.get?_update_self _ ho (by rw [em]; rfl), em]
  unfold setItem
  try with_reducible refine wpAny_holding ?_
  first | refine wpAny_bind (wpAny_pure ?_) | skip
  refine wpAny_bind (wpAny_sequenceKey hl.typeIs (by decide) ?_)
  refine wpAny_bind (wpAny_callSpecial?_slot (name := Str.ofString "__setitem__") hl.typeIs slot_list_setitem
    (wpAny_call_entry slot_list_setitem hl.typeIs entry_list_setitem ?_ (args_list_setitem _ _ _)))
  show wpAny _ _ (Builtin.List.listSubscript? (.ref sl) >>= _) _ _ s
  refine wpAny_bind ?_
  unfold Builtin.List.listSubscript?
  refine wpAny_bind (wpAny_specialOf hTs slice_no_index ?_)
  simp only [Option.isNone_none, if_true]
  refine wpAny_pure ?_
  show wpAny _ _ (typeOf (.ref sl) >>= _) _ _ s
  refine wpAny_bind (wpAny_typeOf hTs ?_)
  rw [if_neg (by decide)]
  rw [listSliceParts_eq]
  refine wpAny_bind (wpAny_bind (wpAny_field hos hds (x := .none) rfl (wpAny_bind (wpAny_listPart .none ?_))))
  rw [if_neg (by exact Bool.false_ne_true)]
  refine wpAny_bind (wpAny_field hos hds (x := .none) rfl (wpAny_bind (wpAny_listPart .none ?_)))
  refine wpAny_bind (wpAny_field hos hds (x := .none) rfl (wpAny_bind (wpAny_listPart .none (wpAny_pure ?_))))
  have hsr : ¬ (Builtin.List.listSameRef (.ref l) (.ref v) = true) := by
    show ¬ ((l == v) = true)
    simpa using hne
  have hnew : ∀ Q' : Array Value → Shared → Prop, ∀ E', Q' new.toArray s → wpAny (model prog w) A.in1 (Builtin.List.listAllItems (.ref v) "must assign iterable to extended slice") Q' E' s := by
    intro Q' E' hq
    unfold Builtin.List.listAllItems
    refine wpAny_bind (wpAny_typeOf hv.typeIs ?_)
    rw [if_pos (by decide)]
    unfold Builtin.List.listItems
    exact wpAny_bind (wpAny_seqItems hov hdv (wpAny_pure hq))
  rw [if_neg hsr]
  refine wpAny_bind (hnew _ _ ?_)
  refine wpAny_bind (m := Builtin.List.listItems (.ref l)) ?_
  unfold Builtin.List.listItems
  refine wpAny_bind (wpAny_seqItems ho rfl (wpAny_pure ?_))
  refine wpAny_bind (wpAny_of_eq (sliceIndices_raw none none none items.toArray.size (by simp)) ?_)
  rw [if_pos (by rfl)]
  refine wpAny_bind (wpAny_rule ?_)
  have hlt : ¬ (Builtin.List.listTooLong (items.toArray.size + new.toArray.size) = true) := fun h => absurd (of_decide_eq_true h) (Nat.not_lt.2 (show items.length + new.length ≤ sizeLine from by rw [sizeLine_eq]; exact hz))
  rw [if_neg hlt]
  refine wpAny_bind (m := updateSeq l _) ?_
  refine wpAny_updateSeq ho rfl ?_ (show items.length ≤ sizeLine by rw [sizeLine_eq]; exact Nat.le_trans (Nat.le_add_right _ _) hz) (Nat.le_trans (Nat.le_of_eq (congrArg Array.size e0)) (show new.length ≤ sizeLine + 1 from by rw [sizeLine_eq]; exact Nat.le_succ_of_le (Nat.le_trans (Nat.le_add_left _ _) hz)))
  refine wpAny_bind (wpAny_letGo ?_)
  exact wpAny_pure ⟨.none, rfl, wpAny_pure fin⟩
end
end
section
section
variable {prog : Program} {w : World} {A : Around} {E : Value → Shared → Prop} {s : Shared} {R : Result → Shared → Prop}
noncomputable abbrev ZB (h : Heap) (z TI TO T : Addr) (b : Bool) : Prop :=
  h.get? z = some { cls := .type "zip", dict := none, data := .fields #[rawInt T, .bool b, .bool false, .ref TI, .ref TO], slots := #[] }
theorem not_free {z TI TO T : Addr} {b : Bool} {oT : Obj} {Q : Bool → Shared → Prop} (hz : ZB s.heap z TI TO T b) (hT : s.heap.get? T = some oT)
    (h : ∀ h₁, ZB h₁ z TI TO T true → Heap.SameBut z s.heap h₁ → Q false { s with heap := h₁ }) : wpAny (model prog w) A (Builtin.SmallTypes.ownedTupleIsFree (.ref z)) Q E s := by
  unfold Builtin.SmallTypes.ownedTupleIsFree
  refine wpAny_bind (wpAny_field hz rfl (x := rawInt T) rfl ?_)
  show wpAny _ _ (loadIfAlive ((T : Int)).toNat >>= _) _ _ _
  rw [Int.toNat_natCast]
  refine wpAny_bind (PySem.W.kdx_alive hT ?_)
  simp only [Option.isNone_some, Bool.false_eq_true, if_false]
  refine wpAny_bind (wpAny_field hz rfl (x := .bool b) rfl ?_)
  cases b with
  | true =>
    rw [if_neg (by decide)]
    exact wpAny_pure (h s.heap hz ⟨rfl, fun _ _ => rfl⟩)
  | false =>
    rw [if_pos (by decide)]
    refine wpAny_bind (wpAny_setField_rec hz (by simp) fun h₁ hz₁ hs₁ => wpAny_pure (h h₁ hz₁ hs₁))
structure ZIter (h : Heap) (z TI TO i1 i2 l1 l2 : Addr) (xs ys : Array Value) (k : Nat) : Prop where
  ti : IsPair h TI (.ref i1) (.ref i2)
  a1 : h.IsListIter i1 l1 k
  a2 : h.IsListIter i2 l2 k
  b1 : h.IsList l1 xs
  b2 : h.IsList l2 ys
theorem again_item {z TI TO T i1 i2 l1 l2 : Addr} {b : Bool} {oT : Obj} {k : Nat} {xs ys : Array Value} {x y : Value} {Q : Option Value → Shared → Prop} (D : ZipApart z TI TO i1 i2 l1 l2)
    (hz : ZB s.heap z TI TO T b) (hT : s.heap.get? T = some oT) (I : ZIter s.heap z TI TO i1 i2 l1 l2 xs ys k) (hx : xs[k]? = some x) (hy : ys[k]? = some y)
    (hQ : ∀ h', ZB h' z TI TO T true → ZIter h' z TI TO i1 i2 l1 l2 xs ys (k + 1) → IsPair h' s.heap.objs.size x y →
      (∀ c o, c ≠ z → c ≠ i1 → c ≠ i2 → s.heap.get? c = some o → h'.get? c = some o) → Q (some (.ref s.heap.objs.size)) { s with heap := h' }) :
    wpAny (model prog w) A (pyNext (.ref z)) Q E s := by
  have hTy : s.TypeIs (.ref z) "zip" := ⟨_, hz, rfl⟩
  unfold pyNext
  refine wpAny_bind (wpAny_attempt (wpAny_callSpecial?_slot (name := Str.ofString "__next__") hTy F.slot_zip_next
    (wpAny_call_entry F.slot_zip_next hTy F.entry_zip_next ?_ (F.args_zip_next_1 _))))
  show wpAny _ _ (field (.ref z) 2 >>= _) _ _ _
  refine wpAny_bind (wpAny_field hz rfl (x := .bool false) rfl ?_)
  show wpAny _ _ (field (.ref z) 3 >>= _) _ _ _
  refine wpAny_bind (wpAny_field hz rfl (x := .ref TI) rfl ?_)
  refine wpAny_bind (wpAny_seqItems I.ti rfl ?_)
  show wpAny _ _ (Builtin.SmallTypes.ownedTupleIsFree (.ref z) >>= _) _ _ _
  refine wpAny_bind (not_free hz hT fun h₁ hz₁ hs₁ => ?_)
  simp only [Bool.false_eq_true, if_false]
  refine wpAny_bind ?_
  rw [← Array.forIn_toList]
  simp only [List.forIn_cons, List.forIn_nil]
  refine wpAny_bind (wpAny_bind (wpAny_holding ?_))
  show wpAny _ _ (Builtin.SmallTypes.nextOf (.ref i1) >>= _) _ _ _
  refine wpAny_bind (wpAny_nextOf_list_item (I.a1.extBut hs₁.extBut D.i1z) (I.b1.extBut hs₁.extBut D.l1z) hx fun h₂ h1₂ hs₂ => wpAny_pure ?_)
  refine wpAny_pure ?_
  refine wpAny_bind (wpAny_bind (wpAny_holding ?_))
  show wpAny _ _ (Builtin.SmallTypes.nextOf (.ref i2) >>= _) _ _ _
  refine wpAny_bind (wpAny_nextOf_list_item ((I.a2.extBut hs₁.extBut D.i2z).extBut hs₂.extBut D.i12.symm) ((I.b2.extBut hs₁.extBut D.l2z).extBut hs₂.extBut D.l2i1) hy fun h₃ h2₃ hs₃ => wpAny_pure ?_)
  refine wpAny_pure (wpAny_pure ?_)
  have hsz : h₃.objs.size = s.heap.objs.size := by rw [hs₃.1, hs₂.1, hs₁.1]
  have up : ∀ c o, c ≠ z → c ≠ i1 → c ≠ i2 → s.heap.get? c = some o → h₃.get? c = some o := fun c o c1 c2 c3 e => hs₃.extBut _ _ c3 (hs₂.extBut _ _ c2 (hs₁.extBut _ _ c1 e))
  have hz₃ : ZB h₃ z TI TO T true := hs₃.extBut _ _ D.i2z.symm (hs₂.extBut _ _ D.i1z.symm hz₁)
  refine wpAny_bind (wpAny_newTuple (items := [x, y]) ?_ (by rw [sizeLine_eq]; simp))
  have pu : ∀ c o, h₃.get? c = some o → (h₃.push { cls := .type "tuple", data := .seq #[x, y] }).get? c = some o := fun c o e => Heap.get?_push_of_some _ e
  refine wpAny_pure ⟨_, rfl, wpAny_pure ?_⟩
  show Q (some (.ref h₃.objs.size)) _
  have hT₃ : IsPair (h₃.push { cls := .type "tuple", data := .seq #[x, y] }) h₃.objs.size x y := Heap.get?_push_size _ rfl
  rw [hsz] at hT₃ ⊢
  exact hQ _ (pu _ _ hz₃) ⟨pu _ _ (up _ _ D.TIz D.TIi1 D.TIi2 I.ti), ((h1₂.extBut hs₃.extBut D.i12).at fun o e => pu _ o e), (h2₃.at fun o e => pu _ o e), I.b1.at fun o e => pu _ o (up _ o D.l1z D.l1i1 D.l1i2 e), I.b2.at fun o e => pu _ o (up _ o D.l2z D.l2i1 D.l2i2 e)⟩ hT₃ fun c o c1 c2 c3 e => pu c o (up c o c1 c2 c3 e)
theorem again_end {z TI TO T i1 i2 l1 l2 : Addr} {b : Bool} {oT : Obj} {k : Nat} {xs ys : Array Value} {Q : Option Value → Shared → Prop} (hh : A.handled = none) (D : ZipApart z TI TO i1 i2 l1 l2)
    (hz : ZB s.heap z TI TO T b) (hT : s.heap.get? T = some oT) (I : ZIter s.heap z TI TO i1 i2 l1 l2 xs ys k) (hx : xs[k]? = none)
    (hQ : ∀ h', (∀ c o, c ≠ z → c ≠ i1 → c ≠ i2 → s.heap.get? c = some o → h'.get? c = some o) → Q none { s with heap := h' }) :
    wpAny (model prog w) A (pyNext (.ref z)) Q E s := by
  have hTy : s.TypeIs (.ref z) "zip" := ⟨_, hz, rfl⟩
  unfold pyNext
  refine wpAny_bind (wpAny_attempt (wpAny_callSpecial?_slot (name := Str.ofString "__next__") hTy F.slot_zip_next
    (wpAny_call_entry F.slot_zip_next hTy F.entry_zip_next ?_ (F.args_zip_next_1 _))))
  show wpAny _ _ (field (.ref z) 2 >>= _) _ _ _
  refine wpAny_bind (wpAny_field hz rfl (x := .bool false) rfl ?_)
  show wpAny _ _ (field (.ref z) 3 >>= _) _ _ _
  refine wpAny_bind (wpAny_field hz rfl (x := .ref TI) rfl ?_)
  refine wpAny_bind (wpAny_seqItems I.ti rfl ?_)
  show wpAny _ _ (Builtin.SmallTypes.ownedTupleIsFree (.ref z) >>= _) _ _ _
  refine wpAny_bind (not_free hz hT fun h₁ hz₁ hs₁ => ?_)
  simp only [Bool.false_eq_true, if_false]
  refine wpAny_bind ?_
  rw [← Array.forIn_toList]
  simp only [List.forIn_cons, List.forIn_nil]
  refine wpAny_bind (wpAny_bind (wpAny_holding ?_))
  show wpAny _ _ (Builtin.SmallTypes.nextOf (.ref i1) >>= _) _ _ _
  refine wpAny_bind (wpAny_nextOf_list_end hh (I.a1.extBut hs₁.extBut D.i1z) (I.b1.extBut hs₁.extBut D.l1z) hx fun h₂ e hs₂ he => ?_)
  obtain ⟨o, ho, hc⟩ := he
  refine wpAny_bind (wpAny_isInstance (T := "StopIteration") (b := true) ⟨o, ho, hc⟩ isSubtype_stop ?_)
  exact wpAny_pure (hQ _ fun c o c1 c2 c3 e => hs₂ _ _ c2 (hs₁.extBut _ _ c1 e))

structure ZSt (h : Heap) (z TI TO i1 i2 l1 l2 : Addr) (xs ys : Array Value) (k : Nat) : Prop where
  to : ∃ a b, IsPair h TO a b
  st : (IsZip h z TI TO .none ∧ ∃ a b, IsPair h TO a b) ∨ ∃ T b x y, ZB h z TI TO T b ∧ IsPair h T x y ∧ T ≠ z ∧ T ≠ i1 ∧ T ≠ i2
  it : ZIter h z TI TO i1 i2 l1 l2 xs ys k
theorem zst_frame {h h' : Heap} {z TI TO i1 i2 l1 l2 S : Addr} {xs ys : Array Value} {k : Nat} {oS : Obj} (I : ZSt h z TI TO i1 i2 l1 l2 xs ys k) (hS : h.get? S = some oS) (hc : oS.cls = .type "list") (h1 : S ≠ l1) (h2 : S ≠ l2)
    (kp : ∀ b o, b ≠ S → h.get? b = some o → h'.get? b = some o) : ZSt h' z TI TO i1 i2 l1 l2 xs ys k := by
  have ne : ∀ {c o} {t : String}, h.get? c = some o → o.cls = .type t → t ≠ "list" → c ≠ S := fun {c o t} e ec et q => by
    rw [q, hS] at e
    rw [← Option.some.inj e, hc] at ec
    cases ec
    exact et rfl
  have up : ∀ {c o} {t : String}, h.get? c = some o → o.cls = .type t → t ≠ "list" → h'.get? c = some o := fun e ec et => kp _ _ (ne e ec et) e
  refine ⟨?_, ?_, ⟨up I.it.ti rfl (by decide), ?_, ?_, I.it.b1.at fun o e => kp _ o h1.symm e, I.it.b2.at fun o e => kp _ o h2.symm e⟩⟩
  · obtain ⟨a, b, e⟩ := I.to
    exact ⟨a, b, up e rfl (by decide)⟩
  · rcases I.st with ⟨a, u, v, b⟩ | ⟨T, b, x, y, a1, a2, a3⟩
    · exact .inl ⟨up a rfl (by decide), u, v, up b rfl (by decide)⟩
    · exact .inr ⟨T, b, x, y, up a1 rfl (by decide), up a2 rfl (by decide), a3⟩
  · obtain ⟨o, e, c, d⟩ := I.it.a1
    exact ⟨o, up e c (by decide), c, d⟩
  · obtain ⟨o, e, c, d⟩ := I.it.a2
    exact ⟨o, up e c (by decide), c, d⟩
theorem zst_item {z TI TO i1 i2 l1 l2 : Addr} {k : Nat} {xs ys : Array Value} {x y : Value} {Q : Option Value → Shared → Prop} (D : ZipApart z TI TO i1 i2 l1 l2) (I : ZSt s.heap z TI TO i1 i2 l1 l2 xs ys k) (hx : xs[k]? = some x) (hy : ys[k]? = some y)
    (hQ : ∀ T h', ZSt h' z TI TO i1 i2 l1 l2 xs ys (k + 1) → s.heap.get? T = none → IsPair h' T x y → (∀ c o, c ≠ z → c ≠ TO → c ≠ i1 → c ≠ i2 → s.heap.get? c = some o → h'.get? c = some o) → Q (some (.ref T)) { s with heap := h' }) :
    wpAny (model prog w) A (pyNext (.ref z)) Q E s := by
  have big : s.heap.get? s.heap.objs.size = none := by
    cases e : s.heap.get? s.heap.objs.size with
    | none => rfl
    | some o => exact absurd (Heap.lt_size e) (Nat.lt_irrefl _)
  rcases I.st with ⟨a, u, v, b⟩ | ⟨T, b, x', y', a1, a2, a3, a4, a5⟩
  · refine wpAny_pyNext_zip_item D a I.it.ti b I.it.a1 I.it.a2 I.it.b1 I.it.b2 hx hy fun h' g1 g2 g3 g4 g5 g6 g7 => hQ _ h' ⟨⟨_, _, g2⟩, .inr ⟨_, false, x, y, g1, g5, fun e => ?_, fun e => ?_, fun e => ?_⟩, ⟨g7 _ _ D.TIz D.TITO D.TIi1 D.TIi2 I.it.ti, g3, g4, I.it.b1.at fun o e => g7 _ o D.l1z D.l1TO D.l1i1 D.l1i2 e, I.it.b2.at fun o e => g7 _ o D.l2z D.l2TO D.l2i1 D.l2i2 e⟩⟩ big g5 g7
    · rw [e, a] at big; cases big
    · obtain ⟨o, ho, _⟩ := I.it.a1
      rw [e, ho] at big; cases big
    · obtain ⟨o, ho, _⟩ := I.it.a2
      rw [e, ho] at big; cases big
  · refine again_item D a1 a2 I.it hx hy fun h' g1 g2 g3 g4 => hQ _ h' ⟨let ⟨u, v, e⟩ := I.to; ⟨u, v, g4 _ _ D.TOz D.TOi1 D.TOi2 e⟩, .inr ⟨T, true, x', y', g1, g4 _ _ a3 a4 a5 a2, a3, a4, a5⟩, g2⟩ big g3 fun c o c1 _ c3 c4 e => g4 c o c1 c3 c4 e
theorem zst_end {z TI TO i1 i2 l1 l2 : Addr} {k : Nat} {xs ys : Array Value} {Q : Option Value → Shared → Prop} (hh : A.handled = none) (D : ZipApart z TI TO i1 i2 l1 l2) (I : ZSt s.heap z TI TO i1 i2 l1 l2 xs ys k) (hx : xs[k]? = none)
    (hQ : ∀ h', (∀ c o, c ≠ z → c ≠ TO → c ≠ i1 → c ≠ i2 → s.heap.get? c = some o → h'.get? c = some o) → Q none { s with heap := h' }) :
    wpAny (model prog w) A (pyNext (.ref z)) Q E s := by
  rcases I.st with ⟨a, u, v, b⟩ | ⟨T, b, x', y', a1, a2, a3, a4, a5⟩
  · exact wpAny_pyNext_zip_end hh D a I.it.ti b I.it.a1 I.it.a2 I.it.b1 I.it.b2 (.inl hx) hQ
  · exact again_end hh D a1 a2 I.it hx fun h' g => hQ h' fun c o c1 _ c3 c4 e => g c o c1 c3 c4 e
theorem zip_extend {z TI TO i1 i2 l1 l2 S : Addr} {xs ys : List Value} (hh : A.handled = none) (D : ZipApart z TI TO i1 i2 l1 l2) (hlen : xs.length = ys.length) (hz : xs.length ≤ 1000) (res : Value) (hSz : S ≠ z) (hSO : S ≠ TO) (hS1 : S ≠ i1) (hS2 : S ≠ i2) (hSl1 : S ≠ l1) (hSl2 : S ≠ l2) (H0 : Heap) :
    ∀ (n k : Nat) (s : Shared) (ps : List Pr) (c : Nat), (∀ c o, H0.get? c = some o → ∃ o', s.heap.get? c = some o') → xs.length - k = n → k ≤ xs.length → ZSt s.heap z TI TO i1 i2 l1 l2 xs.toArray ys.toArray k → s.heap.get? S = some (listOf (ps.map fun q => Value.ref q.1).toArray c) →
    ps.length = k → (∀ (j : Nat) (q : Pr), ps[j]? = some q → H0.get? q.1 = none) → (∀ (j : Nat) (q : Pr), ps[j]? = some q → s.heap.get? q.1 = some (tupObj q) ∧ q.1 ≠ z ∧ q.1 ≠ TO ∧ q.1 ≠ i1 ∧ q.1 ≠ i2 ∧ xs[j]? = some q.2.1 ∧ ys[j]? = some q.2.2) →
    (∀ (h' : Heap) (ps' : List Pr) (c' : Nat), ps'.length = xs.length → h'.get? S = some (listOf (ps'.map fun q => Value.ref q.1).toArray c') → (∀ (j : Nat) (q : Pr), ps'[j]? = some q → H0.get? q.1 = none ∧ h'.get? q.1 = some (tupObj q) ∧ xs[j]? = some q.2.1 ∧ ys[j]? = some q.2.2) →
      (∀ c o, c ≠ z → c ≠ TO → c ≠ i1 → c ≠ i2 → c ≠ S → s.heap.get? c = some o → h'.get? c = some o) → R (.ok (.ret res)) { s with heap := h' }) →
    codeAny (model prog w) A (.builtin "list.extend.loop" ⟨[.ref S, .ref z, res], []⟩) R s := by
  intro n
  induction n with
  | zero =>
    intro k s ps c hH hk hkl I hS hpl hfr hps hR
    have : k = xs.length := by (first | exact om721 hk hkl | omega)
    subst this
    refine codeAny_builtin F.entry_extend_loop ?_
    rw [Around.under_plainId F.plain_extend_loop _]
    show wpAny _ A.in1 (pyNext (.ref z) >>= _) _ _ s
    refine wpAny_bind (zst_end (A := A.in1) hh D I (by simp) fun h' kp => ?_)
    exact wpAny_pure (hR h' ps c hpl (kp _ _ hSz hSO hS1 hS2 hS) (fun j q hq => let ⟨a, b, c, d, e, f, g⟩ := hps j q hq; ⟨hfr j q hq, kp _ _ b c d e a, f, g⟩) fun c o c1 c2 c3 c4 _ e => kp c o c1 c2 c3 c4 e)
  | succ n ih =>
    intro k s ps c hH hk hkl I hS hpl hfr hps hR
    have hlt : k < xs.length := by (first | exact om722 hk | omega)
    have hx : xs.toArray[k]? = some xs[k] := by simp [hlt]
    have hy : ys.toArray[k]? = some (ys[k]'(hlen ▸ hlt)) := by simp [hlen ▸ hlt]
    refine codeAny_builtin F.entry_extend_loop ?_
    rw [Around.under_plainId F.plain_extend_loop _]
    show wpAny _ A.in1 (pyNext (.ref z) >>= _) _ _ s
    refine wpAny_bind (zst_item D I hx hy fun T h' I' fT hT kp => ?_)
    have hS' := kp _ _ hSz hSO hS1 hS2 hS
    have ne : ∀ {c o}, s.heap.get? c = some o → T ≠ c := fun {c o} e q => by rw [q, e] at fT; cases fT
    have hTz : T ≠ z := by
      rcases I.st with ⟨a, _⟩ | ⟨_, _, _, _, a, _⟩
      · exact ne a
      · exact ne a
    have hT1 : T ≠ i1 := by obtain ⟨o, e, _⟩ := I.it.a1; exact ne e
    have hT2 : T ≠ i2 := by obtain ⟨o, e, _⟩ := I.it.a2; exact ne e
    have hTS : T ≠ S := ne hS
    have hTO : T ≠ TO := by obtain ⟨_, _, e⟩ := I.to; exact ne e
    show wpAny _ A.in1 (updateSeq S (·.push (.ref T)) >>= _) _ _ _
    refine wpAny_bind ?_
    obtain ⟨c2, em⟩ : ∃ c2, Obj.mapSeq (·.push (Value.ref T)) (listOf (ps.map fun q => Value.ref q.1).toArray c) = listOf ((ps ++ [(T, xs[k], ys[k]'(hlen ▸ hlt))]).map fun q => Value.ref q.1).toArray c2 := by
      show ∃ c2, (⟨_, _, .seq ((ps.map fun q => Value.ref q.1).toArray.push (.ref T)) _, _⟩ : Obj) = _
      rw [List.map_append]
      simp
    have hSup := Heap.get?_update_self (Obj.mapSeq (·.push (Value.ref T))) hS' (by rw [em]; rfl)
    rw [em] at hSup
    have ku : ∀ b o, b ≠ S → h'.get? b = some o → (h'.update S (Obj.mapSeq (·.push (Value.ref T)))).get? b = some o := fun b o hb e => (Heap.get?_update_other _ _ (Ne.symm hb)).trans e
    refine wpAny_updateSeq hS' rfl (wpAny_pure ⟨plainId_quiet F.plain_extend_loop _, ih (k + 1) _ (ps ++ [(T, xs[k], ys[k]'(hlen ▸ hlt))]) c2 ?_ (by (first | exact om723 hk hpl | omega)) hlt (zst_frame I' hS' rfl hSl1 hSl2 ku) hSup (by rw [List.length_append, hpl]; rfl) (fun j q hq => ?_) (fun j q hq => ?_) fun h'' ps' c' g1 g2 g3 g4 => hR h'' ps' c' g1 g2 g3 fun c o c1 c2 c3 c4 c5 e => g4 c o c1 c2 c3 c4 c5 (ku c o c5 (kp c o c1 c2 c3 c4 e))⟩) ?_ ?_
    · intro c o e
      obtain ⟨o', e'⟩ := hH c o e
      have ex : ∃ o2, h'.get? c = some o2 := by
        by_cases q1 : c = z
        · rcases I'.st with ⟨u, _⟩ | ⟨_, _, _, _, u, _⟩
          · exact ⟨_, q1 ▸ u⟩
          · exact ⟨_, q1 ▸ u⟩
        · by_cases q2 : c = TO
          · obtain ⟨_, _, u⟩ := I'.to
            exact ⟨_, q2 ▸ u⟩
          · by_cases q3 : c = i1
            · obtain ⟨_, u, _⟩ := I'.it.a1
              exact ⟨_, q3 ▸ u⟩
            · by_cases q4 : c = i2
              · obtain ⟨_, u, _⟩ := I'.it.a2
                exact ⟨_, q4 ▸ u⟩
              · exact ⟨o', kp c o' q1 q2 q3 q4 e'⟩
      obtain ⟨o2, e2⟩ := ex
      by_cases q : c = S
      · subst q; exact ⟨_, hSup⟩
      · exact ⟨o2, ku c o2 q e2⟩
    · rcases Nat.lt_or_ge j ps.length with hj | hj
      · rw [List.getElem?_append_left hj] at hq
        exact hfr j q hq
      · rw [List.getElem?_append_right hj] at hq
        have hj0 : j = ps.length := by
          have := (List.getElem?_eq_some_iff.mp hq).1
          simp at this; (first | exact om724 this hj | omega)
        subst hj0
        rw [Nat.sub_self] at hq
        obtain rfl := Option.some.inj hq
        show H0.get? T = none
        cases e : H0.get? T with
        | none => rfl
        | some o =>
          obtain ⟨o', e'⟩ := hH T o e
          rw [e'] at fT; cases fT
    · rcases Nat.lt_or_ge j ps.length with hj | hj
      · rw [List.getElem?_append_left hj] at hq
        obtain ⟨a, b, c, d, e, f, g⟩ := hps j q hq
        have hqS : q.1 ≠ S := fun e => by
          rw [e, hS] at a
          exact absurd (show Value.type "list" = Value.type "tuple" from congrArg Obj.cls (Option.some.inj a)) (by decide)
        exact ⟨ku _ _ hqS (kp _ _ b c d e a), b, c, d, e, f, g⟩
      · rw [List.getElem?_append_right hj] at hq
        have hj0 : j = ps.length := by
          have := (List.getElem?_eq_some_iff.mp hq).1
          simp at this; (first | exact om724 this hj | omega)
        subst hj0
        rw [Nat.sub_self] at hq
        obtain rfl := Option.some.inj hq
        refine ⟨ku _ _ hTS hT, hTz, hTO, hT1, hT2, ?_, ?_⟩
        · rw [hpl]; exact List.getElem?_eq_getElem hlt
        · rw [hpl]; exact List.getElem?_eq_getElem (hlen ▸ hlt)
    · rw [sizeLine_eq]; simp; (first | exact om725 hpl hz hlt | omega)
    · rw [sizeLine_eq]; simp; (first | exact om725 hpl hz hlt | omega)
theorem zip_no_len : typeLookup (.type "zip") "__len__" = pure none := by rw [typeLookup_type, builtinLookup_eq_fast]; kernel_rfl
theorem zip_no_hint : typeLookup (.type "zip") "__length_hint__" = pure none := by rw [typeLookup_type, builtinLookup_eq_fast]; kernel_rfl
theorem list_zip {z TI TO i1 i2 l1 l2 : Addr} {xs ys : List Value} {Q : Value → Shared → Prop} (hh : A.handled = none) (D : ZipApart z TI TO i1 i2 l1 l2) (hlen : xs.length = ys.length) (hz : xs.length ≤ 1000)
    (a : IsZip s.heap z TI TO .none) (hTO : ∃ a b, IsPair s.heap TO a b) (I : ZIter s.heap z TI TO i1 i2 l1 l2 xs.toArray ys.toArray 0)
    (hQ : ∀ (S : Addr) (h' : Heap) (ps : List Pr) (c : Nat), s.heap.get? S = none → (∀ b o, s.heap.get? b = some o → @LT.lt Nat _ b S) → ps.length = xs.length → h'.get? S = some (listOf (ps.map fun q => Value.ref q.1).toArray c) → (∀ (j : Nat) (q : Pr), ps[j]? = some q → s.heap.get? q.1 = none ∧ h'.get? q.1 = some (tupObj q) ∧ xs[j]? = some q.2.1 ∧ ys[j]? = some q.2.2) →
      (∀ c o, c ≠ z → c ≠ TO → c ≠ i1 → c ≠ i2 → s.heap.get? c = some o → h'.get? c = some o) → Q (.ref S) { s with heap := h' }) :
    wpAny (model prog w) A (call (.type "list") [.ref z]) Q E s := by
  have big : s.heap.get? s.heap.objs.size = none := by
    cases e : s.heap.get? s.heap.objs.size with
    | none => rfl
    | some o => exact absurd (Heap.lt_size e) (Nat.lt_irrefl _)
  have nS : ∀ {c o}, s.heap.get? c = some o → s.heap.objs.size ≠ c := fun {c o} e q => by rw [← q, big] at e; cases e
  have hS1 : s.heap.objs.size ≠ i1 := by obtain ⟨o, e, _⟩ := I.a1; exact nS e
  have hS2 : s.heap.objs.size ≠ i2 := by obtain ⟨o, e, _⟩ := I.a2; exact nS e
  have hSl1 : s.heap.objs.size ≠ l1 := by obtain ⟨o, e, _⟩ := I.b1; exact nS e
  have hSl2 : s.heap.objs.size ≠ l2 := by obtain ⟨o, e, _⟩ := I.b2; exact nS e
  have hSO : s.heap.objs.size ≠ TO := by obtain ⟨_, _, e⟩ := hTO; exact nS e
  have hSz := nS a
  refine callType_codes (Q₁ := fun obj s₁ => obj = .ref s.heap.objs.size ∧ s₁ = { s with heap := s.heap.push { cls := .type "list", data := .seq #[] } }) F.called_list (F.typeCall_list_1 _) F.entry_list_init
    (code_list_new _ ⟨rfl, rfl⟩) fun obj s₁ h₁ => ?_
  obtain ⟨rfl, rfl⟩ := h₁
  have hS : (s.heap.push { cls := .type "list", data := .seq #[] }).get? s.heap.objs.size = some { cls := .type "list", data := .seq #[] } := Heap.get?_push_size _ rfl
  refine ⟨⟨_, hS, rfl⟩, F.args_list_init_2 _ _, ?_⟩
  have up0 : ∀ b o, s.heap.get? b = some o → (s.heap.push { cls := .type "list", data := .seq #[] }).get? b = some o := fun b o e => Heap.get?_push_of_some _ e
  have I0 : ZSt s.heap z TI TO i1 i2 l1 l2 xs.toArray ys.toArray 0 := ⟨hTO, .inl ⟨a, hTO⟩, I⟩
  have hS3 : (s.heap.push { cls := .type "list", data := .seq #[] }).get? s.heap.objs.size = some (listOf #[] 0) := hS
  have up : ∀ (f : Obj → Obj) b o, b ≠ s.heap.objs.size → (s.heap.push { cls := .type "list", data := .seq #[] }).get? b = some o → ((s.heap.push { cls := .type "list", data := .seq #[] }).update s.heap.objs.size f).get? b = some o := fun f b o hb e => (Heap.get?_update_other _ _ (Ne.symm hb)).trans e
  show wpAny _ A.in1.in1 (do let old ← Builtin.List.listItems (.ref s.heap.objs.size); Builtin.List.listUpdate (.ref s.heap.objs.size) (fun _ => #[]); letGo old.toList.reverse; Builtin.List.listExtendWith (.ref s.heap.objs.size) (.ref z) .none) _ _ _
  refine wpAny_bind ?_
  unfold Builtin.List.listItems
  refine wpAny_bind (wpAny_seqItems hS rfl (wpAny_pure ?_))
  show wpAny _ A.in1.in1 (updateSeq s.heap.objs.size (fun _ => #[]) >>= fun _ => letGo (#[] : Array Value).toList.reverse >>= fun _ => Builtin.List.listExtendWith (.ref s.heap.objs.size) (.ref z) .none) _ _ _
  refine wpAny_bind (wpAny_updateSeq hS rfl ?_)
  have hS₂ := Heap.get?_update_self (Obj.mapSeq (fun _ => (#[] : Array Value))) hS rfl
  refine wpAny_bind (wpAny_letGo ?_)
  have z2 := up (Obj.mapSeq (fun _ => (#[] : Array Value))) _ _ hSz.symm (up0 _ _ a)
  have h1 : Builtin.List.listSameRef (.ref s.heap.objs.size) (.ref z) = false := by simp [Builtin.List.listSameRef, hSz]
  have h2 : (Value.type "zip" == Value.type "list") = false := by decide
  have h3 : (Value.type "zip" == Value.type "tuple") = false := by decide
  unfold Builtin.List.listExtendWith
  refine wpAny_bind (wpAny_typeOf (T := "zip") ⟨_, z2, rfl⟩ ?_)
  simp only [h1, h2, h3, Bool.or_false, Bool.false_eq_true, if_false]
  refine wpAny_bind (wpAny_pyIter_zip z2 ?_)
  refine wpAny_bind (wpAny_holding ?_)
  unfold Builtin.List.listLengthHint
  refine wpAny_bind (wpAny_specialOf (T := "zip") ⟨_, z2, rfl⟩ zip_no_len ?_)
  show wpAny _ _ (specialOf (Value.ref z) (Str.ofString "__length_hint__") >>= _) _ _ _
  refine wpAny_bind (wpAny_specialOf (T := "zip") ⟨_, z2, rfl⟩ zip_no_hint ?_)
  refine wpAny_pure ?_
  show wpAny _ _ (rule "list.extend.makes-room" >>= fun _ => Builtin.List.listTouch (.ref s.heap.objs.size) >>= fun _ =>
    again (.builtin "list.extend.loop" ⟨[.ref s.heap.objs.size, .ref z, .none], []⟩)) _ _ _
  refine wpAny_bind (wpAny_rule ?_)
  refine wpAny_bind ?_
  show wpAny _ _ (updateSeq s.heap.objs.size (·.push .none) >>= fun _ => updateSeq s.heap.objs.size (·.pop)) _ _ _
  refine wpAny_bind (wpAny_updateSeq hS₂ rfl ?_)
  have hS₄ := Heap.get?_update_self (Obj.mapSeq (·.push Value.none)) hS₂ rfl
  refine wpAny_updateSeq (hz := by seq_fits) hS₄ rfl ?_
  have hS₅ := Heap.get?_update_self (Obj.mapSeq (·.pop)) hS₄ rfl
  have oth : ∀ b o, b ≠ s.heap.objs.size → s.heap.get? b = some o → ((((s.heap.push { cls := .type "list", data := .seq #[] }).update s.heap.objs.size (Obj.mapSeq (fun _ => (#[] : Array Value)))).update s.heap.objs.size (Obj.mapSeq (·.push Value.none))).update s.heap.objs.size (Obj.mapSeq (·.pop))).get? b = some o := fun b o hb e => (Heap.get?_update_other _ _ (Ne.symm hb)).trans ((Heap.get?_update_other _ _ (Ne.symm hb)).trans (up _ b o hb (up0 b o e)))
  refine wpAny_pure ⟨plainId_quiet F.plain_extend_loop _, zip_extend (A := A.in1) hh D hlen hz .none hSz hSO hS1 hS2 hSl1 hSl2 s.heap xs.length 0 _ [] _ (fun c o e => ⟨o, oth c o (fun q => nS e q.symm) e⟩) rfl (Nat.zero_le _) ?_ hS₅ rfl (fun j q hq => by simp at hq) (fun j q hq => by simp at hq) fun h' ps c g1 g2 g3 g4 => ⟨rfl, hQ _ h' ps c big (fun b o e => Heap.lt_size e) g1 g2 g3 fun c o c1 c2 c3 c4 e => g4 c o c1 c2 c3 c4 (fun q => nS e q.symm) (oth c o (fun q => nS e q.symm) e)⟩⟩
  have ob : ∀ b o, s.heap.get? b = some o → _ := fun b o e => oth b o (fun q => nS e q.symm) e
  exact ⟨let ⟨u, v, e⟩ := hTO; ⟨u, v, ob _ _ e⟩, .inl ⟨ob _ _ a, let ⟨u, v, e⟩ := hTO; ⟨u, v, ob _ _ e⟩⟩, ⟨ob _ _ I.ti, I.a1.at fun o e => ob _ o e, I.a2.at fun o e => ob _ o e, I.b1.at fun o e => ob _ o e, I.b2.at fun o e => ob _ o e⟩⟩
end
end
section
theorem fillRun1 : (PySem.Challenge.rw_ul0023_01.foot = PySem.Challenge.rw_ul0023_01.foot) ∧ Mine.hd.heap_39 = Mine.hd.heap_39 := by
  k_fill
  exact ⟨rfl, rfl⟩
local macro_rules | `(tactic| k_units) => `(tactic| exact Room.unit (by first | assumption | exact Room.deep (by assumption) (by decide) | exact Room.one (Room.deep (by assumption) (by decide)) (by decide)))
local macro_rules | `(tactic| walk_at "my room") => `(tactic| first | assumption | exact Room.le (by assumption) (by decide) | exact Room.deep (by assumption) (by decide) | exact Room.one (Room.deep (by assumption) (by decide)) (by decide) | exact Room.deep (Room.deep (by assumption) (by decide)) (by decide))
local macro_rules | `(tactic| walk_at "my stay") => `(tactic| first | assumption | exact StaysIn.refl _ | exact Fr.keep (by assumption) | exact StaysIn.trans (by assumption) (Fr.keep (by assumption)) | exact StaysIn.trans (StaysIn.trans (by assumption) (Fr.keep (by assumption))) (Fr.keep (by assumption)))
local macro_rules | `(tactic| walk_at "my sub") => `(tactic| (repeat' (first | (refine List.forall_mem_cons.mpr ⟨by k_mem, ?_⟩) | exact List.forall_mem_nil _)))
local macro_rules | `(tactic| walk_at "my tl") => `(tactic| (intro p hp; repeat (first | exact hp | exact List.mem_append_left _ hp | refine List.Mem.tail _ ?_ | refine List.mem_append_right _ ?_)))
local macro_rules | `(tactic| walk_at "eval Name") => `(tactic| (k_here; k_dflt (refine' nameX_L ?F_K ?v_K ?_ ?a_K ?b_K; (case F_K => k_asm); (case a_K | b_K => rfl); (case v_K => exact Eq.refl (some _)); k_whole)))
local macro_rules | `(tactic| walk_at "storeName") => `(tactic| (k_here; (try dsimp only); k_dflt (first | (refine' storeI ?F_L ?N_L ?_ ?a_L ?b_L; (case F_L | N_L => k_asm); (case a_L | b_L => rfl); k_whole; intro _ _ _ _ _; (try k_sweep)) | (refine' storeT ?F_L ?N_L ?_ ?a_L ?b_L; (case F_L | N_L => k_asm); (case a_L | b_L => rfl); k_whole; intro _ _ _ _; (try k_sweep)))))
section
theorem resetD1 : True := by
  w_top off
  exact trivial
variable {prog : Program} {w : World} {p : Program} {loose : List Str} {mean : ExcName → Option Value} {mg mb : Str → Option Value}
  {A : Around} {G : Heap} {s : Shared} {Q : Value → Shared → Prop} {E : Value → Shared → Prop}
local macro_rules | `(tactic| walk_at "call builtin:divmod") => `(tactic| refine Halt.go ?_)

theorem div2n1n_small (X : (Mine.hd.heap_39 w.params).In G) (T : Top p loose mean mg mb G) (st : G.StaysIn s.heap) (R : Room 1 A)
  (a b n : Int) (ta tb tn : Tok) (hb : b ≠ 0) (hb2 : b.natAbs.log2 < 9000) (hn : (Builtin.Int.intBits a : Int) - n ≤ 4000)
  (hret : ∀ (q : Addr) (t1 t2 : Tok) (h' : Heap) (tk' : Nat), s.heap.StaysIn h' → s.heap.get? q = none → h'.get? q = some (tup [.int (a.fdiv b) t1, .int (a.fmod b) t2]) → Q (.ref q) { s with heap := h', toks := tk' }) :
  wpAny (model prog w) A (call (.ref 45) [.int a ta, .int b tb, .int n tn]) Q E s := by
  obtain ⟨ahd, dp, fr, gd, un⟩ := A
  obtain rfl : ahd = none := R.hh
  (k_dflt (refine' enter0 ?st ?X ?T ?R ?k6 ?k7 ?k9 ?kB ?_ ?c2 ?c3 ?c4 ?c5; (case st | X | T | R => assumption); (case k6 | k7 => k_is); (case k9 => first | exact BindsTo.of_eq rfl | exact binds_K (by assumption) rfl (by k_is) rfl rfl rfl); (case c5 => decide); (case kB => exact locs rfl); (case c2 | c3 | c4 => exact rfl); k_whole; intro _ _ _ _ _ _ _; (try dsimp only); k_fold))
  k_steps
  (refine divmod_N (by assumption) (by assumption) (by assumption) ?_ (Or.inl (by first | assumption | exact PyProof.noPylong_of_log2 (by assumption) | exact PyProof.noPylong_of_log2 (by decide +kernel))); intro _ _ _)
  k_steps
  (refine' hret _ _ _ _ _ ?k1 ?k2 ?k3; (case k1 => exact Fr.keep (by assumption)); (case k2 => exact News.none (by assumption) (by k_mem)); (case k3 => exact News.get (by assumption) (by k_mem)))

local macro_rules | `(tactic| walk_at "exec While Compare cons nil") => `(tactic| refine Halt.go ?_)
local macro_rules | `(tactic| walk_at "binaryOp LShift int int") => `(tactic| k_dflt (refine lshift_int ?n_g ?_ ?_; (case n_g => first | assumption | omega)))
local macro_rules | `(tactic| walk_at "binaryOp Mult int int") => `(tactic| k_dflt (refine mul_int ?_ ?_))
local macro_rules | `(tactic| walk_at "call ref") => `(tactic| refine Halt.go ?_)

set_option pp.deepTerms false in
set_option pp.deepTerms.threshold 12 in
theorem div3n2n_call (X : (Mine.hd.heap_39 w.params).In G) (T : Top p loose mean mg mb G) (st : G.StaysIn s.heap) (R : Room 2 A)
  (a12 a3 b b1 b2 n : Int) (t1 t2 t3 t4 t5 t6 : Tok) (h0 : 0 ≤ a12) (h1 : a12 < b) (h2 : 0 ≤ a3) (h3 : a3 < 2 ^ n.toNat) (h4 : 0 < b1) (h5 : b = b1 * 2 ^ n.toNat + b2) (h6 : 0 ≤ b2) (h7 : b2 < 2 ^ n.toNat) (h8 : 0 < n) (h9 : n < 5000)
  (hb2 : b1.natAbs.log2 < 9000) (hn : (Builtin.Int.intBits a12 : Int) - n ≤ 4000) (hz : Lt20k b)
  (hret : ∀ (q : Addr) (t1 t2 : Tok) (h' : Heap) (tk' : Nat), s.heap.StaysIn h' → s.heap.get? q = none → h'.get? q = some (tup [.int ((a12 * 2 ^ n.toNat + a3).fdiv b) t1, .int ((a12 * 2 ^ n.toNat + a3).fmod b) t2]) → Q (.ref q) { s with heap := h', toks := tk' }) :
  wpAny (model prog w) A (call (.ref 52) [.int a12 t1, .int a3 t2, .int b t3, .int b1 t4, .int b2 t5, .int n t6]) Q E s := by
  obtain ⟨ahd, dp, fr, gd, un⟩ := A
  obtain rfl : ahd = none := R.hh
  have hz : b < 2 ^ 20000 := hz
  have hP := two_pow_pos n.toNat
  have hP1 : Builtin.Int.intBits ((2 : Int) ^ n.toNat) ≤ 5000 := pow_bits (by (first | exact om57 h9 | omega))
  have hle := le_mul_pow n.toNat (Int.le_of_lt h4)
  have hB1 : Builtin.Int.intBits b1 ≤ 20000 := bits_lt (Int.le_of_lt h4) (by (first | exact om58 h5 h6 hle hz | omega))
  have hB2 : Builtin.Int.intBits b2 ≤ 20000 := bits_lt h6 (by (first | exact om59 h5 hle h4 hz | omega))
  have hB3 : Builtin.Int.intBits a12 ≤ 20000 := bits_lt h0 (by (first | exact om60 h1 hz | omega))
  have hone : Builtin.Int.intBits 1 = 1 := by decide
  clear hz
  have hV : ∀ (q r : Int), q * b + r = a12 * 2 ^ n.toNat + a3 → 0 ≤ r → r < b → (a12 * 2 ^ n.toNat + a3).fdiv b = q ∧ (a12 * 2 ^ n.toNat + a3).fmod b = r := fun q r h h' h'' => div_is h h' h''
  (k_dflt (refine' enter0 ?st ?X ?T ?R ?k6 ?k7 ?k9 ?kB ?_ ?c2 ?c3 ?c4 ?c5; (case st | X | T | R => assumption); (case k6 | k7 => k_is); (case k9 => first | exact BindsTo.of_eq rfl | exact binds_K (by assumption) rfl (by k_is) rfl rfl rfl); (case c5 => decide); (case kB => exact locs rfl); (case c2 | c3 | c4 => exact rfl); k_whole; intro _ _ _ _ _ _ _; (try dsimp only); k_fold))
  k_steps
  · have := intBits_add_le (intBits_sub_le hB3 (intBits_mul_le hB1 hP1)) hB1
    (first | exact om65 this h9 | omega)
  · have hfd : a12 / 2 ^ n.toNat = b1 := by rw [← fdiv_pow]; assumption
    obtain ⟨v1, v2⟩ := d3_first hP hfd h1 h3 h5
    have e9 : Builtin.bitOr ((a12 - b1 * 2 ^ n.toNat + b1) * 2 ^ n.toNat) a3 = (a12 - b1 * 2 ^ n.toNat + b1) * 2 ^ n.toNat + a3 := or_add (by have := Int.mul_ediv_self_le (x := a12) (k := 2 ^ n.toNat) (by (first | exact om64 hP | omega)); rw [hfd, Int.mul_comm] at this; (first | exact om66 this h4 | omega)) h2 h3
    refine While_inv (fun k m _ => ∃ q r tq tr, m (Str.ofString "q") = some (.int q tq) ∧ m (Str.ofString "r") = some (.int r tr) ∧ m (Str.ofString "b") = some (.int b t3) ∧ q * b + r = a12 * 2 ^ n.toNat + a3 ∧ r < b ∧ k = (-r).toNat) (by assumption) (by assumption) ⟨_, _, _, _, rfl, rfl, rfl, ?v, ?lt, rfl⟩ ?turn (fun _ _ h => h.elim)
    case v => rw [e9]; rw [Int.one_mul]; exact v1
    case lt => rw [e9]; rw [Int.one_mul]; exact v2
    case turn =>
      rintro k m₁ news₁ h₁ tk₁ F₁ N₁ ⟨q, r, tq, tr, hq, hr, hb, hv, hlt, rfl⟩
      have F₂ := Fr.see3 F₁ hq hr hb
      clear F₁
      k_steps
      · exact WhileStep.intro (n' := (-(r + b)).toNat) (by assumption) (by assumption) (by (first | exact om67 h0 (by walk_at "my asm") h1 | omega)) ⟨_, _, _, _, rfl, rfl, rfl, by rw [Int.sub_mul]; (first | exact om68 hv | omega), by (first | exact om69 (by walk_at "my asm") | omega), rfl⟩
      · obtain ⟨e1, e2⟩ := hV q r hv (by (first | exact om70 (by walk_at "my asm") | omega)) hlt
        rw [e1, e2] at hret
        (refine' hret _ _ _ _ _ ?k1 ?k2 ?k3; (case k1 => exact Fr.keep (by assumption)); (case k2 => exact News.none (by assumption) (by k_mem)); (case k3 => exact News.get (by assumption) (by k_mem)))
  · exact IntMulOk.of_le (intBits_le_of_natAbs (by rw [Int.one_mul]; (first | exact om71 hP | omega)) hP1) hB2 (by decide)
  · (k_dflt (refine' div2n1n_small ?X_h ?T_h ?st_h ?R_h _ _ _ _ _ _ ?hb_h ?hb2_h ?hn_h ?_; (case X_h | T_h => assumption); (case st_h => walk_at "my stay"); (case R_h => walk_at "my room"); (case hb_h => first | assumption | omega); (case hb2_h | hn_h => assumption); k_whole; intro q' u1' u2' h' tk' k9' f9' g9'; (have N' := News.add (by assumption) (by assumption) k9' g9' f9'); (have F' := Fr.keeps (by assumption) k9')))
    k_steps
    · have := intBits_fmod_le hB3 hB1
      (first | exact om72 this h9 | omega)
    · have hq1 := Int.fdiv_eq_ediv_of_nonneg a12 (Int.le_of_lt h4)
      have hq2 := Int.fmod_eq_emod_of_nonneg a12 (Int.le_of_lt h4)
      obtain ⟨v1, v2⟩ := d3_second (a12 := a12) (q := a12.fdiv b1) (r := a12.fmod b1) (a3 := a3) hP (by rw [hq1, hq2]; exact Int.ediv_mul_add_emod _ _) (by rw [hq2]; exact Int.emod_lt_of_pos _ h4) (by rw [hq1]; exact Int.ediv_nonneg h0 (Int.le_of_lt h4)) h3 h6 h5
      have e9 : Builtin.bitOr (a12.fmod b1 * 2 ^ n.toNat) a3 = a12.fmod b1 * 2 ^ n.toNat + a3 := or_add (by rw [hq2]; exact Int.emod_nonneg _ (by (first | exact om64 h4 | omega))) h2 h3
      refine While_inv (fun k m _ => ∃ q r tq tr, m (Str.ofString "q") = some (.int q tq) ∧ m (Str.ofString "r") = some (.int r tr) ∧ m (Str.ofString "b") = some (.int b t3) ∧ q * b + r = a12 * 2 ^ n.toNat + a3 ∧ r < b ∧ k = (-r).toNat) (by assumption) (by assumption) ⟨_, _, _, _, rfl, rfl, rfl, ?v, ?lt, rfl⟩ ?turn (fun _ _ h => h.elim)
      case v => rw [e9]; exact v1
      case lt => rw [e9]; exact v2
      case turn =>
        rintro k m₁ news₁ h₁ tk₁ F₁ N₁ ⟨q, r, tq, tr, hq, hr, hb, hv, hlt, rfl⟩
        have F₂ := Fr.see3 F₁ hq hr hb
        clear F₁
        k_steps
        · exact WhileStep.intro (n' := (-(r + b)).toNat) (by assumption) (by assumption) (by (first | exact om67 h0 (by walk_at "my asm") h1 | omega)) ⟨_, _, _, _, rfl, rfl, rfl, by rw [Int.sub_mul]; (first | exact om68 hv | omega), by (first | exact om69 (by walk_at "my asm") | omega), rfl⟩
        · obtain ⟨e1, e2⟩ := hV q r hv (by (first | exact om70 (by walk_at "my asm") | omega)) hlt
          rw [e1, e2] at hret
          (refine' hret _ _ _ _ _ ?k1 ?k2 ?k3; (case k1 => exact Fr.keep (by assumption)); (case k2 => exact News.none (by assumption) (by k_mem)); (case k3 => exact News.get (by assumption) (by k_mem)))
    · exact IntMulOk.of_le (intBits_fdiv_le hB3) hB2 (by decide)
end
section
theorem resetD2 : True := by
  w_top off
  exact trivial
variable {prog : Program} {w : World} {p : Program} {loose : List Str} {mean : ExcName → Option Value} {mg mb : Str → Option Value}
  {A : Around} {G : Heap} {s : Shared} {Q : Value → Shared → Prop} {E : Value → Shared → Prop}
local macro_rules | `(tactic| walk_at "binaryOp LShift int int") => `(tactic| k_dflt (refine' lshift_int ?n_i ?sz_i ?_; (case n_i => first | with_reducible assumption | omega); (case sz_i => with_reducible assumption)))
local macro_rules | `(tactic| walk_at "inplaceOp LShift int int") => `(tactic| k_dflt (refine' ilshift_is ?n_j ?sz_j ?e_j ?_; (case n_j => first | with_reducible assumption | omega); (case sz_j | e_j => with_reducible assumption)))
local macro_rules | `(tactic| walk_at "binaryOp BitAnd int int") => `(tactic| k_dflt (refine' and_is ?e_k ?_; (case e_k => with_reducible assumption)))
local macro_rules | `(tactic| walk_at "binaryOp BitOr int int") => `(tactic| k_dflt (refine' or_is ?e_l ?_; (case e_l => with_reducible assumption)))
local macro_rules | `(tactic| walk_at "binaryOp RShift int int") => `(tactic| k_dflt (refine' rshift_is ?n_m ?e_m ?_; (case n_m => first | with_reducible assumption | omega); (case e_m => with_reducible assumption)))
local macro_rules | `(tactic| walk_at "inplaceOp RShift int int") => `(tactic| k_dflt (refine' irshift_is ?n_n ?e_n ?_; (case n_n => first | with_reducible assumption | omega); (case e_n => with_reducible assumption)))
local macro_rules | `(tactic| walk_at "call ref") => `(tactic| refine Halt.go ?_)

theorem div2n1n_even (X : (Mine.hd.heap_39 w.params).In G) (T : Top p loose mean mg mb G) (st : G.StaysIn s.heap) (R : Room 3 A)
  (a b n h ah a1 am al b1 b2 : Int) (ta tb tn : Tok) (hn : ¬ (Builtin.Int.intBits a : Int) - n ≤ 4000) (hn0 : 0 ≤ n)
  (e1 : Builtin.bitAnd n 1 = 0) (e2 : n.fdiv (2 ^ Int.toNat 1) = h) (e3 : a.fdiv (2 ^ n.toNat) = ah) (e4 : a.fdiv (2 ^ h.toNat) = a1)
  (e5 : Builtin.bitAnd a1 (1 * 2 ^ h.toNat - 1) = am) (e6 : Builtin.bitAnd a (1 * 2 ^ h.toNat - 1) = al) (e7 : b.fdiv (2 ^ h.toNat) = b1) (e8 : Builtin.bitAnd b (1 * 2 ^ h.toNat - 1) = b2)
  (c1 : 0 ≤ ah) (c2 : ah < b) (c3 : 0 ≤ am) (c4 : am < 2 ^ h.toNat) (c5 : 0 < b1) (c6 : b = b1 * 2 ^ h.toNat + b2) (c7 : 0 ≤ b2) (c8 : b2 < 2 ^ h.toNat) (c9 : 0 < h) (c10 : h < 5000)
  (c11 : b1.natAbs.log2 < 9000) (c12 : (Builtin.Int.intBits ah : Int) - h ≤ 4000) (c13 : Lt20k b) (c14 : (Builtin.Int.intBits 1 : Int) + h ≤ 2 ^ 27)
  (d1 : 0 ≤ (ah * 2 ^ h.toNat + am).fmod b) (d2 : (ah * 2 ^ h.toNat + am).fmod b < b) (d3 : 0 ≤ al) (d4 : al < 2 ^ h.toNat) (d5 : (Builtin.Int.intBits ((ah * 2 ^ h.toNat + am).fmod b) : Int) - h ≤ 4000)
  (d6 : (Builtin.Int.intBits ((ah * 2 ^ h.toNat + am).fdiv b) : Int) + h ≤ 2 ^ 27)
  (d7 : Builtin.bitOr ((ah * 2 ^ h.toNat + am).fdiv b * 2 ^ h.toNat) (((ah * 2 ^ h.toNat + am).fmod b * 2 ^ h.toNat + al).fdiv b) = a.fdiv b)
  (d8 : ((ah * 2 ^ h.toNat + am).fmod b * 2 ^ h.toNat + al).fmod b = a.fmod b)
  (hret : ∀ (q : Addr) (t1 t2 : Tok) (h' : Heap) (tk' : Nat), s.heap.StaysIn h' → s.heap.get? q = none → h'.get? q = some (tup [.int (a.fdiv b) t1, .int (a.fmod b) t2]) → Q (.ref q) { s with heap := h', toks := tk' }) :
  wpAny (model prog w) A (call (.ref 45) [.int a ta, .int b tb, .int n tn]) Q E s := by
  obtain ⟨ahd, dp, fr, gd, un⟩ := A
  obtain rfl : ahd = none := R.hh
  rw [← d8] at hret
  have hh0 : 0 ≤ h := by (first | exact om61 c9 | omega)
  have hh1 : (0 : Int) ≤ 1 := by decide
  (k_dflt (refine' enter0 ?st ?X ?T ?R ?k6 ?k7 ?k9 ?kB ?_ ?c2 ?c3 ?c4 ?c5; (case st | X | T | R => assumption); (case k6 | k7 => k_is); (case k9 => first | exact BindsTo.of_eq rfl | exact binds_K (by assumption) rfl (by k_is) rfl rfl rfl); (case c5 => decide); (case kB => exact locs rfl); (case c2 | c3 | c4 => exact rfl); k_whole; intro _ _ _ _ _ _ _; (try dsimp only); k_fold))
  k_steps
  (k_dflt (refine' div3n2n_call ?X_5 ?T_5 ?st_5 ?R_5 _ _ _ _ _ _ _ _ _ _ _ _ ?g0_5 ?g1_5 ?g2_5 ?g3_5 ?g4_5 ?g5_5 ?g6_5 ?g7_5 ?g8_5 ?g9_5 ?gb_5 ?gn_5 ?gz_5 ?_; (case X_5 | T_5 => with_reducible assumption); (case st_5 => walk_at "my stay"); (case R_5 => walk_at "my room"); (case g0_5 | g1_5 | g2_5 | g3_5 | g4_5 | g5_5 | g6_5 | g7_5 | g8_5 | g9_5 | gb_5 | gn_5 | gz_5 => with_reducible assumption); k_whole; intro q' u1' u2' h' tk' k9' f9' g9'; (have N' := News.add (by assumption) (by assumption) k9' g9' f9'); (have F' := Fr.keeps (by assumption) k9')))
  k_steps
  (k_dflt (refine' div3n2n_call ?X_5 ?T_5 ?st_5 ?R_5 _ _ _ _ _ _ _ _ _ _ _ _ ?g0_5 ?g1_5 ?g2_5 ?g3_5 ?g4_5 ?g5_5 ?g6_5 ?g7_5 ?g8_5 ?g9_5 ?gb_5 ?gn_5 ?gz_5 ?_; (case X_5 | T_5 => with_reducible assumption); (case st_5 => walk_at "my stay"); (case R_5 => walk_at "my room"); (case g0_5 | g1_5 | g2_5 | g3_5 | g4_5 | g5_5 | g6_5 | g7_5 | g8_5 | g9_5 | gb_5 | gn_5 | gz_5 => with_reducible assumption); k_whole; intro q' u1' u2' h' tk' k9' f9' g9'; (have N' := News.add (by assumption) (by assumption) k9' g9' f9'); (have F' := Fr.keeps (by assumption) k9')))
  k_steps
  (refine' hret _ _ _ _ _ ?k1 ?k2 ?k3; (case k1 => exact Fr.keep (by assumption)); (case k2 => exact News.none (by assumption) (by k_mem)); (case k3 => exact News.get (by assumption) (by k_mem)))

theorem div2n1n_odd (X : (Mine.hd.heap_39 w.params).In G) (T : Top p loose mean mg mb G) (st : G.StaysIn s.heap) (R : Room 3 A)
  (a b aa bb n h ah a1 am al b1 b2 : Int) (ta tb tn : Tok) (hn : ¬ (Builtin.Int.intBits a : Int) - n ≤ 4000) (hn0 : 0 ≤ n)
  (e1 : Builtin.bitAnd n 1 = 1) (f1 : a * 2 ^ Int.toNat 1 = aa) (f2 : b * 2 ^ Int.toNat 1 = bb) (f3 : (Builtin.Int.intBits a : Int) + 1 ≤ 2 ^ 27) (f4 : (Builtin.Int.intBits b : Int) + 1 ≤ 2 ^ 27)
  (e2 : (n + 1).fdiv (2 ^ Int.toNat 1) = h) (e3 : aa.fdiv (2 ^ (n + 1).toNat) = ah) (e4 : aa.fdiv (2 ^ h.toNat) = a1)
  (e5 : Builtin.bitAnd a1 (1 * 2 ^ h.toNat - 1) = am) (e6 : Builtin.bitAnd aa (1 * 2 ^ h.toNat - 1) = al) (e7 : bb.fdiv (2 ^ h.toNat) = b1) (e8 : Builtin.bitAnd bb (1 * 2 ^ h.toNat - 1) = b2)
  (c1 : 0 ≤ ah) (c2 : ah < bb) (c3 : 0 ≤ am) (c4 : am < 2 ^ h.toNat) (c5 : 0 < b1) (c6 : bb = b1 * 2 ^ h.toNat + b2) (c7 : 0 ≤ b2) (c8 : b2 < 2 ^ h.toNat) (c9 : 0 < h) (c10 : h < 5000)
  (c11 : b1.natAbs.log2 < 9000) (c12 : (Builtin.Int.intBits ah : Int) - h ≤ 4000) (c13 : Lt20k bb) (c14 : (Builtin.Int.intBits 1 : Int) + h ≤ 2 ^ 27)
  (d1 : 0 ≤ (ah * 2 ^ h.toNat + am).fmod bb) (d2 : (ah * 2 ^ h.toNat + am).fmod bb < bb) (d3 : 0 ≤ al) (d4 : al < 2 ^ h.toNat) (d5 : (Builtin.Int.intBits ((ah * 2 ^ h.toNat + am).fmod bb) : Int) - h ≤ 4000)
  (d6 : (Builtin.Int.intBits ((ah * 2 ^ h.toNat + am).fdiv bb) : Int) + h ≤ 2 ^ 27)
  (d7 : Builtin.bitOr ((ah * 2 ^ h.toNat + am).fdiv bb * 2 ^ h.toNat) (((ah * 2 ^ h.toNat + am).fmod bb * 2 ^ h.toNat + al).fdiv bb) = a.fdiv b)
  (d8 : (((ah * 2 ^ h.toNat + am).fmod bb * 2 ^ h.toNat + al).fmod bb).fdiv (2 ^ Int.toNat 1) = a.fmod b)
  (hret : ∀ (q : Addr) (t1 t2 : Tok) (h' : Heap) (tk' : Nat), s.heap.StaysIn h' → s.heap.get? q = none → h'.get? q = some (tup [.int (a.fdiv b) t1, .int (a.fmod b) t2]) → Q (.ref q) { s with heap := h', toks := tk' }) :
  wpAny (model prog w) A (call (.ref 45) [.int a ta, .int b tb, .int n tn]) Q E s := by
  obtain ⟨ahd, dp, fr, gd, un⟩ := A
  obtain rfl : ahd = none := R.hh
  have hh0 : 0 ≤ h := by (first | exact om61 c9 | omega)
  have hh1 : (0 : Int) ≤ 1 := by decide
  have hh2 : 0 ≤ n + 1 := by (first | exact om74 hn0 | omega)
  (k_dflt (refine' enter0 ?st ?X ?T ?R ?k6 ?k7 ?k9 ?kB ?_ ?c2 ?c3 ?c4 ?c5; (case st | X | T | R => assumption); (case k6 | k7 => k_is); (case k9 => first | exact BindsTo.of_eq rfl | exact binds_K (by assumption) rfl (by k_is) rfl rfl rfl); (case c5 => decide); (case kB => exact locs rfl); (case c2 | c3 | c4 => exact rfl); k_whole; intro _ _ _ _ _ _ _; (try dsimp only); k_fold))
  k_steps
  (k_dflt (refine' div3n2n_call ?X_5 ?T_5 ?st_5 ?R_5 _ _ _ _ _ _ _ _ _ _ _ _ ?g0_5 ?g1_5 ?g2_5 ?g3_5 ?g4_5 ?g5_5 ?g6_5 ?g7_5 ?g8_5 ?g9_5 ?gb_5 ?gn_5 ?gz_5 ?_; (case X_5 | T_5 => with_reducible assumption); (case st_5 => walk_at "my stay"); (case R_5 => walk_at "my room"); (case g0_5 | g1_5 | g2_5 | g3_5 | g4_5 | g5_5 | g6_5 | g7_5 | g8_5 | g9_5 | gb_5 | gn_5 | gz_5 => with_reducible assumption); k_whole; intro q' u1' u2' h' tk' k9' f9' g9'; (have N' := News.add (by assumption) (by assumption) k9' g9' f9'); (have F' := Fr.keeps (by assumption) k9')))
  k_steps
  (k_dflt (refine' div3n2n_call ?X_5 ?T_5 ?st_5 ?R_5 _ _ _ _ _ _ _ _ _ _ _ _ ?g0_5 ?g1_5 ?g2_5 ?g3_5 ?g4_5 ?g5_5 ?g6_5 ?g7_5 ?g8_5 ?g9_5 ?gb_5 ?gn_5 ?gz_5 ?_; (case X_5 | T_5 => with_reducible assumption); (case st_5 => walk_at "my stay"); (case R_5 => walk_at "my room"); (case g0_5 | g1_5 | g2_5 | g3_5 | g4_5 | g5_5 | g6_5 | g7_5 | g8_5 | g9_5 | gb_5 | gn_5 | gz_5 => with_reducible assumption); k_whole; intro q' u1' u2' h' tk' k9' f9' g9'; (have N' := News.add (by assumption) (by assumption) k9' g9' f9'); (have F' := Fr.keeps (by assumption) k9')))
  k_steps
  (refine' hret _ _ _ _ _ ?k1 ?k2 ?k3; (case k1 => exact Fr.keep (by assumption)); (case k2 => exact News.none (by assumption) (by k_mem)); (case k3 => exact News.get (by assumption) (by k_mem)))
end
section
theorem resetG1 : True := by
  w_top off
  exact trivial
variable {prog : Program} {w : World} {p : Program} {loose : List Str} {mean : ExcName → Option Value} {mg mb : Str → Option Value}
  {A : Around} {G : Heap} {s : Shared} {Q : Value → Shared → Prop} {E : Value → Shared → Prop}

noncomputable def nestOf (K : Frag) (f : Addr) (i : Nat) : Option (Arguments × List Stmt × Scope) := match K.lookup f with
  | some ⟨_, _, .func fd, _⟩ => (match fd.body with
    | .stmts b => (match b[i]? with
      | some (.FunctionDef _ a b _ _ _ sc _ _ _) => some (a, b, sc)
      | _ => none)
    | _ => none)
  | _ => none
theorem nest_lit {K : Frag} {f : Addr} {o : Obj} {x : Option (Arguments × List Stmt × Scope)} {i : Nat} (ho : K.lookup f = some o) (e : (match (some o : Option Obj) with
  | some ⟨_, _, .func fd, _⟩ => (match fd.body with
    | .stmts b => (match b[i]? with
      | some (.FunctionDef _ a b _ _ _ sc _ _ _) => some (a, b, sc)
      | _ => none)
    | _ => none)
  | _ => none) = x) : nestOf K f i = x := by
  unfold nestOf
  rw [ho]
  exact e

structure DIn (params : Arguments) (body : List Stmt) (scope : Scope) (doc pm ctv : Value) (c' f cd cn ci l n tn nn : Nat) (vs : List Value) (h : Heap) : Prop where
  fn : h.get? f = some (fnMade (Str.ofString "inner") (Str.ofString "_digits2int.<locals>.inner") params body scope [(Str.ofString "n", cn), (Str.ofString "inner", ci), (Str.ofString "digits", cd)] doc pm c' ctv)
  code : h.CodeRec (.ref c') (Str.ofString "_digits2int.<locals>.inner")
  d : ∃ o, h.get? cd = some o ∧ o.data = .cell (some (.ref l))
  i : ∃ o, h.get? ci = some o ∧ o.data = .cell (some (.ref f))
  n : ∃ o, h.get? cn = some o ∧ o.data = .cell (some (.int (n : Int) tn))
  l : h.get? l = some (listOf vs.toArray nn)
theorem DIn.stay {params : Arguments} {body : List Stmt} {scope : Scope} {doc pm ctv : Value} {c' f cd cn ci l n tn nn : Nat} {vs : List Value} {h h' : Heap} (D : DIn params body scope doc pm ctv c' f cd cn ci l n tn nn vs h) (k : h.StaysIn h') :
    DIn params body scope doc pm ctv c' f cd cn ci l n tn nn vs h' :=
  ⟨k _ _ D.fn, D.code.keeps k, let ⟨o, a, b⟩ := D.d; ⟨o, k _ _ a, b⟩, let ⟨o, a, b⟩ := D.i; ⟨o, k _ _ a, b⟩, let ⟨o, a, b⟩ := D.n; ⟨o, k _ _ a, b⟩, k _ _ D.l⟩

local macro_rules | `(tactic| walk_at "call ref") => `(tactic| refine Halt.go ?_)
local macro_rules | `(tactic| walk_at "FnAt") => `(tactic| k_dflt (exact FnAt.stay (by assumption) (Fr.keep (by assumption))))
local macro_rules | `(tactic| walk_at "callWith ref") => `(tactic| k_dflt (refine' callWith_F ?k1_o ?_; (case k1_o => exact FnAt.stay (by assumption) (Fr.keep (by assumption))); k_whole))
local macro_rules | `(tactic| walk_at "And") => `(tactic| ((with_reducible show FnAt _ _ ∧ _); refine ⟨by (k_dflt (exact FnAt.stay (by assumption) (Fr.keep (by assumption)))), ?_⟩; try dsimp only [List.nil_append, List.cons_append]))
local macro_rules | `(tactic| walk_at "eval Name") => `(tactic| k_dflt (refine' nameX_Fb ?F_p ?c_p ?o_p ?d_p ?_ ?a_p ?b_p; (case a_p | b_p => rfl); (case F_p => assumption); (case c_p => rfl); (case o_p | d_p => with_reducible assumption); k_whole))
local macro_rules | `(tactic| walk_at "binaryOp RShift int int") => `(tactic| k_dflt (refine' rshift_is ?n_q ?e_q ?_; (case n_q => first | with_reducible assumption | omega); (case e_q => with_reducible assumption)))
local macro_rules | `(tactic| walk_at "binaryOp LShift int int") => `(tactic| k_dflt (refine' lshift_int ?n_r ?sz_r ?_; (case n_r => omega); (case sz_r => with_reducible assumption)))
local macro_rules | `(tactic| walk_at "binaryOp Mult int int") => `(tactic| k_dflt (refine' mul_is ?n_s ?e_s ?_; (case n_s | e_s => with_reducible assumption)))

theorem inner_d2i {params : Arguments} {body : List Stmt} {scope : Scope} {doc pm ctv : Value} {c' f cd cn ci l : Addr} (hnest : nestOf (Mine.hd.heap_39 w.params) 66 0 = some (params, body, scope)) (X : (Mine.hd.heap_39 w.params).In G) (T : Top p loose mean mg mb G)
   (vs : List Value) (ds : List Int) (nn : Nat) (n : Nat) (tn : Tok) (hi : IntsAre vs ds) (hlen : ds.length ≤ 100) (hn5 : n ≤ 5000) (hds : ∀ d ∈ ds, Builtin.Int.intBits d ≤ 5000) :
 ∀ m : Nat, ∀ (A : Around) (s : Shared) (Q E : Value → Shared → Prop) (L R : Nat) (tL tR : Tok), Room (m + 1) A → R - L ≤ m → L < R → R ≤ ds.length → G.StaysIn s.heap → DIn params body scope doc pm ctv c' f cd cn ci l n tn nn vs s.heap →
   (∀ t h' tk', s.heap.StaysIn h' → Q (.int (horner n ((ds.take R).drop L)) t) { s with heap := h', toks := tk' }) →
   wpAny (model prog w) A (call (.ref f) [.int (L : Int) tL, .int (R : Int) tR]) Q E s := by
  rw [nest_lit (by k_is) rfl] at hnest
  obtain ⟨⟩ := hnest
  intro m
  induction m with
  | zero => intro A s Q E L R tL tR Rm h1 h2; (first | exact False.elim (om119 h1 h2) | omega)
  | succ m ih =>
    intro A s Q E L R tL tR Rm h1 h2 h3 st D hret
    obtain ⟨ahd, dp, fr, gd, un⟩ := A
    obtain rfl : ahd = none := Rm.hh
    obtain ⟨o1, d1, e1⟩ := D.d
    obtain ⟨o2, d2, e2⟩ := D.i
    obtain ⟨o3, d3, e3⟩ := D.n
    have hf := D.fn
    have hc := D.code
    have hfn := FnAt.mk hf
    have hL : s.heap.IsList l vs.toArray := ⟨_, D.l, rfl, _, rfl⟩
    obtain ⟨M, hM⟩ : ∃ M, M = (L + R) / 2 := ⟨_, rfl⟩
    have f1 : ((L : Int) + (R : Int)).fdiv (2 ^ Int.toNat 1) = (M : Int) := by rw [show (2 : Int) ^ Int.toNat 1 = 2 from rfl, Int.fdiv_eq_ediv_of_nonneg _ (by decide)]; (first | exact om120 hM | omega)
    have f2 : ((M : Int) - (L : Int)) * (n : Int) = (((M - L) * n : Nat) : Int) := by push_cast; rw [Int.ofNat_sub (by (first | exact om121 hM h2 | omega))]
    have f3 : IntMulOk ((M : Int) - (L : Int)) (n : Int) := IntMulOk.of_right (intBits_le_64 (by (first | exact om122 | omega)) (by (first | exact om123 hn5 | omega)))
    have f4 : (Builtin.Int.intBits (horner n ((ds.take R).drop M)) : Int) + (((M - L) * n : Nat) : Int) ≤ 2 ^ 27 := by
      have g1 := horner_abs (n := n) (B := 5000) (ds := (ds.take R).drop M) (fun d hd => hds d (List.mem_of_mem_take (List.mem_of_mem_drop hd)))
      have g2 : ((ds.take R).drop M).length ≤ 100 := by rw [List.length_drop, List.length_take]; (first | exact om124 hlen | omega)
      have g3 : (n + 1) * ((ds.take R).drop M).length ≤ 5001 * 100 := Nat.mul_le_mul (by (first | exact om125 hn5 | omega)) g2
      have g4 : (M - L) * n ≤ 100 * 5000 := Nat.mul_le_mul (by (first | exact om126 hM hlen h3 | omega)) hn5
      have h27 : (2 : Int) ^ 27 = 134217728 := by decide
      rw [h27]; (first | exact om127 g1 g4 g3 | omega)
    (k_dflt (refine' enterF ?st ?X ?T ?R ?ho ?hc ?k9 ?kB ?_ ?c2 ?c3 ?c4 ?c5; (case st | X | T | R | ho | hc => assumption); (case k9 => exact BindsTo.of_eq rfl); (case c5 => decide); (case kB => exact locs rfl); (case c2 | c3 | c4 => exact rfl); k_whole; intro _ _ _ _ _ _ _; (try dsimp only); k_unmd; k_fold))
    k_steps
    · rename_i hLR _ _
      show Q _ _
      have hR : R = L + 1 := by (first | exact om131 (by walk_at "my asm") | omega)
      have e : horner n ((ds.take R).drop L) = ds.getD (Int.toNat (L : Int)) 0 := by
        have hlt : L < ds.length := by (first | exact om132 (by walk_at "my asm") h3 | omega)
        rw [hR, Int.toNat_natCast, List.take_add_one, List.getElem?_eq_getElem hlt, Option.toList_some, List.drop_append, List.length_take, Nat.min_eq_left (by (first | exact om133 (by walk_at "my asm") h3 | omega)), Nat.sub_self, List.drop_zero, List.drop_eq_nil_of_le (by rw [List.length_take]; (first | exact om134 | omega)), List.nil_append, List.getD_eq_getElem?_getD, List.getElem?_eq_getElem hlt]
        simp [horner]
      rw [← e]
      exact hret _ _ _ (Fr.keep (by assumption))
    · refine ih _ _ _ _ M R _ _ (Rm.deep (by (first | exact om135 | omega))) (by (first | exact om136 hM h1 h2 (by walk_at "my asm") | omega)) (by (first | exact om137 hM h2 | omega)) h3 (StaysIn.trans st (Fr.keep (by assumption))) (D.stay (Fr.keep (by assumption))) ?_
      intro t1 h1' tk1 k1
      have F1 := Fr.keeps (by assumption) k1
      have N1 := News.grown (by assumption) k1
      k_steps
      refine ih _ _ _ _ L M _ _ (Rm.deep (by (first | exact om135 | omega))) (by (first | exact om138 hM h1 | omega)) (by (first | exact om139 hM h2 (by walk_at "my asm") | omega)) (by (first | exact om140 hM h3 h2 | omega)) (StaysIn.trans st (Fr.keep (by assumption))) (D.stay (Fr.keep (by assumption))) ?_
      intro t2 h2' tk2 k2
      have F2 := Fr.keeps (by assumption) k2
      have N2 := News.grown (by assumption) k2
      k_steps
      have hk : Int.toNat (((M - L) * n : Nat) : Int) = (M - L) * n := rfl
      have hl : ((ds.take M).drop L).length = M - L := by rw [List.length_drop, List.length_take]; (first | exact om141 hM h3 | omega)
      have e : horner n ((ds.take R).drop L) = horner n ((ds.take R).drop M) * 2 ^ Int.toNat (((M - L) * n : Nat) : Int) + horner n ((ds.take M).drop L) := by
        rw [slice_split ds L M R (by (first | exact om121 hM h2 | omega)) (by (first | exact om142 hM h2 | omega)), horner_append, hl, hk, Int.add_comm]
      rw [← e]
      exact hret _ _ _ (Fr.keep (by assumption))
end
section
theorem resetG2 : True := by
  w_top off
  exact trivial
variable {prog : Program} {w : World} {p : Program} {loose : List Str} {mean : ExcName → Option Value} {mg mb : Str → Option Value}
  {A : Around} {G : Heap} {s : Shared} {Q : Value → Shared → Prop} {E : Value → Shared → Prop}
local macro_rules | `(tactic| walk_at "call ref") => `(tactic| refine Halt.go ?_)

theorem d2i_call (X : (Mine.hd.heap_39 w.params).In G) (T : Top p loose mean mg mb G) (st : G.StaysIn s.heap) (n54 : G.get? 54 = none) (n61 : G.get? 61 = none) (tb : Tabs s.heap)
  (l : Addr) (vs : List Value) (ds : List Int) (nn : Nat) (n : Nat) (tn : Tok) (R : Room (ds.length + 3) A) (hl : s.heap.get? l = some (listOf vs.toArray nn)) (hi : IntsAre vs ds) (hlen : ds.length ≤ 100) (hn : n ≤ 5000) (hds : ∀ d ∈ ds, Builtin.Int.intBits d ≤ 5000)
  (hret : ∀ (t : Tok) (h' : Heap) (tk' : Nat), KeepT s.heap h' → Tabs h' → Q (.int (horner n ds) t) { s with heap := h', toks := tk' }) :
  wpAny (model prog w) A (call (.ref 66) [.ref l, .int (n : Int) tn]) Q E s := by
  obtain ⟨ahd, dp, fr, gd, un⟩ := A
  obtain rfl : ahd = none := R.hh
  obtain ⟨⟨p1, q1⟩, ⟨p2, q2⟩⟩ := tb
  have l54 : l ≠ 54 := fun e => by rw [e, q1.1] at hl; cases hl
  have l61 : l ≠ 61 := fun e => by rw [e, q2.1] at hl; cases hl
  have r2 := q2.2
  have hfull : (ds.take ds.length).drop 0 = ds := by simp
  rcases r2 with rfl | ⟨c9, oc9, ws9, t9, rfl, x1, x2, x3, x4, x5⟩
  · (k_dflt (refine' enterC ?hid ?st ?hH ?X ?T ?R ?k6 ?k7 ?k9 ?kB ?kD ?_ ?c2 ?c3 ?c4; (case st | X | T | R => assumption); (case k6 | k7 => k_is); (case k9 => first | exact BindsTo.of_eq rfl | exact binds_K (by assumption) rfl (by k_is) rfl rfl rfl); (case kB => exact rfl); (case kD => decide +kernel); (case c2 | c3 | c4 => exact rfl)))
    case hid => exact [(54, tabObj p1), (61, tabObj #[])]
    case hH => exact List.forall_mem_cons.mpr ⟨⟨q1.1, n54⟩, List.forall_mem_cons.mpr ⟨⟨q2.1, n61⟩, List.forall_mem_nil _⟩⟩
    intro g L' h₁ tk cells gs ls gst F N Y X' T' l1 l2
    obtain ⟨o1, o2, o3, rfl, d1, d2, d3⟩ := CellsAre.three Y
    simp only [List.cons_append, List.nil_append] at N
    k_lt l1
    clear Y l2
    have C := codeHd_of_K (c := 65) (P := 61) X' (by kernel_rfl)
    have hlg : g.get? l = some (listOf vs.toArray nn) := ls _ _ (List.forall_mem_cons.mpr ⟨l54, List.forall_mem_cons.mpr ⟨l61, List.forall_mem_nil _⟩⟩) hl
    have hLg : g.IsList l vs.toArray := ⟨_, hlg, rfl, _, rfl⟩
    have kT : KeepT s.heap g := fun b o b1 b2 e => ls b o (List.forall_mem_cons.mpr ⟨b1, List.forall_mem_cons.mpr ⟨b2, List.forall_mem_nil _⟩⟩) e
    k_unmd
    k_fold
    k_steps
    · refine inner_d2i (nest_lit (by k_is) rfl) X' T' vs ds nn n tn hi hlen hn hds ds.length _ _ _ _ 0 ds.length _ _ (R.deep (by (first | exact om154 | omega))) (by (first | exact om155 | omega)) (by omega) (Nat.le_refl _) (Fr.keep (by assumption))
        ⟨News.get (by assumption) (by k_mem), codeRec_news (by assumption) (by k_mem) (by assumption) (by assumption), ⟨o3, News.get (by assumption) (by k_mem), d3⟩, ⟨_, News.get (by assumption) (by k_mem), by assumption⟩, ⟨o2, News.get (by assumption) (by k_mem), d2⟩, Fr.keep (by assumption) _ _ hlg⟩ ?_
      intro t h' tk' k
      rw [hfull]
      refine hret t h' tk' (KeepT.trans kT (KeepT.of (StaysIn.trans (Fr.keep (by assumption)) k))) ⟨⟨p1, q1.keep (k _ _ (News.get (by assumption) (by k_mem))) (KeepT.trans kT (KeepT.of (StaysIn.trans (Fr.keep (by assumption)) k)))⟩, ⟨_, k _ _ (News.get (by assumption) (by k_mem)), .inr ⟨_, _, _, _, rfl, ?_, ?_, k _ _ (News.get (by assumption) (by k_mem)), by assumption, by assumption⟩⟩⟩
      all_goals k_ne
    · have h0 : ds = [] := List.eq_nil_of_length_eq_zero (by (first | exact om158 (by walk_at "my asm") | omega))
      subst h0
      refine hret _ _ _ (KeepT.trans kT (KeepT.of (Fr.keep (by assumption)))) ⟨⟨p1, q1.keep (News.get (by assumption) (by k_mem)) (KeepT.trans kT (KeepT.of (Fr.keep (by assumption))))⟩, ⟨_, News.get (by assumption) (by k_mem), .inr ⟨_, _, _, _, rfl, ?_, ?_, News.get (by assumption) (by k_mem), by assumption, by assumption⟩⟩⟩
      all_goals k_ne
  · (k_dflt (refine' enterC ?hid ?st ?hH ?X ?T ?R ?k6 ?k7 ?k9 ?kB ?kD ?_ ?c2 ?c3 ?c4; (case st | X | T | R => assumption); (case k6 | k7 => k_is); (case k9 => first | exact BindsTo.of_eq rfl | exact binds_K (by assumption) rfl (by k_is) rfl rfl rfl); (case kB => exact rfl); (case kD => decide +kernel); (case c2 | c3 | c4 => exact rfl)))
    case hid => exact [(54, tabObj p1), (61, tabObj #[rawInt 51, rawInt 4, .ref c9])]
    case hH => exact List.forall_mem_cons.mpr ⟨⟨q1.1, n54⟩, List.forall_mem_cons.mpr ⟨⟨q2.1, n61⟩, List.forall_mem_nil _⟩⟩
    intro g L' h₁ tk cells gs ls gst F N Y X' T' l1 l2
    obtain ⟨o1, o2, o3, rfl, d1, d2, d3⟩ := CellsAre.three Y
    simp only [List.cons_append, List.nil_append] at N
    k_lt l1
    clear Y l2
    have C := codeHd_of_K (c := 65) (P := 61) X' (by kernel_rfl)
    have hlg : g.get? l = some (listOf vs.toArray nn) := ls _ _ (List.forall_mem_cons.mpr ⟨l54, List.forall_mem_cons.mpr ⟨l61, List.forall_mem_nil _⟩⟩) hl
    have hLg : g.IsList l vs.toArray := ⟨_, hlg, rfl, _, rfl⟩
    have kT : KeepT s.heap g := fun b o b1 b2 e => ls b o (List.forall_mem_cons.mpr ⟨b1, List.forall_mem_cons.mpr ⟨b2, List.forall_mem_nil _⟩⟩) e
    have x6 := kT _ _ x1 x2 x3
    k_unmd
    k_fold
    k_steps
    · refine inner_d2i (nest_lit (by k_is) rfl) X' T' vs ds nn n tn hi hlen hn hds ds.length _ _ _ _ 0 ds.length _ _ (R.deep (by (first | exact om154 | omega))) (by (first | exact om155 | omega)) (by omega) (Nat.le_refl _) (Fr.keep (by assumption))
        ⟨News.get (by assumption) (by k_mem), ⟨c9, oc9, ws9, t9, rfl, Fr.keep (by assumption) _ _ x6, x4, x5⟩, ⟨o3, News.get (by assumption) (by k_mem), d3⟩, ⟨_, News.get (by assumption) (by k_mem), by assumption⟩, ⟨o2, News.get (by assumption) (by k_mem), d2⟩, Fr.keep (by assumption) _ _ hlg⟩ ?_
      intro t h' tk' k
      rw [hfull]
      exact hret t h' tk' (KeepT.trans kT (KeepT.of (StaysIn.trans (Fr.keep (by assumption)) k))) ⟨⟨p1, q1.keep (k _ _ (News.get (by assumption) (by k_mem))) (KeepT.trans kT (KeepT.of (StaysIn.trans (Fr.keep (by assumption)) k)))⟩, ⟨_, q2.keep (k _ _ (News.get (by assumption) (by k_mem))) (KeepT.trans kT (KeepT.of (StaysIn.trans (Fr.keep (by assumption)) k)))⟩⟩
    · have h0 : ds = [] := List.eq_nil_of_length_eq_zero (by (first | exact om158 (by walk_at "my asm") | omega))
      subst h0
      exact hret _ _ _ (KeepT.trans kT (KeepT.of (Fr.keep (by assumption)))) ⟨⟨p1, q1.keep (News.get (by assumption) (by k_mem)) (KeepT.trans kT (KeepT.of (Fr.keep (by assumption))))⟩, ⟨_, q2.keep (News.get (by assumption) (by k_mem)) (KeepT.trans kT (KeepT.of (Fr.keep (by assumption))))⟩⟩
end
section
theorem resetG3 : True := by
  w_top off
  exact trivial
variable {prog : Program} {w : World} {p : Program} {loose : List Str} {mean : ExcName → Option Value} {mg mb : Str → Option Value}
  {A : Around} {G : Heap} {s : Shared} {Q : Value → Shared → Prop} {E : Value → Shared → Prop}

noncomputable def digs (n : Nat) : Nat → Int → List Int
  | 0, _ => []
  | m + 1, x => x % 2 ^ n :: digs n m (x / 2 ^ n)
theorem digs_len (n : Nat) : ∀ (m : Nat) (x : Int), (digs n m x).length = m
  | 0, _ => rfl
  | m + 1, x => by rw [digs, List.length_cons, digs_len]
theorem pow_mul_add (n m : Nat) : (2 : Int) ^ (n * (m + 1)) = 2 ^ n * 2 ^ (n * m) := by rw [Nat.mul_add, Nat.mul_one, Nat.add_comm, Int.pow_add]
theorem digs_add (n : Nat) : ∀ (a b : Nat) (x : Int), 0 ≤ x → digs n (a + b) x = digs n a (x % 2 ^ (n * a)) ++ digs n b (x / 2 ^ (n * a))
  | 0, b, x, _ => by simp [digs]
  | a + 1, b, x, h => by
    rw [show a + 1 + b = (a + b) + 1 from by (first | exact om159 | omega), digs, digs, digs_add n a b _ (Int.ediv_nonneg h (Int.le_of_lt (two_pow_pos n))), List.cons_append]
    have hp := two_pow_pos n
    have e1 : x % 2 ^ (n * (a + 1)) % 2 ^ n = x % 2 ^ n := by rw [pow_mul_add]; exact Int.emod_emod_of_dvd _ ⟨_, rfl⟩
    have e2 : x / 2 ^ n / 2 ^ (n * a) = x / 2 ^ (n * (a + 1)) := by rw [pow_mul_add, Int.ediv_ediv_of_nonneg (Int.le_of_lt hp)]
    have e3 : x % 2 ^ (n * (a + 1)) / 2 ^ n = x / 2 ^ n % 2 ^ (n * a) := by
      rw [pow_mul_add]
      have h1 := Int.mul_ediv_add_emod x (2 ^ n * 2 ^ (n * a))
      have h2 : x = x % (2 ^ n * 2 ^ (n * a)) + x / (2 ^ n * 2 ^ (n * a)) * 2 ^ (n * a) * 2 ^ n := by
        rw [Int.mul_assoc, Int.mul_comm (2 ^ (n * a)) (2 ^ n), Int.mul_comm (x / _)]; (first | exact om160 h1 | omega)
      have h3 : x / 2 ^ n = x % (2 ^ n * 2 ^ (n * a)) / 2 ^ n + x / (2 ^ n * 2 ^ (n * a)) * 2 ^ (n * a) := by
        conv => lhs; rw [h2]
        exact Int.add_mul_ediv_right _ _ (by (first | exact om64 hp | omega))
      rw [h3, Int.add_mul_emod_self_right]
      refine (Int.emod_eq_of_lt (Int.ediv_nonneg (Int.emod_nonneg _ ?_) (Int.le_of_lt hp)) ?_).symm
      · have := two_pow_pos (n * a); have := Int.mul_pos hp this; (first | exact om64 this | omega)
      · refine Int.ediv_lt_of_lt_mul hp ?_
        rw [Int.mul_comm (2 ^ (n * a))]
        exact Int.emod_lt_of_pos _ (Int.mul_pos hp (two_pow_pos (n * a)))
    rw [e1, e2, e3]

noncomputable def putAt {α : Type} (its ys : List α) (L : Nat) : List α := its.take L ++ (ys ++ its.drop (L + ys.length))
theorem putAt_len {α : Type} (its ys : List α) (L : Nat) (h : L + ys.length ≤ its.length) : (putAt its ys L).length = its.length := by
  simp [putAt]; (first | exact om161 h | omega)
theorem putAt_two {α : Type} (its xs ys : List α) (L : Nat) (h : L + xs.length + ys.length ≤ its.length) : putAt (putAt its xs L) ys (L + xs.length) = putAt its (xs ++ ys) L := by
  unfold putAt
  have h1 : (its.take L ++ (xs ++ its.drop (L + xs.length))).take (L + xs.length) = its.take L ++ xs := by
    rw [← List.append_assoc, List.take_left' (by simp; (first | exact om162 h | omega))]
  have h2 : (its.take L ++ (xs ++ its.drop (L + xs.length))).drop (L + xs.length + ys.length) = its.drop (L + xs.length + ys.length) := by
    rw [← List.append_assoc, ← List.drop_drop, List.drop_left' (by simp; (first | exact om162 h | omega)), List.drop_drop]
  rw [h1, h2]
  simp [Nat.add_assoc]
theorem putAt_one {α : Type} (its : List α) (v : α) (L : Nat) (h : L < its.length) : putAt its [v] L = its.set L v := by
  unfold putAt
  rw [List.set_eq_take_append_cons_drop, if_pos h]; rfl
section
variable {v : Value} {h₀ : Heap} {L : Addr} {m : Str → Option Value} {news : List (Addr × Obj)}
theorem setItem_at {Q : Unit → Shared → Prop} {l : Addr} {its : List Value} {nn : Nat} {gg : Obj → List (Addr × Obj)} {k : Nat} {t : Tok} (F : Fr h₀ L s.heap m) (N : News h₀ L s.heap news) (hm : (l, listOf its.toArray nn) ∈ news) (U : UpdF l (listOf its.toArray nn) news gg) (hk : k < its.length) (h63 : k < 2 ^ 63)
    (h : ∀ h', Fr h₀ L h' m → News h₀ L h' (gg (listOf (its.set k v).toArray nn)) → KeepBut l s.heap h' → h'.get? l = some (listOf (its.set k v).toArray nn) → Q () { s with heap := h' }) :
    wpAny (model prog w) A (setItem (.ref l) (.int (k : Int) t) v) Q E s := by
  have ho := N.get hm
  have kb : KeepBut l s.heap (s.heap.update l (Obj.mapSeq (·.setIfInBounds (k : Int).toNat v))) := fun b o hb e => Heap.get?_update_of_ne _ (fun x => hb x.symm) e
  have e : (s.heap.update l (Obj.mapSeq (·.setIfInBounds (k : Int).toNat v))).get? l = some (listOf (its.set k v).toArray nn) := by
    have q := PySem.IsL.update ho (·.setIfInBounds (k : Int).toNat v)
    simpa using q
  exact ki_setAt ho (by (first | exact om100 | omega)) (by (first | exact om163 h63 | omega)) (by simpa using hk) (h _ (Fr.but F N hm kb) (News.but N U kb e) kb e)
end

structure IIn (params : Arguments) (body : List Stmt) (scope : Scope) (doc pm ctv : Value) (c' f cd cn ci l n tn : Nat) (h : Heap) : Prop where
  fn : h.get? f = some (fnMade (Str.ofString "inner") (Str.ofString "_int2digits.<locals>.inner") params body scope [(Str.ofString "n", cn), (Str.ofString "inner", ci), (Str.ofString "a_digits", cd)] doc pm c' ctv)
  code : h.CodeRec (.ref c') (Str.ofString "_int2digits.<locals>.inner")
  d : ∃ o, h.get? cd = some o ∧ o.data = .cell (some (.ref l))
  i : ∃ o, h.get? ci = some o ∧ o.data = .cell (some (.ref f))
  n : ∃ o, h.get? cn = some o ∧ o.data = .cell (some (.int (n : Int) tn))
  l : h.get? l = none

local macro_rules | `(tactic| walk_at "call ref") => `(tactic| refine Halt.go ?_)
local macro_rules | `(tactic| walk_at "FnAt") => `(tactic| k_dflt (exact FnAt.stay (by assumption) (Fr.keep (by assumption))))
local macro_rules | `(tactic| walk_at "callWith ref") => `(tactic| k_dflt (refine' callWith_F ?k1_t ?_; (case k1_t => exact FnAt.stay (by assumption) (Fr.keep (by assumption))); k_whole))
local macro_rules | `(tactic| walk_at "And") => `(tactic| ((with_reducible show FnAt _ _ ∧ _); refine ⟨by (k_dflt (exact FnAt.stay (by assumption) (Fr.keep (by assumption)))), ?_⟩; try dsimp only [List.nil_append, List.cons_append]))
local macro_rules | `(tactic| walk_at "eval Name") => `(tactic| k_dflt (refine' nameX_Fb ?F_u ?c_u ?o_u ?d_u ?_ ?a_u ?b_u; (case a_u | b_u => rfl); (case F_u => assumption); (case c_u => rfl); (case o_u | d_u => with_reducible assumption); k_whole))
local macro_rules | `(tactic| walk_at "setItem ref int") => `(tactic| refine Halt.go ?_)
local macro_rules | `(tactic| walk_at "binaryOp RShift int int") => `(tactic| k_dflt (refine' rshift_is ?n_v ?e_v ?_; (case n_v => first | with_reducible assumption | omega); (case e_v => with_reducible assumption)))
local macro_rules | `(tactic| walk_at "binaryOp LShift int int") => `(tactic| k_dflt (refine' lshift_is ?n_w ?sz_w ?e_w ?_; (case n_w => omega); (case sz_w | e_w => with_reducible assumption)))
local macro_rules | `(tactic| walk_at "binaryOp BitXor int int") => `(tactic| k_dflt (refine' xor_is ?e_x ?_; (case e_x => with_reducible assumption)))
local macro_rules | `(tactic| walk_at "binaryOp Mult int int") => `(tactic| k_dflt (refine' mul_is ?n_y ?e_y ?_; (case n_y | e_y => with_reducible assumption)))

theorem inner_i2d {params : Arguments} {body : List Stmt} {scope : Scope} {doc pm ctv : Value} {c' f cd cn ci l : Addr} (hnest : nestOf (Mine.hd.heap_39 w.params) 59 1 = some (params, body, scope)) (X : (Mine.hd.heap_39 w.params).In G) (T : Top p loose mean mg mb G)
   (n : Nat) (tn : Tok) (cnt : Nat) (hcnt : cnt ≤ 100) (hn5 : n ≤ 5000) (nn : Nat) (D : IIn params body scope doc pm ctv c' f cd cn ci l n tn G) :
 ∀ m : Nat, ∀ (A : Around) (s : Shared) (Q E : Value → Shared → Prop) (L R : Nat) (x : Int) (tx tL tR : Tok) (its : List Value), Room (m + 1) A → R - L ≤ m → L < R → R ≤ cnt → its.length = cnt → 0 ≤ x → x < 2 ^ (n * (R - L)) → G.StaysIn s.heap → s.heap.get? l = some (listOf its.toArray nn) →
   (∀ ys h' tk', KeepBut l s.heap h' → IntsAre ys (digs n (R - L) x) → ys.length = R - L → h'.get? l = some (listOf (putAt its ys L).toArray nn) → Q .none { s with heap := h', toks := tk' }) →
   wpAny (model prog w) A (call (.ref f) [.int x tx, .int (L : Int) tL, .int (R : Int) tR]) Q E s := by
  rw [nest_lit (by k_is) rfl] at hnest
  obtain ⟨⟩ := hnest
  intro m
  induction m with
  | zero => intro A s Q E L R x tx tL tR its Rm h1 h2; (first | exact False.elim (om119 h1 h2) | omega)
  | succ m ih =>
    intro A s Q E L R x tx tL tR its Rm h1 h2 h3 h4 h5 h6 st hal hret
    obtain ⟨ahd, dp, fr, gd, un⟩ := A
    obtain rfl : ahd = none := Rm.hh
    have hf0 := st _ _ D.fn
    have hc0 := D.code.keeps st
    obtain ⟨M, hM⟩ : ∃ M, M = (L + R) / 2 := ⟨_, rfl⟩
    have f1 : ((L : Int) + (R : Int)).fdiv (2 ^ Int.toNat 1) = (M : Int) := by rw [show (2 : Int) ^ Int.toNat 1 = 2 from rfl, Int.fdiv_eq_ediv_of_nonneg _ (by decide)]; (first | exact om120 hM | omega)
    have f2 : ((M : Int) - (L : Int)) * (n : Int) = (((M - L) * n : Nat) : Int) := by push_cast; rw [Int.ofNat_sub (by (first | exact om121 hM h2 | omega))]
    have f3 : IntMulOk ((M : Int) - (L : Int)) (n : Int) := IntMulOk.of_right (intBits_le_64 (by (first | exact om122 | omega)) (by (first | exact om123 hn5 | omega)))
    have hp := two_pow_pos ((M - L) * n)
    obtain ⟨u, hu⟩ : ∃ u, u = x / 2 ^ ((M - L) * n) := ⟨_, rfl⟩
    have u1 : x.fdiv (2 ^ Int.toNat (((M - L) * n : Nat) : Int)) = u := by rw [hu, Int.toNat_natCast]; exact fdiv_pow
    have u2 : u * 2 ^ Int.toNat (((M - L) * n : Nat) : Int) = x.fdiv (2 ^ ((M - L) * n)) * 2 ^ ((M - L) * n) := by rw [← u1, Int.toNat_natCast]
    obtain ⟨v, hv⟩ : ∃ v, v = x % 2 ^ ((M - L) * n) := ⟨_, rfl⟩
    have u3 : Builtin.bitXor x (x.fdiv (2 ^ ((M - L) * n)) * 2 ^ ((M - L) * n)) = v := by rw [hv]; exact xor_top h5
    have u0 : 0 ≤ u := by rw [hu]; exact Int.ediv_nonneg h5 (Int.le_of_lt hp)
    have f4 : (Builtin.Int.intBits u : Int) + (((M - L) * n : Nat) : Int) ≤ 2 ^ 27 := by
      have g1 : u ≤ x := by rw [hu]; exact Int.ediv_le_self _ h5
      have g2 := bits_lt u0 (Int.lt_of_le_of_lt g1 h6)
      have g3 : n * (R - L) ≤ 5000 * 100 := Nat.mul_le_mul hn5 (by (first | exact om164 h3 hcnt | omega))
      have g4 : (M - L) * n ≤ 100 * 5000 := Nat.mul_le_mul (by (first | exact om126 hM hcnt h3 | omega)) hn5
      have h27 : (2 : Int) ^ 27 = 134217728 := by decide
      rw [h27]; (first | exact om165 g2 g4 g3 | omega)
    (k_dflt (refine' enterFH ?hid ?st ?hH ?X ?T ?R ?ho ?hc ?k9 ?kB ?_ ?c2 ?c3 ?c4 ?c5; (case st | X | T | R | ho | hc => assumption); (case k9 => exact BindsTo.of_eq rfl); (case c5 => decide); (case kB => exact locs rfl); (case c2 | c3 | c4 => exact rfl)))
    case hid => exact [(l, listOf its.toArray nn)]
    case hH => exact List.forall_mem_cons.mpr ⟨⟨hal, D.l⟩, List.forall_mem_nil _⟩
    intro g L' h₁ tk gs ls gst F N X' T' l1
    obtain ⟨o1, d1, e1⟩ := D.d
    obtain ⟨o2, d2, e2⟩ := D.i
    obtain ⟨o3, d3, e3⟩ := D.n
    have d1' := gst _ _ d1
    have d2' := gst _ _ d2
    have d3' := gst _ _ d3
    have hfn := FnAt.mk (gst _ _ D.fn)
    have kl : KeepBut l s.heap g := fun b o hb e => ls b o (List.forall_mem_cons.mpr ⟨hb, List.forall_mem_nil _⟩) e
    k_unmd
    k_fold
    k_steps
    · have hRL : R - L = 1 := by (first | exact om166 (by walk_at "my asm") | omega)
      refine setItem_at (its := its) (nn := nn) (by assumption) (by assumption) (by k_mem) (by k_updF) (by (first | exact om167 (by walk_at "my asm") h4 h3 | omega)) (by (first | exact om168 (by walk_at "my asm") hcnt h3 | omega)) ?_
      intro h2 F2 N2 k2 e2
      try dsimp only [List.nil_append, List.cons_append] at N2
      k_steps
      have hq : 0 < 2 ^ n := Nat.two_pow_pos n
      have hd1 : digs n (R - L) x = [x] := by rw [hRL, Nat.mul_one] at h6; rw [hRL, digs, digs, Int.emod_eq_of_lt h5 h6]
      refine hret [.int x tx] _ _ ?_ (by rw [hd1]; exact .cons _ _ .nil) (by rw [hRL]; rfl) (by rw [putAt_one _ _ _ (by (first | exact om167 (by walk_at "my asm") h4 h3 | omega))]; exact e2)
      exact fun b o hb e => k2 b o hb (Fr.keep F _ _ (kl b o hb e))
    · have hML : M - L ≤ m := by (first | exact om138 hM h1 | omega)
      have hc1 : n * (M - L) = (M - L) * n := Nat.mul_comm _ _
      refine ih _ _ _ _ L M v _ _ _ its (Rm.deep (by (first | exact om135 | omega))) (by omega) (by (first | exact om139 hM h2 (by walk_at "my asm") | omega)) (by (first | exact om140 hM h3 h2 | omega)) h4 (by rw [hv]; exact Int.emod_nonneg _ (by (first | exact om64 hp | omega))) (by rw [hc1, hv]; exact Int.emod_lt_of_pos _ hp) (StaysIn.trans gst (Fr.keep (by assumption))) (News.get (by assumption) (by k_mem)) ?_
      intro ys1 h2 tk2 k2 i1 z1 e2
      have F2 := Fr.but (by assumption) (by assumption) (by k_mem) k2
      have N2 := News.but (by assumption) (by k_updF) k2 e2
      try dsimp only [List.nil_append, List.cons_append] at N2
      have kk2 : KeepBut l s.heap h2 := fun b o hb e => k2 b o hb (Fr.keep (by assumption) _ _ (kl b o hb e))
      k_steps
      refine ih _ _ _ _ M R u _ _ _ (putAt its ys1 L) (Rm.deep (by (first | exact om135 | omega))) (by (first | exact om136 hM h1 (by walk_at "my asm") (by walk_at "my asm") | omega)) (by (first | exact om137 hM (by walk_at "my asm") | omega)) h3 (by rw [putAt_len _ _ _ (by (first | exact om169 z1 h4 hM h3 (by walk_at "my asm") | omega))]; exact h4) u0 ?_ (StaysIn.trans gst (Fr.keep (by assumption))) (News.get (by assumption) (by k_mem)) ?_
      · rw [hu]
        refine Int.ediv_lt_of_lt_mul hp ?_
        rw [← hc1, ← Int.pow_add, ← Nat.mul_add, show R - M + (M - L) = R - L from by (first | exact om170 hM | omega)]
        exact h6
      intro ys2 h3 tk3 k3 i2 z2 e3
      have F3 := Fr.but (by assumption) (by assumption) (by k_mem) k3
      have kk3 : KeepBut l s.heap h3 := fun b o hb e => k3 b o hb (Fr.keep (by assumption) _ _ (kl b o hb e))
      k_steps
      have hd1 : digs n (R - L) x = digs n (M - L) v ++ digs n (R - M) u := by
        rw [show R - L = (M - L) + (R - M) from by (first | exact om171 hM z1 z2 (by walk_at "my asm") | omega), digs_add n _ _ _ h5, hc1, hu, hv]
      refine hret (ys1 ++ ys2) _ _ kk3 (by rw [hd1]; exact i1.append i2) (by rw [List.length_append]; (first | exact om172 z1 z2 hM (by walk_at "my asm") | omega)) ?_
      rw [← putAt_two _ _ _ _ (by (first | exact om173 z1 z2 h4 hM (by walk_at "my asm") (by walk_at "my asm") | omega)), z1, show L + (M - L) = M from by (first | exact om174 hM (by walk_at "my asm") | omega)]
      exact e3
end
section
theorem resetG4 : True := by
  w_top off
  exact trivial
variable {prog : Program} {w : World} {p : Program} {loose : List Str} {mean : ExcName → Option Value} {mg mb : Str → Option Value}
  {A : Around} {G : Heap} {s : Shared} {Q : Value → Shared → Prop} {E : Value → Shared → Prop}
local macro_rules | `(tactic| walk_at "call ref") => `(tactic| refine Halt.go ?_)
local macro_rules | `(tactic| walk_at "binaryOp FloorDiv int int") => `(tactic| refine Halt.go ?_)
local macro_rules | `(tactic| walk_at "binaryOp Mult ref int") => `(tactic| refine Halt.go ?_)

section
variable {h₀ : Heap} {L : Addr} {m : Str → Option Value} {news : List (Addr × Obj)}
theorem len_news {l : Addr} {its : List Value} {nn c : Nat} (N : News h₀ L s.heap news) (hm : (l, listOf its.toArray nn) ∈ news) (e : its.length = c) (hc : c < 2 ^ 63) (h : Q (.int (c : Int) (s.toks + 1)) { s with toks := s.toks + 1 + 1 }) :
    wpAny (model prog w) A (call (.builtin "len") [.ref l]) Q E s := by
  subst e
  refine PyProof.Rows.len_list (items := its.toArray) ⟨_, N.get hm, rfl, _, rfl⟩ ?_ ?_
  · simpa using (by (first | exact om163 hc | omega) : (its.length : Int) < 2 ^ 63)
  · simpa using h
end
theorem hide_stay {g h : Heap} {L q : Addr} {m : Str → Option Value} {news : List (Addr × Obj)} {o : Obj} (F : Fr g L h m) (N : News g L h news) (hm : (q, o) ∈ news) : g.StaysIn (hideAll h [q]) := fun b x e =>
  hideAll_get _ (F.keep _ _ e) fun hb => by
    rw [List.mem_singleton.mp hb, (N _ hm).2.2] at e; cases e
theorem hide_get {h : Heap} {b q : Addr} {o : Obj} (e : h.get? b = some o) (hb : b ≠ q) : (hideAll h [q]).get? b = some o := hideAll_get _ e fun x => hb (List.mem_singleton.mp x)
theorem hide_code {h : Heap} {c q : Addr} {n : Str} (x : h.CodeRec (.ref c) n) (hc : c ≠ q) : (hideAll h [q]).CodeRec (.ref c) n := by
  obtain ⟨c1, o1, v1, t1, e1, e2, e3, e4⟩ := x
  cases e1
  exact ⟨c, o1, v1, t1, rfl, hide_get e2 hc, e3, e4⟩
local macro_rules | `(tactic| walk_at "call builtin:len") => `(tactic| refine Halt.go ?_)
noncomputable def ndig (n : Nat) (a : Int) : Nat := (Builtin.Int.intBits a + n - 1) / n
theorem cnt_zero {n cnt : Nat} {a : Int} (hn0 : 0 < n) (hc : cnt = ndig n a) (h : a = 0) : cnt = 0 := by
  rw [hc, ndig, h, show Builtin.Int.intBits 0 = 0 from rfl]
  exact Nat.div_eq_of_lt (by (first | exact om175 hn0 | omega))
theorem putAt_all {α : Type} (its ys : List α) (h : ys.length = its.length) : putAt its ys 0 = ys := by
  unfold putAt
  rw [Nat.zero_add, h, List.drop_length, List.append_nil, List.take_zero, List.nil_append]
theorem new_none {g h : Heap} {q a b : Addr} {oa ob : Obj} (ls : Less [(a, oa), (b, ob)] h g) (hq : g.get? q = none) (ha : q ≠ a) (hb : q ≠ b) : h.get? q = none := by
  cases x : h.get? q with
  | none => rfl
  | some o => rw [ls _ _ (List.forall_mem_cons.mpr ⟨ha, List.forall_mem_cons.mpr ⟨hb, List.forall_mem_nil _⟩⟩) x] at hq; cases hq
theorem ne_of_none {g : Heap} {q b : Addr} {o : Obj} (hq : g.get? q = none) (e : g.get? b = some o) : b ≠ q := fun x => by rw [x, hq] at e; cases e

theorem i2d_call (X : (Mine.hd.heap_39 w.params).In G) (T : Top p loose mean mg mb G) (st : G.StaysIn s.heap) (n54 : G.get? 54 = none) (n61 : G.get? 61 = none) (tb : Tabs s.heap)
  (a : Int) (n : Nat) (ta tn : Tok) (R : Room 104 A) (h0 : 0 ≤ a) (hn0 : 0 < n) (hn : n ≤ 5000) (ha : ndig n a ≤ 100)
  (hret : ∀ (q : Addr) (ys : List Value) (h' : Heap) (tk' : Nat), KeepT s.heap h' → Tabs h' → s.heap.get? q = none → h'.get? q = some (listOf ys.toArray 0) → IntsAre ys (digs n (ndig n a) a) → Q (.ref q) { s with heap := h', toks := tk' }) :
  wpAny (model prog w) A (call (.ref 59) [.int a ta, .int (n : Int) tn]) Q E s := by
  obtain ⟨ahd, dp, fr, gd, un⟩ := A
  obtain rfl : ahd = none := R.hh
  obtain ⟨cnt, hcnt⟩ : ∃ c, c = ndig n a := ⟨_, rfl⟩
  rw [← hcnt] at ha hret
  have b1 : (n : Int) ≠ 0 := by (first | exact om176 hn0 | omega)
  have b2 : (n : Int).natAbs.log2 < 9000 := by
    have := Nat.log2_le_self (n : Int).natAbs
    (first | exact om177 this hn | omega)
  have b3 : (((Builtin.Int.intBits a : Nat) : Int) + (n : Int) - 1).fdiv (n : Int) = ((cnt : Nat) : Int) := by
    rw [Int.fdiv_eq_ediv_of_nonneg _ (by (first | exact om100 | omega)), hcnt, ndig]
    push_cast
    rw [Int.ofNat_sub (by (first | exact om178 hn0 | omega))]
    push_cast
    rfl
  have b4 : a < 2 ^ (n * cnt) := by
    have h1 : Builtin.Int.intBits a ≤ n * cnt := by
      have h2 := Nat.div_add_mod (Builtin.Int.intBits a + n - 1) n
      have h3 := Nat.mod_lt (Builtin.Int.intBits a + n - 1) hn0
      rw [hcnt, ndig]
      (first | exact om179 h2 h3 | omega)
    have h4 := (intBits_le_iff).mp h1
    rw [← two_pow_cast]
    (first | exact om180 h4 | omega)
  obtain ⟨⟨p1, q1⟩, ⟨p2, q2⟩⟩ := tb
  have r1 := q1.2
  rcases r1 with rfl | ⟨c9, oc9, ws9, t9, rfl, x1, x2, x3, x4, x5⟩
  · (k_dflt (refine' enterC ?hid ?st ?hH ?X ?T ?R ?k6 ?k7 ?k9 ?kB ?kD ?_ ?c2 ?c3 ?c4; (case st | X | T | R => assumption); (case k6 | k7 => k_is); (case k9 => first | exact BindsTo.of_eq rfl | exact binds_K (by assumption) rfl (by k_is) rfl rfl rfl); (case kB => exact rfl); (case kD => decide +kernel); (case c2 | c3 | c4 => exact rfl)))
    case hid => exact [(54, tabObj #[]), (61, tabObj p2)]
    case hH => exact List.forall_mem_cons.mpr ⟨⟨q1.1, n54⟩, List.forall_mem_cons.mpr ⟨⟨q2.1, n61⟩, List.forall_mem_nil _⟩⟩
    intro g L' h₁ tk cells gs ls gst F N Y X' T' l1 l2
    obtain ⟨o1, o2, o3, rfl, d1, d2, d3⟩ := CellsAre.three Y
    simp only [List.cons_append, List.nil_append] at N
    k_lt l1
    clear Y l2
    have C := codeHd_of_K (c := 58) (P := 54) X' (by kernel_rfl)
    have kT : KeepT s.heap g := fun b o b1 b2 e => ls b o (List.forall_mem_cons.mpr ⟨b1, List.forall_mem_cons.mpr ⟨b2, List.forall_mem_nil _⟩⟩) e
    k_unmd
    k_fold
    k_steps
    (k_dflt (refine' floordiv_is ?b_13 ?p_13 ?e_13 ?_; (case b_13 | p_13 | e_13 => with_reducible assumption)))
    k_steps
    (k_dflt (refine' mul_rep ?F_14 ?N_14 ?m_14 ?c_14 ?_; (case F_14 | N_14 => assumption); (case m_14 => k_mem); (case c_14 => omega)); intro _ _ _ _ l'; k_lt l'; revert l'; intro _)
    k_steps
    · (k_dflt (refine' len_news ?N_15 ?m_15 ?e_15 ?c_15 ?_; (case N_15 => assumption); (case m_15 => k_mem); (case e_15 => exact List.length_replicate); (case c_15 => omega)))
      k_steps
      refine' inner_i2d (l := ?l) (G := hideAll _ [?l]) (nest_lit (by k_is) rfl) ?X ?T n tn cnt ha hn 0 ?D cnt _ _ _ _ 0 cnt a _ _ _ (List.replicate cnt (.int 0 _)) (R.deep (by (first | exact om193 ha | omega))) (by (first | exact om155 | omega)) ?pos (Nat.le_refl _) List.length_replicate h0 b4 (fun b o e => of_hideAll _ e) ?hal ?k
      case hal => exact News.get (by assumption) (by k_mem)
      case X => exact X'.keeps (hide_stay (by assumption) (by assumption) (by k_dflt k_mem))
      case T => exact T'.keeps (hide_stay (by assumption) (by assumption) (by k_dflt k_mem))
      case D => exact ⟨hide_get (News.get (by assumption) (by k_mem)) (by k_ne), (hide_code (codeRec_news (by assumption) (by k_mem) (by assumption) (by assumption)) (by k_ne)), ⟨_, hide_get (News.get (by assumption) (by k_mem)) (by k_ne), by assumption⟩, ⟨_, hide_get (News.get (by assumption) (by k_mem)) (by k_ne), by assumption⟩, ⟨o3, hide_get (News.get (by assumption) (by k_mem)) (by k_ne), d3⟩, hideAll_none _ (.head _)⟩
      case pos =>
        rcases Nat.eq_zero_or_pos cnt with z | z
        · rw [z, Nat.mul_zero] at b4
          exact absurd (show a = 0 by have : (2 : Int) ^ 0 = 1 := rfl; (first | exact om199 h0 b4 | omega)) (by assumption)
        · exact z
      intro ys h2 tk2 k2 i1 z1 e2
      have F2 := Fr.but (by assumption) (by assumption) (by k_mem) k2
      have N2 := News.but (by assumption) (by k_updF) k2 e2
      try dsimp only [List.nil_append, List.cons_append] at N2
      rw [putAt_all _ _ (by rw [List.length_replicate]; exact z1)] at e2 N2
      k_steps
      show Q _ _
      refine hret _ ys _ _ (KeepT.trans kT (KeepT.of (Fr.keep (by assumption)))) (Tabs.mk ⟨_, News.get (by assumption) (by k_mem), .inr ⟨_, _, _, _, rfl, ?_, ?_, News.get (by assumption) (by k_mem), by assumption, by assumption⟩⟩ ⟨p2, q2.keep (News.get (by assumption) (by k_mem)) (KeepT.trans kT (KeepT.of (Fr.keep (by assumption))))⟩) (new_none ls (News.none (by assumption) (by k_mem)) (by k_ne) (by k_ne)) e2 i1
      all_goals k_ne
    · show Q _ _
      have hc0 : cnt = 0 := cnt_zero hn0 hcnt (by assumption)
      refine hret _ _ _ _ (KeepT.trans kT (KeepT.of (Fr.keep (by assumption)))) (Tabs.mk ⟨_, News.get (by assumption) (by k_mem), .inr ⟨_, _, _, _, rfl, ?_, ?_, News.get (by assumption) (by k_mem), by assumption, by assumption⟩⟩ ⟨p2, q2.keep (News.get (by assumption) (by k_mem)) (KeepT.trans kT (KeepT.of (Fr.keep (by assumption))))⟩) (new_none ls (News.none (by assumption) (by k_mem)) (by k_ne) (by k_ne)) (News.get (by assumption) (by k_mem)) (by rw [hc0]; exact .nil)
      all_goals k_ne
  · (k_dflt (refine' enterC ?hid ?st ?hH ?X ?T ?R ?k6 ?k7 ?k9 ?kB ?kD ?_ ?c2 ?c3 ?c4; (case st | X | T | R => assumption); (case k6 | k7 => k_is); (case k9 => first | exact BindsTo.of_eq rfl | exact binds_K (by assumption) rfl (by k_is) rfl rfl rfl); (case kB => exact rfl); (case kD => decide +kernel); (case c2 | c3 | c4 => exact rfl)))
    case hid => exact [(54, tabObj #[rawInt 36, rawInt 4, .ref c9]), (61, tabObj p2)]
    case hH => exact List.forall_mem_cons.mpr ⟨⟨q1.1, n54⟩, List.forall_mem_cons.mpr ⟨⟨q2.1, n61⟩, List.forall_mem_nil _⟩⟩
    intro g L' h₁ tk cells gs ls gst F N Y X' T' l1 l2
    obtain ⟨o1, o2, o3, rfl, d1, d2, d3⟩ := CellsAre.three Y
    simp only [List.cons_append, List.nil_append] at N
    k_lt l1
    clear Y l2
    have C := codeHd_of_K (c := 58) (P := 54) X' (by kernel_rfl)
    have kT : KeepT s.heap g := fun b o b1 b2 e => ls b o (List.forall_mem_cons.mpr ⟨b1, List.forall_mem_cons.mpr ⟨b2, List.forall_mem_nil _⟩⟩) e
    have x6 := kT _ _ x1 x2 x3
    k_unmd
    k_fold
    k_steps
    (k_dflt (refine' floordiv_is ?b_13 ?p_13 ?e_13 ?_; (case b_13 | p_13 | e_13 => with_reducible assumption)))
    k_steps
    (k_dflt (refine' mul_rep ?F_14 ?N_14 ?m_14 ?c_14 ?_; (case F_14 | N_14 => assumption); (case m_14 => k_mem); (case c_14 => omega)); intro _ _ _ _ l'; k_lt l'; revert l'; intro _)
    k_steps
    · (k_dflt (refine' len_news ?N_15 ?m_15 ?e_15 ?c_15 ?_; (case N_15 => assumption); (case m_15 => k_mem); (case e_15 => exact List.length_replicate); (case c_15 => omega)))
      k_steps
      refine' inner_i2d (l := ?l2) (G := hideAll _ [?l2]) (nest_lit (by k_is) rfl) ?X2 ?T2 n tn cnt ha hn 0 ?D2 cnt _ _ _ _ 0 cnt a _ _ _ (List.replicate cnt (.int 0 _)) (R.deep (by (first | exact om193 ha | omega))) (by (first | exact om155 | omega)) ?pos2 (Nat.le_refl _) List.length_replicate h0 b4 (fun b o e => of_hideAll _ e) ?hal2 ?k2
      case hal2 => exact News.get (by assumption) (by k_mem)
      case X2 => exact X'.keeps (hide_stay (by assumption) (by assumption) (by k_dflt k_mem))
      case T2 => exact T'.keeps (hide_stay (by assumption) (by assumption) (by k_dflt k_mem))
      case D2 => exact ⟨hide_get (News.get (by assumption) (by k_mem)) (by k_ne), (hide_code ⟨c9, oc9, ws9, t9, rfl, Fr.keep (by assumption) _ _ x6, x4, x5⟩ (ne_of_none (News.none (by assumption) (by k_mem)) x6)), ⟨_, hide_get (News.get (by assumption) (by k_mem)) (by k_ne), by assumption⟩, ⟨_, hide_get (News.get (by assumption) (by k_mem)) (by k_ne), by assumption⟩, ⟨o3, hide_get (News.get (by assumption) (by k_mem)) (by k_ne), d3⟩, hideAll_none _ (.head _)⟩
      case pos2 =>
        rcases Nat.eq_zero_or_pos cnt with z | z
        · rw [z, Nat.mul_zero] at b4
          exact absurd (show a = 0 by have : (2 : Int) ^ 0 = 1 := rfl; (first | exact om199 h0 b4 | omega)) (by assumption)
        · exact z
      intro ys h2 tk2 k2 i1 z1 e2
      have F2 := Fr.but (by assumption) (by assumption) (by k_mem) k2
      have N2 := News.but (by assumption) (by k_updF) k2 e2
      try dsimp only [List.nil_append, List.cons_append] at N2
      rw [putAt_all _ _ (by rw [List.length_replicate]; exact z1)] at e2 N2
      k_steps
      show Q _ _
      refine hret _ ys _ _ (KeepT.trans kT (KeepT.of (Fr.keep (by assumption)))) (Tabs.mk ⟨_, q1.keep (News.get (by assumption) (by k_mem)) (KeepT.trans kT (KeepT.of (Fr.keep (by assumption))))⟩ ⟨p2, q2.keep (News.get (by assumption) (by k_mem)) (KeepT.trans kT (KeepT.of (Fr.keep (by assumption))))⟩) (new_none ls (News.none (by assumption) (by k_mem)) (by k_ne) (by k_ne)) e2 i1
    · show Q _ _
      have hc0 : cnt = 0 := cnt_zero hn0 hcnt (by assumption)
      refine hret _ _ _ _ (KeepT.trans kT (KeepT.of (Fr.keep (by assumption)))) (Tabs.mk ⟨_, q1.keep (News.get (by assumption) (by k_mem)) (KeepT.trans kT (KeepT.of (Fr.keep (by assumption))))⟩ ⟨p2, q2.keep (News.get (by assumption) (by k_mem)) (KeepT.trans kT (KeepT.of (Fr.keep (by assumption))))⟩) (new_none ls (News.none (by assumption) (by k_mem)) (by k_ne) (by k_ne)) (News.get (by assumption) (by k_mem)) (by rw [hc0]; exact .nil)
end
section
theorem resetH0 : True := by
  w_top off
  exact trivial
variable {prog : Program} {w : World} {p : Program} {loose : List Str} {mean : ExcName → Option Value} {mg mb : Str → Option Value}
  {A : Around} {G : Heap} {s : Shared} {Q : Value → Shared → Prop} {E : Value → Shared → Prop}
noncomputable def capped (x : Int) : Int := if x ≥ 0 then Int.fmod x 1000000 else -Int.fmod (-x) 1000000
theorem capped_range (x : Int) : -1000000 < capped x ∧ capped x < 1000000 := by
  unfold capped
  split
  · have h1 := Int.fmod_nonneg_of_pos x (show (0 : Int) < 1000000 by decide)
    have h2 := Int.fmod_lt_of_pos x (show (0 : Int) < 1000000 by decide)
    (first | exact om221 h1 h2 | omega)
  · have h1 := Int.fmod_nonneg_of_pos (-x) (show (0 : Int) < 1000000 by decide)
    have h2 := Int.fmod_lt_of_pos (-x) (show (0 : Int) < 1000000 by decide)
    (first | exact om222 h1 h2 | omega)
theorem capped_call (X : (Mine.hd.heap_39 w.params).In G) (T : Top p loose mean mg mb G) (st : G.StaysIn s.heap)
  (x : Int) (tx : Tok) (R : Room 3 A)
  (hret : ∀ (t : Tok) (h' : Heap) (tk' : Nat), s.heap.StaysIn h' → Q (.int (capped x) t) { s with heap := h', toks := tk' }) :
  wpAny (model prog w) A (call (.ref 242) [.int x tx]) Q E s := by
  obtain ⟨ahd, dp, fr, gd, un⟩ := A
  obtain rfl : ahd = none := R.hh
  (k_dflt (refine' enter0 ?st ?X ?T ?R ?k6 ?k7 ?k9 ?kB ?_ ?c2 ?c3 ?c4 ?c5; (case st | X | T | R => assumption); (case k6 | k7 => k_is); (case k9 => first | exact BindsTo.of_eq rfl | exact binds_K (by assumption) rfl (by k_is) rfl rfl rfl); (case c5 => decide); (case kB => exact locs rfl); (case c2 | c3 | c4 => exact rfl); k_whole; intro _ _ _ _ _ _ _; (try dsimp only); k_fold))
  k_steps
  · rename_i h0
    show Q _ _
    rw [show Int.fmod x (10 ^ Int.toNat 6) = capped x from by unfold capped; rw [if_pos h0]; rfl]
    exact hret _ _ _ (Fr.keep (by assumption))
  · rename_i h0
    show Q _ _
    rw [show -Int.fmod (-x) (10 ^ Int.toNat 6) = capped x from by unfold capped; rw [if_neg h0]; rfl]
    exact hret _ _ _ (Fr.keep (by assumption))
end
section
theorem resetS1 : True := by
  w_top off
  exact trivial
variable {prog : Program} {w : World} {p : Program} {loose : List Str} {mean : ExcName → Option Value} {mg mb : Str → Option Value}
  {A : Around} {G : Heap} {s : Shared} {Q : Value → Shared → Prop} {E : Value → Shared → Prop}
local macro_rules | `(tactic| walk_at "exec While Name") => `(tactic| refine Halt.go ?_)
local macro_rules | `(tactic| walk_at "exec While") => `(tactic| refine Halt.go ?_)

local macro_rules | `(tactic| walk_at "subscriptTail") => `(tactic| refine Halt.go ?_)
local macro_rules | `(tactic| walk_at "binaryOp Add bytes bytes") => `(tactic| refine Halt.go ?_)
noncomputable def apF : Nat → Nat → List Int
  | 0, _ => []
  | k + 1, n => if n = 0 then [] else apF k (n / 16) ++ [65 + ((n % 16 : Nat) : Int)]
theorem apF_zero : ∀ k, apF k 0 = []
  | 0 => rfl
  | _ + 1 => rfl
theorem apF_eq : ∀ (k j n : Nat), n ≤ k → n ≤ j → apF k n = apF j n
  | 0, j, n, h, _ => by rw [Nat.le_zero.1 h, apF_zero, apF_zero]
  | k + 1, 0, n, _, h => by rw [Nat.le_zero.1 h, apF_zero, apF_zero]
  | k + 1, j + 1, n, h, g => by
    show (if n = 0 then [] else apF k (n / 16) ++ _) = if n = 0 then [] else apF j (n / 16) ++ _
    by_cases h0 : n = 0
    · rw [if_pos h0, if_pos h0]
    · have hd := Nat.div_lt_self (Nat.pos_of_ne_zero h0) (by decide : 1 < 16)
      rw [if_neg h0, if_neg h0, apF_eq k j (n / 16) (Nat.le_of_lt_succ (Nat.lt_of_lt_of_le hd h)) (Nat.le_of_lt_succ (Nat.lt_of_lt_of_le hd g))]
noncomputable def apL (n : Nat) : List Int := apF n n
theorem apL_zero : apL 0 = [] := rfl
theorem apL_pos {n : Nat} (h : n ≠ 0) : apL n = apL (n / 16) ++ [65 + ((n % 16 : Nat) : Int)] := by
  cases n with
  | zero => exact absurd rfl h
  | succ n =>
    show (if n + 1 = 0 then [] else apF n ((n + 1) / 16) ++ _) = _
    rw [if_neg h, apF_eq n ((n + 1) / 16) ((n + 1) / 16) (Nat.le_of_lt_succ (Nat.div_lt_self (Nat.succ_pos n) (by decide))) (Nat.le_refl _)]; rfl
theorem apL_len : ∀ (k n : Nat), n < 16 ^ k → (apL n).length ≤ k
  | 0, n, h => by
    have : n = 0 := by simpa using h
    rw [this, apL_zero]; exact Nat.le_refl _
  | k + 1, n, h => by
    by_cases h0 : n = 0
    · rw [h0, apL_zero]; exact Nat.zero_le _
    · rw [apL_pos h0, List.length_append]
      have := apL_len k (n / 16) (by rw [Nat.pow_succ] at h; exact Nat.div_lt_of_lt_mul (by rw [Nat.mul_comm]; exact h))
      simpa using this
theorem apL_in : ∀ (n : Nat), ∀ c ∈ apL n, 65 ≤ c ∧ c < 81 := fun n => by
  induction n using Nat.strongRecOn with
  | _ n ih =>
    intro c hc
    by_cases h0 : n = 0
    · rw [h0, apL_zero] at hc; cases hc
    · rw [apL_pos h0] at hc
      rcases List.mem_append.mp hc with hc | hc
      · exact ih _ (Nat.div_lt_self (Nat.pos_of_ne_zero h0) (by decide)) c hc
      · rw [List.mem_singleton.mp hc]
        have := Nat.mod_lt n (show 0 < 16 by decide)
        (first | exact om640 | omega)
theorem ap_cut : ∀ r : Fin 16, List.take ((some (((r : Nat) : Int) + 1)).elim 16 (clipAt 16) - (some ((r : Nat) : Int)).elim 0 (clipAt 16)) (List.drop ((some ((r : Nat) : Int)).elim 0 (clipAt 16)) [(65 : Int), 66, 67, 68, 69, 70, 71, 72, 73, 74, 75, 76, 77, 78, 79, 80]) = [65 + ((r : Nat) : Int)] := by decide
theorem ap_call (X : (Mine.hd.heap_39 w.params).In G) (T : Top p loose mean mg mb G) (st : G.StaysIn s.heap)
  (x : Int) (tx : Tok) (R : Room 2 A) (hx : Builtin.Int.intBits x ≤ 140)
  (hret : ∀ (b : Array UInt8) (t : Tok) (h' : Heap) (tk' : Nat), s.heap.StaysIn h' → KBw.bInts b = apL x.natAbs → Q (.bytes b t) { s with heap := h', toks := tk' }) :
  wpAny (model prog w) A (call (.ref 87) [.int x tx]) Q E s := by
  obtain ⟨ahd, dp, fr, gd, un⟩ := A
  obtain rfl : ahd = none := R.hh
  (k_dflt (refine' enter0 ?st ?X ?T ?R ?k6 ?k7 ?k9 ?kB ?_ ?c2 ?c3 ?c4 ?c5; (case st | X | T | R => assumption); (case k6 | k7 => k_is); (case k9 => first | exact BindsTo.of_eq rfl | exact binds_K (by assumption) rfl (by k_is) rfl rfl rfl); (case c5 => decide); (case kB => exact locs rfl); (case c2 | c3 | c4 => exact rfl); k_whole; intro _ _ _ _ _ _ _; (try dsimp only); k_fold))
  k_steps
  rename_i FE NE
  refine While_inv (fun k m _ => ∃ y ty vb tv ta, m (Str.ofString "num") = some (.int y ty) ∧ m (Str.ofString "val") = some (.bytes vb tv) ∧ m (Str.ofString "AP") = some (.bytes #[65, 66, 67, 68, 69, 70, 71, 72, 73, 74, 75, 76, 77, 78, 79, 80] ta) ∧ 0 ≤ y ∧ k = y.toNat ∧ ∃ ks, KBw.bInts vb = ks ∧ apL x.natAbs = apL y.toNat ++ ks) (by assumption) (by assumption) ⟨_, _, _, _, _, rfl, rfl, rfl, ?v, rfl, [], rfl, ?w⟩ ?turn (fun _ _ h => h.elim)
  case v => split <;> (first | exact om641 (by walk_at "my asm") | exact om70 (by walk_at "my asm") | omega)
  case w => rw [List.append_nil]; congr 1; split <;> (first | exact om642 (by walk_at "my asm") | exact om643 (by walk_at "my asm") | omega)
  case turn =>
    rintro k m₁ news₁ h₁ tk₁ F₁ N₁ ⟨y, ty, vb, tv, ta, hy, hv, hA, h0, rfl, ks, hks, hka⟩
    have F₂ := Fr.see3 F₁ hy hv hA
    clear F₁
    have hkz : ks.length ≤ 200 := by
      have h1 := apL_len 35 x.natAbs (Nat.lt_of_lt_of_le ((intBits_le_iff).mp hx) (by decide))
      rw [hka, List.length_append] at h1
      (first | exact om644 h1 | omega)
    obtain ⟨n, rfl⟩ := Int.eq_ofNat_of_zero_le h0
    have g1 : ((n : Nat) : Int).fmod 16 = ((n % 16 : Nat) : Int) := by rw [Int.fmod_eq_emod_of_nonneg _ (by decide)]; rfl
    have g2 : ((n : Nat) : Int).fdiv 16 = ((n / 16 : Nat) : Int) := by rw [Int.fdiv_eq_ediv_of_nonneg _ (by decide)]; rfl
    k_steps
    (k_dflt (refine' KBc.slice_K (s := ⟨_, _, _, _, _⟩) (ks := [65, 66, 67, 68, 69, 70, 71, 72, 73, 74, 75, 76, 77, 78, 79, 80]) ?F_9 ?N_9 ?k_9 ?a_9 ?b_9 ?z_9 ?_; (case F_9 | N_9 => assumption); (case k_9 => decide); (case a_9 | b_9 => constructor); (case z_9 => decide)); intro _ _ _ _ _ _)
    k_steps
    (k_dflt (refine' KBa.add_K ?a_10 ?b_10 ?z_10 ?_; (case a_10 | b_10 => with_reducible assumption); (case z_10 => kba_size)); intro _ _ _)
    k_steps
    · rename_i e4 _tk h4 F4 N4
      conv at e4 => rhs; rw [g1]
      have c1 := ap_cut ⟨n % 16, Nat.mod_lt _ (by decide)⟩
      have hn0 : n ≠ 0 := by
        rintro rfl
        exact absurd rfl (by assumption)
      refine WhileStep.intro (n' := n / 16) (by assumption) (by assumption) (Nat.div_lt_self (Nat.pos_of_ne_zero hn0) (by decide)) ⟨_, _, _, _, _, rfl, rfl, rfl, ?_, ?_, _, e4, ?_⟩
      · rw [g2]; exact Int.natCast_nonneg _
      · rw [g2]; rfl
      · rw [hka, g2]
        show apL n ++ ks = apL (n / 16) ++ _
        rw [apL_pos hn0, List.append_assoc]
        congr 1
        exact congrArg (· ++ ks) c1.symm
    · show Q _ _
      rename_i h5
      have : n = 0 := by (first | exact om647 h5 | omega)
      subst this
      refine hret _ _ _ _ (Fr.keep (by assumption)) ?_
      rw [hks, hka]
      show ks = apL 0 ++ ks
      rw [apL_zero]; rfl
end
section
variable {prog : Program} {w : World} {p : Program} {loose : List Str} {mean : ExcName → Option Value} {mg mb : Str → Option Value}
  {A : Around} {G : Heap} {s : Shared} {Q : Value → Shared → Prop} {E : Value → Shared → Prop}

theorem toNat_pow {n : Int} {k : Nat} (h : n = k) : (2 : Int) ^ n.toNat = 2 ^ k := by subst h; rfl
theorem fdiv_is {a P : Int} (h : 0 ≤ P) : a.fdiv P = a / P := Int.fdiv_eq_ediv_of_nonneg _ h
theorem fmod_is {a P : Int} (h : 0 ≤ P) : a.fmod P = a % P := Int.fmod_eq_emod_of_nonneg _ h
theorem two_one : (2 : Int) ^ Int.toNat 1 = 2 := rfl
theorem one_mask {k : Nat} {x : Int} (h : 0 ≤ x) : Builtin.bitAnd x (1 * 2 ^ k - 1) = x % 2 ^ k := by rw [Int.one_mul]; exact and_mask h
theorem bits_cast {x m : Int} {k : Nat} (h : Builtin.Int.intBits x ≤ k) (hk : (k : Int) ≤ m) : (Builtin.Int.intBits x : Int) ≤ m := by (first | exact om75 hk h | omega)

theorem div2n1n_call (X : (Mine.hd.heap_39 w.params).In G) (T : Top p loose mean mg mb G) (st : G.StaysIn s.heap) (R : Room 3 A)
  (a b : Int) (n : Nat) (ta tb tn : Tok) (hn1 : 2 ≤ n) (hn2 : n < 4600) (hb1 : 2 ^ (n - 1) ≤ b) (hb2 : b < 2 ^ n) (h0 : 0 ≤ a) (h1 : a < b * 2 ^ n)
  (hret : ∀ (q : Addr) (t1 t2 : Tok) (h' : Heap) (tk' : Nat), s.heap.StaysIn h' → s.heap.get? q = none → h'.get? q = some (tup [.int (a.fdiv b) t1, .int (a.fmod b) t2]) → Q (.ref q) { s with heap := h', toks := tk' }) :
  wpAny (model prog w) A (call (.ref 45) [.int a ta, .int b tb, .int (n : Int) tn]) Q E s := by
  have hb0 : 0 < b := Int.lt_of_lt_of_le (two_pow_pos _) hb1
  by_cases hs : (Builtin.Int.intBits a : Int) - n ≤ 4000
  · exact div2n1n_small X T st (R.le (by decide)) a b n ta tb tn (by (first | exact om64 hb0 | omega)) (Nat.lt_of_lt_of_le (log2_lt_of hb0 hb2) (by (first | exact om76 hn2 | omega))) hs hret
  have h27 : (2 : Int) ^ 27 = 134217728 := by decide
  have i1 : Builtin.Int.intBits 1 = 1 := by decide
  rcases Nat.mod_two_eq_zero_or_one n with he | ho
  · obtain ⟨k, rfl⟩ : ∃ k, n = k + k := ⟨n / 2, by (first | exact om77 he | omega)⟩
    have hPP : (2 : Int) ^ (k + k) = 2 ^ k * 2 ^ k := Int.pow_add _ _ _
    have hPb : (2 : Int) ^ k ≤ b := Int.le_trans (pow_le_pow (by (first | exact om78 | omega))) hb1
    rw [hPP] at h1 hb2
    obtain ⟨f1, f2, f3, f4, f5, f6, f7, f8, f9, f10⟩ := halves h0 hPb h1
    have hP := two_pow_pos k
    have hb2' : b / 2 ^ k < 2 ^ k := Int.ediv_lt_of_lt_mul hP hb2
    have ea : a.fdiv (2 ^ Int.toNat (((k + k : Nat) : Int))) = a / (2 ^ k * 2 ^ k) := by rw [toNat_pow (k := k + k) rfl, hPP]; exact fdiv_is (Int.le_of_lt (Int.mul_pos hP hP))
    have hk : Int.toNat (k : Int) = k := rfl
    have bR : ∀ x : Int, 0 ≤ x → x < b → Builtin.Int.intBits x ≤ k + k := fun x hx hx' => bits_lt hx (by rw [hPP]; (first | exact om79 hx' hb2 | omega))
    have hPl : (2 : Int) ^ k * 2 ^ k < 2 ^ 20000 := by rw [← hPP, ← two_pow_cast, ← two_pow_cast]; exact_mod_cast Nat.pow_lt_pow_right (by decide) (by (first | exact om80 hn2 | omega))
    refine div2n1n_even X T st R a b _ (k : Int) (a / (2 ^ k * 2 ^ k)) (a / 2 ^ k) (a / 2 ^ k % 2 ^ k) (a % 2 ^ k) (b / 2 ^ k) (b % 2 ^ k) ta tb tn hs (by (first | exact om81 | omega))
      (by rw [bitAnd_m1]; (first | exact om82 | omega)) (by rw [two_one, fdiv_is (by decide)]; (first | exact om83 | omega)) ea (by rw [hk]; exact fdiv_pow) (by rw [hk]; exact one_mask (Int.ediv_nonneg h0 (Int.le_of_lt hP))) (by rw [hk]; exact one_mask h0) (by rw [hk]; exact fdiv_pow) (by rw [hk]; exact one_mask (Int.le_of_lt hb0))
      f1 f2 (Int.emod_nonneg _ (by (first | exact om64 hP | omega))) (by rw [hk]; exact Int.emod_lt_of_pos _ hP) f3 (by rw [hk]; exact f4) (Int.emod_nonneg _ (by (first | exact om64 hP | omega))) (by rw [hk]; exact Int.emod_lt_of_pos _ hP) (by (first | exact om84 hn1 | omega)) (by (first | exact om85 hn2 | omega))
      (Nat.lt_of_lt_of_le (log2_lt_of f3 hb2') (by (first | exact om86 hn2 | omega))) ?_ (show b < 2 ^ 20000 by (first | exact om60 hb2 hPl | omega)) (by rw [i1, h27]; (first | exact om87 hn2 | omega)) ?_ ?_ (Int.emod_nonneg _ (by (first | exact om64 hP | omega))) (by rw [hk]; exact Int.emod_lt_of_pos _ hP) ?_ ?_ ?_ ?_ hret
    · have := bR _ f1 f2; (first | exact om88 this hn2 | omega)
    all_goals rw [hk, ← f5]
    all_goals simp only [fdiv_is (Int.le_of_lt hb0), fmod_is (Int.le_of_lt hb0)]
    · exact Int.emod_nonneg _ (by (first | exact om64 hb0 | omega))
    · exact Int.emod_lt_of_pos _ hb0
    · have := bR _ (Int.emod_nonneg (a / 2 ^ k) (by (first | exact om64 hb0 | omega) : b ≠ 0)) (Int.emod_lt_of_pos _ hb0); (first | exact om88 this hn2 | omega)
    · have := bits_lt (Int.ediv_nonneg (Int.ediv_nonneg h0 (Int.le_of_lt hP)) (Int.le_of_lt hb0)) f6
      rw [h27]; (first | exact om89 this hn2 | omega)
    · rw [or_add (Int.ediv_nonneg (Int.ediv_nonneg h0 (Int.le_of_lt hP)) (Int.le_of_lt hb0)) f9 f10]; exact f7
    · exact f8
  · obtain ⟨k, hk1, hk2⟩ : ∃ k, n + 1 = k + k ∧ 2 ≤ k := ⟨(n + 1) / 2, by (first | exact om90 ho | omega), by (first | exact om91 ho hn1 | omega)⟩
    have hPP : (2 : Int) ^ (n + 1) = 2 ^ k * 2 ^ k := by rw [hk1]; exact Int.pow_add _ _ _
    have hn' : (2 : Int) ^ (n + 1) = 2 ^ n * 2 := Int.pow_succ _ _
    have hn'' : (2 : Int) ^ n = 2 ^ (n - 1) * 2 := by conv => lhs; rw [show n = n - 1 + 1 by (first | exact om92 hn1 | omega)]
                                                      exact Int.pow_succ _ _
    have hPb : (2 : Int) ^ k ≤ b * 2 := Int.le_trans (pow_le_pow (by (first | exact om93 hk1 | omega) : k ≤ n)) (by (first | exact om94 hn'' hb1 | omega))
    have hbb : b * 2 < 2 ^ k * 2 ^ k := by rw [← hPP, hn']; (first | exact om95 hb2 | omega)
    have hn0 := two_pow_pos n
    have haa : a * 2 < b * 2 * (2 ^ k * 2 ^ k) := by
      rw [← hPP, hn']
      have e : b * 2 * (2 ^ n * 2) = b * 2 ^ n * 2 * 2 := by rw [Int.mul_assoc b 2, ← Int.mul_assoc 2, Int.mul_comm 2 (2 ^ n), Int.mul_assoc, Int.mul_assoc, Int.mul_assoc]
      rw [e]
      have : 0 < b * 2 ^ n := Int.mul_pos hb0 hn0
      (first | exact om96 this h1 | omega)
    have ha0 : 0 ≤ a * 2 := by (first | exact om97 h0 | omega)
    have hbb0 : 0 < b * 2 := by (first | exact om98 hb0 | omega)
    obtain ⟨f1, f2, f3, f4, f5, f6, f7, f8, f9, f10⟩ := halves ha0 hPb haa
    have hq : a * 2 / (b * 2) = a / b := Int.mul_ediv_mul_of_pos_left _ _ (by decide)
    have hr : a * 2 % (b * 2) = a % b * 2 := by rw [Int.mul_comm a, Int.mul_comm b, Int.mul_comm _ (2 : Int)]; exact Int.mul_emod_mul_of_pos _ _ (by decide)
    rw [hq] at f7
    rw [hr] at f8
    have hP := two_pow_pos k
    have hb2' : b * 2 / 2 ^ k < 2 ^ k := Int.ediv_lt_of_lt_mul hP hbb
    have ea : (a * 2).fdiv (2 ^ Int.toNat ((n : Int) + 1)) = a * 2 / (2 ^ k * 2 ^ k) := by rw [toNat_pow (n := (n : Int) + 1) (k := n + 1) rfl, hPP]; exact fdiv_is (Int.le_of_lt (Int.mul_pos hP hP))
    have hk : Int.toNat (k : Int) = k := rfl
    have bR : ∀ x : Int, 0 ≤ x → x < b * 2 → Builtin.Int.intBits x ≤ n + 1 := fun x hx hx' => bits_lt hx (Int.lt_trans hx' (by rw [Int.pow_succ]; exact Int.mul_lt_mul_of_pos_right hb2 (by decide)))
    have hPl : (2 : Int) ^ k * 2 ^ k < 2 ^ 20000 := by rw [← hPP, ← two_pow_cast, ← two_pow_cast]; exact_mod_cast Nat.pow_lt_pow_right (by decide) (by (first | exact om99 hn2 | omega))
    have hba : Builtin.Int.intBits a ≤ n + n := bits_lt h0 (by
      rw [Int.pow_add]
      exact Int.lt_trans h1 (Int.mul_lt_mul_of_pos_right hb2 hn0))
    have hbb' : Builtin.Int.intBits b ≤ n := bits_lt (Int.le_of_lt hb0) hb2
    refine div2n1n_odd X T st R a b (a * 2) (b * 2) _ (k : Int) (a * 2 / (2 ^ k * 2 ^ k)) (a * 2 / 2 ^ k) (a * 2 / 2 ^ k % 2 ^ k) (a * 2 % 2 ^ k) (b * 2 / 2 ^ k) (b * 2 % 2 ^ k) ta tb tn hs (by (first | exact om100 | omega))
      (by rw [bitAnd_m1]; (first | exact om101 ho | omega)) rfl rfl (by rw [h27]; (first | exact om102 hba hn2 | omega)) (by rw [h27]; (first | exact om103 hbb' hn2 | omega)) (by rw [two_one, fdiv_is (by decide)]; (first | exact om104 hk1 | omega)) ea (by rw [hk]; exact fdiv_pow) (by rw [hk]; exact one_mask (Int.ediv_nonneg ha0 (Int.le_of_lt hP))) (by rw [hk]; exact one_mask ha0) (by rw [hk]; exact fdiv_pow) (by rw [hk]; exact one_mask (Int.le_of_lt hbb0))
      f1 f2 (Int.emod_nonneg _ (by (first | exact om64 hP | omega))) (by rw [hk]; exact Int.emod_lt_of_pos _ hP) f3 (by rw [hk]; exact f4) (Int.emod_nonneg _ (by (first | exact om64 hP | omega))) (by rw [hk]; exact Int.emod_lt_of_pos _ hP) (by (first | exact om105 hk1 | omega)) (by (first | exact om106 hk1 hn2 | omega))
      (Nat.lt_of_lt_of_le (log2_lt_of f3 hb2') (by (first | exact om107 hk1 hn2 | omega))) ?_ (show b * 2 < 2 ^ 20000 by (first | exact om108 hbb hPl | omega)) (by rw [i1, h27]; (first | exact om109 hk1 hn2 | omega)) ?_ ?_ (Int.emod_nonneg _ (by (first | exact om64 hP | omega))) (by rw [hk]; exact Int.emod_lt_of_pos _ hP) ?_ ?_ ?_ ?_ hret
    · have := bR _ f1 f2; (first | exact om110 hk1 this hn2 | omega)
    all_goals rw [hk, ← f5]
    all_goals simp only [fdiv_is (Int.le_of_lt hbb0), fmod_is (Int.le_of_lt hbb0)]
    · exact Int.emod_nonneg _ (by (first | exact om111 hb0 | omega))
    · exact Int.emod_lt_of_pos _ hbb0
    · have := bR _ (Int.emod_nonneg (a * 2 / 2 ^ k) (by (first | exact om111 hb0 | omega) : b * 2 ≠ 0)) (Int.emod_lt_of_pos _ hbb0); (first | exact om110 hk1 this hn2 | omega)
    · have := bits_lt (Int.ediv_nonneg (Int.ediv_nonneg ha0 (Int.le_of_lt hP)) (Int.le_of_lt hbb0)) f6
      rw [h27]; (first | exact om112 hk1 this hn2 | omega)
    · rw [or_add (Int.ediv_nonneg (Int.ediv_nonneg ha0 (Int.le_of_lt hP)) (Int.le_of_lt hbb0)) f9 f10, fdiv_is (Int.le_of_lt hb0)]; exact f7
    · rw [f8, two_one, fdiv_is (by decide), fmod_is (Int.le_of_lt hb0)]; (first | exact om113 | omega)
end
section
theorem resetG5 : True := by
  w_top off
  exact trivial
variable {prog : Program} {w : World} {p : Program} {loose : List Str} {mean : ExcName → Option Value} {mg mb : Str → Option Value}
  {A : Around} {G : Heap} {s : Shared} {Q : Value → Shared → Prop} {E : Value → Shared → Prop}
local macro_rules | `(tactic| walk_at "call ref") => `(tactic| refine Halt.go ?_)
local macro_rules | `(tactic| walk_at "pyIter ref") => `(tactic| refine Halt.go ?_)
local macro_rules | `(tactic| walk_at "last pyIter ref") => `(tactic| refine Halt.go ?_)
local macro_rules | `(tactic| walk_at "binaryOp LShift int int") => `(tactic| k_dflt (refine' lshift_is ?n_z ?sz_z ?e_z ?_; (case n_z => omega); (case sz_z | e_z => with_reducible assumption)))
local macro_rules | `(tactic| walk_at "call builtin:list.append") => `(tactic| refine Halt.go ?_)
local macro_rules | `(tactic| walk_at "call builtin:list.reverse") => `(tactic| refine Halt.go ?_)

noncomputable def ldR (n : Nat) (b : Int) : Int → List Int → Int
  | r, [] => r
  | r, d :: ds => ldR n b ((r * 2 ^ n + d).fmod b) ds
noncomputable def ldQ (n : Nat) (b : Int) : Int → List Int → List Int
  | _, [] => []
  | r, d :: ds => (r * 2 ^ n + d).fdiv b :: ldQ n b ((r * 2 ^ n + d).fmod b) ds
theorem ldR_snoc (n : Nat) (b : Int) : ∀ (ds : List Int) (r d : Int), ldR n b r (ds ++ [d]) = (ldR n b r ds * 2 ^ n + d).fmod b
  | [], _, _ => rfl
  | _ :: ds, _, d => ldR_snoc n b ds _ d
theorem ldQ_snoc (n : Nat) (b : Int) : ∀ (ds : List Int) (r d : Int), ldQ n b r (ds ++ [d]) = ldQ n b r ds ++ [(ldR n b r ds * 2 ^ n + d).fdiv b]
  | [], _, _ => rfl
  | _ :: ds, _, d => by rw [List.cons_append, ldQ, ldQ_snoc n b ds _ d, ldQ, ldR, List.cons_append]
theorem ldR_range {n : Nat} {b : Int} (hb : 0 < b) : ∀ (ds : List Int) (r : Int), 0 ≤ r → r < b → 0 ≤ ldR n b r ds ∧ ldR n b r ds < b
  | [], r, h1, h2 => ⟨h1, h2⟩
  | d :: ds, r, h1, h2 => ldR_range hb ds _ (Int.fmod_nonneg_of_pos _ hb) (Int.fmod_lt_of_pos _ hb)
theorem ld_law {n : Nat} {b : Int} (hb : 0 < b) : ∀ (ds : List Int) (r : Int), r * 2 ^ (ds.length * n) + horner n ds.reverse = horner n (ldQ n b r ds).reverse * b + ldR n b r ds
  | [], r => by simp [horner, ldQ, ldR]
  | d :: ds, r => by
    have hq : (ldQ n b ((r * 2 ^ n + d).fmod b) ds).reverse.length = ds.length := by
      have : ∀ (ds : List Int) (r : Int), (ldQ n b r ds).length = ds.length := fun ds => by
        induction ds with
        | nil => intro r; rfl
        | cons d ds ih => intro r; rw [ldQ, List.length_cons, ih, List.length_cons]
      rw [List.length_reverse, this]
    have h1 := ld_law (n := n) hb ds ((r * 2 ^ n + d).fmod b)
    rw [ldQ, ldR, List.reverse_cons, List.reverse_cons, horner_append, horner_append, List.length_reverse, hq]
    have e1 : horner n [d] = d := by simp [horner]
    have e2 : horner n [(r * 2 ^ n + d).fdiv b] = (r * 2 ^ n + d).fdiv b := by simp [horner]
    rw [e1, e2]
    have h2 : b * (r * 2 ^ n + d).fdiv b + (r * 2 ^ n + d).fmod b = r * 2 ^ n + d := Int.mul_fdiv_add_fmod _ _
    rw [List.length_cons, Nat.add_mul, Nat.one_mul, Nat.add_comm, Int.pow_add]
    generalize (r * 2 ^ n + d).fdiv b = q at *
    generalize (r * 2 ^ n + d).fmod b = m at *
    generalize horner n (ldQ n b m ds).reverse = H at *
    generalize (2 : Int) ^ (ds.length * n) = P at *
    generalize (2 : Int) ^ n = N at *
    have h4 : (b * q + m) * P = (r * N + d) * P := by rw [h2]
    rw [Int.add_mul, Int.add_mul] at h4
    rw [Int.add_mul, Int.mul_comm (q * P) b, ← Int.mul_assoc, ← Int.mul_assoc]
    (first | exact om202 h4 h1 | omega)

theorem hof' {I lq : Addr} {o o' : Obj} {tl : List (Addr × Obj)} (h : ∀ p ∈ (lq, o) :: tl, p.1 ≠ I) : ∀ p ∈ (lq, o') :: tl, p.1 ≠ I := by
  intro p hp
  rcases List.mem_cons.mp hp with rfl | hp
  · exact h (lq, o) (.head _)
  · exact h _ (.tail _ hp)
theorem lt_fresh {h : Heap} {q : Addr} (f : h.get? q = none) : ∀ b o, h.get? b = some o → b ≠ q := fun b o e x => by rw [x, f] at e; cases e
theorem ldQ_len (n : Nat) (b : Int) : ∀ (ds : List Int) (r : Int), (ldQ n b r ds).length = ds.length
  | [], _ => rfl
  | _ :: ds, _ => by rw [ldQ, List.length_cons, ldQ_len n b ds, List.length_cons]
theorem ldQ_bits {n : Nat} {b : Int} (hb : 0 < b) : ∀ (ds : List Int) (r : Int), 0 ≤ r → r < b → (∀ d ∈ ds, 0 ≤ d ∧ d < 2 ^ n) → ∀ q ∈ ldQ n b r ds, Builtin.Int.intBits q ≤ n
  | [], _, _, _, _, _, hq => nomatch hq
  | d :: ds, r, h0, h1, h2, q, hq => by
    have hd := h2 d (.head _)
    rcases List.mem_cons.mp hq with rfl | hq
    · have hp := two_pow_pos n
      have e1 : 0 ≤ r * 2 ^ n := Int.mul_nonneg h0 (Int.le_of_lt hp)
      have e2 := Int.mul_le_mul_of_nonneg_right (show r ≤ b - 1 by (first | exact om203 h1 | omega)) (Int.le_of_lt hp)
      rw [Int.sub_mul, Int.one_mul] at e2
      rw [Int.fdiv_eq_ediv_of_nonneg _ (by (first | exact om61 hb | omega))]
      refine bits_lt (Int.ediv_nonneg (by (first | exact om204 e1 hd.1 | omega)) (by (first | exact om61 hb | omega))) ?_
      refine Int.ediv_lt_of_lt_mul hb ?_
      rw [Int.mul_comm (2 ^ n) b]
      (first | exact om205 e2 hd.2 | omega)
    · exact ldQ_bits hb ds _ (Int.fmod_nonneg_of_pos _ hb) (Int.fmod_lt_of_pos _ hb) (fun d hd => h2 d (.tail _ hd)) q hq
theorem digs_range (n : Nat) : ∀ (m : Nat) (x : Int), ∀ d ∈ digs n m x, 0 ≤ d ∧ d < 2 ^ n
  | 0, _, _, hd => nomatch hd
  | m + 1, x, d, hd => by
    have hp := two_pow_pos n
    rcases List.mem_cons.mp hd with rfl | hd
    · exact ⟨Int.emod_nonneg _ (by (first | exact om64 hp | omega)), Int.emod_lt_of_pos _ hp⟩
    · exact digs_range n m _ d hd
theorem ndig_lt {n : Nat} {a : Int} (hn0 : 0 < n) : a < 2 ^ (n * ndig n a) := by
  have h1 : Builtin.Int.intBits a ≤ n * ndig n a := by
    have h2 := Nat.div_add_mod (Builtin.Int.intBits a + n - 1) n
    have h3 := Nat.mod_lt (Builtin.Int.intBits a + n - 1) hn0
    rw [ndig]
    (first | exact om179 h2 h3 | omega)
  have h4 := (intBits_le_iff).mp h1
  rw [← two_pow_cast]
  (first | exact om180 h4 | omega)
theorem horner_digs (n : Nat) : ∀ (m : Nat) (x : Int), 0 ≤ x → x < 2 ^ (n * m) → horner n (digs n m x) = x
  | 0, x, h0, h1 => by
    have : (2 : Int) ^ (n * 0) = 1 := by rw [Nat.mul_zero]; rfl
    rw [this] at h1
    show (0 : Int) = x
    (first | exact om206 h0 h1 | omega)
  | m + 1, x, h0, h1 => by
    have hp := two_pow_pos n
    have h2 := horner_digs n m (x / 2 ^ n) (Int.ediv_nonneg h0 (Int.le_of_lt hp)) (by rw [pow_mul_add, Int.mul_comm] at h1; exact Int.ediv_lt_of_lt_mul hp h1)
    have h3 := Int.emod_add_mul_ediv x (2 ^ n)
    rw [digs, horner, h2]
    exact h3
theorem dp_call (X : (Mine.hd.heap_39 w.params).In G) (T : Top p loose mean mg mb G) (st : G.StaysIn s.heap) (n54 : G.get? 54 = none) (n61 : G.get? 61 = none) (tb : Tabs s.heap)
  (a b : Int) (ta tb' : Tok) (R : Room 106 A) (h0 : 0 ≤ a) (hb0 : 0 < b) (h2' : 2 ≤ Builtin.Int.intBits b) (hn : Builtin.Int.intBits b < 4600) (ha : ndig (Builtin.Int.intBits b) a ≤ 100)
  (hret : ∀ (q : Addr) (t1 t2 : Tok) (h' : Heap) (tk' : Nat), KeepT s.heap h' → Tabs h' → s.heap.get? q = none → h'.get? q = some (tup [.int (a.fdiv b) t1, .int (a.fmod b) t2]) → Q (.ref q) { s with heap := h', toks := tk' }) :
  wpAny (model prog w) A (call (.ref 73) [.int a ta, .int b tb']) Q E s := by
  obtain ⟨ahd, dp, fr, gd, un⟩ := A
  obtain rfl : ahd = none := R.hh
  obtain ⟨⟨p1, q1⟩, ⟨p2, q2⟩⟩ := tb
  (k_dflt (refine' enterH ?hid ?st ?hH ?X ?T ?R ?k6 ?k7 ?k9 ?kB ?_ ?c2 ?c3 ?c4 ?c5; (case st | X | T | R => assumption); (case k6 | k7 => k_is); (case k9 => first | exact BindsTo.of_eq rfl | exact binds_K (by assumption) rfl (by k_is) rfl rfl rfl); (case c5 => decide); (case kB => exact locs rfl); (case c2 | c3 | c4 => exact rfl)))
  case hid => exact [(54, tabObj p1), (61, tabObj p2)]
  case hH => exact List.forall_mem_cons.mpr ⟨⟨q1.1, n54⟩, List.forall_mem_cons.mpr ⟨⟨q2.1, n61⟩, List.forall_mem_nil _⟩⟩
  intro g L' h₁ tk gs ls gst F N X' T' l1 l2
  have kT : KeepT s.heap g := fun b o b1 b2 e => ls b o (List.forall_mem_cons.mpr ⟨b1, List.forall_mem_cons.mpr ⟨b2, List.forall_mem_nil _⟩⟩) e
  have m54 : g.get? 54 = none := News.none N (by k_mem)
  have m61 : g.get? 61 = none := News.none N (by k_mem)
  k_unmd
  k_fold
  k_steps
  have tA := Tabs.mk ⟨_, q1.keep (News.get (by assumption) (by k_mem)) (KeepT.trans kT (KeepT.of (Fr.keep (by assumption))))⟩ ⟨p2, q2.keep (News.get (by assumption) (by k_mem)) (KeepT.trans kT (KeepT.of (Fr.keep (by assumption))))⟩
  refine i2d_call X' T' (Fr.keep (by assumption)) m54 m61 tA a _ _ _ (Room.deep R (by decide)) h0 (by (first | exact om207 h2' | omega)) (by (first | exact om208 hn | omega)) ha ?_
  intro qa ys h2 tk2 k2 tB f2 e2 i2
  have FA := Fr.keepT (by assumption) tA m54 m61 k2
  have kA := KeepT.trans (KeepT.trans kT (KeepT.of (Fr.keep (by assumption)))) k2
  obtain ⟨p3, p4, c3, o3, c4, o4, NB, TN⟩ := Tabs.led tB FA m54 m61
  have NA := News.app (news_new (by assumption) f2 e2) NB
  simp only [List.cons_append, List.nil_append] at NA
  clear NB
  k_steps
  rename_i lq hx1 lx1 _tk hx2 I hE FE NE lE
  obtain ⟨n, hnn⟩ : ∃ n, n = Builtin.Int.intBits b := ⟨_, rfl⟩
  obtain ⟨D, hD⟩ : ∃ D, D = (digs n (ndig n a) a).reverse := ⟨_, rfl⟩
  rw [← hnn] at h2' hn i2 ha FE
  have iD : IntsAre ys.reverse D := by rw [hD]; exact i2.reverse
  have hlen : ys.length = D.length := by rw [← List.length_reverse, iD.length]
  have hb1 : (2 : Int) ^ (n - 1) ≤ b := by
    have h : ¬ b.natAbs < 2 ^ (n - 1) := fun q => Nat.not_le_of_lt (show n - 1 < Builtin.Int.intBits b by (first | exact om209 hnn h2' | omega)) ((intBits_le_iff).mpr q)
    rw [← two_pow_cast]
    generalize (2 : Nat) ^ (n - 1) = P at *
    (first | exact om210 hb0 h | omega)
  have hb2 : b < 2 ^ n := by
    have h := (intBits_le_iff).mp (Nat.le_of_eq hnn.symm)
    rw [← two_pow_cast]
    (first | exact om180 h | omega)
  have hDr : ∀ d ∈ D, 0 ≤ d ∧ d < 2 ^ n := by rw [hD]; exact fun d hd => digs_range _ _ _ d (List.mem_reverse.mp hd)
  have hDn : D.length ≤ 100 := by rw [hD, List.length_reverse, digs_len]; exact ha
  refine loop_rev (I := I) (l := qa) (vs := ys) (nn := 0) (news := [(lq, listOf #[] 0), (qa, listOf ys.toArray 0), (54, tabObj p3), (61, tabObj p4), (c3, o3), (c4, o4)])
    (fun i m news' => ∃ r tr tn vq nn, m (Str.ofString "r") = some (.int r tr) ∧ m (Str.ofString "b") = some (.int b tb') ∧ m (Str.ofString "n") = some (.int (n : Int) tn) ∧ m (Str.ofString "q_digits") = some (.ref lq) ∧ r = ldR n b 0 (D.take i) ∧ IntsAre vq (ldQ n b 0 (D.take i)) ∧ 0 ≤ r ∧ r < b ∧
      news' = [(lq, listOf vq.toArray nn), (qa, listOf ys.toArray 0), (54, tabObj p3), (61, tabObj p4), (c3, o3), (c4, o4)]) rfl FE (News.sub NE fun p hp => .tail _ hp) (News.sub NE fun p hp => by rw [List.mem_singleton.mp hp]; exact .head _)
    ?o (News.get NE (by k_mem)) (NE _ (.tail _ (.tail _ (.head _)))).2.1 (.inr ⟨_, fun i m n' ⟨_, _, _, _, _, _, _, _, _, _, _, _, _, e⟩ => by rw [e]; exact .tail _ (.head _)⟩)
    ⟨0, _, _, [], 0, rfl, rfl, rfl, rfl, rfl, .nil, Int.le_refl _, hb0, rfl⟩ ?turn ?done
  case o =>
    intro p hp
    simp only [List.mem_cons, List.not_mem_nil, or_false] at hp
    rcases hp with rfl | rfl | rfl | rfl | rfl | rfl <;> k_ne
  case turn =>
    rintro i v m₁ news₁ it h5 tk5 hv ⟨r, tr, tn, vq, nn, mr, mb, mn, mq, er, iq, r0, r1, rfl⟩ hof F5 N5
    have hi : i < D.length := by
      have := (List.getElem?_eq_some_iff.mp hv).1
      rw [List.length_reverse] at this; (first | exact om211 hlen this | omega)
    obtain ⟨td, hvd⟩ := iD.get i D[i] (List.getElem?_eq_getElem hi)
    rw [hv] at hvd
    obtain rfl := Option.some.inj hvd
    have F6 := Fr.seeX4 F5 mr mb mn mq
    clear F5
    have sz : (Builtin.Int.intBits r : Int) + (n : Int) ≤ 2 ^ 27 := by
      have := bits_lt r0 (Int.lt_trans r1 hb2)
      have h27 : (2 : Int) ^ 27 = 134217728 := by decide
      rw [h27]; (first | exact om212 this hn | omega)
    have e0 : r * 2 ^ Int.toNat (n : Int) = r * 2 ^ n := rfl
    have le0 : @Ne Nat lq I := hof (lq, listOf vq.toArray nn) (.head _)
    have lz : vq.length ≤ 100 := by rw [iq.length, ldQ_len, List.length_take]; (first | exact om213 hDn | omega)
    k_steps
    refine div2n1n_call X' T' (Fr.keep (by assumption)) (Room.deep R (by decide)) _ b n _ _ _ h2' hn hb1 hb2 ?_ ?_ ?_
    · exact Int.add_nonneg (Int.mul_nonneg r0 (Int.le_of_lt (two_pow_pos n))) (hDr _ (List.getElem_mem hi)).1
    · have h1 := Int.mul_le_mul_of_nonneg_right (show r ≤ b - 1 by (first | exact om203 r1 | omega)) (Int.le_of_lt (two_pow_pos n))
      have h2 := (hDr _ (List.getElem_mem hi)).2
      rw [Int.sub_mul, Int.one_mul] at h1
      (first | exact om205 h1 h2 | omega)
    intro qt t1 t2 h7 tk7 k7 f7 e7
    have F7 := Fr.keeps (by assumption) k7
    have N7 := News.add (by assumption) (by assumption) k7 e7 f7
    have lqt : @Ne Nat lq qt := lt_fresh f7 lq _ (News.get (by assumption) (by k_mem))
    have lIt : @Ne Nat I qt := lt_fresh f7 I _ (News.get (by assumption) (by k_mem))
    k_steps
    (k_dflt (refine' append_is ?F_17 ?N_17 ?m_17 ?U_17 ?z_17 ?_; (case F_17 | N_17 => assumption); (case m_17 => k_mem); (case U_17 => k_updF); (case z_17 => omega)); intro h' F' N' k'; (try dsimp only [List.nil_append, List.cons_append] at N'); revert h' F' N' k'; intro _ _ _ _)
    k_steps
    rename_i t9 _h2 _tkb _tb _h1 _F1 _N1 _h _F _N _k
    have eD : D.take (i + 1) = D.take i ++ [D[i]] := by rw [List.take_add_one, List.getElem?_eq_getElem hi]; rfl
    refine TurnEnd.intro (news' := [(lq, listOf (vq ++ [Value.int ((r * 2 ^ n + D[i]).fdiv b) t9]).toArray (nn + 1)), (qa, listOf ys.toArray 0), (54, tabObj p3), (61, tabObj p4), (c3, o3), (c4, o4)]) (by assumption) (News.sub (ms := (I, it) :: [(lq, listOf (vq ++ [Value.int ((r * 2 ^ n + D[i]).fdiv b) t9]).toArray (nn + 1)), (qa, listOf ys.toArray 0), (54, tabObj p3), (61, tabObj p4), (c3, o3), (c4, o4)]) (by assumption) ?_) ?_ ?_
    · walk_at "my sub"
    · exact fun p hp => hof' hof p hp
    refine ⟨_, _, _, _, _, rfl, rfl, rfl, rfl, ?_, ?_, ?_, ?_, rfl⟩
    · rw [eD, ldR_snoc, ← er]
    · rw [eD, ldQ_snoc, ← er]
      exact iq.append (.cons _ _ .nil)
    · exact Int.fmod_nonneg_of_pos _ hb0
    · exact Int.fmod_lt_of_pos _ hb0
  case done =>
    rintro m₁ news₁ h5 tk5 ⟨r, tr, tn, vq, nn, mr, mb, mn, mq, er, iq, r0, r1, rfl⟩ F5 N5
    have F6 := Fr.see3 F5 mr mn mq
    clear F5
    have lz : vq.length ≤ 100 := by rw [iq.length, ldQ_len, List.length_take]; (first | exact om213 hDn | omega)
    k_steps
    (k_dflt (refine' reverse_is ?F_16 ?N_16 ?m_16 ?U_16 ?z_16 ?_; (case F_16 | N_16 => assumption); (case m_16 => k_mem); (case U_16 => k_updF); (case z_16 => omega)); intro h' F' N' k'; (try dsimp only [List.nil_append, List.cons_append] at N'); revert h' F' N' k'; intro _ _ _ _)
    k_steps
    have hDl : D.length = D.length := rfl
    rw [hlen, List.take_length] at er iq
    have tC : Tabs _ := TN _ (Fr.keep (by assumption)) (News.get (by assumption) (by k_mem)) (News.get (by assumption) (by k_mem)) (News.get (by assumption) (by k_mem)) (News.get (by assumption) (by k_mem))
    refine d2i_call X' T' (Fr.keep (by assumption)) m54 m61 tC lq vq.reverse _ nn n tn (Room.deep R (by rw [List.length_reverse, ldQ_len]; (first | exact om217 hDn | omega))) (News.get (by assumption) (by k_mem)) iq.reverse (by rw [List.length_reverse, ldQ_len]; exact hDn) (by (first | exact om208 hn | omega))
      (fun d hd => Nat.le_trans (ldQ_bits hb0 D 0 (Int.le_refl _) hb0 hDr d (List.mem_reverse.mp hd)) (by (first | exact om208 hn | omega))) ?_
    intro tq h8 tk8 k8 t8
    have F8 := Fr.keepT (by assumption) tC m54 m61 k8
    obtain ⟨p5, p6, c5, o5, c6, o6, N8, TN8⟩ := Tabs.led t8 F8 m54 m61
    k_steps
    have e1 : horner n D.reverse = a := by
      rw [hD, List.reverse_reverse]
      exact horner_digs n _ a h0 (ndig_lt (by (first | exact om207 h2' | omega)))
    have e2 := ld_law (n := n) hb0 D 0
    rw [e1, Int.zero_mul, Int.zero_add, ← er] at e2
    have e3 := div_is e2.symm r0 r1
    have k0 : ∀ b o, s.heap.get? b = some o → b ≠ 54 → b ≠ 61 → g.get? b = some o := fun b o e h1 h2 => kT b o h1 h2 e
    refine hret _ _ _ _ _ (KeepT.trans kT (KeepT.of (Fr.keep (by assumption)))) (TN8 _ (Fr.keep (by assumption)) (News.get (by assumption) (by k_mem)) (News.get (by assumption) (by k_mem)) (News.get (by assumption) (by k_mem)) (News.get (by assumption) (by k_mem))) (new_none ls (News.none (by assumption) (by k_mem)) (by k_ne) (by k_ne)) (by rw [e3.1, e3.2]; exact News.get (by assumption) (by k_mem))
end
section
theorem resetG6 : True := by
  w_top off
  exact trivial
variable {prog : Program} {w : World} {p : Program} {loose : List Str} {mean : ExcName → Option Value} {mg mb : Str → Option Value}
  {A : Around} {G : Heap} {s : Shared} {Q : Value → Shared → Prop} {E : Value → Shared → Prop}
local macro_rules | `(tactic| walk_at "call ref") => `(tactic| refine Halt.go ?_)

theorem none_back {h g h' : Heap} {q : Addr} {o1 o2 o3 o4 : Obj} (kT : KeepT h g) (k : g.StaysIn h') (f : h'.get? q = none) (_e1 : h.get? 54 = some o1) (_e2 : h.get? 61 = some o2) (e3 : h'.get? 54 = some o3) (e4 : h'.get? 61 = some o4) : h.get? q = none := by
  cases x : h.get? q with
  | none => rfl
  | some o =>
    have h1 : q ≠ 54 := fun e => by rw [e, e3] at f; cases f
    have h2 : q ≠ 61 := fun e => by rw [e, e4] at f; cases f
    rw [k _ _ (kT _ _ h1 h2 x)] at f; cases f
theorem divmod_call (X : (Mine.hd.heap_39 w.params).In G) (T : Top p loose mean mg mb G) (st : G.StaysIn s.heap) (n54 : G.get? 54 = none) (n61 : G.get? 61 = none) (tb : Tabs s.heap)
  (a b : Int) (ta tb' : Tok) (R : Room 108 A) (h0 : 0 ≤ a) (hb0 : 0 < b) (h2' : 2 ≤ Builtin.Int.intBits b) (hn : Builtin.Int.intBits b < 4600) (ha : ndig (Builtin.Int.intBits b) a ≤ 100)
  (hret : ∀ (q : Addr) (t1 t2 : Tok) (h' : Heap) (tk' : Nat), KeepT s.heap h' → Tabs h' → s.heap.get? q = none → h'.get? q = some (tup [.int (a.fdiv b) t1, .int (a.fmod b) t2]) → Q (.ref q) { s with heap := h', toks := tk' }) :
  wpAny (model prog w) A (call (.ref 80) [.int a ta, .int b tb']) Q E s := by
  obtain ⟨ahd, dp, fr, gd, un⟩ := A
  obtain rfl : ahd = none := R.hh
  obtain ⟨⟨p1, q1⟩, ⟨p2, q2⟩⟩ := tb
  (k_dflt (refine' enterH ?hid ?st ?hH ?X ?T ?R ?k6 ?k7 ?k9 ?kB ?_ ?c2 ?c3 ?c4 ?c5; (case st | X | T | R => assumption); (case k6 | k7 => k_is); (case k9 => first | exact BindsTo.of_eq rfl | exact binds_K (by assumption) rfl (by k_is) rfl rfl rfl); (case c5 => decide); (case kB => exact locs rfl); (case c2 | c3 | c4 => exact rfl)))
  case hid => exact [(54, tabObj p1), (61, tabObj p2)]
  case hH => exact List.forall_mem_cons.mpr ⟨⟨q1.1, n54⟩, List.forall_mem_cons.mpr ⟨⟨q2.1, n61⟩, List.forall_mem_nil _⟩⟩
  intro g L' h₁ tk gs ls gst F N X' T' l1 l2
  have kT : KeepT s.heap g := fun b o b1 b2 e => ls b o (List.forall_mem_cons.mpr ⟨b1, List.forall_mem_cons.mpr ⟨b2, List.forall_mem_nil _⟩⟩) e
  have m54 : g.get? 54 = none := News.none N (by k_mem)
  have m61 : g.get? 61 = none := News.none N (by k_mem)
  k_unmd
  k_fold
  k_steps
  case _ => (first | exact False.elim (om220 (by walk_at "my asm") hb0) | omega)
  have tA := Tabs.mk ⟨_, q1.keep (News.get (by assumption) (by k_mem)) (KeepT.trans kT (KeepT.of (Fr.keep (by assumption))))⟩ ⟨p2, q2.keep (News.get (by assumption) (by k_mem)) (KeepT.trans kT (KeepT.of (Fr.keep (by assumption))))⟩
  refine dp_call X' T' (Fr.keep (by assumption)) m54 m61 tA a b _ _ (Room.deep R (by decide)) h0 hb0 h2' hn ha ?_
  intro qa t1 t2 h2 tk2 k2 tB f2 e2
  exact hret qa t1 t2 h2 tk2 (KeepT.trans (KeepT.trans kT (KeepT.of (Fr.keep (by assumption)))) k2) tB (none_back kT (Fr.keep (by assumption)) f2 q1.1 q2.1 (News.get (by assumption) (by k_mem)) (News.get (by assumption) (by k_mem))) e2
end
section
noncomputable def psums : Int → List Int → List Int
  | _, [] => []
  | a, x :: r => (a + x) :: psums (a + x) r
noncomputable def initP : Int → List Int → List Int
  | _, [] => []
  | P, x :: r => P :: initP (P + x) r
noncomputable def lastP : Int → List Int → Int
  | P, [] => P
  | P, x :: r => lastP (P + x) r
theorem init_last : ∀ (row : List Int) (P : Int), initP P row ++ [lastP P row] = P :: psums P row
  | [], _ => rfl
  | x :: r, P => by rw [initP, lastP, List.cons_append, init_last r, psums]
theorem initP_len : ∀ (row : List Int) (P : Int), (initP P row).length = row.length
  | [], _ => rfl
  | _ :: r, _ => by rw [initP, List.length_cons, initP_len r, List.length_cons]
theorem psums_len : ∀ (row : List Int) (P : Int), (psums P row).length = row.length
  | [], _ => rfl
  | _ :: r, _ => by rw [psums, List.length_cons, psums_len r, List.length_cons]
theorem psums_shift : ∀ (row : List Int) (H a : Int), psums (H + a) row = (psums a row).map (H + ·)
  | [], _, _ => rfl
  | x :: r, H, a => by rw [psums, psums, List.map_cons, Int.add_assoc, psums_shift r]
noncomputable def bigE (B : Int) : Int → List Int → Int := fun a xs => xs.foldl (fun a x => a * B + x) a
theorem sums_div (B : Int) : ∀ (row : List Int) (q P : Int), bigE B (q * (B - 1) + P) row = bigE B q (initP P row) * (B - 1) + lastP P row
  | [], _, _ => rfl
  | x :: r, q, P => by
    have h := sums_div B r (q * B + P) (P + x)
    show bigE B ((q * (B - 1) + P) * B + x) r = bigE B (q * B + P) (initP (P + x) r) * (B - 1) + lastP (P + x) r
    rw [← h]
    congr 1
    have e1 : q * (B - 1) * B = q * B * (B - 1) := by rw [Int.mul_assoc, Int.mul_comm (B - 1) B, ← Int.mul_assoc]
    rw [Int.add_mul, e1, Int.add_mul, Int.mul_sub P B 1, Int.mul_one]
    (first | exact om552 | omega)
theorem bigE_horner (n : Nat) : ∀ (xs : List Int) (a : Int), bigE (2 ^ n) a xs = a * 2 ^ (xs.length * n) + horner n xs.reverse
  | [], a => by simp [bigE, horner]
  | x :: r, a => by
    have h := bigE_horner n r (a * 2 ^ n + x)
    show bigE (2 ^ n) (a * 2 ^ n + x) r = _
    rw [h, List.reverse_cons, horner_append, List.length_reverse]
    have e : horner n [x] = x := by simp [horner]
    rw [e, List.length_cons, Nat.add_mul, Nat.one_mul, Nat.add_comm (r.length * n) n, Int.pow_add, Int.add_mul, Int.mul_assoc]
    (first | exact om553 | omega)
theorem digs_horner (n : Nat) : ∀ (ds : List Int), (∀ d ∈ ds, 0 ≤ d ∧ d < 2 ^ n) → digs n ds.length (horner n ds) = ds
  | [], _ => rfl
  | d :: r, h => by
    have hd := h d (.head _)
    have hp := two_pow_pos n
    rw [List.length_cons, digs, horner]
    have e1 : (d + 2 ^ n * horner n r) % 2 ^ n = d := by
      rw [Int.add_mul_emod_self_left]; exact Int.emod_eq_of_lt hd.1 hd.2
    have e2 : (d + 2 ^ n * horner n r) / 2 ^ n = horner n r := by
      rw [Int.add_mul_ediv_left _ _ (by (first | exact om64 hp | omega)), Int.ediv_eq_zero_of_lt hd.1 hd.2, Int.zero_add]
    rw [e1, e2, digs_horner n r fun x hx => h x (.tail _ hx)]
theorem horner_nonneg (n : Nat) : ∀ (ds : List Int), (∀ d ∈ ds, 0 ≤ d) → 0 ≤ horner n ds
  | [], _ => Int.le_refl _
  | d :: r, h => by
    have h1 := horner_nonneg n r fun x hx => h x (.tail _ hx)
    have h2 := Int.mul_nonneg (Int.le_of_lt (two_pow_pos n)) h1
    have := h d (.head _)
    rw [horner]; (first | exact om204 this h2 | omega)
theorem horner_lt (n : Nat) : ∀ (ds : List Int), (∀ d ∈ ds, 0 ≤ d ∧ d < 2 ^ n) → horner n ds < 2 ^ (n * ds.length)
  | [], _ => by show (0 : Int) < 2 ^ (n * 0); rw [Nat.mul_zero]; decide
  | d :: r, h => by
    have h1 := horner_lt n r fun x hx => h x (.tail _ hx)
    have hd := h d (.head _)
    have hp := two_pow_pos n
    have h2 := Int.mul_le_mul_of_nonneg_left (show horner n r ≤ 2 ^ (n * r.length) - 1 by (first | exact om203 h1 | omega)) (Int.le_of_lt hp)
    rw [Int.mul_sub, Int.mul_one] at h2
    rw [horner, List.length_cons, pow_mul_add]
    (first | exact om554 h2 hd.2 | omega)
theorem ndig_top {n : Nat} (hn : 2 ≤ n) (ds : List Int) (h : ∀ d ∈ ds, 0 ≤ d ∧ d < 2 ^ n) : ndig n (horner n (ds ++ [2 ^ (n - 1)])) = ds.length + 1 := by
  have hp1 := two_pow_pos (n - 1)
  have hlt : horner n (ds ++ [2 ^ (n - 1)]) < 2 ^ (n * (ds.length + 1)) := by
    have := horner_lt n (ds ++ [2 ^ (n - 1)]) (fun d hd => by
      rcases List.mem_append.mp hd with hd | hd
      · exact h d hd
      · rw [List.mem_singleton.mp hd]
        refine ⟨Int.le_of_lt hp1, ?_⟩
        rw [← two_pow_cast, ← two_pow_cast]
        exact_mod_cast Nat.pow_lt_pow_right (by decide) (by (first | exact om555 hn | omega)))
    simpa using this
  have h0 := horner_nonneg n ds fun d hd => (h d hd).1
  have hge : (2 : Int) ^ (n * ds.length + (n - 1)) ≤ horner n (ds ++ [2 ^ (n - 1)]) := by
    rw [horner_append]
    have e : horner n [(2 : Int) ^ (n - 1)] = 2 ^ (n - 1) := by simp [horner]
    rw [e, Int.pow_add, Int.mul_comm (2 ^ (n * ds.length)), Nat.mul_comm ds.length n]
    (first | exact om556 h0 | omega)
  have hb1 := bits_lt (by have := two_pow_pos (n * ds.length + (n - 1)); (first | exact om557 hge this | omega)) hlt
  have hb2 : n * ds.length + (n - 1) < Builtin.Int.intBits (horner n (ds ++ [2 ^ (n - 1)])) := by
    refine Nat.lt_of_not_le fun q => ?_
    have q2 := (intBits_le_iff).mp q
    rw [← two_pow_cast] at hge
    (first | exact om558 hge q2 | omega)
  rw [ndig]
  have hm : n * (ds.length + 1) = n * ds.length + n := Nat.mul_succ _ _
  have : Builtin.Int.intBits (horner n (ds ++ [2 ^ (n - 1)])) = n * ds.length + n := by (first | exact om559 hm hb1 hb2 | omega)
  rw [this, show n * ds.length + n + n - 1 = (n - 1) + n * (ds.length + 1) from by (first | exact om560 hm this hb2 | omega), Nat.add_mul_div_left _ _ (by (first | exact om207 hn | omega)), Nat.div_eq_of_lt (by (first | exact om561 this hb2 | omega))]
  (first | exact om562 | omega)
theorem P_range {H S : Int} {wd : Nat} (hw : 130 ≤ wd) (hH : H = 2 ^ (wd - 1)) (h1 : -(2 ^ 128) ≤ S) (h2 : S ≤ 2 ^ 128) : 0 ≤ H + S ∧ H + S < 2 ^ wd - 1 := by
  have e : (2 : Int) ^ wd = 2 * 2 ^ (wd - 1) := by
    conv => lhs; rw [show wd = (wd - 1) + 1 from by (first | exact om563 hw | omega), Int.pow_succ]
    exact Int.mul_comm _ _
  have g : (2 : Int) ^ 129 ≤ 2 ^ (wd - 1) := pow_le_pow (by (first | exact om564 hw | omega))
  have c : (2 : Int) ^ 129 = 680564733841876926926749214863536422912 := by decide
  have c2 : (2 : Int) ^ 128 = 340282366920938463463374607431768211456 := by decide
  rw [e, hH]
  (first | exact om565 g h1 h2 | omega)
theorem sums_facts {wd : Nat} (hw : 130 ≤ wd) {H : Int} (hH : H = 2 ^ (wd - 1)) (row : List Int) (hS : ∀ x ∈ psums 0 row, -(2 ^ 128) ≤ x ∧ x ≤ 2 ^ 128) :
    (horner wd ([H] ++ row).reverse).fdiv (2 ^ wd - 1) = horner wd (initP H row).reverse ∧ (horner wd ([H] ++ row).reverse).fmod (2 ^ wd - 1) = lastP H row ∧ 0 ≤ horner wd ([H] ++ row).reverse ∧ 0 ≤ horner wd (initP H row).reverse ∧
    ndig wd (horner wd (initP H row).reverse) = row.length ∧ digs wd row.length (horner wd (initP H row).reverse) = (initP H row).reverse ∧ ndig wd (horner wd ([H] ++ row).reverse) ≤ row.length + 1 := by
  have hall : ∀ x ∈ initP H row ++ [lastP H row], 0 ≤ x ∧ x < 2 ^ wd - 1 := by
    rw [init_last]
    intro x hx
    rcases List.mem_cons.mp hx with rfl | hx
    · have := P_range (S := 0) hw hH (by decide) (by decide)
      simpa using this
    · have e : psums H row = (psums 0 row).map (H + ·) := by
        have := psums_shift row H 0
        rwa [Int.add_zero] at this
      rw [e] at hx
      obtain ⟨S, hS1, rfl⟩ := List.mem_map.mp hx
      exact P_range hw hH (hS S hS1).1 (hS S hS1).2
  have hdig : ∀ d ∈ (initP H row).reverse, 0 ≤ d ∧ d < 2 ^ wd := fun d hd => by
    have := hall d (List.mem_append_left _ (List.mem_reverse.mp hd))
    (first | exact om566 this.1 this.2 | omega)
  have hlast := hall (lastP H row) (List.mem_append_right _ (.head _))
  have e1 : horner wd ([H] ++ row).reverse = horner wd (initP H row).reverse * (2 ^ wd - 1) + lastP H row := by
    have h1 := bigE_horner wd ([H] ++ row) 0
    have h2 := bigE_horner wd (initP H row) 0
    have h3 := sums_div (2 ^ wd) row 0 H
    rw [Int.zero_mul, Int.zero_add] at h1 h2 h3
    rw [← h1, ← h2, ← h3]
    show bigE (2 ^ wd) (0 * 2 ^ wd + H) row = _
    rw [Int.zero_mul, Int.zero_add]
  have hq := horner_nonneg wd (initP H row).reverse fun d hd => (hdig d hd).1
  obtain ⟨f1, f2⟩ := div_is (q := horner wd (initP H row).reverse) e1.symm hlast.1 hlast.2
  have hp := two_pow_pos wd
  have hpk : 0 ≤ horner wd ([H] ++ row).reverse := by
    rw [e1]
    have := Int.mul_nonneg hq (show (0 : Int) ≤ 2 ^ wd - 1 by (first | exact om567 hp | omega))
    (first | exact om204 this hlast.1 | omega)
  have hlen : (initP H row).reverse.length = row.length := by rw [List.length_reverse, initP_len]
  refine ⟨f1, f2, hpk, hq, ?_, ?_, ?_⟩
  · cases row with
    | nil => exact Nat.div_eq_of_lt (by show Builtin.Int.intBits 0 + wd - 1 < wd; rw [show Builtin.Int.intBits 0 = 0 from rfl]; (first | exact om568 hw | omega))
    | cons x r =>
      rw [initP, List.reverse_cons, hH]
      have h4 := ndig_top (n := wd) (by (first | exact om569 hw | omega)) (initP (H + x) r).reverse (fun d hd => hdig d (by rw [initP, List.reverse_cons]; exact List.mem_append_left _ hd))
      rw [hH] at h4
      rw [h4, List.length_reverse, initP_len, List.length_cons]
  · rw [← hlen]; exact digs_horner wd _ hdig
  · have hlt : horner wd ([H] ++ row).reverse < 2 ^ (wd * (row.length + 1)) := by
      have h5 := horner_lt wd (initP H row).reverse hdig
      rw [hlen] at h5
      rw [e1, pow_mul_add]
      have h6 := Int.mul_le_mul_of_nonneg_right (show horner wd (initP H row).reverse ≤ 2 ^ (wd * row.length) - 1 by (first | exact om203 h5 | omega)) (show (0 : Int) ≤ 2 ^ wd - 1 by (first | exact om567 hp | omega))
      have e6 : ((2 : Int) ^ (wd * row.length) - 1) * (2 ^ wd - 1) = 2 ^ wd * 2 ^ (wd * row.length) - 2 ^ (wd * row.length) - 2 ^ wd + 1 := by
        rw [Int.sub_mul, Int.one_mul, Int.mul_sub, Int.mul_one, Int.mul_comm (2 ^ (wd * row.length))]
        (first | exact om570 | omega)
      rw [e6] at h6
      have := two_pow_pos (wd * row.length)
      (first | exact om571 h6 this hlast.2 | omega)
    have h7 := bits_lt hpk hlt
    rw [ndig]
    refine Nat.lt_succ_iff.mp (Nat.div_lt_of_lt_mul ?_)
    have hm : wd * (row.length + 1).succ = wd * (row.length + 1) + wd := Nat.mul_succ _ _
    (first | exact om572 hm hw h7 | omega)
theorem bits_base {wd : Nat} (hw : 2 ≤ wd) : Builtin.Int.intBits ((2 : Int) ^ wd - 1) = wd := by
  have hp := two_pow_pos wd
  have h1 := bits_lt (x := 2 ^ wd - 1) (m := wd) (by (first | exact om567 hp | omega)) (by (first | exact om573 | omega))
  refine Nat.le_antisymm h1 (Nat.le_of_not_lt fun q => ?_)
  have q2 := (intBits_le_iff).mp (show Builtin.Int.intBits ((2 : Int) ^ wd - 1) ≤ wd - 1 by (first | exact om574 q | omega))
  have e : 2 ^ wd = 2 * 2 ^ (wd - 1) := by
    conv => lhs; rw [show wd = (wd - 1) + 1 from by (first | exact om92 hw | omega), Nat.pow_succ]
    exact Nat.mul_comm _ _
  have h3 : 1 ≤ 2 ^ (wd - 1) := Nat.one_le_two_pow
  have h4 : 2 ≤ 2 ^ (wd - 1) := by
    have : 2 ^ 1 ≤ 2 ^ (wd - 1) := Nat.pow_le_pow_right (by decide) (by (first | exact om575 hw | omega))
    simpa using this
  rw [← two_pow_cast, e] at q2
  (first | exact om576 q2 | omega)
end
section
local macro_rules | `(tactic| walk_at "call ref") => `(tactic| refine Halt.go ?_)
local macro_rules | `(tactic| walk_at "eval ListComp") => `(tactic| (k_dflt (refine' lc_go ?a_a ?b_a ?c_a ?_ ?d_a; (case a_a | b_a => rfl); (case c_a => decide); (case d_a => intro _; rfl))))
local macro_rules | `(tactic| walk_at "exec Assign cons ListComp") => `(tactic| (k_dflt (refine' lc_assign ?z_b ?a_b ?b_b ?c_b ?_ ?d_b; (case z_b | a_b | b_b => rfl); (case c_b => decide); (case d_b => intro _; rfl))))
local macro_rules | `(tactic| walk_at "pyIter bytes") => `(tactic| refine Halt.go ?_)
local macro_rules | `(tactic| walk_at "pyIter str") => `(tactic| refine Halt.go ?_)
local macro_rules | `(tactic| walk_at "pyIter ref") => `(tactic| refine Halt.go ?_)
local macro_rules | `(tactic| walk_at "last pyIter ref") => `(tactic| refine Halt.go ?_)
local macro_rules | `(tactic| walk_at "last pyIter str") => `(tactic| refine Halt.go ?_)
local macro_rules | `(tactic| walk_at "eval Name") => `(tactic| ((with_reducible show wpAny _ _ (eval (Expr.Name _ _) (compEnvC _ _ _ _)) _ _ _); k_dflt (first
  | (refine' nameV_L ?F_c ?v_c ?_ ?a_c ?b_c ?c_c; (case a_c | b_c => rfl); (case F_c => assumption); (case v_c => rfl); (case c_c => decide); k_whole)
  | (refine' nameV_B ?F_c ?X_c ?T_c ?e_c ?v_c ?n_c ?_ ?g_c ?b_c ?k_c ?x_c ?d_c; (case k_c | x_c => rfl); (case F_c | X_c | T_c => assumption); (case e_c => k_is); (case v_c => first | rfl | boot_by_name); (case n_c => decide); (case g_c | b_c => rfl); (case d_c => decide); k_whole)
  | (refine' nameV_G ?F_c ?X_c ?T_c ?e_c ?_ ?g_c ?k_c ?x_c ?d_c; (case k_c | x_c => rfl); (case F_c | X_c | T_c => assumption); (case e_c => k_is); (case g_c => rfl); (case d_c => decide); k_whole)
  | (refine' nameV_CN ?N_c ?c_c ?m_c ?d_c ?_ ?k_c ?x_c ?b_c; (case k_c | x_c => rfl); (case N_c => assumption); (case c_c => rfl); (case m_c => k_mem); (case d_c => with_reducible assumption); (case b_c => decide); k_whole)
  | (refine' nameV_CG ?F_c ?c_c ?m_c ?d_c ?_ ?k_c ?x_c ?b_c; (case k_c | x_c => rfl); (case F_c => assumption); (case c_c => rfl); (case m_c | d_c => with_reducible assumption); (case b_c => decide); k_whole))))
local macro_rules | `(tactic| walk_at "subscriptTail Name Slice str ref") => `(tactic| ((with_reducible show wpAny _ _ (subscriptTail _ (Expr.Slice none (some _) none _) _ _) _ _ _); (k_dflt (refine' slice_strN_ns (hsz := ?hsz_d) (s := ⟨_, _, _, _, _⟩) ?F_d ?N_d ?_; (case F_d | N_d => assumption); (case hsz_d => with_reducible assumption))); intro _ _ _ _ _))
local macro_rules | `(tactic| walk_at "subscriptTail Name Slice str ref") => `(tactic| ((with_reducible show wpAny _ _ (subscriptTail _ (Expr.Slice (some _) none none _) _ _) _ _ _); (k_dflt (refine' slice_strN_sn (hsz := ?hsz_e) (s := ⟨_, _, _, _, _⟩) ?F_e ?N_e ?_; (case F_e | N_e => assumption); (case hsz_e => with_reducible assumption))); intro _ _ _ _ _))
local macro_rules | `(tactic| walk_at "exec For Name Name cons nil") => `(tactic| ((with_unfolding_all refine' For_invVF ?k0_f ?k1_f ?k2_f ?_; (case k0_f => assumption); (case k1_f | k2_f => exact rfl); k_whole)))
section
theorem resetP1 : True := by
  w_top off
  exact trivial
variable {prog : Program} {w : World} {p : Program} {loose : List Str} {mean : ExcName → Option Value} {mg mb : Str → Option Value}
  {A : Around} {G : Heap} {s : Shared} {Q : Value → Shared → Prop} {E : Value → Shared → Prop}
local macro_rules | `(tactic| walk_at "exec For Name Call cons nil") => `(tactic| ((with_unfolding_all refine' For_invVF ?k0_M ?k1_M ?k2_M ?_; (case k0_M => assumption); (case k1_M | k2_M => exact rfl); k_whole)))

section
variable {h₀ : Heap} {L : Addr} {m : Str → Option Value} {news : List (Addr × Obj)}
theorem ints_repl (z : Int) (t : Tok) : ∀ c : Nat, IntsAre (List.replicate c (Value.int z t)) (List.replicate c z)
  | 0 => .nil
  | c + 1 => .cons z t (ints_repl z t c)
theorem mul_ints {l : Addr} {z x : Int} {t u : Tok} {k c : Nat} (F : Fr h₀ L s.heap m) (N : News h₀ L s.heap news) (hm : (l, listOf #[.int z t] k) ∈ news) (e : x = ((c : Nat) : Int)) (hc : c ≤ 2 ^ 20)
    (h : ∀ q ws h', Fr h₀ L h' m → News h₀ L h' ((q, listOf (List.toArray ws) 0) :: news) → (∀ p ∈ news, p.1 < q) → IntsAre ws (List.replicate c z) → Q (.ref q) { s with heap := h' }) :
    wpAny (model prog w) A (binaryOp .Mult (.ref l) (.int x u)) Q E s := by
  subst e
  exact mul_rep F N hm (Nat.le_trans hc (by decide)) fun q h' F' N' l' => h q _ h' F' N' l' (ints_repl z t c)
end
local macro_rules | `(tactic| walk_at "binaryOp Mult ref int") => `(tactic| refine Halt.go ?_)
local macro_rules | `(tactic| walk_at "binaryOp Mult int int") => `(tactic| k_dflt (refine' mul_int ?_ ?h_N; (case h_N => with_reducible assumption)))
noncomputable def facs (k : Nat) (s0 s1 s2 : Int) : Nat → List Int
  | 0 => List.replicate (s0 - 1).toNat (k : Int)
  | 1 => List.replicate (s0 - 1).toNat (k : Int) ++ List.replicate (s1 - s0).toNat ((k : Int) - 1)
  | _ => (List.replicate (s0 - 1).toNat (k : Int) ++ List.replicate (s1 - s0).toNat ((k : Int) - 1)) ++ List.replicate (s2 - s1).toNat ((k : Int) - 2)
noncomputable def stepP (f : Int) (q : List Int) : List Int := List.zipWith (fun u o => u + f * o) (q ++ [0]) ([0] ++ q)
theorem stepP_len (f : Int) (q : List Int) : (stepP f q).length = q.length + 1 := by simp [stepP]
noncomputable def prodOf (fi sp : Int) (k : Nat) (s0 s1 s2 : Int) : List Int := (facs k s0 s1 s2 (k - 1)).foldl (fun q f => stepP f q) [sp, fi + ((k : Int) - 1) * sp]
local macro_rules | `(tactic| walk_at "exec For Name Name cons nil") => `(tactic| (k_dflt (refine' wpAny_For ?_ ?hs_O; (case hs_O => intro _; rfl); k_whole)))
local macro_rules | `(tactic| walk_at "call type:zip") => `(tactic| refine Halt.go ?_)
local macro_rules | `(tactic| walk_at "binaryOp Add ref ref") => `(tactic| refine Halt.go ?_)
theorem zip_len {P : List Int} {a b : List Value} (h1 : IntsAre a (P ++ [0])) (h2 : IntsAre b ([0] ++ P)) : a.length = b.length := by
  rw [h1.length, h2.length]; simp
theorem facs_range {k : Nat} {s0 s1 s2 : Int} {j : Nat} (h1 : 1 ≤ k) (h3 : k ≤ 3) : ∀ f ∈ facs k s0 s1 s2 j, -1 ≤ f ∧ f ≤ 3 := by
  intro f hf
  have hr : ∀ {n : Nat} {z : Int}, f ∈ List.replicate n z → f = z := fun h => List.eq_of_mem_replicate h
  match j, hf with
  | 0, hf => have := hr hf; (first | exact om595 this h3 | omega)
  | 1, hf =>
    rcases List.mem_append.mp hf with hf | hf
    · have := hr hf; (first | exact om595 this h3 | omega)
    · have := hr hf; (first | exact om596 this h3 | omega)
  | n + 2, hf =>
    rcases List.mem_append.mp hf with hf | hf
    · rcases List.mem_append.mp hf with hf | hf
      · have := hr hf; (first | exact om595 this h3 | omega)
      · have := hr hf; (first | exact om596 this h3 | omega)
    · have := hr hf; (first | exact om597 this h1 h3 | omega)
theorem facs_len {k : Nat} {s0 s1 s2 : Int} {j : Nat} (h0 : 1 ≤ s0 ∧ s0 ≤ 3) (h1 : s0 ≤ s1 ∧ s1 ≤ s0 + 1) (h2 : s1 ≤ s2 ∧ s2 ≤ s1 + 1) : (facs k s0 s1 s2 j).length ≤ 4 := by
  match j with
  | 0 => rw [facs, List.length_replicate]; (first | exact om598 h0.2 | omega)
  | 1 => rw [facs, List.length_append, List.length_replicate, List.length_replicate]; (first | exact om599 h0.2 h1.2 | omega)
  | n + 2 =>
    show ((List.replicate (s0 - 1).toNat (k : Int) ++ List.replicate (s1 - s0).toNat ((k : Int) - 1)) ++ List.replicate (s2 - s1).toNat ((k : Int) - 2)).length ≤ 4
    rw [List.length_append, List.length_append, List.length_replicate, List.length_replicate, List.length_replicate]; (first | exact om600 h0.2 h1.2 h2.2 | omega)
theorem facs_step {k : Nat} {s0 s1 s2 : Int} {i : Nat} (hi : i < 2) (h1 : s0 ≤ s1 ∧ s1 ≤ s0 + 1) (h2 : s1 ≤ s2 ∧ s2 ≤ s1 + 1) :
    ∃ d : Nat, [s0, s1, s2].getD (Int.toNat (1 + (i : Int))) 0 - [s0, s1, s2].getD (Int.toNat (1 + (i : Int) - 1)) 0 = (d : Int) ∧ d ≤ 2 ^ 20 ∧ facs k s0 s1 s2 (i + 1) = facs k s0 s1 s2 i ++ List.replicate d ((k : Int) - (1 + (i : Int))) := by
  match i, hi with
  | 0, _ => exact ⟨(s1 - s0).toNat, by show s1 - s0 = _; exact om610 h1.1, om726 h1.2, rfl⟩
  | 1, _ => exact ⟨(s2 - s1).toNat, by show s2 - s1 = _; exact om610 h2.1, om726 h2.2, rfl⟩
theorem foldl_len : ∀ (fs : List Int) (q : List Int), (fs.foldl (fun q f => stepP f q) q).length = q.length + fs.length
  | [], _ => rfl
  | f :: fs, q => by rw [List.foldl_cons, foldl_len fs, stepP_len, List.length_cons]; (first | exact om601 | omega)
theorem prod_call (X : (Mine.hd.heap_39 w.params).In G) (T : Top p loose mean mg mb G) (st : G.StaysIn s.heap)
  (l : Addr) (vs : List Value) (nn : Nat) (fi sp s0 s1 s2 : Int) (k : Nat) (tf ts tk' : Tok) (R : Room 4 A) (hl : s.heap.get? l = some (listOf vs.toArray nn)) (hi : IntsAre vs [s0, s1, s2]) (hk1 : 1 ≤ k) (hk3 : k ≤ 3)
  (h0 : 1 ≤ s0 ∧ s0 ≤ 3) (h1 : s0 ≤ s1 ∧ s1 ≤ s0 + 1) (h2 : s1 ≤ s2 ∧ s2 ≤ s1 + 1) (hf : -1000000 ≤ fi ∧ fi ≤ 1000000) (hs : -1000000 ≤ sp ∧ sp ≤ 1000000)
  (hret : ∀ (q : Addr) (ys : List Value) (kn : Nat) (h' : Heap) (tk' : Nat), s.heap.StaysIn h' → s.heap.get? q = none → h'.get? q = some (listOf ys.toArray kn) → IntsAre ys (prodOf fi sp k s0 s1 s2) → Q (.ref q) { s with heap := h', toks := tk' }) :
  wpAny (model prog w) A (call (.ref 276) [.int fi tf, .int sp ts, .ref l, .int (k : Int) tk']) Q E s := by
  obtain ⟨ahd, dp, fr, gd, un⟩ := A
  obtain rfl : ahd = none := R.hh
  (k_dflt (refine' enterC ?hid ?st ?hH ?X ?T ?R ?k6 ?k7 ?k9 ?kB ?kD ?_ ?c2 ?c3 ?c4; (case st | X | T | R => assumption); (case k6 | k7 => k_is); (case k9 => first | exact BindsTo.of_eq rfl | exact binds_K (by assumption) rfl (by k_is) rfl rfl rfl); (case kB => exact rfl); (case kD => decide +kernel); (case c2 | c3 | c4 => exact rfl)))
  case hid => exact []
  case hH => exact List.forall_mem_nil _
  intro g L' h₁ tk cells gs ls gst F N Y X' T' l1 l2
  have hlg : g.get? l = some (listOf vs.toArray nn) := ls.nil _ _ hl
  have hLg : g.IsList l vs.toArray := ⟨_, hlg, rfl, _, rfl⟩
  have m1 : IntMulOk ((k : Int) - 1) sp := IntMulOk.of_right (intBits_le_64 (by (first | exact om602 hs.1 | omega)) (by (first | exact om603 hs.2 | omega)))
  obtain ⟨o1, rfl, d1⟩ := CellsAre.one Y
  simp only [List.cons_append, List.nil_append] at N
  clear Y l2
  k_unmd
  k_fold
  have e1 : [s0, s1, s2].getD (Int.toNat 0) 0 - 1 = (((s0 - 1).toNat : Nat) : Int) := by show s0 - 1 = _; (first | exact om604 h0.1 | omega)
  k_steps
  (k_dflt (refine' mul_ints ?F_11 ?N_11 ?m_11 ?e_11 ?c_11 ?_; (case F_11 | N_11 => assumption); (case m_11 => k_mem); (case e_11 => with_reducible assumption); (case c_11 => first | exact om734 (by assumption) (by assumption) | exact om733 h0.2 | omega)); intro _ _ _ _ _ l' _; (try k_lt l'); revert l'; intro _)
  k_steps
  rename_i lp x1 lpc _a x2 x3 x4 l3 x6 lf ws x7 iws l4 _b hR0 FR0 NR0 hR x8 x9 x10 x11 hRng FR NR KR
  obtain ⟨tq, NR2⟩ : ∃ tq, News g L' hR [(lf, listOf ws.toArray 0), (lp, listOf #[.int sp ts, .int (fi + ((k : Int) - 1) * sp) tq] 0), (L' + 1, o1)] := ⟨_, News.sub NR (by walk_at "my sub")⟩
  refine loop_range (n := k - 1) (fun i m nw => ∃ lf wf nf, m (Str.ofString "factors") = some (.ref lf) ∧ m (Str.ofString "product") = some (.ref lp) ∧ m (Str.ofString "sizes") = some (.ref l) ∧ m (Str.ofString "k") = some (.int (k : Int) tk') ∧ IntsAre wf (facs k s0 s1 s2 i) ∧ @LT.lt Nat _ lp lf ∧
      nw = [(lf, listOf wf.toArray nf), (lp, listOf #[.int sp ts, .int (fi + ((k : Int) - 1) * sp) tq] 0), (L' + 1, o1)]) rfl hRng (by (first | exact om606 | omega)) (by (first | exact om607 hk3 | omega)) (by (first | exact om608 hk1 | omega)) FR NR2 ⟨lf, ws, 0, rfl, rfl, rfl, rfl, iws, l4.2.1, rfl⟩ ?turn ?done
  case turn =>
    rintro i u m₁ news₁ I it h tk hin ⟨lf, wf, nf, mf, mp, ms, mk, iw, hlt, rfl⟩ hof hltI F5 N5
    have F6 := Fr.seeX4 F5 mf mp ms mk
    clear F5
    have c1 : @Ne Nat lf I := hof _ (.head _)
    have c2 : @Ne Nat lp I := hof _ (.tail _ (.head _))
    have c3 : @Ne Nat (L' + 1) I := hof _ (.tail _ (.tail _ (.head _)))
    have hi2 : i < 2 := om727 hk3 (by assumption)
    obtain ⟨d, e2, hd, ef⟩ := facs_step (k := k) hi2 h1 h2
    have i0 : 0 ≤ 1 + (i : Int) := om728
    have i1 : 1 + (i : Int) < 3 := om729 hi2
    have i2 : 0 ≤ 1 + (i : Int) - 1 := om730
    have i3 : 1 + (i : Int) - 1 < 3 := om731 hi2
    have fl := facs_len (k := k) (j := i) h0 h1 h2
    k_steps
    (k_dflt (refine' mul_ints ?F_11 ?N_11 ?m_11 ?e_11 ?c_11 ?_; (case F_11 | N_11 => assumption); (case m_11 => k_mem); (case e_11 => with_reducible assumption); (case c_11 => first | exact om734 (by assumption) (by assumption) | exact om733 h0.2 | omega)); intro _ _ _ _ _ l' _; (try k_lt l'); revert l'; intro _)
    k_steps
    (k_dflt (refine' kmk_add_ints ?F_12 ?N_12 ?a_12 ?b_12 ?i_12 ?j_12 ?_ ?z_12; (case F_12 | N_12 => assumption); (case a_12 | b_12 => exact led_list (by assumption) (by k_mem)); (case i_12 | j_12 => first | with_reducible assumption | exact .cons _ _ .nil); (case z_12 => (rw [sizeLine_eq]; simp only [List.length_append, List.length_replicate, List.length_cons, List.length_nil]; first | exact om735 (by assumption) | exact om736 (by assumption) | exact om734 (by assumption) (by assumption) | omega))); intro _ _ _ _ _ l1 _; (try k_lt l1); revert l1; intro _)
    k_steps
    rename_i D2 us hh6 FF6 NN6 i6 l6 _c h7 FZ NZ
    obtain ⟨_, _, l7, _, l8, _⟩ := l6
    refine TurnEnd.intro (news' := [(D2, listOf us.toArray 0), (lp, listOf #[.int sp ts, .int (fi + ((k : Int) - 1) * sp) tq] 0), (L' + 1, o1)]) FZ (News.sub NZ (by walk_at "my sub")) (List.forall_mem_cons.mpr ⟨by k_ne, List.forall_mem_cons.mpr ⟨by k_ne, List.forall_mem_cons.mpr ⟨by k_ne, List.forall_mem_nil _⟩⟩⟩) ⟨D2, us, 0, rfl, rfl, rfl, rfl, by rw [ef]; exact i6, l8, rfl⟩
  case done =>
    rintro m₁ news₁ h5 tk5 ⟨lf, wf, nf, mf, mp, ms, mk, iw, hlt, rfl⟩ F5 N5
    have lpc' : @LT.lt Nat _ (L' + 1) lp := lpc.1
    have F6 := Fr.see2 F5 mf mp
    clear F5
    k_steps
    refine for_cell_list (c := L' + 1) (oc0 := o1) (v0 := none) (l := lf) (vs := wf) (nn := nf) (news := [(lf, listOf wf.toArray nf), (lp, listOf #[.int sp ts, .int (fi + ((k : Int) - 1) * sp) tq] 0)])
      (fun i m nw => ∃ lp vp np, m (Str.ofString "product") = some (.ref lp) ∧ IntsAre vp (((facs k s0 s1 s2 (k - 1)).take i).foldl (fun q f => stepP f q) [sp, fi + ((k : Int) - 1) * sp]) ∧ nw = [(lf, listOf wf.toArray nf), (lp, listOf vp.toArray np)])
      rfl rfl rfl rfl F6 (News.sub N5 (by walk_at "my sub")) d1 ?off (News.get N5 (by k_mem)) (N5 _ (.head _)).2.1 ?ne (.inr ⟨_, fun i m n' ⟨_, _, _, _, _, e⟩ => by rw [e]; exact .head _⟩) ⟨lp, [.int sp ts, .int (fi + ((k : Int) - 1) * sp) tq], 0, rfl, .cons _ _ (.cons _ _ .nil), rfl⟩ ?turn2 ?done2
    case off => exact List.forall_mem_cons.mpr ⟨by k_ne, List.forall_mem_cons.mpr ⟨by k_ne, List.forall_mem_nil _⟩⟩
    case ne => k_ne
    case turn2 =>
      rintro I hI i v m₂ news₂ it oc h tk E' hv ⟨lp2, vp, np, mp2, ip, rfl⟩ hof hdo F7 N7
      obtain ⟨P, hP⟩ : ∃ P, P = ((facs k s0 s1 s2 (k - 1)).take i).foldl (fun q f => stepP f q) [sp, fi + ((k : Int) - 1) * sp] := ⟨_, rfl⟩
      rw [← hP] at ip
      have hPl : P.length ≤ 7 := by
        rw [hP, foldl_len, List.length_take]
        have := facs_len (k := k) (j := k - 1) h0 h1 h2
        show 2 + _ ≤ 7
        (first | exact om631 this | omega)
      have F8 := Fr.see F7 mp2
      clear F7
      obtain ⟨f, tfac, rfl, hf2⟩ := iw.at i v hv
      have hfr := facs_range (by omega) hk3 f (List.mem_of_getElem? hf2)
      k_steps
      (k_dflt (refine' kmk_add_ints ?F_12 ?N_12 ?a_12 ?b_12 ?i_12 ?j_12 ?_ ?z_12; (case F_12 | N_12 => assumption); (case a_12 | b_12 => exact led_list (by assumption) (by k_mem)); (case i_12 | j_12 => first | with_reducible assumption | exact .cons _ _ .nil); (case z_12 => (rw [sizeLine_eq]; simp only [List.length_append, List.length_replicate, List.length_cons, List.length_nil]; first | exact om735 (by assumption) | exact om736 (by assumption) | exact om734 (by assumption) (by assumption) | omega))); intro _ _ _ _ _ l1 _; (try k_lt l1); revert l1; intro _)
      k_steps
      (k_dflt (refine' kmk_add_ints ?F_12 ?N_12 ?a_12 ?b_12 ?i_12 ?j_12 ?_ ?z_12; (case F_12 | N_12 => assumption); (case a_12 | b_12 => exact led_list (by assumption) (by k_mem)); (case i_12 | j_12 => first | with_reducible assumption | exact .cons _ _ .nil); (case z_12 => (rw [sizeLine_eq]; simp only [List.length_append, List.length_replicate, List.length_cons, List.length_nil]; first | exact om735 (by assumption) | exact om736 (by assumption) | exact om734 (by assumption) (by assumption) | omega))); intro _ _ _ _ _ l1 _; (try k_lt l1); revert l1; intro _)
      k_steps
      refine' comp_zip rfl ?za ?zb ?zlen ?zc rfl rfl rfl ?zF ?zN (fun i ys made => made = [] ∧ IntsAre ys ((stepP f P).take i)) ?zz ⟨rfl, .nil⟩ ?zturn ?zdone
      case za => exact News.get (by assumption) (by k_mem)
      case zb => exact News.get (by assumption) (by k_mem)
      case zc => decide
      case zF => assumption
      case zN => assumption
      case zlen => exact zip_len (P := P) (by assumption) (by assumption)
      case zz =>
        rintro i2 ys made ⟨_, hj⟩
        rw [hj.length, List.length_take, stepP_len]
        (first | exact om634 hPl | omega)
      case zturn =>
        rintro g2 C D gs hg hDC i2 v1 v2 ys made k2 h9 tk9 mC E2 hx hy ⟨rfl, hJ⟩ F9 N9
        have X3 := X'.keeps hg
        have T3 := T'.keeps hg
        obtain ⟨a1, ta1, rfl, ha1⟩ := IntsAre.at (ns := P ++ [0]) (by assumption) i2 v1 hx
        obtain ⟨a2, ta2, rfl, ha2⟩ := IntsAre.at (ns := [0] ++ P) (by assumption) i2 v2 hy
        have hcell : g2.get? (L' + 1) = some oc := gs _ _ (News.get (by assumption) (by k_mem))
        have mo : IntMulOk f a2 := IntMulOk.of_left (intBits_le_64 (by (first | exact om635 hfr.1 | omega)) (by (first | exact om636 hfr.2 | omega)))
        have hst : (stepP f P)[i2]? = some (a1 + f * a2) := by rw [stepP, List.getElem?_zipWith, ha1, ha2]
        k_steps
        refine PairElt.intro [] (StaysIn.refl _) (fun p hp => nomatch hp) ⟨rfl, ?_⟩
        rw [List.take_add_one, hst]
        exact hJ.append (.cons _ _ .nil)
      case zdone =>
        (refine' end_local ?ea ?eb ?ec ?_; (case ea => rfl); (case eb => rfl); (case ec => rfl))
        rintro ys nw k3 D h9 tk9 ⟨made, rfl, rfl, hJ⟩ off F9 N9 lt
        k_steps
        have hJ2 : IntsAre ys (stepP f P) := by
          rw [List.take_of_length_le] at hJ
          · exact hJ
          · rw [stepP_len, IntsAre.length (ns := P ++ [0]) (by assumption)]; simp
        rw [List.nil_append] at N9
        k_lt lt
        have eF : stepP f P = ((facs k s0 s1 s2 (k - 1)).take (i + 1)).foldl (fun q f => stepP f q) [sp, fi + ((k : Int) - 1) * sp] := by
          rw [List.take_add_one, hf2, Option.toList_some, List.foldl_append, ← hP]; rfl
        exact CellEnd.intro (news' := [(lf, listOf wf.toArray nf), (D, listOf ys.toArray k3)]) F9 (News.sub N9 (by walk_at "my sub")) hdo (List.forall_mem_cons.mpr ⟨hof _ (.head _), List.forall_mem_cons.mpr ⟨⟨by k_ne, by k_ne⟩, List.forall_mem_nil _⟩⟩) ⟨D, ys, k3, rfl, eF ▸ hJ2, rfl⟩
    case done2 =>
      rintro m₂ news₂ oc v h6 tk6 ⟨lp2, vp, np, mp2, ip, rfl⟩ hdo hoc F7 N7
      rw [iw.length, List.take_length] at ip
      have F8 := Fr.see F7 mp2
      clear F7
      k_steps
      show Q _ _
      exact hret lp2 vp np h6 tk6 (StaysIn.trans ls.nil (Fr.keep F8)) (fresh_of ls.nil (News.none N7 (.tail _ (.tail _ (.head _))))) (News.get N7 (by k_mem)) ip
end
section
theorem resetS2 : True := by
  w_top off
  exact trivial
variable {prog : Program} {w : World} {p : Program} {loose : List Str} {mean : ExcName → Option Value} {mg mb : Str → Option Value}
  {A : Around} {G : Heap} {s : Shared} {Q : Value → Shared → Prop} {E : Value → Shared → Prop}

local macro_rules | `(tactic| walk_at "call builtin:chr") => `(tactic| k_dflt (refine' chr_of_range ?a_P ?b_P ?_; (case a_P | b_P => omega)))
local macro_rules | `(tactic| walk_at "call builtin:str.join") => `(tactic| refine Halt.go ?_)
noncomputable def sign1 (c : Int) : Str := ⟨#[c.toNat]⟩
noncomputable def apT (x : Int) : Str := ⟨((if x < 0 then [45] else []) ++ (apL x.natAbs).map Int.toNat).toArray⟩
theorem join_signs : ∀ l : List Int, Str.join (Str.ofString "") (l.map sign1) = ⟨(l.map Int.toNat).toArray⟩
  | [] => rfl
  | [c] => rfl
  | c :: d :: r => by
    have h := join_signs (d :: r)
    show sign1 c ++ Str.ofString "" ++ Str.join (Str.ofString "") ((d :: r).map sign1) = _
    rw [h]
    show (⟨_⟩ : Str) = _
    congr 1
    show (#[c.toNat] ++ (Str.ofString "").cps) ++ ((d :: r).map Int.toNat).toArray = _
    rw [show (Str.ofString "").cps = #[] from rfl]
    simp
theorem sum_signs : ∀ l : List Int, ((l.map sign1).map (fun x => x.length)).sum = l.length
  | [] => rfl
  | c :: r => by
    rw [List.map_cons, List.map_cons, List.sum_cons, sum_signs r, List.length_cons]
    show 1 + _ = _
    (first | exact om648 | omega)
theorem apT_len {x : Int} (hx : Builtin.Int.intBits x ≤ 140) : (apT x).cps.toList.length ≤ 36 := by
  have hln := apL_len 35 x.natAbs (Nat.lt_of_lt_of_le ((intBits_le_iff).mp hx) (by decide))
  rw [apT]
  split <;> simp <;> (first | exact om649 hln | omega)
theorem text_call (X : (Mine.hd.heap_39 w.params).In G) (T : Top p loose mean mg mb G) (st : G.StaysIn s.heap)
  (x : Int) (tx : Tok) (R : Room 4 A) (hx : Builtin.Int.intBits x ≤ 140)
  (hret : ∀ (t : Tok) (h' : Heap) (tk' : Nat), s.heap.StaysIn h' → Q (.str (apT x) t) { s with heap := h', toks := tk' }) :
  wpAny (model prog w) A (call (.ref 247) [.int x tx]) Q E s := by
  obtain ⟨ahd, dp, fr, gd, un⟩ := A
  obtain rfl : ahd = none := R.hh
  (k_dflt (refine' enter0 ?st ?X ?T ?R ?k6 ?k7 ?k9 ?kB ?_ ?c2 ?c3 ?c4 ?c5; (case st | X | T | R => assumption); (case k6 | k7 => k_is); (case k9 => first | exact BindsTo.of_eq rfl | exact binds_K (by assumption) rfl (by k_is) rfl rfl rfl); (case c5 => decide); (case kB => exact locs rfl); (case c2 | c3 | c4 => exact rfl); k_whole; intro _ _ _ _ _ _ _; (try dsimp only); k_fold))
  k_steps
  rename_i FE NE XE TE
  refine ap_call XE TE (Fr.keep FE) x _ (Room.deep R (by decide)) hx ?_
  intro b tb h2 tk2 k2 hb
  have F2 := Fr.keeps FE k2
  have N2 := News.grown NE k2
  have hin := fun c hc => apL_in x.natAbs c hc
  have hln := apL_len 35 x.natAbs (Nat.lt_of_lt_of_le ((intBits_le_iff).mp hx) (by decide))
  clear FE NE
  k_steps
  refine comp_bytes rfl hb (by decide) rfl rfl F2 N2 (fun i ys nw => nw = [] ∧ StrsAre ys (((apL x.natAbs).take i).map sign1)) ?_ ⟨rfl, .nil⟩ ?_ (end_value ?_)
  · rintro i ys nw ⟨_, hj⟩
    rw [hj.length, List.length_map, List.length_take]
    (first | exact om650 hln | omega)
  · rintro g C D I gs hg less lt hI hID hDC i v ys nw it k h tk mC E' hi ⟨c, t, hc, rfl⟩ ⟨rfl, hJ⟩ off F3 N3
    have X3 := XE.keeps hg
    have T3 := TE.keeps hg
    have hc2 := hin c (List.mem_of_getElem? hc)
    refine wpAny_tests_nil ?_
    rw [if_pos rfl]
    k_steps
    refine ElemEnd.intro F3 N3 (fun p hp => nomatch hp) ⟨rfl, ?_⟩
    rw [List.take_add_one, hc, List.map_append]
    exact hJ.append' (.cons _ _ .nil)
  · rintro ys nw k D h tk ⟨rfl, hJ⟩ off F3 N3 lt
    rw [List.take_length] at hJ
    k_steps
    refine join_list (items := ys.toArray) ?_ (by simpa using hJ) ?_ ?_
    · exact led_list N3 (.head _)
    · rw [sum_signs, List.length_map]
      have : (Str.ofString "").length = 0 := by decide
      rw [this]; (first | exact om653 hln | omega)
    · intro t' k'
      have ej : Txt.join (Str.ofString "") (List.map sign1 (apL x.natAbs)) = ⟨((apL x.natAbs).map Int.toNat).toArray⟩ := by
        show Builtin.Str.glued _ _ = _
        rw [StrLaws.glued_eq_join, join_signs]
      rw [ej]
      clear ej
      obtain ⟨W, hW⟩ : ∃ W : Str, W = ⟨((apL x.natAbs).map Int.toNat).toArray⟩ := ⟨_, rfl⟩
      rw [← hW]
      have hWl : W.length ≤ 35 := by rw [hW]; simpa [Str.length] using hln
      k_steps
      · show Q _ _
        have e : Str.ofString "-" ++ W = apT x := by
          rw [hW, apT, if_pos (by assumption)]
          show (⟨(Str.ofString "-").cps ++ _⟩ : Str) = _
          rw [show (Str.ofString "-").cps = #[45] from rfl]
          simp
        rw [e]
        exact hret _ _ _ (Fr.keep (by assumption))
      · show Q _ _
        have e : W = apT x := by rw [hW, apT, if_neg (by assumption)]; rfl
        rw [e]
        exact hret _ _ _ (Fr.keep (by assumption))
end
section
theorem resetS3 : True := by
  w_top off
  exact trivial
variable {prog : Program} {w : World} {p : Program} {loose : List Str} {mean : ExcName → Option Value} {mg mb : Str → Option Value}
  {A : Around} {G : Heap} {s : Shared} {Q : Value → Shared → Prop} {E : Value → Shared → Prop}
local macro_rules | `(tactic| walk_at "subscriptTail Name Slice ref ref") => `(tactic| refine Halt.go ?_)

noncomputable def toldL : List Nat → List Int
  | [] => []
  | c :: r => if c = 45 then toldL r else ((c : Int) - 65) :: toldL r
theorem toldL_app : ∀ a b : List Nat, toldL (a ++ b) = toldL a ++ toldL b
  | [], b => rfl
  | c :: r, b => by
    rw [List.cons_append, toldL, toldL, toldL_app r b]
    split <;> rfl
theorem toldL_len : ∀ a : List Nat, (toldL a).length ≤ a.length
  | [] => Nat.le_refl _
  | c :: r => by
    rw [toldL]
    have := toldL_len r
    split
    · exact Nat.le_succ_of_le this
    · exact Nat.succ_le_succ this
theorem toldL_letters : ∀ l : List Int, (∀ c ∈ l, 65 ≤ c ∧ c < 81) → toldL (l.map Int.toNat) = l.map (· - 65)
  | [], _ => rfl
  | c :: r, h => by
    have hc := h c (.head _)
    rw [List.map_cons, toldL, if_neg (by (first | exact om654 hc.1 | omega)), toldL_letters r fun d hd => h d (.tail _ hd), List.map_cons]
    congr 1
    (first | exact om655 hc.1 | omega)
theorem apL_horner : ∀ n : Nat, horner 4 ((apL n).map (· - 65)).reverse = (n : Int) := fun n => by
  induction n using Nat.strongRecOn with
  | _ n ih =>
    by_cases h0 : n = 0
    · rw [h0, apL_zero]; rfl
    · rw [apL_pos h0, List.map_append, List.reverse_append]
      have hi := ih (n / 16) (Nat.div_lt_self (Nat.pos_of_ne_zero h0) (by decide))
      show horner 4 ((65 + ((n % 16 : Nat) : Int) - 65) :: ((apL (n / 16)).map (· - 65)).reverse) = _
      rw [horner, hi]
      have : (2 : Int) ^ 4 = 16 := by decide
      rw [this]
      (first | exact om656 | omega)
theorem told_val (x : Int) : horner 4 (toldL (apT x).cps.toList).reverse = (x.natAbs : Int) := by
  have e : toldL (apT x).cps.toList = (apL x.natAbs).map (· - 65) := by
    rw [← toldL_letters _ (apL_in x.natAbs), apT]
    split
    · show toldL ([45] ++ _) = _
      rw [toldL_app]; rfl
    · rfl
  rw [e, apL_horner]
theorem told_list (x : Int) : toldL (apT x).cps.toList = (apL x.natAbs).map (· - 65) := by
  rw [← toldL_letters _ (apL_in x.natAbs), apT]
  split
  · show toldL ([45] ++ _) = _
    rw [toldL_app]; rfl
  · rfl
theorem told_small (x : Int) (d : Int) (hd : d ∈ toldL (apT x).cps.toList) : Builtin.Int.intBits d ≤ 4 := by
  rw [told_list] at hd
  obtain ⟨c, hc, rfl⟩ := List.mem_map.mp hd
  have := apL_in x.natAbs c hc
  have h16 : (2 : Int) ^ 4 = 16 := by decide
  exact bits_lt (by (first | exact om657 this.1 | omega)) (by rw [h16]; omega)
theorem apT_sign (x : Int) : (PySem.Txt.slice (apT x) none (some 1) == Str.ofString "-") = decide (x < 0) := by
  rw [show (1 : Int) = ((1 : Nat) : Int) from rfl, slice_take]
  by_cases h : x < 0
  · rw [decide_eq_true h, apT, if_pos h]
    show (({ cps := ((45 :: _).take 1).toArray } : Str) == _) = _
    rw [List.take_succ_cons, List.take_zero]; rfl
  · rw [decide_eq_false h, apT, if_neg h, List.nil_append]
    cases e : apL x.natAbs with
    | nil => rfl
    | cons c r =>
      have hc := apL_in x.natAbs c (by rw [e]; exact .head _)
      rw [List.map_cons]
      show (({ cps := [c.toNat].toArray } : Str) == { cps := #[45] }) = false
      have hne : ({ cps := [c.toNat].toArray } : Str) ≠ { cps := #[45] } := fun q => by
        have q2 := congrArg (fun z : Str => z.cps.toList) q
        have q3 : [c.toNat] = [45] := q2
        have q4 : c.toNat = 45 := by simpa using q3
        (first | exact om659 q4 hc.1 | omega)
      simpa using hne
theorem told_call (X : (Mine.hd.heap_39 w.params).In G) (T : Top p loose mean mg mb G) (st : G.StaysIn s.heap) (n54 : G.get? 54 = none) (n61 : G.get? 61 = none) (tb : Tabs s.heap)
  (x : Int) (tx : Tok) (R : Room 42 A) (hx : Builtin.Int.intBits x ≤ 140)
  (hret : ∀ (t : Tok) (h' : Heap) (tk' : Nat), KeepT s.heap h' → Tabs h' → Q (.int x t) { s with heap := h', toks := tk' }) :
  wpAny (model prog w) A (call (.ref 252) [.str (apT x) tx]) Q E s := by
  obtain ⟨ahd, dp, fr, gd, un⟩ := A
  obtain rfl : ahd = none := R.hh
  obtain ⟨⟨p1, q1⟩, ⟨p2, q2⟩⟩ := tb
  (k_dflt (refine' enterH ?hid ?st ?hH ?X ?T ?R ?k6 ?k7 ?k9 ?kB ?_ ?c2 ?c3 ?c4 ?c5; (case st | X | T | R => assumption); (case k6 | k7 => k_is); (case k9 => first | exact BindsTo.of_eq rfl | exact binds_K (by assumption) rfl (by k_is) rfl rfl rfl); (case c5 => decide); (case kB => exact locs rfl); (case c2 | c3 | c4 => exact rfl)))
  case hid => exact [(54, tabObj p1), (61, tabObj p2)]
  case hH => exact List.forall_mem_cons.mpr ⟨⟨q1.1, n54⟩, List.forall_mem_cons.mpr ⟨⟨q2.1, n61⟩, List.forall_mem_nil _⟩⟩
  intro g L' h₁ tk gs ls gst F N X' T' l1 l2
  have kT : KeepT s.heap g := fun b o b1 b2 e => ls b o (List.forall_mem_cons.mpr ⟨b1, List.forall_mem_cons.mpr ⟨b2, List.forall_mem_nil _⟩⟩) e
  have m54 : g.get? 54 = none := News.none N (by k_mem)
  have m61 : g.get? 61 = none := News.none N (by k_mem)
  k_unmd
  k_fold
  k_steps
  refine comp_str rfl (by decide) rfl rfl F N (fun i ys nw => nw = [(54, tabObj p1), (61, tabObj p2)] ∧ IntsAre ys (toldL ((apT x).cps.toList.take i))) ?_ ⟨rfl, .nil⟩ ?_ ?_
  · rintro i ys nw ⟨_, hj⟩
    rw [hj.length]
    refine Nat.le_trans (toldL_len _) ?_
    rw [List.length_take]
    have := apT_len hx
    (first | exact om660 this | omega)
  · rintro g2 C D I gs2 hg less lt hI hID hDC i v ys nw it k h tk mC E' hi ⟨t, c, hc, rfl⟩ ⟨rfl, hJ⟩ off F3 N3
    have X3 := X'.keeps hg
    have T3 := T'.keeps hg
    refine wpAny_tests_one ?_
    have hto : (apT x).cps.toList.take (i + 1) = (apT x).cps.toList.take i ++ [t] := by
      rw [List.take_add_one, Array.getElem?_toList, hc]; rfl
    k_steps
    · refine ElemEnd.intro F3 N3 off ⟨rfl, ?_⟩
      rw [hto, toldL_app]
      have h45 : t ≠ 45 := by
        rintro rfl
        exact absurd (show (({ cps := #[45] } : Str) != Str.ofString "-") = true by assumption) (by decide)
      rw [show toldL [t] = [(t : Int) - 65] from if_neg h45]
      exact hJ.append (.cons _ _ .nil)
    · refine ElemEnd.intro F3 N3 off ⟨rfl, ?_⟩
      rw [hto, toldL_app]
      have h45 : t = 45 := by
        have h := (show (({ cps := #[t] } : Str) != Str.ofString "-") = false by assumption)
        have h2 : ({ cps := #[t] } : Str) = Str.ofString "-" := by simpa using h
        have h3 := congrArg Str.cps h2
        have h4 : #[t] = #[45] := h3
        simpa using h4
      subst h45
      rw [show toldL [45] = [] from rfl, List.append_nil]
      exact hJ
  · (refine' end_local ?ea ?eb ?ec ?_; (case ea => rfl); (case eb => rfl); (case ec => rfl))
    rintro ys nw k D h tk ⟨rfl, hJ⟩ off F3 N3 lt
    have eT : (apT x).cps.toList.take (apT x).cps.size = (apT x).cps.toList := List.take_of_length_le (by simp)
    rw [eT] at hJ
    obtain ⟨fs, hfs⟩ : ∃ fs, fs = toldL (apT x).cps.toList := ⟨_, rfl⟩
    rw [← hfs] at hJ
    have hfl : fs.length ≤ 36 := by rw [hfs]; exact Nat.le_trans (toldL_len _) (apT_len hx)
    have hys : ys.toArray.size ≤ sizeLine := by
      rw [sizeLine_eq]
      have := hJ.length
      simp only [List.size_toArray]
      (first | exact om661 this hfl | omega)
    k_steps
    (k_dflt (refine' krv_ints ?F_8 ?N_8 ?l_8 ?k_8 ?i_8 ?_ ?s_8 ?t_8 ?z_8; (case F_8 | N_8 => assumption); (case l_8 => exact led_list (by assumption) (by k_mem)); (case k_8 => exact IsPart.int _ _); (case i_8 => assumption); (case s_8 => with_unfolding_all rfl); (case t_8 => intro _; with_unfolding_all rfl); (case z_8 => assumption)); intro _ _ _ _ _ l1 _ _; (try k_lt l1); revert l1; intro _)
    k_steps
    rename_i D2 ws h4 F4 N4 hI4 hC4 l4
    have tC : Tabs _ := Tabs.mk ⟨_, q1.keep (N4.get (by k_mem)) (KeepT.trans kT (KeepT.of F4.keep))⟩ ⟨p2, q2.keep (N4.get (by k_mem)) (KeepT.trans kT (KeepT.of F4.keep))⟩
    refine d2i_call X' T' (Fr.keep F4) m54 m61 tC D2 ws fs.reverse 0 4 _ (Room.deep R (by rw [List.length_reverse]; (first | exact om662 hfl | omega))) (News.get N4 (by k_mem)) hI4 (by rw [List.length_reverse]; (first | exact om663 hfl | omega)) (by decide) ?_ ?_
    · intro d hd
      have := told_small x d (by rw [← hfs]; exact List.mem_reverse.mp hd)
      exact Nat.le_trans this (by decide)
    intro tq h8 tk8 k8 t8
    have F8 := Fr.keepT F4 tC m54 m61 k8
    obtain ⟨p5, p6, c5, o5, c6, o6, N8, TN8⟩ := Tabs.led t8 F8 m54 m61
    rw [hfs, told_val]
    have hxl : (apT x).length ≤ sizeLine := by
      rw [sizeLine_eq]
      have := apT_len hx
      simp only [Str.length, ← Array.length_toList]
      (first | exact om664 this | omega)
    k_steps
    all_goals
      show Q _ _
      rename_i hsg
      rw [apT_sign] at hsg
    · have hx0 : x < 0 := of_decide_eq_true hsg
      rw [show (-(x.natAbs : Int)) = x from by (first | exact om665 hx0 | omega)]
      exact hret _ _ _ (KeepT.trans kT (KeepT.of (Fr.keep (by assumption)))) (TN8 _ (Fr.keep (by assumption)) (News.get (by assumption) (by k_mem)) (News.get (by assumption) (by k_mem)) (News.get (by assumption) (by k_mem)) (News.get (by assumption) (by k_mem)))
    · have hx0 : ¬ x < 0 := of_decide_eq_false hsg
      rw [show ((x.natAbs : Int)) = x from by (first | exact om666 hx0 | omega)]
      exact hret _ _ _ (KeepT.trans kT (KeepT.of (Fr.keep (by assumption)))) (TN8 _ (Fr.keep (by assumption)) (News.get (by assumption) (by k_mem)) (News.get (by assumption) (by k_mem)) (News.get (by assumption) (by k_mem)) (News.get (by assumption) (by k_mem)))
end
section
local macro_rules | `(tactic| walk_at "my pad") => `(tactic| skip)
theorem resetS4 : True := by
  w_top off
  exact trivial
variable {prog : Program} {w : World} {p : Program} {loose : List Str} {mean : ExcName → Option Value} {mg mb : Str → Option Value}
  {A : Around} {G : Heap} {s : Shared} {Q : Value → Shared → Prop} {E : Value → Shared → Prop}
noncomputable def apW (x : Int) : Str := ⟨((apL x.natAbs).map Int.toNat).toArray⟩
noncomputable def sgnT (x : Int) : Str := if x < 0 then Str.ofString "-" else Str.ofString ""
theorem sgn_neg {x : Int} (h : x < 0) : Str.ofString "-" = sgnT x := by rw [sgnT, if_pos h]
theorem sgn_pos {x : Int} (h : ¬ x < 0) : Str.ofString "" = sgnT x := by rw [sgnT, if_neg h]
theorem sgn_len (x : Int) : (sgnT x).length = if x < 0 then 1 else 0 := by unfold sgnT; split <;> rfl
theorem cut_neg {x : Int} (h : x < 0) : PySem.Txt.slice (apT x) (some ((1 : Nat) : Int)) none = apW x := by
  rw [slice_drop _ 1 (by rw [apT, if_pos h]; simp [Str.length]), apT, if_pos h]; rfl
theorem cut_pos {x : Int} (h : ¬ x < 0) : PySem.Txt.slice (apT x) (some ((0 : Nat) : Int)) none = apW x := by
  rw [slice_drop _ 0 (Nat.zero_le _), apT, if_neg h]; rfl
theorem in_letters : ∀ r : Fin 16, (!(Builtin.Str.occurrences (Str.ofString "ABCDEFGHIJKLMNOP") ({ cps := #[65 + (r : Nat)] } : Str) 0 (Str.ofString "ABCDEFGHIJKLMNOP").length 1).isEmpty) = true := by decide +kernel
theorem Fr.see5 {h₀ h : Heap} {L : Addr} {m : Str → Option Value} {x1 x2 x3 x4 x5 : Str} {v1 v2 v3 v4 v5 : Value} (F : Fr h₀ L h m) (e1 : m x1 = some v1) (e2 : m x2 = some v2) (e3 : m x3 = some v3) (e4 : m x4 = some v4) (e5 : m x5 = some v5) :
    Fr h₀ L h (fun y => if y = x1 then some v1 else if y = x2 then some v2 else if y = x3 then some v3 else if y = x4 then some v4 else if y = x5 then some v5 else m y) := by
  have em : (fun y => if y = x1 then some v1 else if y = x2 then some v2 else if y = x3 then some v3 else if y = x4 then some v4 else if y = x5 then some v5 else m y) = m := by
    funext y
    (repeat' split) <;> (try subst_vars) <;> first | rfl | exact e1.symm | exact e2.symm | exact e3.symm | exact e4.symm | exact e5.symm
  rw [em]; exact F
theorem Fr.seeX1 {h₀ h : Heap} {L : Addr} {m : Str → Option Value} {x x1 : Str} {v v1 : Value} (F : Fr h₀ L h (fun y => if y = x then some v else m y)) (e1 : m x1 = some v1) :
    Fr h₀ L h (fun y => if y = x then some v else if y = x1 then some v1 else m y) := by
  have em : (fun y => if y = x then some v else if y = x1 then some v1 else m y) = (fun y => if y = x then some v else m y) := by
    funext y
    by_cases h : y = x
    · rw [if_pos h, if_pos h]
    · rw [if_neg h, if_neg h]
      split <;> (try subst_vars) <;> first | rfl | exact e1.symm
  rw [em]; exact F
noncomputable def lett : List Int → Int := fun l => l.foldl (fun a c => 16 * a + c - 65) 0
theorem lett_ap : ∀ n : Nat, lett (apL n) = (n : Int) := fun n => by
  induction n using Nat.strongRecOn with
  | _ n ih =>
    by_cases h0 : n = 0
    · rw [h0, apL_zero]; rfl
    · have hi := ih (n / 16) (Nat.div_lt_self (Nat.pos_of_ne_zero h0) (by decide))
      rw [apL_pos h0, lett, List.foldl_append]
      show 16 * lett (apL (n / 16)) + (65 + ((n % 16 : Nat) : Int)) - 65 = _
      rw [hi]
      (first | exact om667 | omega)
local macro_rules | `(tactic| walk_at "call builtin:len") => `(tactic| ((with_reducible show wpAny _ _ (call (Value.builtin _) [Value.str _ _]) _ _ _); k_dflt (refine' PyProof.P.len_str ?h_Q ?_; (case h_Q => with_reducible assumption))))
theorem abs_bool (x : Int) : ((x.natAbs : Int) == if x < 0 then -x else x) = true := by
  have : ((x.natAbs : Int)) = if x < 0 then -x else x := by split <;> (first | exact om668 (by walk_at "my asm") | exact om666 (by walk_at "my asm") | omega)
  rw [← this]; exact beq_self_eq_true _
theorem sgn_cut (x : Int) : (PySem.Txt.slice (apT x) none (some ((sgnT x).length : Int)) == sgnT x) = true := by
  rw [slice_take]
  by_cases h : x < 0
  · rw [sgn_len, if_pos h, apT, if_pos h, sgnT, if_pos h]; rfl
  · rw [sgn_len, if_neg h, sgnT, if_neg h]; rfl
theorem apL_lead : ∀ n : Nat, ∀ c r, apL n = c :: r → c ≠ 65 := fun n => by
  induction n using Nat.strongRecOn with
  | _ n ih =>
    intro c r e
    by_cases h0 : n = 0
    · rw [h0, apL_zero] at e; cases e
    · rw [apL_pos h0] at e
      cases q : apL (n / 16) with
      | nil =>
        have h1 : n / 16 = 0 := by
          by_cases h2 : n / 16 = 0
          · exact h2
          · rw [apL_pos h2] at q; simp at q
        rw [q] at e
        have h3 : c = 65 + ((n % 16 : Nat) : Int) := by cases e; rfl
        (first | exact om669 h3 h1 h0 | omega)
      | cons c' r' =>
        rw [q] at e
        have h3 : c' = c := by cases e; rfl
        rw [← h3]
        exact ih (n / 16) (Nat.div_lt_self (Nat.pos_of_ne_zero h0) (by decide)) c' r' q
theorem apW_lead (x : Int) : (PySem.Txt.slice (apW x) none (some 1) != Str.ofString "A") = true := by
  rw [show (1 : Int) = ((1 : Nat) : Int) from rfl, slice_take, apW]
  cases e : apL x.natAbs with
  | nil => rfl
  | cons c r =>
    have hc := apL_in x.natAbs c (by rw [e]; exact .head _)
    have hl := apL_lead x.natAbs c r e
    rw [List.map_cons]
    show (({ cps := [c.toNat].toArray } : Str) != { cps := #[65] }) = true
    have hne : ({ cps := [c.toNat].toArray } : Str) ≠ { cps := #[65] } := fun q => by
      have q2 := congrArg (fun z : Str => z.cps.toList) q
      have q3 : [c.toNat] = [65] := q2
      have q4 : c.toNat = 65 := by simpa using q3
      (first | exact om670 q4 hl | omega)
    simpa using hne
theorem is_call (X : (Mine.hd.heap_39 w.params).In G) (T : Top p loose mean mg mb G) (st : G.StaysIn s.heap)
  (x : Int) (tx tn : Tok) (R : Room 4 A) (hx : Builtin.Int.intBits x ≤ 140)
  (hret : ∀ (h' : Heap) (tk' : Nat), s.heap.StaysIn h' → Q (.bool true) { s with heap := h', toks := tk' }) :
  wpAny (model prog w) A (call (.ref 259) [.str (apT x) tx, .int x tn]) Q E s := by
  obtain ⟨ahd, dp, fr, gd, un⟩ := A
  obtain rfl : ahd = none := R.hh
  have hxl : (apT x).length ≤ sizeLine := by
    rw [sizeLine_eq]
    have := apT_len hx
    simp only [Str.length, ← Array.length_toList]
    (first | exact om664 this | omega)
  (k_dflt (refine' enter0 ?st ?X ?T ?R ?k6 ?k7 ?k9 ?kB ?_ ?c2 ?c3 ?c4 ?c5; (case st | X | T | R => assumption); (case k6 | k7 => k_is); (case k9 => first | exact BindsTo.of_eq rfl | exact binds_K (by assumption) rfl (by k_is) rfl rfl rfl); (case c5 => decide); (case kB => exact locs rfl); (case c2 | c3 | c4 => exact rfl); k_whole; intro _ _ _ _ _ _ _; (try dsimp only); k_fold))
  k_steps
  all_goals
    rename_i hx0 _a _b _c _d _e _f _g _h _i _j F4 N4
    first | rw [cut_neg hx0, sgn_neg hx0] at F4 | rw [cut_pos hx0, sgn_pos hx0] at F4
    first | rw [cut_neg hx0] | rw [cut_pos hx0]
    have hwl : (apW x).length ≤ sizeLine := by
      rw [sizeLine_eq]
      have := apL_len 35 x.natAbs (Nat.lt_of_lt_of_le ((intBits_le_iff).mp hx) (by decide))
      simp [apW, Str.length]; (first | exact om671 this | omega)
    have hsz : (apW x).cps.size = (apL x.natAbs).length := by simp [apW]
    refine loop_str (fun i m nw => nw = [] ∧ ∃ ts tg tl, m (Str.ofString "size") = some (.int (lett ((apL x.natAbs).take i)) ts) ∧ m (Str.ofString "sign") = some (.str (sgnT x) tg) ∧ m (Str.ofString "letters") = some (.str (apW x) tl) ∧ m (Str.ofString "text") = some (.str (apT x) tx) ∧ m (Str.ofString "number") = some (.int x tn))
      rfl F4 N4 ⟨rfl, _, _, _, rfl, rfl, rfl, rfl, rfl⟩ ?turn ?done
    case turn =>
      rintro i c u m₁ news₁ I it h tk hc ⟨rfl, ts, tg, tl, ms, mg', ml, mt, mn⟩ hof hlt F5 N5
      have F6 := Fr.seeX1 F5 ms
      have hz : ∃ z : Int, (apL x.natAbs)[i]? = some z ∧ c = z.toNat := by
        have h := hc
        rw [← Array.getElem?_toList] at h
        simp only [apW, List.getElem?_map] at h
        cases q : (apL x.natAbs)[i]? with
        | none => rw [q] at h; cases h
        | some z => rw [q] at h; exact ⟨z, rfl, (Option.some.inj h).symm⟩
      obtain ⟨z, hz, rfl⟩ := hz
      have hzi := apL_in x.natAbs z (List.mem_of_getElem? hz)
      k_steps
      · rename_i hoc
        have := in_letters ⟨z.toNat - 65, by (first | exact om674 hzi.2 | omega)⟩
        rw [show 65 + ((⟨z.toNat - 65, by (first | exact om674 hzi.2 | omega)⟩ : Fin 16) : Nat) = z.toNat from by show 65 + (z.toNat - 65) = _; (first | exact om675 hzi.1 | omega), hoc] at this
        cases this
      · rename_i hoc2 tkz hz2 FZ NZ
        have e : lett ((apL x.natAbs).take (i + 1)) = 16 * lett ((apL x.natAbs).take i) + ((z.toNat : Nat) : Int) - 65 := by
          rw [List.take_add_one, hz, Option.toList_some, lett, List.foldl_append]
          show 16 * _ + z - 65 = _
          rw [show ((z.toNat : Nat) : Int) = z from by (first | exact om676 hzi.1 | omega)]; rfl
        rw [← e] at FZ
        exact TurnEnd.intro (news' := []) FZ NZ (fun p hp => nomatch hp) ⟨rfl, _, _, _, rfl, mg', ml, mt, mn⟩
    case done =>
      rintro m₁ news₁ h5 tk5 ⟨rfl, ts, tg, tl, ms, mg', ml, mt, mn⟩ F5 N5
      rw [hsz, List.take_length, lett_ap] at ms
      have F6 := Fr.see5 F5 ms mg' ml mt mn
      have hgl : ¬ ((sgnT x).length : Int) ≥ 2 ^ 63 := by rw [sgn_len]; split <;> (first | exact om677 | exact om678 | omega)
      clear F5
      k_steps
      · rw [abs_bool x]
        exact hret _ _ (Fr.keep (by assumption))
      · exact absurd ‹(PySem.Txt.slice (apW x) none (some 1) != Str.ofString "A") = false› (by rw [apW_lead]; decide)
      · exact absurd ‹(PySem.Txt.slice (apT x) none (some ((sgnT x).length : Int)) == sgnT x) = false› (by rw [sgn_cut]; decide)
end
section
local macro_rules | `(tactic| walk_at "my pad") => `(tactic| skip)
theorem resetH1 : True := by
  w_top off
  exact trivial
variable {prog : Program} {w : World} {p : Program} {loose : List Str} {mean : ExcName → Option Value} {mg mb : Str → Option Value}
  {A : Around} {G : Heap} {s : Shared} {Q : Value → Shared → Prop} {E : Value → Shared → Prop}
local macro_rules | `(tactic| walk_at "getMethod ref") => `(tactic| with_reducible refine haltM "search" ?_)
local macro_rules | `(tactic| walk_at "call builtin:re.Pattern.search") => `(tactic| refine Halt.go ?_)
theorem pat_get {K : Frag} {g h : Heap} {a : Addr} {o : Obj} (X : K.In g) (k : g.StaysIn h) (e : K.lookup a = some o) : h.get? a = some o := k _ _ (X _ _ e)
theorem conv_call (X : (Mine.hd.heap_39 w.params).In G) (T : Top p loose mean mg mb G) (st : G.StaysIn s.heap)
  (a : Addr) (t : Str) (tx : Tok) (nm : Bool) (R : Room 3 A) (ht : ∀ c ∈ t.cps.toList, 32 ≤ c ∧ c < 127)
  (hret : ∀ (h' : Heap) (tk' : Nat), s.heap.StaysIn h' → Q (.str t tx) { s with heap := h', toks := tk' }) :
  wpAny (model prog w) A (call (.ref 132) [.ref a, .str t tx] [(Str.ofString "name", .bool nm)]) Q E s := by
  obtain ⟨ahd, dp, fr, gd, un⟩ := A
  obtain rfl : ahd = none := R.hh
  (k_dflt (refine' enter0 ?st ?X ?T ?R ?k6 ?k7 ?k9 ?kB ?_ ?c2 ?c3 ?c4 ?c5; (case st | X | T | R => assumption); (case k6 | k7 => k_is); (case k9 => first | exact BindsTo.of_eq rfl | exact binds_K (by assumption) rfl (by k_is) rfl rfl rfl); (case c5 => decide); (case kB => exact locs rfl); (case c2 | c3 | c4 => exact rfl); k_whole; intro _ _ _ _ _ _ _; (try dsimp only); k_fold))
  k_steps
  all_goals
    rename_i FZ NZ
    refine getMethod_builtin (T := "re.Pattern") (id := "re.Pattern.search") ⟨_, pat_get (by assumption) (Fr.keep FZ) (by k_is), rfl⟩ plain_pat slot_search type_search (fun a e => by cases e; exact ⟨_, pat_get (by assumption) (Fr.keep FZ) (by k_is), rfl⟩) ?_
  · k_steps
    refine search_none (cs := rxName) (pat_get (by assumption) (Fr.keep (by assumption)) (by k_is)) (pat_get (by assumption) (Fr.keep (by assumption)) (by k_is)) (by first | rfl | kernel_rfl) rfl rfl (fun c hc seen => rx_name_set c (ht c hc).1 (ht c hc).2 seen) ?_
    intro kk
    k_steps
    show Q _ _
    exact hret _ _ (Fr.keep (by assumption))
  · k_steps
    refine search_none (cs := rxVal) (pat_get (by assumption) (Fr.keep (by assumption)) (by k_is)) (pat_get (by assumption) (Fr.keep (by assumption)) (by k_is)) (by first | rfl | kernel_rfl) rfl rfl (fun c hc seen => rx_val_set c (ht c hc).1 (ht c hc).2 seen) ?_
    intro kk
    k_steps
    show Q _ _
    exact hret _ _ (Fr.keep (by assumption))
end
section
theorem resetH2 : True := by
  w_top off
  exact trivial
variable {prog : Program} {w : World} {p : Program} {loose : List Str} {mean : ExcName → Option Value} {mg mb : Str → Option Value}
  {A : Around} {G : Heap} {s : Shared} {Q : Value → Shared → Prop} {E : Value → Shared → Prop}
local macro_rules | `(tactic| walk_at "getAttr ref") => `(tactic| with_reducible refine haltA "_headers" ?_)
structure TableAt (h : Heap) (x dx l : Addr) (nn : Nat) (ps : List Pr) : Prop where
  obj : ∃ sl, h.get? x = some ⟨.ref 231, some dx, .plain, sl⟩
  dict : ∃ hk tk n, h.get? dx = some (dictOf [⟨hk, .str (Str.ofString "_headers") tk, .ref l⟩] n)
  list : h.get? l = some (listOf (ps.map fun q => Value.ref q.1).toArray nn)
  tups : ∀ q ∈ ps, h.get? q.1 = some (tupObj q)
theorem keys_call (X : (Mine.hd.heap_39 w.params).In G) (T : Top p loose mean mg mb G) (st : G.StaysIn s.heap)
  (x dx l : Addr) (nn : Nat) (ps : List Pr) (R : Room 3 A) (ht : TableAt s.heap x dx l nn ps) (hz : ps.length ≤ 1000)
  (hret : ∀ (q : Addr) (k : Nat) (h' : Heap) (tk' : Nat), s.heap.StaysIn h' → s.heap.get? q = none → h'.get? q = some (listOf (ps.map (·.2.1)).toArray k) → Q (.ref q) { s with heap := h', toks := tk' }) :
  wpAny (model prog w) A (call (.ref 183) [.ref x]) Q E s := by
  obtain ⟨ahd, dp, fr, gd, un⟩ := A
  obtain rfl : ahd = none := R.hh
  obtain ⟨sl, hx⟩ := ht.obj
  obtain ⟨hk, tk0, n0, hdx⟩ := ht.dict
  (k_dflt (refine' enter0 ?st ?X ?T ?R ?k6 ?k7 ?k9 ?kB ?_ ?c2 ?c3 ?c4 ?c5; (case st | X | T | R => assumption); (case k6 | k7 => k_is); (case k9 => first | exact BindsTo.of_eq rfl | exact binds_K (by assumption) rfl (by k_is) rfl rfl rfl); (case c5 => decide); (case kB => exact locs rfl); (case c2 | c3 | c4 => exact rfl); k_whole; intro _ _ _ _ _ _ _; (try dsimp only); k_fold))
  k_steps
  rename_i FZ NZ XZ TZ
  refine get_own FZ XZ (I := ⟨Fr.keep FZ _ _ hx, rfl, rfl, Fr.keep FZ _ _ hdx⟩) (by k_is) (by k_is) (by k_is) (by k_is) rfl rfl ?_
  k_steps
  refine comp_pairs rfl (Fr.keep FZ _ _ ht.list) (fun q hq => Fr.keep FZ _ _ (ht.tups q hq)) (by decide) rfl rfl rfl FZ NZ (fun i ys made => made = [] ∧ ys = (ps.take i).map (·.2.1)) ?_ ⟨rfl, rfl⟩ ?_ (end_value ?_)
  · rintro i ys made ⟨_, rfl⟩
    rw [List.length_map, List.length_take]; (first | exact om225 hz | omega)
  · rintro g C D gs hg hDC i q ys made k h tk mC E' hq ⟨rfl, rfl⟩ F1 N1
    k_steps
    refine PairElt.intro [] (StaysIn.refl _) (fun p hp => nomatch hp) ⟨rfl, ?_⟩
    rw [List.take_add_one, hq, List.map_append]; rfl
  · rintro ys nw k D h tk ⟨made, rfl, rfl, rfl⟩ off F1 N1 lt
    rw [List.take_length] at N1
    k_steps
    show Q _ _
    exact hret D k h tk (Fr.keep F1) (News.none N1 (.head _)) (News.get N1 (.head _))
theorem values_call (X : (Mine.hd.heap_39 w.params).In G) (T : Top p loose mean mg mb G) (st : G.StaysIn s.heap)
  (x dx l : Addr) (nn : Nat) (ps : List Pr) (R : Room 3 A) (ht : TableAt s.heap x dx l nn ps) (hz : ps.length ≤ 1000)
  (hret : ∀ (q : Addr) (k : Nat) (h' : Heap) (tk' : Nat), s.heap.StaysIn h' → s.heap.get? q = none → h'.get? q = some (listOf (ps.map (·.2.2)).toArray k) → Q (.ref q) { s with heap := h', toks := tk' }) :
  wpAny (model prog w) A (call (.ref 188) [.ref x]) Q E s := by
  obtain ⟨ahd, dp, fr, gd, un⟩ := A
  obtain rfl : ahd = none := R.hh
  obtain ⟨sl, hx⟩ := ht.obj
  obtain ⟨hk, tk0, n0, hdx⟩ := ht.dict
  (k_dflt (refine' enter0 ?st ?X ?T ?R ?k6 ?k7 ?k9 ?kB ?_ ?c2 ?c3 ?c4 ?c5; (case st | X | T | R => assumption); (case k6 | k7 => k_is); (case k9 => first | exact BindsTo.of_eq rfl | exact binds_K (by assumption) rfl (by k_is) rfl rfl rfl); (case c5 => decide); (case kB => exact locs rfl); (case c2 | c3 | c4 => exact rfl); k_whole; intro _ _ _ _ _ _ _; (try dsimp only); k_fold))
  k_steps
  rename_i FZ NZ XZ TZ
  refine get_own FZ XZ (I := ⟨Fr.keep FZ _ _ hx, rfl, rfl, Fr.keep FZ _ _ hdx⟩) (by k_is) (by k_is) (by k_is) (by k_is) rfl rfl ?_
  k_steps
  refine comp_pairs rfl (Fr.keep FZ _ _ ht.list) (fun q hq => Fr.keep FZ _ _ (ht.tups q hq)) (by decide) rfl rfl rfl FZ NZ (fun i ys made => made = [] ∧ ys = (ps.take i).map (·.2.2)) ?_ ⟨rfl, rfl⟩ ?_ (end_value ?_)
  · rintro i ys made ⟨_, rfl⟩
    rw [List.length_map, List.length_take]; (first | exact om225 hz | omega)
  · rintro g C D gs hg hDC i q ys made k h tk mC E' hq ⟨rfl, rfl⟩ F1 N1
    k_steps
    refine PairElt.intro [] (StaysIn.refl _) (fun p hp => nomatch hp) ⟨rfl, ?_⟩
    rw [List.take_add_one, hq, List.map_append]; rfl
  · rintro ys nw k D h tk ⟨made, rfl, rfl, rfl⟩ off F1 N1 lt
    rw [List.take_length] at N1
    k_steps
    show Q _ _
    exact hret D k h tk (Fr.keep F1) (News.none N1 (.head _)) (News.get N1 (.head _))
end
section
theorem resetH3 : True := by
  w_top off
  exact trivial
variable {prog : Program} {w : World} {p : Program} {loose : List Str} {mean : ExcName → Option Value} {mg mb : Str → Option Value}
  {A : Around} {G : Heap} {s : Shared} {Q : Value → Shared → Prop} {E : Value → Shared → Prop}
theorem new_free {g h : Heap} {q a b : Addr} {oa ob : Obj} (ls : Less [(a, oa), (b, ob)] h g) (hq : g.get? q = none) (ha : q ≠ a) (hb : q ≠ b) : h.get? q = none := by
  cases x : h.get? q with
  | none => rfl
  | some o => rw [ls _ _ (List.forall_mem_cons.mpr ⟨ha, List.forall_mem_cons.mpr ⟨hb, List.forall_mem_nil _⟩⟩) x] at hq; cases hq
noncomputable def keyOf (q : Pr) : Str := match q.2.1 with | .str k _ => k | _ => Str.empty
noncomputable def gotten (t : Str) (ps : List Pr) : List Value := (ps.filter fun q => PySem.Txt.lower (keyOf q) == PySem.Txt.lower t).map (·.2.2)
theorem gotten_app (t : Str) (a b : List Pr) : gotten t (a ++ b) = gotten t a ++ gotten t b := by simp [gotten]
theorem gotten_one (t : Str) (q : Pr) : gotten t [q] = if (PySem.Txt.lower (keyOf q) == PySem.Txt.lower t) = true then [q.2.2] else [] := by
  unfold gotten
  rw [List.filter_cons]
  split <;> rfl
theorem gotten_len (t : Str) (ps : List Pr) : (gotten t ps).length ≤ ps.length := by
  rw [gotten, List.length_map]; exact List.length_filter_le _ _
theorem get_all_call (X : (Mine.hd.heap_39 w.params).In G) (T : Top p loose mean mg mb G) (st : G.StaysIn s.heap)
  (x dx l : Addr) (nn : Nat) (ps : List Pr) (t : Str) (tx : Tok) (R : Room 5 A) (ht : TableAt s.heap x dx l nn ps) (htx : ∀ q ∈ ps, q.1 ≠ x ∧ q.1 ≠ dx) (lx : l ≠ x) (ld : l ≠ dx) (hps : ∀ q ∈ ps, ∃ kt tk vt tv, q.2 = (.str kt tk, .str vt tv) ∧ kt.length ≤ 40) (gx : G.get? x = none) (gd' : G.get? dx = none) (hz : ps.length ≤ 1000) (hl : t.length ≤ 40) (hlow : ∀ c ∈ (PySem.Txt.lower t).cps.toList, 32 ≤ c ∧ c < 127)
  (hret : ∀ (q : Addr) (k : Nat) (h' : Heap) (tk' : Nat), s.heap.StaysIn h' → s.heap.get? q = none → h'.get? q = some (listOf (gotten t ps).toArray k) → Q (.ref q) { s with heap := h', toks := tk' }) :
  wpAny (model prog w) A (call (.ref 170) [.ref x, .str t tx]) Q E s := by
  obtain ⟨ahd, dp, fr, gd, un⟩ := A
  obtain rfl : ahd = none := R.hh
  obtain ⟨sl, hx⟩ := ht.obj
  obtain ⟨hk, tk0, n0, hdx⟩ := ht.dict
  (k_dflt (refine' enterC ?hid ?st ?hH ?X ?T ?R ?k6 ?k7 ?k9 ?kB ?kD ?_ ?c2 ?c3 ?c4; (case st | X | T | R => assumption); (case k6 | k7 => k_is); (case k9 => first | exact BindsTo.of_eq rfl | exact binds_K (by assumption) rfl (by k_is) rfl rfl rfl); (case kB => exact rfl); (case kD => decide +kernel); (case c2 | c3 | c4 => exact rfl)))
  case hid => exact [(x, ⟨.ref 231, some dx, .plain, sl⟩), (dx, dictOf [⟨hk, .str (Str.ofString "_headers") tk0, .ref l⟩] n0)]
  case hH => exact List.forall_mem_cons.mpr ⟨⟨hx, gx⟩, List.forall_mem_cons.mpr ⟨⟨hdx, gd'⟩, List.forall_mem_nil _⟩⟩
  intro g L' h₁ tk cells gs ls gst F N Y X' T' l1 l2
  obtain ⟨o1, rfl, d1⟩ := CellsAre.one Y
  simp only [List.cons_append, List.nil_append] at N
  k_lt l1
  clear Y l2
  k_unmd
  k_fold
  k_steps
  refine conv_call X' T' (Fr.keep (by assumption)) x (PySem.Txt.lower t) _ true (Room.deep R (by decide)) hlow ?_
  intro h2 tk2 k2
  have F2 := Fr.keeps (by assumption) k2
  have N2 := News.grown (by assumption) k2
  k_steps
  have hlg : g.get? l = some (listOf (ps.map fun q => Value.ref q.1).toArray nn) := ls _ _ (List.forall_mem_cons.mpr ⟨lx, List.forall_mem_cons.mpr ⟨ld, List.forall_mem_nil _⟩⟩) ht.list
  rename_i hZ oc FZ NZ dZ
  refine comp_list rfl (Fr.keep FZ _ _ hlg) (by decide) rfl rfl FZ NZ (fun i ys nw => nw = [(L' + 1, oc), (x, ⟨.ref 231, some dx, .plain, sl⟩), (dx, dictOf [⟨hk, .str (Str.ofString "_headers") tk0, .ref l⟩] n0)] ∧ ys = gotten t (ps.take i)) ?_ (.inl fun p hp e => by have h := (NZ p hp).2.2; rw [← e, hlg] at h; cases h) ⟨rfl, rfl⟩ ?_ (end_value ?_)
  · rintro i ys nw ⟨_, rfl⟩
    have := gotten_len t (ps.take i)
    rw [List.length_take] at this
    (first | exact om227 this hz | omega)
  · rintro g2 C D I gs2 hg less lt hI hID hDC i v ys nw it k h tk mC E' hi hv ⟨rfl, hJ⟩ off F3 N3
    have X3 := X'.keeps hg
    have T3 := T'.keeps hg
    obtain ⟨q, hqi, rfl⟩ : ∃ q, ps[i]? = some q ∧ v = .ref q.1 := by
      rw [List.getElem?_map] at hv
      cases e : ps[i]? with
      | none => rw [e] at hv; cases hv
      | some q => rw [e] at hv; exact ⟨q, rfl, (Option.some.inj hv).symm⟩
    have hq := List.mem_of_getElem? hqi
    obtain ⟨kt, tk2, vt, tv, eq, hkl⟩ := hps q hq
    have hqg : g.get? q.1 = some (tupObj q) := ls _ _ (List.forall_mem_cons.mpr ⟨(htx q hq).1, List.forall_mem_cons.mpr ⟨(htx q hq).2, List.forall_mem_nil _⟩⟩) (ht.tups q hq)
    have hqt : IsTup g2 q.1 [Value.str kt tk2, Value.str vt tv].toArray := ⟨_, hg _ _ hqg, rfl, _, by rw [tupObj, eq]⟩
    have eK : keyOf q = kt := by rw [keyOf, eq]
    have eV : q.2.2 = .str vt tv := by rw [eq]
    refine wpAny_tests_one ?_
    k_steps
    · rename_i hb
      refine ElemEnd.intro F3 N3 off ⟨rfl, ?_⟩
      rw [List.take_add_one, hqi, Option.toList_some, gotten_app, gotten_one, eK, hb, eV, hJ]; rfl
    · rename_i hb
      refine ElemEnd.intro F3 N3 off ⟨rfl, ?_⟩
      rw [List.take_add_one, hqi, Option.toList_some, gotten_app, gotten_one, eK, hb]; simpa using hJ
  · rintro ys nw k D h tk ⟨rfl, rfl⟩ off F3 N3 lt
    rw [List.length_map, List.take_length] at N3
    k_steps
    show Q _ _
    refine hret D k h tk ?_ ?_ (News.get N3 (.head _))
    · intro b o e
      by_cases hb1 : b = x
      · subst hb1
        rw [hx] at e; cases e
        exact News.get N3 (.tail _ (.tail _ (.head _)))
      · by_cases hb2 : b = dx
        · subst hb2
          rw [hdx] at e; cases e
          exact News.get N3 (.tail _ (.tail _ (.tail _ (.head _))))
        · exact Fr.keep F3 _ _ (ls b o (List.forall_mem_cons.mpr ⟨hb1, List.forall_mem_cons.mpr ⟨hb2, List.forall_mem_nil _⟩⟩) e)
    · exact new_free ls (News.none N3 (.head _)) (fun e => Nat.lt_irrefl _ (e ▸ lt _ (.tail _ (.head _)))) (fun e => Nat.lt_irrefl _ (e ▸ lt _ (.tail _ (.tail _ (.head _)))))
end
section
theorem resetH4 : True := by
  w_top off
  exact trivial
variable {prog : Program} {w : World} {p : Program} {loose : List Str} {mean : ExcName → Option Value} {mg mb : Str → Option Value}
  {A : Around} {G : Heap} {s : Shared} {Q : Value → Shared → Prop} {E : Value → Shared → Prop}
local macro_rules | `(tactic| walk_at "exec Assign cons ListComp") => `(tactic| (k_dflt (refine wpAny_Assign_Subscript ?_)))
local macro_rules | `(tactic| walk_at "setItem ref ref") => `(tactic| refine Halt.go ?_)
theorem back3 {h g h' : Heap} {a b l : Addr} {oa ob ol : Obj} (ls : Less [(a, oa), (b, ob), (l, ol)] h g) (k : g.StaysIn h') (ea : h.get? a = some oa) (eb : h.get? b = some ob) (fa : h'.get? a = some oa) (fb : h'.get? b = some ob) : KeepBut l h h' := fun c o hc e => by
  by_cases ha : c = a
  · subst ha; rw [ea] at e; cases e; exact fa
  · by_cases hb : c = b
    · subst hb; rw [eb] at e; cases e; exact fb
    · exact k _ _ (ls c o (List.forall_mem_cons.mpr ⟨ha, List.forall_mem_cons.mpr ⟨hb, List.forall_mem_cons.mpr ⟨hc, List.forall_mem_nil _⟩⟩⟩) e)
noncomputable def rest (t : Str) (ps : List Pr) : List Pr := ps.filter fun q => PySem.Txt.lower (keyOf q) != PySem.Txt.lower t
theorem rest_app (t : Str) (a b : List Pr) : rest t (a ++ b) = rest t a ++ rest t b := by simp [rest]
theorem rest_one (t : Str) (q : Pr) : rest t [q] = if (PySem.Txt.lower (keyOf q) != PySem.Txt.lower t) = true then [q] else [] := by
  unfold rest
  rw [List.filter_cons]
  split <;> rfl
theorem rest_len (t : Str) (ps : List Pr) : (rest t ps).length ≤ ps.length := List.length_filter_le _ _
theorem del_call (X : (Mine.hd.heap_39 w.params).In G) (T : Top p loose mean mg mb G) (st : G.StaysIn s.heap)
  (x dx l : Addr) (nn : Nat) (ps : List Pr) (t : Str) (tx : Tok) (R : Room 5 A) (ht : TableAt s.heap x dx l nn ps) (htx : ∀ q ∈ ps, q.1 ≠ x ∧ q.1 ≠ dx ∧ q.1 ≠ l) (hps : ∀ q ∈ ps, ∃ kt tk vt tv, q.2 = (.str kt tk, .str vt tv) ∧ kt.length ≤ 40) (gx : G.get? x = none) (gd' : G.get? dx = none) (gl : G.get? l = none) (lx : l ≠ x) (ld : l ≠ dx) (hz : ps.length ≤ 1000) (hl : t.length ≤ 40) (hlow : ∀ c ∈ (PySem.Txt.lower t).cps.toList, 32 ≤ c ∧ c < 127)
  (hret : ∀ (h' : Heap) (tk' nn' : Nat), KeepBut l s.heap h' → h'.get? l = some (listOf ((rest t ps).map fun q => Value.ref q.1).toArray nn') → Q .none { s with heap := h', toks := tk' }) :
  wpAny (model prog w) A (call (.ref 151) [.ref x, .str t tx]) Q E s := by
  obtain ⟨ahd, dp, fr, gd, un⟩ := A
  obtain rfl : ahd = none := R.hh
  obtain ⟨sl, hx⟩ := ht.obj
  obtain ⟨hk, tk0, n0, hdx⟩ := ht.dict
  (k_dflt (refine' enterC ?hid ?st ?hH ?X ?T ?R ?k6 ?k7 ?k9 ?kB ?kD ?_ ?c2 ?c3 ?c4; (case st | X | T | R => assumption); (case k6 | k7 => k_is); (case k9 => first | exact BindsTo.of_eq rfl | exact binds_K (by assumption) rfl (by k_is) rfl rfl rfl); (case kB => exact rfl); (case kD => decide +kernel); (case c2 | c3 | c4 => exact rfl)))
  case hid => exact [(x, ⟨.ref 231, some dx, .plain, sl⟩), (dx, dictOf [⟨hk, .str (Str.ofString "_headers") tk0, .ref l⟩] n0), (l, listOf (ps.map fun q => Value.ref q.1).toArray nn)]
  case hH => exact List.forall_mem_cons.mpr ⟨⟨hx, gx⟩, List.forall_mem_cons.mpr ⟨⟨hdx, gd'⟩, List.forall_mem_cons.mpr ⟨⟨ht.list, gl⟩, List.forall_mem_nil _⟩⟩⟩
  intro g L' h₁ tk cells gs ls gst F N Y X' T' l1 l2
  obtain ⟨o1, rfl, d1⟩ := CellsAre.one Y
  simp only [List.cons_append, List.nil_append] at N
  k_lt l1
  clear Y l2
  have lx' : @Ne Nat l x := lx
  have ld' : @Ne Nat l dx := ld
  k_unmd
  k_fold
  k_steps
  refine conv_call X' T' (Fr.keep (by assumption)) x (PySem.Txt.lower t) _ true (Room.deep R (by decide)) hlow ?_
  intro h2 tk2 k2
  have F2 := Fr.keeps (by assumption) k2
  have N2 := News.grown (by assumption) k2
  k_steps
  rename_i hZ oc FZ NZ dZ
  refine comp_list rfl (News.get NZ (by k_mem)) (by decide) rfl rfl FZ NZ (fun i ys nw => nw = [(L' + 1, oc), (x, ⟨.ref 231, some dx, .plain, sl⟩), (dx, dictOf [⟨hk, .str (Str.ofString "_headers") tk0, .ref l⟩] n0), (l, listOf (ps.map fun q => Value.ref q.1).toArray nn)] ∧ ys = (rest t (ps.take i)).map fun q => Value.ref q.1) ?_ (.inr ⟨_, fun i ys nw ⟨e, _⟩ => by rw [e]; k_mem⟩) ⟨rfl, rfl⟩ ?_ (end_value ?_)
  · rintro i ys nw ⟨_, rfl⟩
    have := rest_len t (ps.take i)
    rw [List.length_take] at this
    rw [List.length_map]
    (first | exact om227 this hz | omega)
  · rintro g2 C D I gs2 hg less lt hI hID hDC i v ys nw it k h tk mC E' hi hv ⟨rfl, hJ⟩ off F3 N3
    have X3 := X'.keeps hg
    have T3 := T'.keeps hg
    obtain ⟨q, hqi, rfl⟩ : ∃ q, ps[i]? = some q ∧ v = .ref q.1 := by
      rw [List.getElem?_map] at hv
      cases e : ps[i]? with
      | none => rw [e] at hv; cases hv
      | some q => rw [e] at hv; exact ⟨q, rfl, (Option.some.inj hv).symm⟩
    have hq := List.mem_of_getElem? hqi
    obtain ⟨kt, tk2, vt, tv, eq, hkl⟩ := hps q hq
    have hqg : g.get? q.1 = some (tupObj q) := ls _ _ (List.forall_mem_cons.mpr ⟨(htx q hq).1, List.forall_mem_cons.mpr ⟨(htx q hq).2.1, List.forall_mem_cons.mpr ⟨(htx q hq).2.2, List.forall_mem_nil _⟩⟩⟩) (ht.tups q hq)
    have hqt : IsTup g2 q.1 [Value.str kt tk2, Value.str vt tv].toArray := ⟨_, hg _ _ hqg, rfl, _, by rw [tupObj, eq]⟩
    have eK : keyOf q = kt := by rw [keyOf, eq]
    refine wpAny_tests_one ?_
    k_steps
    · rename_i hb
      refine ElemEnd.intro F3 N3 off ⟨rfl, ?_⟩
      rw [List.take_add_one, hqi, Option.toList_some, rest_app, rest_one, eK, hb, hJ]; simp
    · rename_i hb
      refine ElemEnd.intro F3 N3 off ⟨rfl, ?_⟩
      rw [List.take_add_one, hqi, Option.toList_some, rest_app, rest_one, eK, hb]; simpa using hJ
  · rintro ys nw k D h tk ⟨rfl, rfl⟩ off F3 N3 lt
    rw [List.length_map, List.take_length] at N3
    k_lt lt
    k_steps
    refine setItem_whole (items := ps.map fun q => Value.ref q.1) (new := (rest t ps).map fun q => Value.ref q.1) (Heap.get?_push_of_some _ (News.get N3 (by k_mem))) ⟨_, Heap.get?_push_of_some _ (News.get N3 (.head _)), rfl, _, rfl⟩ (by k_ne) (Heap.IsSliceOf.new ..) ?_ ?_
    · have := rest_len t ps
      simp only [List.length_map]
      (first | exact om228 hz this | omega)
    intro h9 nn9 kb e9
    have up : ∀ b o, b ≠ l → h.get? b = some o → h9.get? b = some o := fun b o hb e => kb b o hb (Heap.get?_push_of_some _ e)
    k_steps
    show Q _ _
    refine hret h9 _ nn9 (back3 ls (fun b o e => up b o (fun q => by rw [q, News.none N3 (by k_mem)] at e; cases e) (Fr.keep F3 _ _ e)) hx hdx (up _ _ lx.symm (News.get N3 (by k_mem))) (up _ _ ld.symm (News.get N3 (by k_mem)))) e9
end
section
local macro_rules | `(tactic| walk_at "my pad") => `(tactic| skip)
theorem resetH5 : True := by
  w_top off
  exact trivial
variable {prog : Program} {w : World} {p : Program} {loose : List Str} {mean : ExcName → Option Value} {mg mb : Str → Option Value}
  {A : Around} {G : Heap} {s : Shared} {Q : Value → Shared → Prop} {E : Value → Shared → Prop}
local macro_rules | `(tactic| walk_at "call builtin:str.join") => `(tactic| refine Halt.go ?_)
theorem new_free3 {g h : Heap} {q a b c : Addr} {oa ob oc : Obj} (ls : Less [(a, oa), (b, ob), (c, oc)] h g) (hq : g.get? q = none) (ha : q ≠ a) (hb : q ≠ b) (hc : q ≠ c) : h.get? q = none := by
  cases x : h.get? q with
  | none => rfl
  | some o => rw [ls _ _ (List.forall_mem_cons.mpr ⟨ha, List.forall_mem_cons.mpr ⟨hb, List.forall_mem_cons.mpr ⟨hc, List.forall_mem_nil _⟩⟩⟩) x] at hq; cases hq
local macro_rules | `(tactic| walk_at "exec For Tuple Call cons nil") => `(tactic| (k_dflt (refine' wpAny_For ?_ ?hs_A; (case hs_A => intro _; rfl); k_whole)))
theorem add_call (X : (Mine.hd.heap_39 w.params).In G) (T : Top p loose mean mg mb G) (st : G.StaysIn s.heap)
  (x dx l : Addr) (nn : Nat) (ps : List Pr) (t v : Str) (tx tv : Tok) (R : Room 5 A) (ht : TableAt s.heap x dx l nn ps) (gx : G.get? x = none) (gd' : G.get? dx = none) (gl : G.get? l = none) (lx : l ≠ x) (ld : l ≠ dx) (hz : ps.length ≤ 1000)
  (hlt : ∀ c ∈ t.cps.toList, 32 ≤ c ∧ c < 127) (hlv : ∀ c ∈ v.cps.toList, 32 ≤ c ∧ c < 127) (hvl : v.length ≤ 40)
  (hret : ∀ (h' : Heap) (tk' nn' : Nat) (q : Pr) (tt tw : Tok), KeepBut l s.heap h' → q.2 = (.str t tt, .str v tw) → s.heap.get? q.1 = none → h'.get? q.1 = some (tupObj q) → h'.get? l = some (listOf ((ps ++ [q]).map fun q => Value.ref q.1).toArray nn') → Q .none { s with heap := h', toks := tk' }) :
  wpAny (model prog w) A (call (.ref 228) [.ref x, .str t tx, .str v tv]) Q E s := by
  obtain ⟨ahd, dp, fr, gd, un⟩ := A
  obtain rfl : ahd = none := R.hh
  obtain ⟨sl, hx⟩ := ht.obj
  obtain ⟨hk, tk0, n0, hdx⟩ := ht.dict
  k_dflt (refine' enterK [(x, ⟨.ref 231, some dx, .plain, sl⟩), (dx, dictOf [⟨hk, .str (Str.ofString "_headers") tk0, .ref l⟩] n0), (l, listOf (ps.map fun q => Value.ref q.1).toArray nn)] ?st ?hH ?X ?T ?R ?k6 ?k7 ?k9 ?kB ?_ ?c2 ?c3 ?c4 ?c5)
  case st => assumption
  case X => assumption
  case T => assumption
  case R => assumption
  case hH => exact List.forall_mem_cons.mpr ⟨⟨hx, gx⟩, List.forall_mem_cons.mpr ⟨⟨hdx, gd'⟩, List.forall_mem_cons.mpr ⟨⟨ht.list, gl⟩, List.forall_mem_nil _⟩⟩⟩
  case k6 => k_is
  case k7 => k_is
  case k9 => exact (rfl : _ = newDict >>= fun d => pure ([(Str.ofString "self", Value.ref x), (Str.ofString "_name", .str t tx), (Str.ofString "_value", .str v tv)] ++ [(Str.ofString "_params", d)]))
  case kB => intro D; exact locs rfl
  case c5 => decide
  case c2 => rfl
  case c3 => rfl
  case c4 => rfl
  intro g L' h₁ tk D gs ls gst F N X' T' l1 l2 hDm
  k_lt l1
  have lx' : @Ne Nat l x := lx
  have ld' : @Ne Nat l dx := ld
  k_unmd
  k_fold
  k_steps
  refine conv_call X' T' (Fr.keep (by assumption)) x v _ false (Room.deep R (by decide)) hlv ?_
  intro h2 tk2 k2
  have F2 := Fr.keeps (by assumption) k2
  have N2 := News.grown (by assumption) k2
  k_steps
  rename_i hZ FZ NZ
  refine getMethod_tab (knd := PySem.strKind _ _) (enc := PyData.str) PySem.F.slot_dict_items PySem.F.type_dict_items (tab_none (News.get NZ (by k_mem)) hDm) ?_
  refine callWith_method0 ?_
  refine call_items_tab (knd := PySem.strKind _ _) (enc := PyData.str) (tab_none (News.get NZ (by k_mem)) hDm) FZ NZ ?_
  intro h5 o5 hv5 F5 N5
  replace N5 := News.sub N5 fun p hp => List.mem_cons_of_mem _ hp
  clear FZ NZ
  refine for_items_none rfl F5 N5 (News.get N5 (by k_mem)) hDm hv5 ?_
  intro h6 tk6 F6 N6
  clear F5 N5
  k_steps
  refine conv_call X' T' (Fr.keep (by assumption)) x t _ true (Room.deep R (by decide)) hlt ?_
  intro h3 tk3 k3
  have F3 := Fr.keeps (by assumption) k3
  have N3 := News.grown (by assumption) k3
  k_steps
  refine join_list (items := #[].push (Value.str v tv)) (ys := [v]) ?_ ?_ ?_ ?_
  · exact ⟨_, News.get N3 (.head _), rfl, _, rfl⟩
  · exact .cons _ _ .nil
  · have : (Str.ofString "; ").length = 2 := by decide
    rw [this]; simp; (first | exact om229 hvl | omega)
  intro tj kj
  have ej : Txt.join (Str.ofString "; ") [v] = v := by
    show Builtin.Str.glued _ _ = _
    rw [StrLaws.glued_eq_join]; rfl
  rw [ej]
  k_steps
  rename News _ _ _ _ => N9
  rename Fr _ _ _ _ => F9
  show Q _ _
  refine hret _ _ (nn + 1) (_, .str t tx, .str v tj) tx tj (back3 ls (Fr.keep F9) hx hdx (News.get N9 (by k_mem)) (News.get N9 (by k_mem))) rfl (new_free3 ls (News.none N9 (.head _)) (by k_ne) (by k_ne) (by k_ne)) (News.get N9 (.head _)) ?_
  have := News.get N9 (a := l) (by k_mem)
  rw [this]
  congr 2
  simp
end
section
theorem resetS5 : True := by
  w_top off
  exact trivial
variable {prog : Program} {w : World} {p : Program} {loose : List Str} {mean : ExcName → Option Value} {mg mb : Str → Option Value}
  {A : Around} {G : Heap} {s : Shared} {Q : Value → Shared → Prop} {E : Value → Shared → Prop}

theorem pow_is {a n c : Int} {t u : Tok} (hn : 0 ≤ n) (hn2 : n ≤ 1000000) (ha : a.natAbs < 2 ^ 64) (e : a ^ n.toNat = c) (h : Q (.int c s.toks) { s with toks := s.toks + 1 }) :
    wpAny (model prog w) A (binaryOp .Pow (.int a t) (.int n u)) Q E s := by subst e; exact pow_int_small hn hn2 ha h
local macro_rules | `(tactic| walk_at "binaryOp Pow int int") => `(tactic| k_dflt (refine' pow_is ?a_R ?b_R ?c_R ?e_R ?_; (case a_R | b_R => omega); (case c_R => decide); (case e_R => with_reducible assumption)))
theorem sums_call (X : (Mine.hd.heap_39 w.params).In G) (T : Top p loose mean mg mb G) (st : G.StaysIn s.heap) (n54 : G.get? 54 = none) (n61 : G.get? 61 = none) (tb : Tabs s.heap)
  (l : Addr) (vs : List Value) (row : List Int) (nn wd : Nat) (tw : Tok) (R : Room 112 A) (hl : s.heap.get? l = some (listOf vs.toArray nn)) (hi : IntsAre vs row) (hlen : row.length ≤ 12) (hS : ∀ x ∈ psums 0 row, -(2 ^ 128) ≤ x ∧ x ≤ 2 ^ 128) (hrow : ∀ x ∈ row, Builtin.Int.intBits x ≤ 5000) (hw1 : 130 ≤ wd) (hw2 : wd ≤ 4403)
  (hret : ∀ (q : Addr) (ys : List Value) (k : Nat) (h' : Heap) (tk' : Nat), KeepT s.heap h' → Tabs h' → s.heap.get? q = none → h'.get? q = some (listOf ys.toArray k) → IntsAre ys (psums 0 row) → Q (.ref q) { s with heap := h', toks := tk' }) :
  wpAny (model prog w) A (call (.ref 271) [.ref l, .int (wd : Int) tw]) Q E s := by
  obtain ⟨ahd, dp, fr, gd, un⟩ := A
  obtain rfl : ahd = none := R.hh
  obtain ⟨⟨p1, q1⟩, ⟨p2, q2⟩⟩ := tb
  have l54 : l ≠ 54 := fun e => by rw [e, q1.1] at hl; cases hl
  have l61 : l ≠ 61 := fun e => by rw [e, q2.1] at hl; cases hl
  (k_dflt (refine' enterC ?hid ?st ?hH ?X ?T ?R ?k6 ?k7 ?k9 ?kB ?kD ?_ ?c2 ?c3 ?c4; (case st | X | T | R => assumption); (case k6 | k7 => k_is); (case k9 => first | exact BindsTo.of_eq rfl | exact binds_K (by assumption) rfl (by k_is) rfl rfl rfl); (case kB => exact rfl); (case kD => decide +kernel); (case c2 | c3 | c4 => exact rfl)))
  case hid => exact [(54, tabObj p1), (61, tabObj p2)]
  case hH => exact List.forall_mem_cons.mpr ⟨⟨q1.1, n54⟩, List.forall_mem_cons.mpr ⟨⟨q2.1, n61⟩, List.forall_mem_nil _⟩⟩
  intro g L' h₁ tk cells gs ls gst F N Y X' T' l1 l2
  have kT : KeepT s.heap g := fun b o b1 b2 e => ls b o (List.forall_mem_cons.mpr ⟨b1, List.forall_mem_cons.mpr ⟨b2, List.forall_mem_nil _⟩⟩) e
  have m54 : g.get? 54 = none := News.none N (List.mem_append_right _ (.head _))
  have m61 : g.get? 61 = none := News.none N (List.mem_append_right _ (.tail _ (.head _)))
  have hlg : g.get? l = some (listOf vs.toArray nn) := ls _ _ (List.forall_mem_cons.mpr ⟨l54, List.forall_mem_cons.mpr ⟨l61, List.forall_mem_nil _⟩⟩) hl
  have hLg : g.IsList l vs.toArray := ⟨_, hlg, rfl, _, rfl⟩
  obtain ⟨o1, rfl, d1⟩ := CellsAre.one Y
  simp only [List.cons_append, List.nil_append] at N
  k_lt l1
  clear Y l2
  obtain ⟨H, hH⟩ : ∃ H, H = (2 : Int) ^ (wd - 1) := ⟨_, rfl⟩
  have eH : (2 : Int) ^ Int.toNat ((wd : Int) - 1) = H := by rw [hH]; congr 1; (first | exact om679 | omega)
  have eW : (2 : Int) ^ Int.toNat (wd : Int) = 2 ^ wd := rfl
  obtain ⟨f1, f2, f3, f4, f5, f6, f7⟩ := sums_facts hw1 hH row hS
  have fb := bits_base (wd := wd) (by (first | exact om569 hw1 | omega))
  obtain ⟨W1, hW1⟩ : ∃ W1, W1 = (2 : Int) ^ wd - 1 := ⟨_, rfl⟩
  have hHb : Builtin.Int.intBits H ≤ wd := by rw [hH]; exact pow_bits (by (first | exact om680 hw1 | omega))
  k_unmd
  k_fold
  k_steps
  rename_i D2 ws h4 F4 N4 hI4 hC4 l4
  obtain ⟨oc, tc, Nc, dc⟩ : ∃ oc tc, News g L' h4 [(L' + 1, oc)] ∧ oc.data = .cell (some (.int H tc)) := ⟨_, _, News.sub N4 (List.forall_mem_cons.mpr ⟨by k_mem, List.forall_mem_nil _⟩), by assumption⟩
  have tC : Tabs _ := Tabs.mk ⟨_, q1.keep (N4.get (by k_mem)) (KeepT.trans kT (KeepT.of F4.keep))⟩ ⟨p2, q2.keep (N4.get (by k_mem)) (KeepT.trans kT (KeepT.of F4.keep))⟩
  refine d2i_call X' T' (Fr.keep F4) m54 m61 tC D2 ws ([H] ++ row).reverse 0 wd _ (Room.deep R (by simp; (first | exact om687 hlen | omega))) (News.get N4 (by k_mem)) hI4 (by simp; (first | exact om688 hlen | omega)) (by (first | exact om689 hw2 | omega)) ?_ ?_
  · intro d hd
    rcases List.mem_append.mp (List.mem_reverse.mp hd) with hd | hd
    · rw [List.mem_singleton.mp hd]; (first | exact om690 hHb hw2 | omega)
    · exact hrow d hd
  intro tq h8 tk8 k8 t8
  have F8 := Fr.keepT F4 tC m54 m61 k8
  obtain ⟨p5, p6, c5, o5, c6, o6, N8a, TN8⟩ := Tabs.led t8 F8 m54 m61
  have N8 := News.app (keepT1 Nc k8 (by k_ne) (by k_ne)) N8a
  simp only [List.cons_append, List.nil_append] at N8
  clear N8a
  k_steps
  rename_i h9 F9 N9
  have tD : Tabs _ := TN8 _ (Fr.keep F9) (News.get N9 (by k_mem)) (News.get N9 (by k_mem)) (News.get N9 (by k_mem)) (News.get N9 (by k_mem))
  have Nc9 : News g L' h9 [(L' + 1, oc)] := News.sub N9 (List.forall_mem_cons.mpr ⟨by k_mem, List.forall_mem_nil _⟩)
  refine divmod_call X' T' (Fr.keep F9) m54 m61 tD _ _ _ _ (Room.deep R (by decide)) f3 (by have := two_pow_pos wd; have : (2 : Int) ^ 1 ≤ 2 ^ wd := pow_le_pow (by (first | exact om692 hw1 | omega)); (first | exact om693 this | omega)) (by rw [fb]; (first | exact om569 hw1 | omega)) (by rw [fb]; (first | exact om694 hw2 | omega)) (by rw [fb]; exact Nat.le_trans f7 (by (first | exact om695 hlen | omega))) ?_
  intro q2' t1 t2 hA tkA kA tA frA eA
  have f1' : (horner wd (H :: row).reverse).fdiv (2 ^ wd - 1) = horner wd (initP H row).reverse := f1
  have f2' : (horner wd (H :: row).reverse).fmod (2 ^ wd - 1) = lastP H row := f2
  rw [f1', f2'] at eA
  have FA := Fr.keepT F9 tD m54 m61 kA
  obtain ⟨p7, p8, c7, o7, c8, o8, NAa, TNA⟩ := Tabs.led tA FA m54 m61
  have NA := News.app (news_new F9 frA eA) (News.app (keepT1 Nc9 kA (by k_ne) (by k_ne)) NAa)
  simp only [List.cons_append, List.nil_append] at NA
  clear NAa
  k_steps
  rename_i hB1 hB2 hB FB NB
  have tE : Tabs _ := TNA _ (Fr.keep FB) (News.get NB (by k_mem)) (News.get NB (by k_mem)) (News.get NB (by k_mem)) (News.get NB (by k_mem))
  have NcB : News g L' hB [(L' + 1, oc)] := News.sub NB (List.forall_mem_cons.mpr ⟨by k_mem, List.forall_mem_nil _⟩)
  refine i2d_call X' T' (Fr.keep FB) m54 m61 tE _ wd _ _ (Room.deep R (by decide)) f4 (by (first | exact om696 hw1 | omega)) (by (first | exact om689 hw2 | omega)) (by rw [f5]; (first | exact om697 hlen | omega)) ?_
  intro q3 ys hC tkC kC tC' frC eC iC
  rw [f5, f6] at iC
  have FC := Fr.keepT FB tE m54 m61 kC
  obtain ⟨p9, pA, c9, o9, cA, oA, NCa, TNC⟩ := Tabs.led tC' FC m54 m61
  have NC := News.app (news_new FB frC eC) (News.app (keepT1 NcB kC (by k_ne) (by k_ne)) NCa)
  simp only [List.cons_append, List.nil_append] at NC
  clear NCa
  have hPl : (initP H row).length ≤ 12 := by rw [initP_len]; exact hlen
  have hys : ys.toArray.size ≤ sizeLine := by
    rw [sizeLine_eq]
    have := iC.length
    rw [List.length_reverse] at this
    simp only [List.size_toArray]
    (first | exact om698 this hPl | omega)
  k_steps
  rename_i D5 ws5 hF FF NF hIF hCF hLF lF
  have eD5 : List.drop 1 ((initP H row).reverse.reverse ++ [lastP H row]) = psums H row := by rw [List.reverse_reverse, init_last]; rfl
  rw [eD5] at hIF
  have NS : News g L' hF [(D5, listOf ws5.toArray 0), (L' + 1, oc), (54, tabObj p9), (61, tabObj pA), (c9, o9), (cA, oA)] := News.sub NF (by walk_at "my sub")
  have hwl : ws5.length ≤ 12 := by rw [hIF.length, psums_len]; exact hlen
  refine comp_list rfl (News.get NS (by k_mem)) (by decide) rfl rfl FF NS (fun i ys nw => nw = [(D5, listOf ws5.toArray 0), (L' + 1, oc), (54, tabObj p9), (61, tabObj pA), (c9, o9), (cA, oA)] ∧ IntsAre ys (((psums H row).take i).map (· - H))) ?_ (.inr ⟨_, fun i ys nw ⟨e, _⟩ => by rw [e]; exact .head _⟩) ⟨rfl, .nil⟩ ?_ (end_value ?_)
  · rintro i ys nw ⟨_, hj⟩
    rw [hj.length, List.length_map, List.length_take, psums_len]
    (first | exact om340 hlen | omega)
  · rintro g2 C D I gs2 hg less lt hI hID hDC i v ys nw it k h tk mC E' hi hv ⟨rfl, hJ⟩ off F3 N3
    have X3 := X'.keeps hg
    have T3 := T'.keeps hg
    have hlt : i < (psums H row).length := by rw [← hIF.length]; exact hi
    obtain ⟨td, hvd⟩ := hIF.get i (psums H row)[i] (List.getElem?_eq_getElem hlt)
    rw [hv] at hvd
    obtain rfl := Option.some.inj hvd
    refine wpAny_tests_nil ?_
    rw [if_pos rfl]
    k_steps
    refine ElemEnd.intro F3 N3 off ⟨rfl, ?_⟩
    rw [List.take_add_one, List.getElem?_eq_getElem hlt, List.map_append]
    exact hJ.append (.cons _ _ .nil)
  · rintro ys nw k D h tk ⟨rfl, hJ⟩ off F3 N3 lt
    rw [hIF.length, List.take_length] at hJ
    have eR : (psums H row).map (· - H) = psums 0 row := by
      have := psums_shift row H 0
      rw [Int.add_zero] at this
      rw [this, List.map_map]
      conv => rhs; rw [← List.map_id (psums 0 row)]
      apply List.map_congr_left
      intro a _
      show H + a - H = a
      (first | exact om701 | omega)
    rw [eR] at hJ
    k_lt lt
    k_steps
    show Q _ _
    exact hret D ys k h tk (KeepT.trans kT (KeepT.of (Fr.keep F3))) (TNC _ (Fr.keep F3) (News.get N3 (by k_mem)) (News.get N3 (by k_mem)) (News.get N3 (by k_mem)) (News.get N3 (by k_mem))) (new_none ls (News.none N3 (.head _)) (by k_ne) (by k_ne)) (News.get N3 (.head _)) hJ
end
section
theorem resetT1 : True := by
  w_top off
  exact trivial
variable {prog : Program} {w : World} {p : Program} {loose : List Str} {mean : ExcName → Option Value} {mg mb : Str → Option Value}
  {A : Around} {G : Heap} {s : Shared} {Q : Value → Shared → Prop} {E : Value → Shared → Prop}
local macro_rules | `(tactic| walk_at "subscriptTail Name Slice ref ref") => `(tactic| refine Halt.go ?_)
local macro_rules | `(tactic| walk_at "exec For Name Subscript cons nil") => `(tactic| ((with_unfolding_all refine' For_invVF ?k0_S ?k1_S ?k2_S ?_; (case k0_S => assumption); (case k1_S | k2_S => exact rfl); k_whole)))
section
variable {M : Model} {K : Frag} {C L f x : Addr} {h₀ : Heap} {m : Str → Option Value} {ox : Obj} {od : Option Obj} {i : Value} {Q : Unit → Shared → Prop}
theorem del_own (F : Fr h₀ L s.heap m) (X₀ : K.In h₀) (I : InstAt s.heap x ox C od) (hq : noSeq K C = true) (hs : findIn K (.ref C) "__delitem__" = some (some (.ref f))) (hf : isFn K (.ref f) = true)
    (h : wpAny M A (call (.ref f) [.ref x, i]) (fun _ s' => Q () s') E s) : wpAny M A (delItem (.ref x) i) Q E s := by
  have X := X₀.keeps F.keep
  unfold delItem sequenceKey
  refine wpAny_holding (wpAny_bind (wpAny_bind (I.type.here ?_)))
  refine wpAny_bind ((anyM_none X hq).here ?_)
  rw [if_pos (show (!false) = true from rfl)]
  exact wpAny_pure (wpAny_bind (special_fn X I hs (beq_iff_eq.mp hf) (wpAny_mono h (fun _ _ z => wpAny_pure z) fun _ _ z => z)))
end
local macro_rules | `(tactic| walk_at "delItem ref str") => `(tactic| refine Halt.go ?_)
theorem pick_front (vs : List Value) : kms_pick vs none (some (-1)) = vs.dropLast := by
  delta kms_pick
  rw [List.dropLast_eq_take]
  show List.take _ (List.drop 0 vs) = _
  rw [List.drop_zero]
  congr 1
theorem pick_last (vs : List Value) : kms_pick vs (some (-1)) none = vs.drop (vs.length - 1) := by
  delta kms_pick
  have e : kms_lo (some (-1)) vs.length = vs.length - 1 := by
    simp only [kms_lo]
    split <;> simp <;> (first | exact om706 (by walk_at "my asm") | omega)
  rw [e]
  apply List.take_of_length_le
  rw [List.length_drop]
  exact Nat.le_refl _
inductive Took (t : Str) : List Value → List Pr → Prop
  | nil : Took t [] []
  | cons {a : Addr} {v : Str} {tv tt tw : Tok} {vs : List Value} {qs : List Pr} (h : Took t vs qs) : Took t (.str v tv :: vs) ((a, .str t tt, .str v tw) :: qs)
theorem Took.app {t : Str} {vs ws : List Value} {qs rs : List Pr} (h : Took t vs qs) (k : Took t ws rs) : Took t (vs ++ ws) (qs ++ rs) := by
  induction h with
  | nil => exact k
  | cons _ ih => exact .cons ih
theorem Took.len {t : Str} {vs : List Value} {qs : List Pr} (h : Took t vs qs) : qs.length = vs.length := by
  induction h with
  | nil => rfl
  | cons _ ih => rw [List.length_cons, List.length_cons, ih]
theorem news_put {g h h' : Heap} {L l : Addr} {a b : List (Addr × Obj)} {o o' : Obj} (N : News g L h (a ++ (l, o) :: b)) (ha : ∀ p ∈ a, p.1 ≠ l) (hb : ∀ p ∈ b, p.1 ≠ l) (k : KeepBut l h h') (e : h'.get? l = some o') : News g L h' (a ++ (l, o') :: b) := fun p hp => by
  rcases List.mem_append.mp hp with hp | hp
  · have := N p (List.mem_append_left _ hp)
    exact ⟨k _ _ (ha p hp) this.1, this.2⟩
  · rcases List.mem_cons.mp hp with rfl | hp
    · have := N (l, o) (List.mem_append_right _ (.head _))
      exact ⟨e, this.2⟩
    · have := N p (List.mem_append_right _ (.tail _ hp))
      exact ⟨k _ _ (hb p hp) this.1, this.2⟩
noncomputable abbrev tupE (q : Pr) : Addr × Obj := (q.1, tupObj q)
noncomputable def PairOk (q : Pr) : Prop := ∃ kt tk vt tv, q.2 = (.str kt tk, .str vt tv) ∧ kt.length ≤ 40 ∧ vt.length ≤ 40 ∧ ∀ c ∈ vt.cps.toList, 32 ≤ c ∧ c < 127
theorem PairOk.key {q : Pr} (h : PairOk q) : ∃ kt tk vt tv, q.2 = (.str kt tk, .str vt tv) ∧ kt.length ≤ 40 := let ⟨a, b, c, d, e, f, _⟩ := h; ⟨a, b, c, d, e, f⟩
theorem gotten_ok {t : Str} {ps : List Pr} (h : ∀ q ∈ ps, PairOk q) : ∀ v ∈ gotten t ps, ∃ vt tv, v = .str vt tv ∧ vt.length ≤ 40 ∧ ∀ c ∈ vt.cps.toList, 32 ≤ c ∧ c < 127 := fun v hv => by
  obtain ⟨q, hq, rfl⟩ := List.mem_map.mp hv
  obtain ⟨_, _, vt, tv, e, _, a, b⟩ := h q (List.mem_filter.mp hq).1
  exact ⟨vt, tv, by rw [e], a, b⟩
theorem strike_call (X : (Mine.hd.heap_39 w.params).In G) (T : Top p loose mean mg mb G) (st : G.StaysIn s.heap)
  (x dx l : Addr) (nn : Nat) (ps : List Pr) (t : Str) (tx : Tok) (R : Room 8 A) (ht : TableAt s.heap x dx l nn ps) (htx : ∀ q ∈ ps, q.1 ≠ x ∧ q.1 ≠ dx ∧ q.1 ≠ l) (hps : ∀ q ∈ ps, PairOk q) (gx : G.get? x = none) (gd' : G.get? dx = none) (gl : G.get? l = none) (lx : l ≠ x) (ld : l ≠ dx) (hz : ps.length ≤ 20) (hl : t.length ≤ 40) (hlow : ∀ c ∈ (PySem.Txt.lower t).cps.toList, 32 ≤ c ∧ c < 127) (hlt : ∀ c ∈ t.cps.toList, 32 ≤ c ∧ c < 127)
  (hret : ∀ (q : Addr) (kq nl : Nat) (adds : List Pr) (h' : Heap) (tk' : Nat), KeepBut l s.heap h' → Took t (gotten t ps).dropLast adds → (∀ a ∈ adds, s.heap.get? a.1 = none ∧ h'.get? a.1 = some (tupObj a)) → h'.get? l = some (listOf ((rest t ps ++ adds).map fun q => Value.ref q.1).toArray nl) →
    s.heap.get? q = none → h'.get? q = some (listOf ((gotten t ps).drop ((gotten t ps).length - 1)).toArray kq) → Q (.ref q) { s with heap := h', toks := tk' }) :
  wpAny (model prog w) A (call (.ref 266) [.ref x, .str t tx]) Q E s := by
  obtain ⟨ahd, dp, fr, gd, un⟩ := A
  obtain rfl : ahd = none := R.hh
  obtain ⟨sl, hx⟩ := ht.obj
  obtain ⟨hk, tk0, n0, hdx⟩ := ht.dict
  (k_dflt (refine' enterH ?hid ?st ?hH ?X ?T ?R ?k6 ?k7 ?k9 ?kB ?_ ?c2 ?c3 ?c4 ?c5; (case st | X | T | R => assumption); (case k6 | k7 => k_is); (case k9 => first | exact BindsTo.of_eq rfl | exact binds_K (by assumption) rfl (by k_is) rfl rfl rfl); (case c5 => decide); (case kB => exact locs rfl); (case c2 | c3 | c4 => exact rfl)))
  case hid => exact [(x, ⟨.ref 231, some dx, .plain, sl⟩), (dx, dictOf [⟨hk, .str (Str.ofString "_headers") tk0, .ref l⟩] n0), (l, listOf (ps.map fun q => Value.ref q.1).toArray nn)]
  case hH => exact List.forall_mem_cons.mpr ⟨⟨hx, gx⟩, List.forall_mem_cons.mpr ⟨⟨hdx, gd'⟩, List.forall_mem_cons.mpr ⟨⟨ht.list, gl⟩, List.forall_mem_nil _⟩⟩⟩
  intro g L' h₁ tk gs ls gst F N X' T' l1 l2
  k_lt l1
  have lx' : @Ne Nat l x := lx
  have ld' : @Ne Nat l dx := ld
  have hpg : ∀ q ∈ ps, g.get? q.1 = some (tupObj q) := fun q hq => ls _ _ (List.forall_mem_cons.mpr ⟨(htx q hq).1, List.forall_mem_cons.mpr ⟨(htx q hq).2.1, List.forall_mem_cons.mpr ⟨(htx q hq).2.2, List.forall_mem_nil _⟩⟩⟩) (ht.tups q hq)
  have gxn : g.get? x = none := News.none N (.head _)
  have gdn : g.get? dx = none := News.none N (.tail _ (.head _))
  have gln : g.get? l = none := News.none N (.tail _ (.tail _ (.head _)))
  k_unmd
  k_fold
  k_steps
  rename News _ _ _ _ => N1
  rename Fr _ _ _ _ => F1
  refine get_all_call X' T' (Fr.keep F1) x dx l nn ps t _ (Room.deep R (by decide)) ⟨⟨_, News.get N1 (by k_mem)⟩, ⟨_, _, _, News.get N1 (by k_mem)⟩, News.get N1 (by k_mem), fun q hq => Fr.keep F1 _ _ (hpg q hq)⟩ (fun q hq => ⟨(htx q hq).1, (htx q hq).2.1⟩) lx ld (fun q hq => (hps q hq).key) gxn gdn (by (first | exact om707 hz | omega)) hl hlow ?_
  intro M kM h2 tk2 k2 fM eM
  have cM : @Ne Nat M l := fun e => by rw [e, News.get N1 (a := l) (by k_mem)] at fM; cases fM
  have F2 := Fr.keeps F1 k2
  have N2 := News.app (news_new F1 fM eM) (News.grown N1 k2)
  simp only [List.cons_append, List.nil_append] at N2
  clear F1 N1
  k_steps
  (k_dflt (refine' del_own ?F_7 ?X_7 ?I_7 ?hQ_7 ?hS_7 ?hF_7 ?_; (case F_7 | X_7 => k_asm); (case I_7 => k_inst); (case hS_7 | hF_7 | hQ_7 => k_is); k_whole))
  k_steps
  rename News _ _ _ _ => N3
  rename Fr _ _ _ _ => F3
  refine del_call X' T' (Fr.keep F3) x dx l nn ps t _ (Room.deep R (by decide)) ⟨⟨_, News.get N3 (by k_mem)⟩, ⟨_, _, _, News.get N3 (by k_mem)⟩, News.get N3 (by k_mem), fun q hq => Fr.keep F3 _ _ (hpg q hq)⟩ htx (fun q hq => (hps q hq).key) gxn gdn gln lx ld (by (first | exact om707 hz | omega)) hl hlow ?_
  intro h4 tk4 n4 k4 e4
  have F4 := Fr.but F3 N3 (o := listOf (ps.map fun q => Value.ref q.1).toArray nn) (by k_mem) k4
  have N4 := news_put (a := [_, _, _]) (b := []) N3 (List.forall_mem_cons.mpr ⟨cM, List.forall_mem_cons.mpr ⟨lx.symm, List.forall_mem_cons.mpr ⟨ld.symm, List.forall_mem_nil _⟩⟩⟩) (List.forall_mem_nil _) k4 e4
  simp only [List.cons_append, List.nil_append] at N4
  clear F3 N3
  have hgl := gotten_len t ps
  have hys : (gotten t ps).toArray.size ≤ sizeLine := by
    rw [sizeLine_eq]
    simp only [List.size_toArray]
    (first | exact om708 hgl hz | omega)
  k_steps
  (k_dflt (refine' kms_slice_lit (s := ⟨_, _, _, _, _⟩) ?F_6 ?N_6 ?l_6 ?p_6 ?q_6 ?e_6 ?_ ?s_6 ?t_6 ?z_6; (case F_6 | N_6 => assumption); (case l_6 => exact led_list (by assumption) (by k_mem)); (case p_6 | q_6 => kmk_part); (case e_6 => rfl); (case s_6 => with_unfolding_all rfl); (case t_6 => kmk_pure); (case z_6 => assumption)); intro _ _ _ _ l1; (try k_lt l1); revert l1; intro _)
  k_steps
  rename News _ _ _ _ => N5
  rename Fr _ _ _ _ => F5
  rename _ ∧ _ => l5
  rename Addr => D5
  rw [pick_front] at N5
  refine loop_list (fun i m nw => ∃ adds nl, m (Str.ofString "table") = some (.ref x) ∧ m (Str.ofString "name") = some (.str t tx) ∧ m (Str.ofString "members") = some (.ref M) ∧ Took t ((gotten t ps).dropLast.take i) adds ∧ (∀ a ∈ adds, a.1 ≠ x ∧ a.1 ≠ dx ∧ a.1 ≠ l) ∧
      nw = [(D5, listOf (gotten t ps).dropLast.toArray 0), (M, listOf (gotten t ps).toArray kM), (x, ⟨.ref 231, some dx, .plain, sl⟩), (dx, dictOf [⟨hk, .str (Str.ofString "_headers") tk0, .ref l⟩] n0), (l, listOf ((rest t ps ++ adds).map fun q => Value.ref q.1).toArray nl)] ++ adds.map tupE)
    rfl F5 N5 (News.get N5 (.head _)) (N5 _ (.head _)).2.1 (.inr ⟨_, fun i m n ⟨_, _, _, _, _, _, _, e⟩ => by rw [e]; exact .head _⟩) ⟨[], n4, rfl, rfl, rfl, .nil, (fun _ h => nomatch h), by rw [List.append_nil]; rfl⟩ ?turn ?done
  case turn =>
    rintro i v m₁ news₁ I it h tk hv ⟨adds, nl, mt, mn, mm, hT, ho, rfl⟩ hofI hltI F6 N6
    have hvm := List.mem_of_getElem? hv
    obtain ⟨vt, tv, rfl, hvl, hvc⟩ := gotten_ok hps v (List.dropLast_subset _ hvm)
    have hal : adds.length ≤ 20 := by
      rw [hT.len, List.length_take, List.length_dropLast]; (first | exact om709 hgl hz | omega)
    have hrl := rest_len t ps
    have F7 := Fr.seeX4 F6 mt mn mm mt
    have cI : @Ne Nat l I := hofI (l, _) (by k_mem)
    have cI2 : @Ne Nat x I := hofI (x, _) (by k_mem)
    clear F6
    k_steps
    rename News _ _ _ _ => N8
    rename Fr _ _ _ _ => F8
    have hT8 : TableAt _ x dx l nl (rest t ps ++ adds) := ⟨⟨_, News.get N8 (by k_mem)⟩, ⟨_, _, _, News.get N8 (by k_mem)⟩, News.get N8 (by k_mem), fun q hq => (List.mem_append.mp hq).elim (fun hq => Fr.keep F8 _ _ (hpg q (List.mem_filter.mp hq).1)) fun hq => News.get N8 (List.mem_append_right [_, _, _, _, _, _] (List.mem_map_of_mem hq))⟩
    refine add_call X' T' (Fr.keep F8) x dx l nl (rest t ps ++ adds) t vt _ _ (Room.deep R (by decide)) hT8 gxn gdn gln lx ld (by rw [List.length_append]; (first | exact om710 hrl hal hz | omega)) hlt hvc hvl ?_
    intro h9 tk9 n9 q tt tw k9 eq fq hq9 e9
    have F9 := Fr.but F8 N8 (al := l) (by k_mem) k9
    have N9 := news_put (a := [_, _, _, _, _]) (b := adds.map tupE) N8 (List.forall_mem_cons.mpr ⟨cI.symm, List.forall_mem_cons.mpr ⟨by k_ne, List.forall_mem_cons.mpr ⟨cM, List.forall_mem_cons.mpr ⟨lx.symm, List.forall_mem_cons.mpr ⟨ld.symm, List.forall_mem_nil _⟩⟩⟩⟩⟩) (fun p hp => by
      obtain ⟨a, ha, rfl⟩ := List.mem_map.mp hp
      exact (ho a ha).2.2) k9 e9
    have nq := news_new F8 fq hq9
    have qI : @Ne Nat q.1 I := fun e => by rw [e, News.get N8 (a := I) (.head _)] at fq; cases fq
    have qx : @Ne Nat q.1 x := fun e => by rw [e, News.get N8 (a := x) (by k_mem)] at fq; cases fq
    have qd : @Ne Nat q.1 dx := fun e => by rw [e, News.get N8 (a := dx) (by k_mem)] at fq; cases fq
    have ql : @Ne Nat q.1 l := fun e => by rw [e, News.get N8 (a := l) (by k_mem)] at fq; cases fq
    rw [List.append_assoc] at N9
    have eM2 : List.map tupE (adds ++ [q]) = adds.map tupE ++ [tupE q] := List.map_append ..
    k_steps
    refine TurnEnd.intro (news' := [(D5, listOf (gotten t ps).dropLast.toArray 0), (M, listOf (gotten t ps).toArray kM), (x, ⟨.ref 231, some dx, .plain, sl⟩), (dx, dictOf [⟨hk, .str (Str.ofString "_headers") tk0, .ref l⟩] n0), (l, listOf ((rest t ps ++ (adds ++ [q])).map fun q => Value.ref q.1).toArray n9)] ++ (adds ++ [q]).map tupE) F9 (fun p hp => ?_) (fun p hp => ?_) ⟨adds ++ [q], n9, rfl, rfl, rfl, ?_, ?_, rfl⟩
    · rw [eM2, ← List.append_assoc, ← List.cons_append] at hp
      rcases List.mem_append.mp hp with hp | hp
      · exact N9 p hp
      · exact nq p hp
    · rw [eM2, ← List.append_assoc] at hp
      rcases List.mem_append.mp hp with hp | hp
      · rcases List.mem_append.mp hp with hp | hp
        · simp only [List.mem_cons, List.not_mem_nil, or_false] at hp
          rcases hp with rfl | rfl | rfl | rfl | rfl
          · exact hofI _ (.head _)
          · exact hofI _ (.tail _ (.head _))
          · exact cI2
          · exact hofI _ (.tail _ (.tail _ (.tail _ (.head _))))
          · exact cI
        · exact hofI p (List.mem_append_right _ hp)
      · rw [List.mem_singleton.mp hp]; exact qI
    · rw [List.take_add_one, hv]
      refine hT.app ?_
      obtain ⟨qa, qb⟩ := q
      obtain rfl : qb = _ := eq
      exact .cons .nil
    · intro a ha
      rcases List.mem_append.mp ha with ha | ha
      · exact ho a ha
      · rw [List.mem_singleton.mp ha]; exact ⟨qx, qd, ql⟩
  case done =>
    rintro m₁ news₁ h6 tk6 ⟨adds, nl, mt, mn, mm, hT, ho, rfl⟩ F6 N6
    rw [List.take_length] at hT
    have F7 := Fr.see F6 mm
    clear F6
    simp only [List.cons_append, List.nil_append] at N6
    k_steps
    (k_dflt (refine' kms_slice_lit (s := ⟨_, _, _, _, _⟩) ?F_6 ?N_6 ?l_6 ?p_6 ?q_6 ?e_6 ?_ ?s_6 ?t_6 ?z_6; (case F_6 | N_6 => assumption); (case l_6 => exact led_list (by assumption) (by k_mem)); (case p_6 | q_6 => kmk_part); (case e_6 => rfl); (case s_6 => with_unfolding_all rfl); (case t_6 => kmk_pure); (case z_6 => assumption)); intro _ _ _ _ l1; (try k_lt l1); revert l1; intro _)
    k_steps
    rename News _ _ _ _ => N8
    rename Fr _ _ _ _ => F8
    rename Addr => D8
    show Q _ _
    have e8 := News.get N8 (.head _)
    rw [pick_last] at e8
    rename _ ∧ _ => lq
    obtain ⟨lq1, lq2, lq3, lq4, lq5, _⟩ := lq
    refine hret _ 0 nl adds _ _ (back3 ls (Fr.keep F8) hx hdx (News.get N8 (by k_mem)) (News.get N8 (by k_mem))) hT (fun a ha => ?_) (News.get N8 (by k_mem)) (new_free3 ls (News.none N8 (.head _)) (by k_ne) (by k_ne) (by k_ne)) e8
    have hm := N8 (tupE a) (List.mem_append_right [_, _, _, _, _, _] (List.mem_map_of_mem ha))
    exact ⟨new_free3 ls hm.2.2 (ho a ha).1 (ho a ha).2.1 (ho a ha).2.2, hm.1⟩
end
section
theorem resetH6 : True := by
  w_top off
  exact trivial
variable {prog : Program} {w : World} {p : Program} {loose : List Str} {mean : ExcName → Option Value} {mg mb : Str → Option Value}
  {A : Around} {G : Heap} {s : Shared} {Q : Value → Shared → Prop} {E : Value → Shared → Prop} {RR : Result → Shared → Prop}
local macro_rules | `(tactic| walk_at "exec For Tuple Name cons nil") => `(tactic| (k_dflt (refine' wpAny_For ?_ ?hs_B; (case hs_B => intro _; rfl); k_whole)))
section
variable {K : Frag} {f : Addr} {args : List Value} {kw : List (Str × Value)}
  {name qual : Str} {params : Arguments} {body : List Stmt} {scope : Scope} {dV kV doc pm cdv ct oc : Value} {an od : Option Addr} {osl : Array (Option Value)} {binds : List (Str × Value)}
theorem enterHc {n : Nat} (hid : List (Addr × Obj)) (st : G.StaysIn s.heap) (hH : ∀ q ∈ hid, s.heap.get? q.1 = some q.2 ∧ G.get? q.1 = none) (X : K.In G) (T : Top p loose mean mg mb G) (R : Room n A)
    (ho : K.lookup f = some ⟨oc, od, .func (fnOf name qual params body scope dV kV doc pm an cdv ct), osl⟩) (hcd : codeIn K cdv qual = true)
    (hbind : BindsTo s (fnOf name qual params body scope dV kV doc pm an cdv ct) ⟨args, kw⟩ binds) (hloc : ∀ y ∈ binds, scope.names.lookup y.1 = some .local)
    (h : ∀ g L' h₁ tk, g.StaysIn s.heap → Less hid s.heap g → G.StaysIn g → Fr g L' h₁ (fun y => binds.reverse.lookup y) → News g L' h₁ hid → K.In g → Top p loose mean mg mb g → (∀ q ∈ hid, q.1 < L') → s.heap.objs.size ≤ L' →
      wpAny (model prog w) (A.deeper (envOf qual scope L' f cdv)) (execs body (envOf qual scope L' f cdv))
        (fun fl s' => RR (.ok (.ret (match fl with | .ret v => v | _ => .none))) s') NoE { s with heap := h₁, toks := tk })
    (hco : scope.isCoroutine = false) (hgen : scope.isGenerator = false) (hk : scope.kind = .function)
    (hcell : ∀ x ∈ scope.names, x.2 ≠ .cell) : codeAny (model prog w) A (.call (.ref f) ⟨args, kw⟩) RR s := by
  refine codeAny_call_def (fd := fnOf name qual params body scope dV kV doc pm an cdv ct) (body := body) (binds := binds) R.lim ((X.keeps st) _ _ ho) rfl (T.nolimit.keeps st) (codeRec_of (X.keeps st) hcd) rfl hbind hcell hloc (fun h₁ hns hk₁ => ?_) hco hgen hk
  have sg : G.StaysIn (hideAll s.heap (hid.map (·.1))) := fun b o e => hideAll_get _ (st b o e) fun hm => by
    obtain ⟨q, hq, rfl⟩ := List.mem_map.mp hm
    rw [(hH q hq).2] at e; cases e
  exact wpAny_mono (h _ s.heap.objs.size h₁ _ (fun b o e => of_hideAll _ e) (less_hide hid s.heap) sg ⟨hns, fun b o e => hk₁ b o (of_hideAll _ e), Nat.le_of_eq (hideAll_size _ _)⟩
    (fun q hq => ⟨hk₁ _ _ (hH q hq).1, Nat.ne_of_lt (Heap.lt_size (hH q hq).1), hideAll_none _ (List.mem_map_of_mem hq)⟩) (X.keeps sg) (T.keeps sg) (fun q hq => Heap.lt_size (hH q hq).1) (Nat.le_refl _)) (fun fl s' hl => hl) fun _ _ y => y.elim
end
theorem init_code (X : (Mine.hd.heap_39 w.params).In G) (T : Top p loose mean mg mb G) (st : G.StaysIn s.heap)
  (x dx l : Addr) (nn : Nat) (ps : List Pr) (R : Room 6 A) (hx : s.heap.get? x = some (instObj 231 dx)) (hdx : s.heap.get? dx = some (dictOf [] 0)) (hl : s.heap.get? l = some (listOf (ps.map fun q => Value.ref q.1).toArray nn)) (hps : ∀ q ∈ ps, s.heap.get? q.1 = some (tupObj q))
  (hok : ∀ q ∈ ps, ∃ kt tk vt tv, q.2 = (.str kt tk, .str vt tv) ∧ (∀ c ∈ kt.cps.toList, 32 ≤ c ∧ c < 127) ∧ (∀ c ∈ vt.cps.toList, 32 ≤ c ∧ c < 127)) (gx : G.get? x = none) (gd' : G.get? dx = none) (hxd : x ≠ dx)
  (hret : ∀ (h' : Heap) (tk' : Nat) (hk : Int) (tk : Tok) (n : Nat), KeepBut dx s.heap h' → h'.get? dx = some (dictOf [⟨hk, .str (Str.ofString "_headers") tk, .ref l⟩] n) → RR (.ok (.ret .none)) { s with heap := h', toks := tk' }) :
  codeAny (model prog w) A (.call (.ref 125) ⟨[.ref x, .ref l], []⟩) RR s := by
  obtain ⟨ahd, dp, fr, gd, un⟩ := A
  obtain rfl : ahd = none := R.hh
  have lx : l ≠ x := fun e => by rw [e, hx] at hl; cases hl
  have ld : l ≠ dx := fun e => by
    rw [e, hdx] at hl
    exact absurd (show (Value.type "dict") = Value.type "list" from congrArg Obj.cls (Option.some.inj hl)) (by decide)
  have Xs := X.keeps st
  k_dflt (refine' enterHc [(x, instObj 231 dx), (dx, dictOf [] 0)] ?st ?hH ?X ?T ?R ?k6 ?k7 ?k9 ?kB ?_ ?c2 ?c3 ?c4 ?c5)
  case st => assumption
  case X => assumption
  case T => assumption
  case R => assumption
  case k6 => k_is
  case k7 => k_is
  case k9 => first | exact BindsTo.of_eq rfl | exact binds_K (by assumption) rfl (by k_is) rfl rfl rfl
  case c5 => decide
  case kB => exact locs rfl
  case c2 => exact rfl
  case c3 => exact rfl
  case c4 => exact rfl
  case hH => exact List.forall_mem_cons.mpr ⟨⟨hx, gx⟩, List.forall_mem_cons.mpr ⟨⟨hdx, gd'⟩, List.forall_mem_nil _⟩⟩
  intro g L' h₁ tk gs ls gst F N X' T' l1 l2
  k_lt l1
  have lx' : @Ne Nat l x := lx
  have ld' : @Ne Nat l dx := ld
  have hxd' : @Ne Nat x dx := hxd
  have hlg : g.get? l = some (listOf (ps.map fun q => Value.ref q.1).toArray nn) := ls _ _ (List.forall_mem_cons.mpr ⟨lx, List.forall_mem_cons.mpr ⟨ld, List.forall_mem_nil _⟩⟩) hl
  have hLg : g.IsList l (ps.map fun q => Value.ref q.1).toArray := ⟨_, hlg, rfl, _, rfl⟩
  k_unmd
  k_fold
  k_steps
  rename News _ _ _ _ => N1
  rename Fr _ _ _ _ => F1
  refine call_type_of (Tx := "list") (Heap.IsList.typeIs (items := (ps.map fun q => Value.ref q.1).toArray) ⟨_, Fr.keep F1 _ _ hlg, rfl, _, rfl⟩) (by decide) ?_
  k_steps
  rename News _ _ _ _ => N2
  rename Fr _ _ _ _ => F2
  have tx : ∀ q ∈ ps, q.1 ≠ x ∧ q.1 ≠ dx := fun q hq => ⟨fun e => by
    have h := hps q hq
    rw [e, hx] at h
    exact absurd (show (Value.ref 231) = Value.type "tuple" from congrArg Obj.cls (Option.some.inj h)) (by decide), fun e => by
    have h := hps q hq
    rw [e, hdx] at h
    exact absurd (show (Value.type "dict") = Value.type "tuple" from congrArg Obj.cls (Option.some.inj h)) (by decide)⟩
  have hpg : ∀ q ∈ ps, g.get? q.1 = some (tupObj q) := fun q hq => ls _ _ (List.forall_mem_cons.mpr ⟨(tx q hq).1, List.forall_mem_cons.mpr ⟨(tx q hq).2, List.forall_mem_nil _⟩⟩) (hps q hq)
  refine for_pairs rfl (Fr.keep F2 _ _ hlg) (fun q hq => Fr.keep F2 _ _ (hpg q hq)) (fun e => not_loc F2 (Fr.keep F2 _ _ hlg) (fun es ep q => by cases q) e) (fun q hq e => not_loc F2 (Fr.keep F2 _ _ (hpg q hq)) (fun es ep q => by cases q) e) rfl rfl rfl F2 N2 ?_ ?_
  · intro i q h tk3 E' hq F3 N3
    obtain ⟨kt, tkk, vt, tvv, eq, hk1, hv1⟩ := hok q (List.mem_of_getElem? hq)
    rw [show q.2.1 = .str kt tkk from by rw [eq], show q.2.2 = .str vt tvv from by rw [eq]] at F3
    k_steps
    refine conv_call X' T' (Fr.keep F3) x kt _ true (Room.deep R (by decide)) hk1 ?_
    intro h4 tk4 k4
    have F4 := Fr.keeps F3 k4
    have N4 := News.grown N3 k4
    clear F3 N3
    k_steps
    refine conv_call X' T' (Fr.keep F4) x vt _ false (Room.deep R (by decide)) hv1 ?_
    intro h5 tk5 k5
    have F5 := Fr.keeps F4 k5
    have N5 := News.grown N4 k5
    clear F4 N4
    k_steps
    exact ForEnd.intro (StaysIn.trans k4 k5)
  · intro h tk3 m₁ _ F3 N3
    clear F2 N2
    k_steps
    show RR _ _
    refine hret _ _ _ _ _ (fun c o hc e => ?_) (News.get N3 (a := dx) (by k_mem))
    by_cases hcx : c = x
    · subst hcx
      rw [hx] at e; cases e
      exact News.get N3 (by k_mem)
    · exact Fr.keep F3 _ _ (ls c o (List.forall_mem_cons.mpr ⟨hcx, List.forall_mem_cons.mpr ⟨hc, List.forall_mem_nil _⟩⟩) e)
theorem Room.under {n m : Nat} {A : Around} {C : Addr} {pos : List Value} {kw : List (Str × Value)} (R : Room n A) (h : m + 1 ≤ n) : Room m (A.under (.builtin "type.__call__" ⟨.ref C :: pos, kw⟩)) :=
  ⟨R.hh, by have := R.hd; show A.depth + 1 + m < 690; (first | exact om2 h this | omega), by have := R.hu; show A.units + 1 + 10 * m < 9900; (first | exact om5 h this | omega)⟩
theorem hdr_call (X : (Mine.hd.heap_39 w.params).In G) (T : Top p loose mean mg mb G) (st : G.StaysIn s.heap)
  (l : Addr) (nn : Nat) (ps : List Pr) (R : Room 7 A) (hl : s.heap.get? l = some (listOf (ps.map fun q => Value.ref q.1).toArray nn)) (hps : ∀ q ∈ ps, s.heap.get? q.1 = some (tupObj q))
  (hok : ∀ q ∈ ps, ∃ kt tk vt tv, q.2 = (.str kt tk, .str vt tv) ∧ (∀ c ∈ kt.cps.toList, 32 ≤ c ∧ c < 127) ∧ (∀ c ∈ vt.cps.toList, 32 ≤ c ∧ c < 127))
  (hret : ∀ (x dx : Addr) (h' : Heap) (tk' : Nat) (hk : Int) (tk : Tok) (n : Nat), s.heap.StaysIn h' → s.heap.get? x = none → s.heap.get? dx = none → (∀ b o, s.heap.get? b = some o → @LT.lt Nat _ b x ∧ @LT.lt Nat _ b dx) → @Ne Nat x dx → h'.get? x = some (instObj 231 dx) → h'.get? dx = some (dictOf [⟨hk, .str (Str.ofString "_headers") tk, .ref l⟩] n) → Q (.ref x) { s with heap := h', toks := tk' }) :
  wpAny (model prog w) A (call (.ref 231) [.ref l]) Q E s := by
  obtain ⟨hh, sg, sd, t, os⟩ := s
  have Xs := X.keeps st
  have up : ∀ b o, hh.get? b = some o → ((hh.push emptyDict).push (instObj 231 hh.objs.size)).get? b = some o := fun b o e => Heap.get?_push_of_some _ (Heap.get?_push_of_some _ e)
  have hsz : (hh.push emptyDict).objs.size = hh.objs.size + 1 := Heap.size_push ..
  have big : ∀ c, hh.objs.size ≤ c → hh.get? c = none := fun c hc => by
    cases e : hh.get? c with
    | none => rfl
    | some o => exact absurd (Heap.lt_size e) (Nat.not_lt.mpr hc)
  have ex : ((hh.push emptyDict).push (instObj 231 hh.objs.size)).get? (hh.objs.size + 1) = some (instObj 231 hh.objs.size) := by
    rw [← hsz]; exact Heap.get?_push_size _ rfl
  have ed : ((hh.push emptyDict).push (instObj 231 hh.objs.size)).get? hh.objs.size = some emptyDict := Heap.get?_push_of_some _ (Heap.get?_push_size _ rfl)
  have hne : @Ne Nat (hh.objs.size + 1) hh.objs.size := by (first | exact om37 | omega)
  have m1 : makesIn (Mine.hd.heap_39 w.params) 231 = true := by k_is
  have m2 : findIn (Mine.hd.heap_39 w.params) (.ref 231) "__init__" = some (some (.ref 125)) := by k_is
  have m3 : isFn (Mine.hd.heap_39 w.params) (.ref 125) = true := by k_is
  refine wpAny_call (make_core (makes_of Xs m1) (looks_findIn Xs m2) (fun self => bind_fn Xs self (beq_iff_eq.mp m3)) (.inl rfl) ?_)
  refine init_code X T (fun b o e => up b o (st b o e)) _ _ l nn ps (Room.under R (by decide)) ex ed (up _ _ hl) (fun q hq => up _ _ (hps q hq)) hok (fresh_of st (big _ (Nat.le_succ _))) (fresh_of st (big _ (Nat.le_refl _))) hne ?_
  intro h' tk' hk tk n kb e
  refine ⟨rfl, hret _ _ h' tk' hk tk n (fun b o e => kb b o (fun q => ?_) (up b o e)) (big _ (Nat.le_succ _)) (big _ (Nat.le_refl _)) (fun b o e => ⟨Nat.lt_succ_of_lt (Heap.lt_size e), Heap.lt_size e⟩) hne (kb _ _ hne ex) e⟩
  rw [q, big _ (Nat.le_refl _)] at e; cases e
end
section
variable {prog : Program} {w : World} {p : Program} {loose : List Str} {mean : ExcName → Option Value} {mg mb : Str → Option Value}
  {A : Around} {G : Heap} {s : Shared} {Q : Value → Shared → Prop} {E : Value → Shared → Prop}
theorem newTuple_own {h₀ : Heap} {L : Addr} {m : Str → Option Value} {news : List (Addr × Obj)} {vs : List Value} (F : Fr h₀ L s.heap m) (N : News h₀ L s.heap news)
    (h : ∀ D h', Fr h₀ L h' m → News h₀ L h' ((D, tup vs) :: news) → (∀ p ∈ news, p.1 < D) → s.heap.StaysIn h' → s.heap.get? D = none → Q (.ref D) { s with heap := h' }) (hz : vs.length ≤ 16777216) :
    wpAny (model prog w) A (newTuple vs) Q E s := by
  refine newTuple_NK F N (fun h' F' N' k => h _ h' F' N' (fun p hp => Heap.lt_size (N p hp).1) k ?_) (by rw [sizeLine_eq]; exact hz)
  cases e : s.heap.get? s.heap.objs.size with
  | none => rfl
  | some o => exact absurd (Heap.lt_size e) (Nat.lt_irrefl _)
noncomputable def lawB : List Stmt := match KD.top 26 with
  | .FunctionDef _ _ b _ _ _ _ _ _ _ => b
  | _ => []
noncomputable def lawS : Scope := match KD.top 26 with
  | .FunctionDef _ _ _ _ _ _ sc _ _ _ => sc
  | _ => default
noncomputable def forBody : List Stmt → List Stmt
  | .For _ _ b _ _ :: _ => b
  | _ => []
theorem forBody_for {a b : Expr} {c d : List Stmt} {e : Pos} {r : List Stmt} : forBody (.For a b c d e :: r) = c := rfl
noncomputable def lawEnv (L' : Addr) : Env := envOfC (Str.ofString "law") lawS L' 281 (.ref 280)
theorem law_at : (Mine.hd.heap_39 w.params).lookup 281 = some ⟨.type "function", none, .func (fnOf (Str.ofString "law") (Str.ofString "law") (match KD.top 26 with | .FunctionDef _ ps _ _ _ _ _ _ _ _ => ps | _ => default) lawB lawS .none .none .none (.str (Str.ofString "law_ul0023_01") 646) none (.ref 280) .none), #[]⟩ := by kernel_rfl
theorem with_lit {K : Frag} {P : Prop} {o : Obj} (h1 : K.lookup 281 = some o) (h : K.lookup 281 = some o → P) : P := h h1
noncomputable def funOf : Option Obj → Option FuncData
  | some ⟨_, _, .func f, _⟩ => some f
  | _ => none
theorem law_is {oc : Value} {od : Option Addr} {n q : Str} {ps : Arguments} {b : List Stmt} {sc : Scope} {dV kV doc pm cdv ct : Value} {an : Option Addr} {osl : Array (Option Value)} (hk : (Mine.hd.heap_39 w.params).lookup 281 = some ⟨oc, od, .func (fnOf n q ps b sc dV kV doc pm an cdv ct), osl⟩) : lawB = b ∧ lawS = sc := by
  have e : fnOf _ _ _ lawB lawS _ _ _ _ _ _ _ = fnOf n q ps b sc dV kV doc pm an cdv ct := Option.some.inj (congrArg funOf (law_at.symm.trans hk))
  exact ⟨FuncBody.stmts.inj (congrArg FuncData.body e), congrArg FuncData.scope e⟩
structure LawNums (fi sp gr s0 s1 s2 wd : Int) : Prop where
  f : -1000000 < fi ∧ fi < 1000000
  s : -1000000 < sp ∧ sp < 1000000
  g : 0 ≤ gr ∧ gr < 1000000
  z0 : 1 ≤ s0 ∧ s0 ≤ 3
  z1 : s0 ≤ s1 ∧ s1 ≤ s0 + 1
  z2 : s1 ≤ s2 ∧ s2 ≤ s1 + 1
  w : wd = 130 ∨ wd = 4402 ∨ wd = 4403
theorem bits_ap {x : Int} (h : -(2 ^ 130) < x) (h2 : x < 2 ^ 130) : Builtin.Int.intBits x ≤ 140 := bits_abs (Int.lt_of_le_of_lt (by decide) h) (Int.lt_of_lt_of_le h2 (by decide))
noncomputable def nameL (gr : Int) : List Str := [apT (gr + 1), apT (gr + 2), apT (gr + 3)]
noncomputable def ownL {α : Type} (z0 z1 z2 : Nat) (a b c : α) : Nat → List α
  | 0 => []
  | 1 => List.replicate z0 a
  | 2 => List.replicate z0 a ++ List.replicate z1 b
  | _ => List.replicate z0 a ++ List.replicate z1 b ++ List.replicate z2 c
theorem ownL_len {α : Type} {z0 z1 z2 : Nat} {a b c : α} (i : Nat) : (ownL z0 z1 z2 a b c i).length ≤ z0 + z1 + z2 := by
  match i with
  | 0 => exact Nat.zero_le _
  | 1 => simp [ownL]; (first | exact om302 | omega)
  | 2 => simp [ownL]
  | i + 3 => simp [ownL]; (first | exact om303 | omega)
inductive RowsAre : List Pr → List (Str × Int) → Prop
  | nil : RowsAre [] []
  | cons {a : Addr} {tk tv : Tok} {k : Str} {x : Int} {ps : List Pr} {rs : List (Str × Int)} (h : RowsAre ps rs) : RowsAre ((a, .str k tk, .str (apT x) tv) :: ps) ((k, x) :: rs)
theorem RowsAre.app {ps qs : List Pr} {rs ts : List (Str × Int)} (h : RowsAre ps rs) (k : RowsAre qs ts) : RowsAre (ps ++ qs) (rs ++ ts) := by
  induction h with
  | nil => exact k
  | cons _ ih => exact .cons ih
theorem RowsAre.len {ps : List Pr} {rs : List (Str × Int)} (h : RowsAre ps rs) : ps.length = rs.length := by
  induction h with
  | nil => rfl
  | cons _ ih => rw [List.length_cons, List.length_cons, ih]
theorem RowsAre.mem {ps : List Pr} {rs : List (Str × Int)} (h : RowsAre ps rs) : ∀ q ∈ ps, ∃ k x tk tv, (k, x) ∈ rs ∧ q.2 = (.str k tk, .str (apT x) tv) := by
  induction h with
  | nil => exact fun q hq => nomatch hq
  | cons _ ih =>
    intro q hq
    rcases List.mem_cons.mp hq with rfl | hq
    · exact ⟨_, _, _, _, .head _, rfl⟩
    · obtain ⟨k, x, tk, tv, h1, h2⟩ := ih q hq
      exact ⟨k, x, tk, tv, .tail _ h1, h2⟩
theorem strs_at : ∀ {vs : List Value} {xs : List Str}, StrsAre vs xs → ∀ (i : Nat) (v : Value), vs[i]? = some v → ∃ x t, v = .str x t ∧ xs[i]? = some x
  | _, _, .nil, i, v, h => by simp at h
  | _, _, .cons _ _ r, 0, v, h => by
    obtain rfl := Option.some.inj h
    exact ⟨_, _, rfl, rfl⟩
  | _, _, .cons _ _ r, i + 1, v, h => strs_at r i v h
theorem strs_repl (x : Str) (t : Tok) : ∀ n : Nat, StrsAre (List.replicate n (Value.str x t)) (List.replicate n x)
  | 0 => .nil
  | n + 1 => .cons _ _ (strs_repl x t n)
theorem strs_own (z0 z1 z2 : Nat) (a b c : Str) (ta tb tc : Tok) : StrsAre (ownL z0 z1 z2 (Value.str a ta) (.str b tb) (.str c tc) 3) (ownL z0 z1 z2 a b c 3) :=
  ((strs_repl a ta z0).append' (strs_repl b tb z1)).append' (strs_repl c tc z2)
noncomputable def rows0 (fi sp : Int) : Nat → List Str → List (Str × Int)
  | _, [] => []
  | n, k :: r => (k, fi + (n : Int) * sp) :: rows0 fi sp (n + 1) r
theorem rows0_get (fi sp : Int) : ∀ (n : Nat) (ks : List Str) (i : Nat) (k : Str), ks[i]? = some k → (rows0 fi sp n ks)[i]? = some (k, fi + ((n + i : Nat) : Int) * sp)
  | n, [], i, k, h => by simp at h
  | n, a :: r, 0, k, h => by
    obtain rfl := Option.some.inj h
    rfl
  | n, a :: r, i + 1, k, h => by
    have := rows0_get fi sp (n + 1) r i k h
    rw [show n + (i + 1) = n + 1 + i from by (first | exact om304 | omega)]
    exact this
theorem rows0_len (fi sp : Int) : ∀ (n : Nat) (ks : List Str), (rows0 fi sp n ks).length = ks.length
  | _, [] => rfl
  | n, _ :: r => by rw [rows0, List.length_cons, List.length_cons, rows0_len fi sp (n + 1) r]
theorem tup_ne {h : Heap} {q : Pr} {c : Addr} {o : Obj} {v : Option Value} (e1 : h.get? q.1 = some (tupObj q)) (e2 : h.get? c = some o) (hd : o.data = .cell v) : q.1 ≠ c := fun e => by
  rw [e, e2] at e1
  rw [Option.some.inj e1] at hd
  cases hd
theorem apT_signs (x : Int) : ∀ c ∈ (apT x).cps.toList, 32 ≤ c ∧ c < 127 := fun c hc => by
  rw [apT] at hc
  rcases List.mem_append.mp hc with hc | hc
  · split at hc
    · rw [List.mem_singleton.mp hc]; (first | exact om305 | omega)
    · cases hc
  · obtain ⟨z, hz, rfl⟩ := List.mem_map.mp hc
    have := apL_in x.natAbs z hz
    (first | exact om306 this.1 this.2 | omega)
theorem mul_bd {i : Nat} {sp : Int} (hi : i ≤ 12) (h1 : -1000000 < sp) (h2 : sp < 1000000) : -12000000 ≤ (i : Int) * sp ∧ (i : Int) * sp ≤ 12000000 := by
  have a := Int.mul_le_mul_of_nonneg_left (show sp ≤ 1000000 by (first | exact om307 h2 | omega)) (show (0 : Int) ≤ (i : Int) by (first | exact om100 | omega))
  have b := Int.mul_le_mul_of_nonneg_left (show -1000000 ≤ sp by (first | exact om308 h1 | omega)) (show (0 : Int) ≤ (i : Int) by (first | exact om100 | omega))
  (first | exact om309 b a hi | omega)
structure LawC (g : Heap) (L' : Addr) (h : Heap) (m : Str → Option Value) (fi sp gr s0 s1 s2 wd : Int) (ps : List Pr) (rows : List (Str × Int)) (x dx lx ln lz lk : Addr) : Prop where
  nums : LawNums fi sp gr s0 s1 s2 wd
  F : Fr g L' h m
  mw : ∃ t, m (Str.ofString "width") = some (.int wd t)
  ms : m (Str.ofString "struck") = some (.ref lk)
  rows : RowsAre ps rows
  led : ∃ o2 o3 o4 o5 o6 o7 o8 o9 o10 t1 t2 t3 ts0 ts1 ts2 kn kz kx hk tk n, News g L' h ([(lk, listOf #[] 0), (x, instObj 231 dx), (dx, dictOf [⟨hk, .str (Str.ofString "_headers") tk, .ref lx⟩] n), (lx, listOf (ps.map fun q => Value.ref q.1).toArray kx), (ln, listOf #[Value.str (apT (gr + 1)) t1, .str (apT (gr + 2)) t2, .str (apT (gr + 3)) t3] kn), (lz, listOf #[.int s0 ts0, .int s1 ts1, .int s2 ts2] kz),
      (L' + 1 + 1, o2), (L' + 1 + 1 + 1, o3), (L' + 1 + 1 + 1 + 1, o4), (L' + 1 + 1 + 1 + 1 + 1, o5), (L' + 1 + 1 + 1 + 1 + 1 + 1, o6), (L' + 1 + 1 + 1 + 1 + 1 + 1 + 1, o7), (L' + 1 + 1 + 1 + 1 + 1 + 1 + 1 + 1, o8), (L' + 1 + 1 + 1 + 1 + 1 + 1 + 1 + 1 + 1, o9), (L' + 1 + 1 + 1 + 1 + 1 + 1 + 1 + 1 + 1 + 1, o10)] ++ ps.map tupE) ∧
    (∃ t, o2.data = .cell (some (.int fi t))) ∧ (∃ t, o3.data = .cell (some (.int sp t))) ∧ (∃ t, o4.data = .cell (some (.int gr t))) ∧ o5.data = .cell (some (.ref lz)) ∧ o6.data = .cell none ∧ o7.data = .cell (some (.ref ln)) ∧ o8.data = .cell (some (.ref x)) ∧ o9.data = .cell none ∧ o10.data = .cell none
  gt : @LT.lt Nat _ (L' + 10) lz ∧ @LT.lt Nat _ lz ln ∧ @LT.lt Nat _ ln lx ∧ @LT.lt Nat _ lx x ∧ @LT.lt Nat _ lx dx ∧ @LT.lt Nat _ x lk ∧ @LT.lt Nat _ dx lk ∧ @Ne Nat x dx
theorem own_mem {α : Type} {z0 z1 z2 : Nat} {a b c k : α} (h : k ∈ ownL z0 z1 z2 a b c 3) : k = a ∨ k = b ∨ k = c := by
  rcases List.mem_append.mp h with h | h
  · rcases List.mem_append.mp h with h | h
    · exact .inl (List.eq_of_mem_replicate h)
    · exact .inr (.inl (List.eq_of_mem_replicate h))
  · exact .inr (.inr (List.eq_of_mem_replicate h))
theorem rows0_mem (fi sp : Int) : ∀ (n : Nat) (ks : List Str) (k : Str) (x : Int), (k, x) ∈ rows0 fi sp n ks → k ∈ ks
  | _, [], k, x, h => nomatch h
  | n, a :: r, k, x, h => by
    rcases List.mem_cons.mp h with h | h
    · cases h; exact .head _
    · exact .tail _ (rows0_mem fi sp (n + 1) r k x h)
end
section
theorem resetLA1 : True := by
  w_top off
  exact trivial
variable {prog : Program} {w : World} {p : Program} {loose : List Str} {mean : ExcName → Option Value} {mg mb : Str → Option Value}
  {A : Around} {G : Heap} {s : Shared} {Q : Value → Shared → Prop} {E : Value → Shared → Prop}
local macro_rules | `(tactic| walk_at "call type:enumerate") => `(tactic| refine Halt.go ?_)
local macro_rules | `(tactic| walk_at "execs cons") => `(tactic| with_reducible refine haltN "first" ?_)
noncomputable def pick4 (ns : List Int) (i : Nat) : Int := (pickNums ns (some (i : Int)) (some 64) (some 4)).sum
noncomputable def cellL (ns : List Int) : List Int := [3 + pick4 ns 0, 2 + pick4 ns 1, 14 + pick4 ns 2, 10 + pick4 ns 3]
theorem law_A1 {g : Heap} {L' : Addr} {QQ : Flow → Shared → Prop} {m : Str → Option Value}
  (X' : (Mine.hd.heap_39 w.params).In g) (T' : Top p loose mean mg mb g) (R : Room 128 A) (F : Fr g L' s.heap m) {l : Addr} {vs : List Value} {ns : List Int} (hLg : g.IsList l vs.toArray) (hi : IntsAre vs ns) (hlen : ns.length ≤ 63) {o1 : Obj} {tail : List (Addr × Obj)}
  (d1 : o1.data = .cell (some (.ref l))) (N : News g L' s.heap ((L' + 1, o1) :: tail))
  (hC : ∀ (h : Heap) (tk : Nat) (D : Addr) (k : Nat) (c0 c1 c2 c3 : Int) (t0 t1 t2 t3 : Tok), Fr g L' h (fun y => if y = Str.ofString "cells" then some (.ref D) else m y) → News g L' h ((D, listOf #[Value.int c0 t0, .int c1 t1, .int c2 t2, .int c3 t3] k) :: (L' + 1, o1) :: tail) → (∀ p ∈ tail, @LT.lt Nat _ p.1 D) →
    wpAny (model prog w) (A.deeper (lawEnv L')) (execs (lawB.drop 1) (lawEnv L')) QQ NoE { s with heap := h, toks := tk }) :
  wpAny (model prog w) (A.deeper (lawEnv L')) (execs (lawB.drop 0) (lawEnv L')) QQ NoE s := by
  refine' with_lit (K := Mine.hd.heap_39 w.params) ?k6 ?_
  case k6 => k_is
  intro hk
  obtain ⟨hlb, hls⟩ := law_is hk
  clear hk
  simp only [lawEnv, hlb, hls] at hC ⊢
  clear hlb hls
  obtain ⟨ahd, dp, fr, gd, un⟩ := A
  obtain rfl : ahd = none := R.hh
  simp only [List.drop_succ_cons, List.drop_zero] at hC ⊢
  k_steps
  rename News _ _ _ _ => N1
  rename Fr _ _ _ _ => F1
  have hc0 := News.get N1 (a := L' + 1) (by k_mem)
  refine tmp_enum rfl (News.get N1 (by k_mem)) (by decide) rfl rfl rfl F1 N1 (fun i ys => IntsAre ys ((cellL ns).take i)) ?_ .nil ?_ ?_
  · intro i ys hj
    rw [hj.length, List.length_take]
    exact Nat.le_trans (Nat.min_le_right _ _) (show 4 ≤ 16777216 by decide)
  · rintro C D w1 w2 hw1 hw1C hw2 hw2C hw1D hw2D hDC i t v2 ys k h tk mC E' b1 b2 hv hJ F3 N3
    have X3 := X'.keeps F1.keep
    have T3 := T'.keeps F1.keep
    obtain ⟨c, tc, rfl, hc⟩ := IntsAre.at (ns := [3, 2, 14, 10]) (.cons 3 _ (.cons 2 _ (.cons 14 _ (.cons 10 _ .nil)))) i v2 hv
    have hL3 : Heap.IsList _ l vs.toArray := hLg.at fun o e => F1.keep _ _ e
    k_steps
    rename News _ _ _ _ => N4
    rename Fr _ _ _ _ => F4
    refine LSm.sum_ints F4 N4 rfl (vs := (slicePick vs.toArray (some (i : Int)) (some 64) (some 4)).toList) ⟨_, News.get N4 (.head _), rfl, _, by rw [Array.toArray_toList]⟩ (hi.pick _ _ _) ?_
    intro h5 tk5 t5 F5 N5
    clear F4 N4
    k_steps
    refine TmpEnd.intro F5 (News.sub N5 fun p hp => .tail _ hp) ?_
    have e : (cellL ns)[i]? = some (c + pick4 ns i) := by
      match i, hc with
      | 0, hc => cases hc; rfl
      | 1, hc => cases hc; rfl
      | 2, hc => cases hc; rfl
      | 3, hc => cases hc; rfl
      | i + 4, hc => cases hc
    rw [List.take_add_one, e]
    exact hJ.append (.cons _ _ .nil)
  · (refine' end_local ?ea ?eb ?ec ?_; (case ea => rfl); (case eb => rfl); (case ec => rfl))
    rintro ys nw k D h tk2 ⟨rfl, hJ⟩ off F3 N3 lt
    have hJ4 : IntsAre ys (cellL ns) := hJ
    obtain ⟨c0, c1, c2, c3, t0, t1, t2, t3, rfl⟩ : ∃ c0 c1 c2 c3 t0 t1 t2 t3, ys = [Value.int c0 t0, .int c1 t1, .int c2 t2, .int c3 t3] := by
      cases hJ4 with | cons _ t0 r => cases r with | cons _ t1 r => cases r with | cons _ t2 r => cases r with | cons _ t3 r => cases r with | nil => exact ⟨_, _, _, _, _, _, _, _, rfl⟩
    have lt' : ∀ p ∈ tail, @LT.lt Nat _ p.1 D := fun p hp => lt p (by repeat (first | exact hp | refine List.Mem.tail _ ?_))
    clear hJ hJ4 F1 N1 hc0
    replace N3 := News.sub N3 (ms := (D, listOf (List.toArray [Value.int c0 t0, .int c1 t1, .int c2 t2, .int c3 t3]) k) :: (L' + 1, o1) :: tail) (by
      repeat (refine List.forall_mem_cons.mpr ⟨by k_mem, ?_⟩)
      intro p hp
      repeat (first | exact hp | refine List.Mem.tail _ ?_))
    clear lt
    k_steps
    rename News _ _ _ _ => NZ
    rename Fr _ _ _ _ => FZ
    exact hC _ _ D k c0 c1 c2 c3 t0 t1 t2 t3 FZ NZ lt'
end
section
open PyProof.Rows in
theorem low_cps {x : Str} (h : ∀ c ∈ x.cps.toList, c < 128) : (PySem.Txt.lower x).cps.toList = x.cps.toList.map lo1 := by
  rw [lower_ascii h]; simp
theorem apT_pos_cps {n : Int} (h : 0 ≤ n) : (apT n).cps.toList = (apL n.natAbs).map Int.toNat := by
  rw [apT, if_neg (by (first | exact om219 h | omega))]; rfl
theorem apT_pos_in {n : Int} (h : 0 ≤ n) : ∀ c ∈ (apT n).cps.toList, 65 ≤ c ∧ c < 81 := fun c hc => by
  rw [apT_pos_cps h] at hc
  obtain ⟨z, hz, rfl⟩ := List.mem_map.mp hc
  have := apL_in n.natAbs z hz
  (first | exact om538 this.1 this.2 | omega)
open PyProof.Rows in
theorem lo1_up {c : Nat} (h1 : 65 ≤ c) (h2 : c < 81) : lo1 c = c + 32 := by
  have : ∀ c, c < 81 → 65 ≤ c → lo1 c = c + 32 := by decide
  exact this c h2 h1
open PyProof.Rows in
theorem lo1_twice : ∀ c, c < 128 → lo1 (lo1 c) = lo1 c := by decide +kernel
open PyProof.Rows in
theorem lo1_lt : ∀ c, c < 127 → 32 ≤ c → 32 ≤ lo1 c ∧ lo1 c < 127 := by decide +kernel
theorem str_ext {x y : Str} (h : x.cps.toList = y.cps.toList) : x = y := by
  obtain ⟨a⟩ := x
  obtain ⟨b⟩ := y
  congr 1
  exact Array.toList_inj.mp h
noncomputable def NameOf (gr : Int) (j : Nat) (k : Str) : Prop := k = apT (gr + (j : Int) + 1) ∨ k = PySem.Txt.lower (apT (gr + (j : Int) + 1))
theorem NameOf.low {gr : Int} {j : Nat} {k : Str} (hg : 0 ≤ gr) (h : NameOf gr j k) : PySem.Txt.lower k = PySem.Txt.lower (apT (gr + (j : Int) + 1)) := by
  rcases h with rfl | rfl
  · rfl
  · have h0 := apT_pos_in (n := gr + (j : Int) + 1) (by (first | exact om539 hg | omega))
    have h1 : ∀ c ∈ (apT (gr + (j : Int) + 1)).cps.toList, c < 128 := fun c hc => by have := h0 c hc; (first | exact om540 this.2 | omega)
    apply str_ext
    rw [low_cps, low_cps h1, List.map_map]
    · apply List.map_congr_left
      intro c hc
      exact lo1_twice c (h1 c hc)
    · rw [low_cps h1]
      intro c hc
      obtain ⟨d, hd, rfl⟩ := List.mem_map.mp hc
      have := h0 d hd
      rw [lo1_up this.1 this.2]; (first | exact om541 this.2 | omega)
theorem low_inj {n m : Int} (hn : 0 ≤ n) (hm : 0 ≤ m) (e : PySem.Txt.lower (apT n) = PySem.Txt.lower (apT m)) : n = m := by
  have h1 := apT_pos_in hn
  have h2 := apT_pos_in hm
  have e2 := congrArg (fun z : Str => z.cps.toList) e
  replace e2 : (PySem.Txt.lower (apT n)).cps.toList = (PySem.Txt.lower (apT m)).cps.toList := e2
  rw [low_cps (fun c hc => by have := h1 c hc; (first | exact om540 this.2 | omega)), low_cps (fun c hc => by have := h2 c hc; (first | exact om540 this.2 | omega))] at e2
  have e3 : (apT n).cps.toList = (apT m).cps.toList := by
    have k : ∀ {l : List Nat}, (∀ c ∈ l, 65 ≤ c ∧ c < 81) → (l.map PyProof.Rows.lo1).map (· - 32) = l := fun {l} h => by
      rw [List.map_map]
      conv => rhs; rw [← List.map_id l]
      apply List.map_congr_left
      intro c hc
      have := h c hc
      show PyProof.Rows.lo1 c - 32 = c
      rw [lo1_up this.1 this.2]; (first | exact om542 | omega)
    rw [← k h1, ← k h2, e2]
  have e4 := told_val n
  rw [e3, told_val m] at e4
  (first | exact om543 e4 hn hm | omega)
theorem NameOf.eq {gr : Int} {j j' : Nat} {k k' : Str} (hg : 0 ≤ gr) (h : NameOf gr j k) (h' : NameOf gr j' k') : (PySem.Txt.lower k == PySem.Txt.lower k') = decide (j = j') := by
  rw [h.low hg, h'.low hg]
  by_cases e : j = j'
  · subst e; simp
  · rw [decide_eq_false e]
    have : PySem.Txt.lower (apT (gr + (j : Int) + 1)) ≠ PySem.Txt.lower (apT (gr + (j' : Int) + 1)) := fun q => by
      have := low_inj (by (first | exact om539 hg | omega)) (by (first | exact om539 hg | omega)) q
      (first | exact om544 this e | omega)
    simpa using this
theorem NameOf.signs {gr : Int} {j : Nat} {k : Str} (hg : 0 ≤ gr) (h : NameOf gr j k) : (∀ c ∈ k.cps.toList, 32 ≤ c ∧ c < 127) ∧ (∀ c ∈ (PySem.Txt.lower k).cps.toList, 32 ≤ c ∧ c < 127) := by
  have h0 := apT_signs (gr + (j : Int) + 1)
  have hl : ∀ c ∈ (PySem.Txt.lower (apT (gr + (j : Int) + 1))).cps.toList, 32 ≤ c ∧ c < 127 := fun c hc => by
    rw [low_cps (fun c hc => by have := h0 c hc; (first | exact om545 this.2 | omega))] at hc
    obtain ⟨d, hd, rfl⟩ := List.mem_map.mp hc
    exact lo1_lt d (h0 d hd).2 (h0 d hd).1
  rw [h.low hg]
  refine ⟨?_, hl⟩
  rcases h with rfl | rfl
  · exact h0
  · exact hl
theorem NameOf.len {gr : Int} {j : Nat} {k : Str} (hg : 0 ≤ gr) (hg2 : gr < 1000000) (hj : j < 3) (h : NameOf gr j k) : k.length ≤ 36 := by
  have h0 := apT_signs (gr + (j : Int) + 1)
  have h1 := apT_len (x := gr + (j : Int) + 1) (bits_ap (by (first | exact om546 hg | omega)) (by (first | exact om547 hg2 hj | omega)))
  have e : k.length = k.cps.toList.length := by simp [Str.length]
  rw [e]
  rcases h with rfl | rfl
  · exact h1
  · rw [low_cps (fun c hc => by have := h0 c hc; (first | exact om545 this.2 | omega)), List.length_map]; exact h1
noncomputable def struckOf (t : Str) (rows : List (Str × Int)) : List (Str × Int) := rows.filter fun r => PySem.Txt.lower r.1 == PySem.Txt.lower t
noncomputable def strikeR (t : Str) (rows : List (Str × Int)) : List (Str × Int) :=
  (rows.filter fun r => PySem.Txt.lower r.1 != PySem.Txt.lower t) ++ (struckOf t rows).dropLast.map fun r => (t, r.2)
noncomputable def lastR (t : Str) (rows : List (Str × Int)) : List Int := ((struckOf t rows).map (·.2)).drop ((struckOf t rows).length - 1)
theorem rows_rest {ps : List Pr} {rows : List (Str × Int)} (t : Str) (h : RowsAre ps rows) : RowsAre (rest t ps) (rows.filter fun r => PySem.Txt.lower r.1 != PySem.Txt.lower t) := by
  induction h with
  | nil => exact .nil
  | @cons a tk tv k x ps rs h ih =>
    rw [rest, List.filter_cons, List.filter_cons]
    show RowsAre (if (PySem.Txt.lower k != PySem.Txt.lower t) = true then _ else _) (if (PySem.Txt.lower k != PySem.Txt.lower t) = true then _ else _)
    split
    · exact .cons ih
    · exact ih
theorem rows_gotten {ps : List Pr} {rows : List (Str × Int)} (t : Str) (h : RowsAre ps rows) : StrsAre (gotten t ps) ((struckOf t rows).map fun r => apT r.2) := by
  induction h with
  | nil => exact .nil
  | @cons a tk tv k x ps rs h ih =>
    rw [gotten, struckOf, List.filter_cons, List.filter_cons]
    show StrsAre (List.map _ (if (PySem.Txt.lower k == PySem.Txt.lower t) = true then _ else _)) (List.map _ (if (PySem.Txt.lower k == PySem.Txt.lower t) = true then _ else _))
    split
    · exact .cons _ _ ih
    · exact ih
theorem strs_take : ∀ {vs : List Value} {xs : List Str}, StrsAre vs xs → ∀ n : Nat, StrsAre (vs.take n) (xs.take n)
  | _, _, _, 0 => .nil
  | _, _, .nil, _ + 1 => .nil
  | _, _, .cons _ _ h, n + 1 => .cons _ _ (strs_take h n)
theorem strs_drop : ∀ {vs : List Value} {xs : List Str}, StrsAre vs xs → ∀ n : Nat, StrsAre (vs.drop n) (xs.drop n)
  | _, _, h, 0 => h
  | _, _, .nil, _ + 1 => .nil
  | _, _, .cons _ _ h, n + 1 => strs_drop h n
theorem took_rows {t : Str} {vs : List Value} {adds : List Pr} (h : Took t vs adds) : ∀ {ns : List Int}, StrsAre vs (ns.map apT) → RowsAre adds (ns.map fun x => (t, x)) := by
  induction h with
  | nil =>
    intro ns hs
    cases ns with
    | nil => exact .nil
    | cons n r => cases hs
  | cons _ ih =>
    intro ns hs
    cases ns with
    | nil => cases hs
    | cons n r =>
      cases hs with
      | cons _ _ hs => exact .cons (ih hs)
theorem rows_strike {t : Str} {ps adds : List Pr} {rows : List (Str × Int)} (h : RowsAre ps rows) (hT : Took t (gotten t ps).dropLast adds) : RowsAre (rest t ps ++ adds) (strikeR t rows) := by
  refine (rows_rest t h).app ?_
  have hg := rows_gotten t h
  have h1 : StrsAre (gotten t ps).dropLast (((struckOf t rows).dropLast.map (·.2)).map apT) := by
    rw [List.dropLast_eq_take, hg.length, List.length_map]
    have := strs_take hg ((struckOf t rows).length - 1)
    rw [List.dropLast_eq_take, List.map_map, List.map_take]
    exact this
  have := took_rows hT h1
  rw [List.map_map] at this
  exact this
theorem rows_last {t : Str} {ps : List Pr} {rows : List (Str × Int)} (h : RowsAre ps rows) : StrsAre ((gotten t ps).drop ((gotten t ps).length - 1)) ((lastR t rows).map apT) := by
  have hg := rows_gotten t h
  rw [hg.length, List.length_map, lastR, List.map_drop, List.map_map]
  exact strs_drop hg _
noncomputable def strikes : List Str → List (Str × Int) → List (Str × Int)
  | [], rows => rows
  | a :: r, rows => strikes r (strikeR a rows)
noncomputable def strucks : List Str → List (Str × Int) → List (List Int)
  | [], _ => []
  | a :: r, rows => lastR a rows :: strucks r (strikeR a rows)
theorem strikes_app : ∀ (a b : List Str) (rows : List (Str × Int)), strikes (a ++ b) rows = strikes b (strikes a rows)
  | [], _, _ => rfl
  | _ :: r, b, rows => strikes_app r b _
theorem strucks_app : ∀ (a b : List Str) (rows : List (Str × Int)), strucks (a ++ b) rows = strucks a rows ++ strucks b (strikes a rows)
  | [], _, _ => rfl
  | _ :: r, b, rows => by rw [List.cons_append, strucks, strucks_app r b]; rfl
noncomputable def askedL (gr : Int) (i : Nat) : List Str := if i % 2 = 0 then (nameL gr).map PySem.Txt.lower else nameL gr
end
section
local macro_rules | `(tactic| walk_at "call type:enumerate") => `(tactic| refine Halt.go ?_)
local macro_rules | `(tactic| walk_at "newTuple") => `(tactic| (k_dflt (refine' newTuple_own ?F_I ?N_I ?_ ?hz_I; (case F_I | N_I => assumption); (case hz_I => (simp))); intro _ _ _ _ l1 _ _; (try k_lt l1); revert l1; intro _))
local macro_rules | `(tactic| walk_at "eval Name") => `(tactic| ((with_reducible show wpAny _ _ (eval (Expr.Name (Str.ofString "range") _) (compEnvC _ _ _ _)) _ _ _); k_dflt
  (refine' nameV_B (v := Value.type "range") ?F_J ?X_J ?T_J ?e_J ?v_J ?n_J ?_ ?g_J ?b_J ?k_J ?x_J ?d_J; (case k_J | x_J => rfl); (case F_J | X_J | T_J => assumption); (case e_J => k_is); (case v_J => rfl); (case n_J => decide); (case g_J | b_J => rfl); (case d_J => decide); k_whole)))
local macro_rules | `(tactic| k_all) => `(tactic| with_reducible assumption)
section
theorem resetLA2 : True := by
  w_top off
  exact trivial
variable {prog : Program} {w : World} {p : Program} {loose : List Str} {mean : ExcName → Option Value} {mg mb : Str → Option Value}
  {A : Around} {G : Heap} {s : Shared} {Q : Value → Shared → Prop} {E : Value → Shared → Prop}
local macro_rules | `(tactic| walk_at "subscriptTail") => `(tactic| with_reducible refine haltSub ?_)
local macro_rules | `(tactic| walk_at "call type:enumerate") => `(tactic| refine Halt.go ?_)
local macro_rules | `(tactic| walk_at "execs cons") => `(tactic| with_reducible refine haltN "names" ?_)
local macro_rules | `(tactic| k_all) => `(tactic| first | with_reducible assumption | (refine List.forall_mem_cons.mpr ⟨by k_ne, ?_⟩; k_all))
theorem sizes_shape {g h : Heap} {L l : Addr} {a0 a1 a2 : Int} {t0 t1 t2 : Tok} {n : Nat} {rest : List (Addr × Obj)} (N : News g L h ((l, listOf ((#[Value.int a0 t0].push (.int a1 t1)).push (.int a2 t2)) n) :: rest)) :
    ∃ s0 s1 s2 t0 t1 t2 n, News g L h ((l, listOf #[Value.int s0 t0, .int s1 t1, .int s2 t2] n) :: rest) ∧ s0 = a0 ∧ s1 = a1 ∧ s2 = a2 := ⟨_, _, _, _, _, _, _, N, rfl, rfl, rfl⟩
theorem item3 {es : List Expr} {pe : Pos} {slice : Expr} {l : Addr} {n : Nat} {k a b c : Int} {u ta tb tc : Tok} {Q : Value → Shared → Prop} (hl : s.heap.get? l = some (listOf #[.int a ta, .int b tb, .int c tc] n)) (h0 : 0 ≤ k) (h3 : k < 3)
    (h : ∀ t, Q (.int (if k = 0 then a else if k = 1 then b else c) t) s)
    (hs : subscripted slice false (.ref l) (.int k u) = operate [.ref l, .int k u] (getItem (.ref l) (.int k u))) :
    wpAny (model prog w) A (subscriptTail (.List es pe) slice (.ref l) (.int k u)) Q E s := by
  have hL : s.heap.IsList l #[.int a ta, .int b tb, .int c tc] := ⟨_, hl, rfl, _, rfl⟩
  obtain rfl | rfl | rfl : k = 0 ∨ k = 1 ∨ k = 2 := by (first | exact om232 h0 h3 | omega)
  · exact tail_any hL.typeIs slot_list_getitem.lookup (wpAny_getItem_list hL h0 (by decide) (x := .int a ta) rfl (h ta)) hs
  · exact tail_any hL.typeIs slot_list_getitem.lookup (wpAny_getItem_list hL h0 (by decide) (x := .int b tb) rfl (h tb)) hs
  · exact tail_any hL.typeIs slot_list_getitem.lookup (wpAny_getItem_list hL h0 (by decide) (x := .int c tc) rfl (h tc)) hs
theorem law_A2 {g : Heap} {L' : Addr} {QQ : Flow → Shared → Prop} {m : Str → Option Value}
  (X' : (Mine.hd.heap_39 w.params).In g) (T' : Top p loose mean mg mb g) (R : Room 128 A) (F : Fr g L' s.heap m) {D : Addr} {k : Nat} {c0 c1 c2 c3 : Int} {t0 t1 t2 t3 : Tok} {o2 o3 o4 o5 : Obj} {tail : List (Addr × Obj)}
  (mD : m (Str.ofString "cells") = some (.ref D)) (d2 : o2.data = .cell none) (d3 : o3.data = .cell none) (d4 : o4.data = .cell none) (d5 : o5.data = .cell none)
  (off2 : ∀ p ∈ tail, p.1 ≠ L' + 1 + 1) (off3 : ∀ p ∈ tail, p.1 ≠ L' + 1 + 1 + 1) (off4 : ∀ p ∈ tail, p.1 ≠ L' + 1 + 1 + 1 + 1) (off5 : ∀ p ∈ tail, p.1 ≠ L' + 1 + 1 + 1 + 1 + 1) (gD : @LT.lt Nat _ (L' + 10) D)
  (N : News g L' s.heap ((D, listOf #[Value.int c0 t0, .int c1 t1, .int c2 t2, .int c3 t3] k) :: (L' + 1 + 1, o2) :: (L' + 1 + 1 + 1, o3) :: (L' + 1 + 1 + 1 + 1, o4) :: (L' + 1 + 1 + 1 + 1 + 1, o5) :: tail))
  (hC : ∀ (h : Heap) (tk : Nat) (m' : Str → Option Value) (lz : Addr) (kz wn : Nat) (fi sp gr s0 s1 s2 : Int) (tf tp tg tw ts0 ts1 ts2 : Tok) (o2 o3 o4 o5 : Obj), Fr g L' h m' → m' (Str.ofString "width") = some (.int (wn : Int) tw) → LawNums fi sp gr s0 s1 s2 (wn : Int) →
    o2.data = .cell (some (.int fi tf)) → o3.data = .cell (some (.int sp tp)) → o4.data = .cell (some (.int gr tg)) → o5.data = .cell (some (.ref lz)) → News g L' h ((lz, listOf #[.int s0 ts0, .int s1 ts1, .int s2 ts2] kz) :: (L' + 1 + 1, o2) :: (L' + 1 + 1 + 1, o3) :: (L' + 1 + 1 + 1 + 1, o4) :: (L' + 1 + 1 + 1 + 1 + 1, o5) :: tail) →
    @LT.lt Nat _ (L' + 10) lz → wpAny (model prog w) (A.deeper (lawEnv L')) (execs (lawB.drop 9) (lawEnv L')) QQ NoE { s with heap := h, toks := tk }) :
  wpAny (model prog w) (A.deeper (lawEnv L')) (execs (lawB.drop 1) (lawEnv L')) QQ NoE s := by
  refine' with_lit (K := Mine.hd.heap_39 w.params) ?k6 ?_
  case k6 => k_is
  intro hk
  obtain ⟨hlb, hls⟩ := law_is hk
  clear hk
  simp only [lawEnv, hlb, hls] at hC ⊢
  clear hlb hls
  obtain ⟨ahd, dp, fr, gd, un⟩ := A
  obtain rfl : ahd = none := R.hh
  simp only [List.drop_succ_cons, List.drop_zero] at hC ⊢
  have F3 := Fr.see F mD
  clear F
  k_steps
  refine capped_call X' T' (Fr.keep (by assumption)) c0 _ (Room.deep R (by decide)) ?_
  intro ta ha tka ka
  have Fa := Fr.keeps (by assumption) ka
  have Na := News.grown (by assumption) ka
  (try clear F3 N3)
  k_steps
  refine capped_call X' T' (Fr.keep (by assumption)) c1 _ (Room.deep R (by decide)) ?_
  intro tb hb tkb kb
  have Fb := Fr.keeps (by assumption) kb
  have Nb := News.grown (by assumption) kb
  (try clear Fa Na)
  k_steps
  refine capped_call X' T' (Fr.keep (by assumption)) c2 _ (Room.deep R (by decide)) ?_
  intro tc hc tkc kc
  have Fc := Fr.keeps (by assumption) kc
  have Nc := News.grown (by assumption) kc
  (try clear Fb Nb)
  k_steps
  rename News _ _ _ _ => N5
  rename Fr _ _ _ _ => F5
  refine item3 (News.get N5 (.head _)) (Int.fmod_nonneg_of_pos _ (by decide)) (Int.fmod_lt_of_pos _ (by decide)) ?_ (by with_unfolding_all rfl)
  intro tw
  k_steps
  rename News _ _ _ _ => N6
  rename Fr _ _ _ _ => F6
  rename _ = Data.cell (some (Value.int (capped c0) ta)) => e2
  rename _ = Data.cell (some (Value.int (capped c1) tb)) => e3
  rename _ = Data.cell (some (Value.int (if capped c2 < 0 then -capped c2 else capped c2) _)) => e4
  obtain ⟨s0, s1, s2, ts0, ts1, ts2, kz, N7, q0, q1, q2⟩ := sizes_shape N6
  clear N6
  have q0' : s0 = 1 + c3.fmod 3 := q0
  have q1' : s1 = 1 + c3.fmod 3 + (c3.fdiv 3).fmod 2 := q1
  have q2' : s2 = 1 + c3.fmod 3 + (c3.fdiv 3).fmod 2 + (c3.fdiv 6).fmod 2 := q2
  have r0 := Int.fmod_nonneg_of_pos c3 (show (0 : Int) < 3 by decide)
  have r0' := Int.fmod_lt_of_pos c3 (show (0 : Int) < 3 by decide)
  have r1 := Int.fmod_nonneg_of_pos (c3.fdiv 3) (show (0 : Int) < 2 by decide)
  have r1' := Int.fmod_lt_of_pos (c3.fdiv 3) (show (0 : Int) < 2 by decide)
  have r2 := Int.fmod_nonneg_of_pos (c3.fdiv 6) (show (0 : Int) < 2 by decide)
  have r2' := Int.fmod_lt_of_pos (c3.fdiv 6) (show (0 : Int) < 2 by decide)
  obtain ⟨wn, hwn, hww⟩ : ∃ wn : Nat, (if (c3.fdiv 12).fmod 3 = 0 then (130 : Int) else if (c3.fdiv 12).fmod 3 = 1 then 4402 else 4403) = (wn : Int) ∧ (((wn : Nat) : Int) = 130 ∨ ((wn : Nat) : Int) = 4402 ∨ ((wn : Nat) : Int) = 4403) := by
    split
    · exact ⟨130, rfl, .inl rfl⟩
    · split
      · exact ⟨4402, rfl, .inr (.inl rfl)⟩
      · exact ⟨4403, rfl, .inr (.inr rfl)⟩
  have nums : LawNums (capped c0) (capped c1) (if capped c2 < 0 then -capped c2 else capped c2) s0 s1 s2 (wn : Int) := by
    have a0 := capped_range c0
    have a1 := capped_range c1
    have a2 := capped_range c2
    refine ⟨a0, a1, ?_, ?_, ?_, ?_, hww⟩
    · split <;> (first | exact om296 a2.1 (by walk_at "my asm") | exact om297 a2.2 (by walk_at "my asm") | omega)
    · (first | exact om298 q0' r0 r0' | omega)
    · (first | exact om299 q0' q1' r1 r1' | omega)
    · (first | exact om300 q1' q2' r2 r2' | omega)
  refine hC _ _ _ _ kz wn _ _ _ s0 s1 s2 _ _ _ ?tw ts0 ts1 ts2 _ _ _ _ F6 ?mw nums e2 e3 e4 (by assumption) (News.sub N7 ?sb) ?lz
  case mw => rw [← hwn]; rfl
  case sb =>
    repeat (refine List.forall_mem_cons.mpr ⟨by k_mem, ?_⟩)
    intro p hp
    repeat (first | exact hp | refine List.Mem.tail _ ?_)
  case lz => exact Nat.lt_trans gD (by walk_at "my asm")
end
section
theorem resetLB1 : True := by
  w_top off
  exact trivial
variable {prog : Program} {w : World} {p : Program} {loose : List Str} {mean : ExcName → Option Value} {mg mb : Str → Option Value}
  {A : Around} {G : Heap} {s : Shared} {Q : Value → Shared → Prop} {E : Value → Shared → Prop}
local macro_rules | `(tactic| walk_at "execs cons") => `(tactic| with_reducible refine haltN "owners" ?_)
theorem name_at {gr c : Int} {i : Nat} (hc : [(1 : Int), 2, 3][i]? = some c) : (nameL gr)[i]? = some (apT (gr + c)) := by
  match i, hc with
  | 0, hc => cases hc; rfl
  | 1, hc => cases hc; rfl
  | 2, hc => cases hc; rfl
  | i + 3, hc => cases hc
theorem law_B1 {g : Heap} {L' : Addr} {QQ : Flow → Shared → Prop} {m : Str → Option Value}
  (X' : (Mine.hd.heap_39 w.params).In g) (T' : Top p loose mean mg mb g) (R : Room 128 A) (F : Fr g L' s.heap m)
  {gr : Int} (hg : 0 ≤ gr ∧ gr < 1000000) {tg : Tok} {o4 o7 : Obj} {tail : List (Addr × Obj)}
  (d4 : o4.data = .cell (some (.int gr tg))) (d7 : o7.data = .cell none) (off : ∀ p ∈ tail, p.1 ≠ L' + 1 + 1 + 1 + 1 + 1 + 1 + 1)
  (N : News g L' s.heap ((L' + 1 + 1 + 1 + 1, o4) :: (L' + 1 + 1 + 1 + 1 + 1 + 1 + 1, o7) :: tail))
  (hC : ∀ (h : Heap) (tk : Nat) (D : Addr) (k : Nat) (o7' : Obj) (t1 t2 t3 : Tok), Fr g L' h m → o7'.data = .cell (some (.ref D)) →
    News g L' h ((D, listOf #[Value.str (apT (gr + 1)) t1, .str (apT (gr + 2)) t2, .str (apT (gr + 3)) t3] k) :: (L' + 1 + 1 + 1 + 1, o4) :: (L' + 1 + 1 + 1 + 1 + 1 + 1 + 1, o7') :: tail) →
    (∀ p ∈ tail, @LT.lt Nat _ p.1 D) →
    wpAny (model prog w) (A.deeper (lawEnv L')) (execs (lawB.drop 10) (lawEnv L')) QQ NoE { s with heap := h, toks := tk }) :
  wpAny (model prog w) (A.deeper (lawEnv L')) (execs (lawB.drop 9) (lawEnv L')) QQ NoE s := by
  refine' with_lit (K := Mine.hd.heap_39 w.params) ?k6 ?_
  case k6 => k_is
  intro hk
  obtain ⟨hlb, hls⟩ := law_is hk
  clear hk
  simp only [lawEnv, hlb, hls] at hC ⊢
  clear hlb hls
  obtain ⟨ahd, dp, fr, gd, un⟩ := A
  obtain rfl : ahd = none := R.hh
  simp only [List.drop_succ_cons, List.drop_zero] at hC ⊢
  k_steps
  rename News _ _ _ _ => N2
  rename Fr _ _ _ _ => F2
  have hc4 := (News.get N2 (a := L' + 1 + 1 + 1 + 1) (by k_mem))
  refine comp_tuple rfl (News.get N2 (.head _)) (by decide) rfl rfl F2 N2 _ ?hz (.inr ⟨_, fun i ys nw ⟨made, e, _⟩ => by rw [e]; exact List.mem_append_right _ (.head _)⟩) ?h0 (CompTurn.make N2 (fun i ys made => made = [] ∧ StrsAre ys ((nameL gr).take i)) ?turn) (end_value ?done)
  case hz =>
    rintro i ys nw ⟨made, _, _, _, hj⟩
    rw [hj.length, List.length_take]
    exact Nat.le_trans (Nat.min_le_right _ _) (show 3 ≤ 16777216 by decide)
  case h0 => exact ⟨[], rfl, (fun _ h => nomatch h), rfl, .nil⟩
  case turn =>
    rintro C D hD hDC i v ys made k h tk mC E' hi hv ⟨rfl, hJ⟩ F3 N3
    have X3 := X'.keeps F2.keep
    have T3 := T'.keeps F2.keep
    obtain ⟨c, tc, rfl, hc⟩ := IntsAre.at (ns := [1, 2, 3]) (.cons 1 _ (.cons 2 _ (.cons 3 _ .nil))) i v hv
    have hcr : 1 ≤ c ∧ c ≤ 3 := by
      have := List.mem_of_getElem? hc
      simp only [List.mem_cons, List.not_mem_nil, or_false] at this
      (first | exact om310 this | omega)
    k_steps
    refine text_call X3 T3 (Fr.keep F3) (gr + c) _ (Room.deep R (by decide)) (bits_ap (by (first | exact om311 hg.1 hcr.1 | omega)) (by (first | exact om312 hcr.2 hg.2 | omega))) ?_
    intro t h2 tk2 k2
    refine PairElt.intro [] k2 (fun _ h => nomatch h) ⟨rfl, ?_⟩
    rw [List.take_add_one, name_at hc]
    exact hJ.append' (.cons _ _ .nil)
  case done =>
    rintro ys nw k D h tk ⟨made, rfl, _, rfl, hJ⟩ off3 F3 N3 lt
    have hJ3 : StrsAre ys (nameL gr) := hJ
    obtain ⟨t1, t2, t3, rfl⟩ : ∃ t1 t2 t3, ys = [Value.str (apT (gr + 1)) t1, .str (apT (gr + 2)) t2, .str (apT (gr + 3)) t3] := by
      cases hJ3 with | cons _ t1 r => cases r with | cons _ t2 r => cases r with | cons _ t3 r => cases r with | nil => exact ⟨_, _, _, rfl⟩
    clear hJ hJ3
    have ltt : ∀ p ∈ tail, p.1 < D := fun p hp => lt p (by repeat (first | exact hp | refine List.Mem.tail _ ?_))
    have l7 : @LT.lt Nat _ (L' + 1 + 1 + 1 + 1 + 1 + 1 + 1) D := lt (L' + 1 + 1 + 1 + 1 + 1 + 1 + 1, o7) (by k_mem)
    rw [List.nil_append] at N3
    clear F2 N2 lt
    replace N3 := News.sub N3 (ms := (D, listOf (List.toArray [Value.str (apT (gr + 1)) t1, .str (apT (gr + 2)) t2, .str (apT (gr + 3)) t3]) k) :: (L' + 1 + 1 + 1 + 1, o4) :: (L' + 1 + 1 + 1 + 1 + 1 + 1 + 1, o7) :: tail) (by
      repeat (refine List.forall_mem_cons.mpr ⟨by k_mem, ?_⟩)
      intro p hp
      repeat (first | exact hp | refine List.Mem.tail _ ?_))
    k_steps
    rename News _ _ _ _ => NZ
    rename Fr _ _ _ _ => FZ
    exact hC _ _ D k _ t1 t2 t3 FZ (by assumption) NZ ltt
end
section
theorem resetLB2 : True := by
  w_top off
  exact trivial
variable {prog : Program} {w : World} {p : Program} {loose : List Str} {mean : ExcName → Option Value} {mg mb : Str → Option Value}
  {A : Around} {G : Heap} {s : Shared} {Q : Value → Shared → Prop} {E : Value → Shared → Prop}
local macro_rules | `(tactic| walk_at "subscriptTail Name Name ref int") => `(tactic| refine Halt.go ?_)
local macro_rules | `(tactic| walk_at "execs cons") => `(tactic| with_reducible refine haltN "table" ?_)
theorem item_atB {va sl : Expr} {l : Addr} {vs : List Value} {n : Nat} {k : Int} {u : Tok} {v : Value} {Q : Value → Shared → Prop} (hl : s.heap.get? l = some (listOf vs.toArray n)) (h0 : 0 ≤ k) (h3 : k < 1000) (hv : vs[k.toNat]? = some v) (h : Q v s)
    (hs : subscripted sl false (.ref l) (.int k u) = operate [.ref l, .int k u] (getItem (.ref l) (.int k u))) :
    wpAny (model prog w) A (subscriptTail va sl (.ref l) (.int k u)) Q E s := by
  have hL : s.heap.IsList l vs.toArray := ⟨_, hl, rfl, _, rfl⟩
  exact tail_any hL.typeIs slot_list_getitem.lookup (wpAny_getItem_list hL h0 (Int.lt_trans h3 (by decide)) (by simpa using hv) h) hs
theorem ownL_step {α : Type} (z0 z1 z2 : Nat) (a b c : α) {i : Nat} (hi : i < 3) : ownL z0 z1 z2 a b c (i + 1) = ownL z0 z1 z2 a b c i ++ List.replicate ([z0, z1, z2].getD i 0) ([a, b, c].getD i a) := by
  match i, hi with
  | 0, _ => rfl
  | 1, _ => rfl
  | 2, _ => rfl
theorem sz_at {s0 s1 s2 : Int} {ts0 ts1 ts2 : Tok} (z0 : 1 ≤ s0 ∧ s0 ≤ 3) (z1 : s0 ≤ s1 ∧ s1 ≤ s0 + 1) (z2 : s1 ≤ s2 ∧ s2 ≤ s1 + 1) {i : Nat} (hi : i < 3) :
    ∃ sz tz, [Value.int s0 ts0, .int s1 ts1, .int s2 ts2][i]? = some (.int sz tz) ∧ [s0.toNat, s1.toNat, s2.toNat].getD i 0 = sz.toNat ∧ 0 ≤ sz ∧ sz ≤ 5 := by
  match i, hi with
  | 0, _ => exact ⟨s0, ts0, rfl, rfl, by (first | exact om358 z0.1 z0.2 | omega)⟩
  | 1, _ => exact ⟨s1, ts1, rfl, rfl, by (first | exact om359 z0.1 z1.2 z0.2 z1.1 | omega)⟩
  | 2, _ => exact ⟨s2, ts2, rfl, rfl, by (first | exact om360 z0.1 z2.2 z0.2 z1.1 z1.2 z2.1 | omega)⟩
theorem nv_at (a b c : Value) {i : Nat} (hi : i < 3) : ∃ nv, [a, b, c][i]? = some nv ∧ [a, b, c].getD i a = nv := by
  match i, hi with
  | 0, _ => exact ⟨_, rfl, rfl⟩
  | 1, _ => exact ⟨_, rfl, rfl⟩
  | 2, _ => exact ⟨_, rfl, rfl⟩
theorem law_B2 {g : Heap} {L' : Addr} {QQ : Flow → Shared → Prop} {m : Str → Option Value}
  (X' : (Mine.hd.heap_39 w.params).In g) (T' : Top p loose mean mg mb g) (R : Room 128 A) (F : Fr g L' s.heap m)
  {gr s0 s1 s2 : Int} (z0 : 1 ≤ s0 ∧ s0 ≤ 3) (z1 : s0 ≤ s1 ∧ s1 ≤ s0 + 1) (z2 : s1 ≤ s2 ∧ s2 ≤ s1 + 1) {t1 t2 t3 ts0 ts1 ts2 : Tok} {kz kn : Nat} {lz ln : Addr} {o5 o7 : Obj} {tail : List (Addr × Obj)}
  (d5 : o5.data = .cell (some (.ref lz))) (d7 : o7.data = .cell (some (.ref ln)))
  (N : News g L' s.heap ((ln, listOf (List.toArray [Value.str (apT (gr + 1)) t1, .str (apT (gr + 2)) t2, .str (apT (gr + 3)) t3]) kn) :: (lz, listOf #[.int s0 ts0, .int s1 ts1, .int s2 ts2] kz) :: (L' + 1 + 1 + 1 + 1 + 1, o5) :: (L' + 1 + 1 + 1 + 1 + 1 + 1 + 1, o7) :: tail))
  (hC : ∀ (h : Heap) (tk : Nat) (D2 : Addr) (k2 : Nat), Fr g L' h (fun y => if y = Str.ofString "owners" then some (.ref D2) else m y) →
    News g L' h ((D2, listOf (ownL s0.toNat s1.toNat s2.toNat (Value.str (apT (gr + 1)) t1) (.str (apT (gr + 2)) t2) (.str (apT (gr + 3)) t3) 3).toArray k2) :: (ln, listOf (List.toArray [Value.str (apT (gr + 1)) t1, .str (apT (gr + 2)) t2, .str (apT (gr + 3)) t3]) kn) :: (lz, listOf #[.int s0 ts0, .int s1 ts1, .int s2 ts2] kz) :: (L' + 1 + 1 + 1 + 1 + 1, o5) :: (L' + 1 + 1 + 1 + 1 + 1 + 1 + 1, o7) :: tail) →
    @LT.lt Nat _ ln D2 → (∀ p ∈ tail, @LT.lt Nat _ p.1 D2) →
    wpAny (model prog w) (A.deeper (lawEnv L')) (execs (lawB.drop 11) (lawEnv L')) QQ NoE { s with heap := h, toks := tk }) :
  wpAny (model prog w) (A.deeper (lawEnv L')) (execs (lawB.drop 10) (lawEnv L')) QQ NoE s := by
  refine' with_lit (K := Mine.hd.heap_39 w.params) ?k6 ?_
  case k6 => k_is
  intro hk
  obtain ⟨hlb, hls⟩ := law_is hk
  clear hk
  simp only [lawEnv, hlb, hls] at hC ⊢
  clear hlb hls
  obtain ⟨ahd, dp, fr, gd, un⟩ := A
  obtain rfl : ahd = none := R.hh
  simp only [List.drop_succ_cons, List.drop_zero] at hC ⊢
  k_steps
  rename News _ _ _ _ => N4
  rename Fr _ _ _ _ => F4
  rename IsRange _ _ _ _ _ _ _ _ => hr4
  have g5 := (News.get N4 (a := L' + 1 + 1 + 1 + 1 + 1) (by k_mem))
  have g7 := (News.get N4 (a := L' + 1 + 1 + 1 + 1 + 1 + 1 + 1) (by k_mem))
  have gz := (News.get N4 (a := lz) (by k_mem))
  have gn := (News.get N4 (a := ln) (by k_mem))
  refine comp2_range (n := 3) rfl hr4 (by decide) (by decide) (by decide) (fun _ _ => rfl) (by decide) rfl rfl F4 N4 (fun i ys => ys = ownL s0.toNat s1.toNat s2.toNat (Value.str (apT (gr + 1)) t1) (.str (apT (gr + 2)) t2) (.str (apT (gr + 3)) t3) i) rfl ?turn2 ?done2
  case turn2 =>
    rintro C D2 I hI hID hDC i v ys h5 tk5 k5 it mC E' hi ⟨tv, rfl⟩ hJ F5 N5
    have X5 := X'.keeps F4.keep
    have T5 := T'.keeps F4.keep
    have hDI : I ≠ D2 := Nat.ne_of_lt hID
    obtain ⟨sz, tz, hsz, hzi, hz5⟩ := sz_at (ts0 := ts0) (ts1 := ts1) (ts2 := ts2) z0 z1 z2 hi
    obtain ⟨nv, hnv, hni⟩ := nv_at (Value.str (apT (gr + 1)) t1) (.str (apT (gr + 2)) t2) (.str (apT (gr + 3)) t3) hi
    have st := ownL_step s0.toNat s1.toNat s2.toNat (Value.str (apT (gr + 1)) t1) (.str (apT (gr + 2)) t2) (.str (apT (gr + 3)) t3) hi
    rw [hzi, hni] at st
    have ol := ownL_len (z0 := s0.toNat) (z1 := s1.toNat) (z2 := s2.toNat) (a := Value.str (apT (gr + 1)) t1) (b := .str (apT (gr + 2)) t2) (c := .str (apT (gr + 3)) t3) i
    have it0 : (0 + (i : Int)).toNat = i := by (first | exact om361 | omega)
    have i0 : 0 ≤ 0 + (i : Int) := by (first | exact om362 | omega)
    have i1 : 0 + (i : Int) < 1000 := by (first | exact om363 hi | omega)
    k_steps
    refine item_atB (vs := [Value.int s0 ts0, .int s1 ts1, .int s2 ts2]) (F5.keep _ _ gz) i0 i1 (by rw [it0]; exact hsz) ?_ (by with_unfolding_all rfl)
    k_steps
    clear hr4
    rename News _ _ _ _ => N7
    rename Fr _ _ _ _ => F7
    rename IsRange _ _ _ _ _ _ _ _ => hr7
    refine in_range (n := sz.toNat) rfl hr7 (by decide) (show sz ≤ 1000000 by (first | exact om364 hz5.2 | omega)) (show 0 + ((sz.toNat : Nat) : Int) = sz by (first | exact om365 hz5.1 | omega)) rfl rfl hDI F7 (News.sub N7 (by walk_at "my sub")) (fun j ys => ys = ownL s0.toNat s1.toNat s2.toNat (Value.str (apT (gr + 1)) t1) (.str (apT (gr + 2)) t2) (.str (apT (gr + 3)) t3) i ++ List.replicate j nv ∧ j ≤ 5) ?hz ?hj ?hn ?turn ⟨_, _, rfl⟩
    case hz =>
      rintro j ys ⟨rfl, _⟩
      rw [List.length_append, List.length_replicate]
      (first | exact om329 z0.1 z0.2 z1.2 z2.2 ol (by walk_at "my asm") | omega)
    case hj => exact ⟨by rw [hJ, List.replicate_zero, List.append_nil], by decide⟩
    case hn =>
      rintro ys ⟨rfl, _⟩
      exact st.symm
    case turn =>
      rintro j v ys h8 tk8 k8 mC8 E8 hj _ ⟨rfl, _⟩ hm F8 N8
      have F9 := Fr.seeX1 F8 (x1 := Str.ofString "k") (hm _ (by decide))
      clear F8
      k_steps
      refine item_atB (vs := [Value.str (apT (gr + 1)) t1, .str (apT (gr + 2)) t2, .str (apT (gr + 3)) t3]) (F9.keep _ _ gn) i0 i1 (by rw [it0]; exact hnv) ?_ (by with_unfolding_all rfl)
      exact ⟨_, _, rfl, StaysIn.refl _, by rw [List.append_assoc]; exact congrArg _ (List.replicate_succ' ..).symm, by (first | exact om366 hz5.2 hj | omega)⟩
  case done2 =>
    (refine' end_local ?ea ?eb ?ec ?_; (case ea => rfl); (case eb => rfl); (case ec => rfl))
    rintro ys nw k2 D2 h5 tk5 ⟨rfl, rfl⟩ off2 F5 N5 lt2
    k_steps
    rename News _ _ _ _ => NZ
    rename Fr _ _ _ _ => FZ
    exact hC _ _ D2 k2 FZ (News.sub NZ fun p hp => by repeat (first | exact hp | refine List.Mem.tail _ ?_)) (lt2 _ (.head _)) (fun p hp => lt2 p (by repeat (first | exact hp | refine List.Mem.tail _ ?_)))
end
section
theorem resetLB3 : True := by
  w_top off
  exact trivial
variable {prog : Program} {w : World} {p : Program} {loose : List Str} {mean : ExcName → Option Value} {mg mb : Str → Option Value}
  {A : Around} {G : Heap} {s : Shared} {Q : Value → Shared → Prop} {E : Value → Shared → Prop}
local macro_rules | `(tactic| walk_at "binaryOp Mult int int") => `(tactic| k_dflt (refine' mul_int ?_ ?h_D; (case h_D => with_reducible assumption)))
local macro_rules | `(tactic| k_all) => `(tactic| with_reducible assumption)
local macro_rules | `(tactic| walk_at "execs cons") => `(tactic| with_reducible refine haltFor ?_)
local macro_rules | `(tactic| walk_at "my sub2") => `(tactic| (repeat' (first | (refine List.forall_mem_cons.mpr ⟨by first | exact .head _ | exact List.mem_cons_of_mem _ (List.mem_append_right _ (by k_mem)), ?_⟩) | exact List.forall_mem_nil _)))
theorem law_B3 {g : Heap} {L' : Addr} {QQ : Flow → Shared → Prop} {m : Str → Option Value}
  (X' : (Mine.hd.heap_39 w.params).In g) (T' : Top p loose mean mg mb g) (R : Room 128 A) (F : Fr g L' s.heap m)
  {fi sp : Int} (nf : -1000000 < fi ∧ fi < 1000000) (nsp : -1000000 < sp ∧ sp < 1000000) {D2 : Addr} {k2 : Nat} {own : List Value} {ks : List Str} (dn : StrsAre own ks) (hkl : ks.length ≤ 12) (hks : ∀ k ∈ ks, ∀ c ∈ k.cps.toList, 32 ≤ c ∧ c < 127)
  {tf tp : Tok} {o2 o3 o8 : Obj} {tail : List (Addr × Obj)} (mo : m (Str.ofString "owners") = some (.ref D2))
  (d2 : o2.data = .cell (some (.int fi tf))) (d3 : o3.data = .cell (some (.int sp tp))) (d8 : o8.data = .cell none) (off : ∀ p ∈ tail, p.1 ≠ L' + 1 + 1 + 1 + 1 + 1 + 1 + 1 + 1)
  (N : News g L' s.heap ((D2, listOf own.toArray k2) :: (L' + 1 + 1, o2) :: (L' + 1 + 1 + 1, o3) :: (L' + 1 + 1 + 1 + 1 + 1 + 1 + 1 + 1, o8) :: tail))
  (hC : ∀ (h : Heap) (tk : Nat) (ps : List Pr) (x dx lx lk : Addr) (kx n : Nat) (hk : Int) (tkk : Tok) (o8' : Obj) (m' : Str → Option Value), Fr g L' h m' → m' (Str.ofString "struck") = some (.ref lk) → m' (Str.ofString "width") = m (Str.ofString "width") → o8'.data = .cell (some (.ref x)) → RowsAre ps (rows0 fi sp 0 ks) →
    News g L' h ((lk, listOf #[] 0) :: (x, instObj 231 dx) :: (dx, dictOf [⟨hk, .str (Str.ofString "_headers") tkk, .ref lx⟩] n) :: (lx, listOf (ps.map fun q => Value.ref q.1).toArray kx) :: (L' + 1 + 1, o2) :: (L' + 1 + 1 + 1, o3) :: (L' + 1 + 1 + 1 + 1 + 1 + 1 + 1 + 1, o8') :: (tail ++ ps.map tupE)) →
    ((∀ p ∈ tail, @LT.lt Nat _ p.1 lx) ∧ @LT.lt Nat _ lx x ∧ @LT.lt Nat _ lx dx ∧ @LT.lt Nat _ x lk ∧ @LT.lt Nat _ dx lk ∧ @Ne Nat x dx) →
    wpAny (model prog w) (A.deeper (lawEnv L')) (execs (lawB.drop 13) (lawEnv L')) QQ NoE { s with heap := h, toks := tk }) :
  wpAny (model prog w) (A.deeper (lawEnv L')) (execs (lawB.drop 11) (lawEnv L')) QQ NoE s := by
  refine' with_lit (K := Mine.hd.heap_39 w.params) ?k6 ?_
  case k6 => k_is
  intro hk
  obtain ⟨hlb, hls⟩ := law_is hk
  clear hk
  simp only [lawEnv, hlb, hls] at hC ⊢
  clear hlb hls
  obtain ⟨ahd, dp, fr, gd, un⟩ := A
  obtain rfl : ahd = none := R.hh
  simp only [List.drop_succ_cons, List.drop_zero] at hC ⊢
  have F1 := Fr.see F mo
  clear F
  k_steps
  rename News _ _ _ _ => N6
  rename Fr _ _ _ _ => F6
  have g2 := (News.get N6 (a := L' + 1 + 1) (by k_mem))
  have g3 := (News.get N6 (a := L' + 1 + 1 + 1) (by k_mem))
  refine comp_enum rfl (News.get N6 (.head _)) (by decide) rfl rfl rfl F6 N6 (fun i ys made => ∃ ps, RowsAre ps ((rows0 fi sp 0 ks).take i) ∧ ys = ps.map (fun q => Value.ref q.1) ∧ ∀ q ∈ ps, tupE q ∈ made) ?hz3 ⟨[], .nil, rfl, fun _ h => nomatch h⟩ ?turn3 (end_value ?done3)
  case hz3 =>
    rintro i ys made ⟨ps, hR, rfl, _⟩
    rw [List.length_map, hR.len, List.length_take, rows0_len]
    (first | exact om340 hkl | omega)
  case turn3 =>
    rintro g9 C D9 hg9 hgg hDC i t v2 ys made k9 h9 tk9 mC E' hv ⟨ps, hR, rfl, hm⟩ F9 N9
    have X9 := X'.keeps hgg
    have T9 := T'.keeps hgg
    obtain ⟨nm, tn, rfl, hn⟩ := strs_at dn i v2 hv
    have hil : i < ks.length := (List.getElem?_eq_some_iff.mp hn).1
    have q2 := hg9 _ _ g2
    have q3 := hg9 _ _ g3
    have mo : IntMulOk (i : Int) sp := IntMulOk.of_left (intBits_le_64 (by (first | exact om122 | omega)) (by (first | exact om341 hkl hil | omega)))
    have mb := mul_bd (i := i) (sp := sp) (by (first | exact om342 hkl hil | omega)) nsp.1 nsp.2
    k_steps
    refine text_call X9 T9 (Fr.keep F9) (fi + (i : Int) * sp) _ (Room.deep R (by decide)) (bits_ap (by (first | exact om343 mb.1 nf.1 | omega)) (by (first | exact om344 mb.2 nf.2 | omega))) ?_
    intro tt hA tkA kA
    have FA := Fr.keeps F9 kA
    have NA := News.grown N9 kA
    clear F9 N9
    k_steps
    rename Heap.get? _ _ = none => nD
    rename Heap.StaysIn _ _ => kD
    rename News _ _ _ _ => NB
    rename Addr => DT
    show PairElt _ _ _ _ _ _
    refine PairElt.intro [tupE (DT, Value.str nm tn, Value.str (apT (fi + (i : Int) * sp)) tt)] (StaysIn.trans kA kD) (List.forall_mem_cons.mpr ⟨⟨fresh_of kA nD, News.get NB (.head _)⟩, List.forall_mem_nil _⟩) ⟨ps ++ [(DT, Value.str nm tn, Value.str (apT (fi + (i : Int) * sp)) tt)], ?_, ?_, ?_⟩
    · rw [List.take_add_one, rows0_get fi sp 0 ks i nm hn]
      rw [show ((0 + i : Nat) : Int) = (i : Int) from by rw [Nat.zero_add]]
      exact hR.app (.cons .nil)
    · rw [List.map_append]; rfl
    · intro q hq
      rcases List.mem_append.mp hq with hq | hq
      · exact List.mem_append_right _ (hm q hq)
      · rw [List.mem_singleton.mp hq]; exact .head _
  case done3 =>
    rintro ys nw k6 D6 h6 tk6 ⟨made, rfl, ps, hR, rfl, hm⟩ off6 F7 N7 lt6
    have hR' : RowsAre ps (rows0 fi sp 0 ks) := by
      rw [List.take_of_length_le (by rw [rows0_len, dn.length]; exact Nat.le_refl _)] at hR
      exact hR
    have NA1 := News.sub N7 (ms := [(D6, listOf (ps.map fun q => Value.ref q.1).toArray k6), (L' + 1 + 1, o2), (L' + 1 + 1 + 1, o3), (L' + 1 + 1 + 1 + 1 + 1 + 1 + 1 + 1, o8)]) (by walk_at "my sub2")
    have Ntl := News.sub N7 (ms := tail) (fun p hp => List.mem_cons_of_mem _ (List.mem_append_right _ (by repeat (first | exact hp | refine List.Mem.tail _ ?_))))
    have NT := News.sub N7 (ms := ps.map tupE) (fun p hp => by
      obtain ⟨q, hq, rfl⟩ := List.mem_map.mp hp
      exact List.mem_cons_of_mem _ (List.mem_append_left _ (hm q hq)))
    have NL := News.app NA1 (News.app Ntl NT)
    simp only [List.cons_append, List.nil_append] at NL
    have lt7 : ∀ p ∈ tail, @LT.lt Nat _ p.1 D6 := fun p hp => lt6 p (by repeat (first | exact hp | refine List.Mem.tail _ ?_))
    have gT : ∀ q ∈ ps, h6.get? q.1 = some (tupObj q) := fun q hq => News.get NT (List.mem_map_of_mem hq)
    have g8 := News.get NL (a := L' + 1 + 1 + 1 + 1 + 1 + 1 + 1 + 1) (by k_mem)
    have ht8 : ∀ p ∈ tail ++ ps.map tupE, p.1 ≠ L' + 1 + 1 + 1 + 1 + 1 + 1 + 1 + 1 := List.forall_mem_append.mpr ⟨off, fun p hp => by
      obtain ⟨q, hq, rfl⟩ := List.mem_map.mp hp
      exact tup_ne (gT q hq) g8 d8⟩
    have l8 : @LT.lt Nat _ (L' + 1 + 1 + 1 + 1 + 1 + 1 + 1 + 1) D6 := lt6 (L' + 1 + 1 + 1 + 1 + 1 + 1 + 1 + 1, o8) (by k_mem)
    clear N7 NA1 Ntl NT N6 F6 lt6
    k_steps
    have F8 : Fr g L' h6 _ := F7
    refine hdr_call X' T' (Fr.keep F7) D6 k6 ps (Room.deep R (by decide)) (News.get NL (.head _)) gT (fun q hq => ?_) ?_
    · obtain ⟨kq, xq, tkq, tvq, hq2, eq⟩ := hR'.mem q hq
      exact ⟨kq, tkq, apT xq, tvq, eq, hks _ (rows0_mem fi sp 0 ks kq xq hq2), apT_signs _⟩
    intro x dx h7 tk7 hk tkk nn kS fx fdx hlt7 hxd ex ed
    have F9 := Fr.keeps F7 kS
    have N9 := News.app (news_new F7 fx ex) (News.app (news_new F7 fdx ed) (News.grown NL kS))
    simp only [List.cons_append, List.nil_append] at N9
    obtain ⟨hx81, hx82⟩ := hlt7 _ _ g8
    obtain ⟨hxD1, hxD2⟩ := hlt7 _ _ (News.get NL (.head _))
    clear F7 F8 NL
    k_steps
    rename News _ _ _ _ => NZ
    rename Fr _ _ _ _ => FZ
    exact hC _ _ ps x dx D6 _ k6 nn hk tkk _ _ FZ rfl rfl (by assumption) hR' NZ ⟨lt7, hxD1, hxD2, by walk_at "my asm", by walk_at "my asm", hxd⟩
end
section
theorem resetLC1 : True := by
  w_top off
  exact trivial
variable {prog : Program} {w : World} {p : Program} {loose : List Str} {mean : ExcName → Option Value} {mg mb : Str → Option Value}
  {A : Around} {G : Heap} {s : Shared} {Q : Value → Shared → Prop} {E : Value → Shared → Prop}
local macro_rules | `(tactic| walk_at "execs cons") => `(tactic| with_reducible refine haltEx ?_)
noncomputable def lawTb : List Stmt := forBody (lawB.drop 13)
noncomputable abbrev cA (L' : Addr) (k : Nat) : Addr := L' + k
theorem law_C1 {g : Heap} {L' : Addr} {QQ : Flow → Shared → Prop} {m : Str → Option Value}
  (X' : (Mine.hd.heap_39 w.params).In g) (T' : Top p loose mean mg mb g) (R : Room 128 A) (F : Fr g L' s.heap m)
  {gr : Int} {i : Nat} {ti t1 t2 t3 : Tok} {ln : Addr} {kn : Nat} {oN oT oA : Obj} {va : Option Value} {tail : List (Addr × Obj)}
  (hg : 0 ≤ gr ∧ gr < 1000000)
  (dN : oN.data = .cell (some (.ref ln))) (dT : oT.data = .cell (some (.int (0 + (i : Int)) ti))) (dA : oA.data = .cell va)
  (N : News g L' s.heap ((ln, listOf #[Value.str (apT (gr + 1)) t1, .str (apT (gr + 2)) t2, .str (apT (gr + 3)) t3] kn) :: (L' + 1 + 1 + 1 + 1 + 1 + 1 + 1, oN) :: (L' + 1 + 1 + 1 + 1 + 1 + 1 + 1 + 1 + 1, oT) :: (L' + 1 + 1 + 1 + 1 + 1 + 1 + 1 + 1 + 1 + 1, oA) :: tail))
  (gn : @LT.lt Nat _ (L' + 10) ln) (offT : ∀ p ∈ tail, p.1 ≠ L' + 1 + 1 + 1 + 1 + 1 + 1 + 1 + 1 + 1 + 1)
  (hC : ∀ (h : Heap) (tk : Nat) (la : Addr) (ka : Nat) (oA' : Obj) (av : List Value), Fr g L' h m → StrsAre av (askedL gr i) → oA'.data = .cell (some (.ref la)) → (∀ p ∈ tail, p.1 < la) → @LT.lt Nat _ ln la → News g L' h ((la, listOf av.toArray ka) :: (ln, listOf #[Value.str (apT (gr + 1)) t1, .str (apT (gr + 2)) t2, .str (apT (gr + 3)) t3] kn) :: (L' + 1 + 1 + 1 + 1 + 1 + 1 + 1, oN) :: (L' + 1 + 1 + 1 + 1 + 1 + 1 + 1 + 1 + 1, oT) :: (L' + 1 + 1 + 1 + 1 + 1 + 1 + 1 + 1 + 1 + 1, oA') :: tail) →
    wpAny (model prog w) (A.deeper (lawEnv L')) (execs (lawTb.drop 1) (lawEnv L')) QQ E { s with heap := h, toks := tk }) :
  wpAny (model prog w) (A.deeper (lawEnv L')) (execs lawTb (lawEnv L')) QQ E s := by
  refine' with_lit (K := Mine.hd.heap_39 w.params) ?k6 ?_
  case k6 => k_is
  intro hk
  obtain ⟨hlb, hls⟩ := law_is hk
  clear hk
  simp only [lawEnv, lawTb, hlb, hls] at hC ⊢
  clear hlb hls
  obtain ⟨ahd, dp, fr, gd, un⟩ := A
  obtain rfl : ahd = none := R.hh
  simp only [List.drop_succ_cons, List.drop_zero, forBody_for] at hC ⊢
  k_steps
  refine comp_list rfl (News.get N (.head _)) (by decide) rfl rfl F N _ ?hz (.inr ⟨_, fun i ys nw ⟨made, e, _⟩ => by rw [e]; exact List.mem_append_right _ (.head _)⟩) ?h0 (CompTurn.make N (fun j ys made => made = [] ∧ StrsAre ys ((askedL gr i).take j)) ?turn) (end_value ?done)
  case hz =>
    rintro j ys nw ⟨made, _, _, _, hj⟩
    rw [hj.length, List.length_take]
    refine Nat.le_trans (Nat.min_le_right _ _) ?_
    unfold askedL
    split <;> (show 3 ≤ 16777216) <;> decide
  case h0 => exact ⟨[], rfl, (fun _ h => nomatch h), rfl, .nil⟩
  case turn =>
    rintro C D hD hDC j v ys made k h tk mC E' hj hv ⟨rfl, hJ⟩ F3 N3
    have X3 := X'.keeps F.keep
    have T3 := T'.keeps F.keep
    have gT := (News.get N (a := L' + 1 + 1 + 1 + 1 + 1 + 1 + 1 + 1 + 1) (by k_mem))
    obtain ⟨x, tx, rfl, hx⟩ := strs_at (xs := nameL gr) (.cons _ _ (.cons _ _ (.cons _ _ .nil))) j v hv
    have hx40 : x.length ≤ 40 := by
      have hx2 := List.mem_of_getElem? hx
      simp only [nameL, List.mem_cons, List.not_mem_nil, or_false] at hx2
      rcases hx2 with rfl | rfl | rfl
      all_goals
        simp only [Str.length, ← Array.length_toList]
        refine Nat.le_trans (apT_len (bits_ap ?_ ?_)) (by decide) <;> (first | exact om367 hg.1 | exact om368 hg.2 | exact om369 hg.1 | exact om370 hg.2 | exact om371 hg.1 | exact om372 hg.2 | omega)
    k_steps
    · rename (0 + (i : Int)).fmod 2 ≠ 0 => hp
      have hi2 : ¬ i % 2 = 0 := fun e => hp (by rw [Int.fmod_eq_emod_of_nonneg _ (by decide)]; (first | exact om373 e | omega))
      refine PairElt.intro [] (StaysIn.refl _) (fun _ h => nomatch h) ⟨rfl, ?_⟩
      have e : (askedL gr i)[j]? = some x := by rw [askedL, if_neg hi2]; exact hx
      rw [List.take_add_one, e]
      exact hJ.append' (.cons _ _ .nil)
    · rename (0 + (i : Int)).fmod 2 = 0 => hp
      have hi2 : i % 2 = 0 := by rw [Int.fmod_eq_emod_of_nonneg _ (by decide)] at hp; (first | exact om374 hp | omega)
      refine PairElt.intro [] (StaysIn.refl _) (fun _ h => nomatch h) ⟨rfl, ?_⟩
      have e : (askedL gr i)[j]? = some (PySem.Txt.lower x) := by rw [askedL, if_pos hi2, List.getElem?_map, hx]; rfl
      rw [List.take_add_one, e]
      exact hJ.append' (.cons _ _ .nil)
  case done =>
    rintro ys nw k D h tk ⟨made, rfl, _, rfl, hJ⟩ off F3 N3 lt
    rw [List.nil_append] at N3
    have hJ3 : StrsAre ys (askedL gr i) := by
      rw [List.take_of_length_le] at hJ
      · exact hJ
      · unfold askedL
        split <;> exact Nat.le_refl 3
    have ltt : ∀ p ∈ tail, p.1 < D := fun p hp => lt p (.tail _ (.tail _ (.tail _ (.tail _ hp))))
    have lt0 : @LT.lt Nat _ ln D := lt _ (.head _)
    k_lt lt
    k_steps
    rename News _ _ _ _ => NZ
    rename Fr _ _ _ _ => FZ
    exact hC _ _ D k _ ys FZ hJ3 (by assumption) ltt lt0 NZ
end
section
theorem resetLC2 : True := by
  w_top off
  exact trivial
variable {prog : Program} {w : World} {p : Program} {loose : List Str} {mean : ExcName → Option Value} {mg mb : Str → Option Value}
  {A : Around} {G : Heap} {s : Shared} {Q : Value → Shared → Prop} {E : Value → Shared → Prop}
local macro_rules | `(tactic| walk_at "call builtin:list.append") => `(tactic| refine Halt.go ?_)
local macro_rules | `(tactic| walk_at "execs cons") => `(tactic| with_reducible refine haltIf ?_)
noncomputable abbrev Res := Addr × List Value × Nat
noncomputable abbrev resE (q : Res) : Addr × Obj := (q.1, listOf q.2.1.toArray q.2.2)
inductive ResAre : List Res → List (List Int) → Prop
  | nil : ResAre [] []
  | cons {q : Res} {ns : List Int} {qs : List Res} {nss : List (List Int)} (h : StrsAre q.2.1 (ns.map apT)) (r : ResAre qs nss) : ResAre (q :: qs) (ns :: nss)
theorem ResAre.app {a b : List Res} {x y : List (List Int)} (h : ResAre a x) (k : ResAre b y) : ResAre (a ++ b) (x ++ y) := by
  induction h with
  | nil => exact k
  | cons h _ ih => exact .cons h ih
theorem ResAre.len {a : List Res} {x : List (List Int)} (h : ResAre a x) : a.length = x.length := by
  induction h with
  | nil => rfl
  | cons h _ ih => rw [List.length_cons, List.length_cons, ih]
theorem strucks_len : ∀ (as : List Str) (rows : List (Str × Int)), (strucks as rows).length = as.length
  | [], _ => rfl
  | _ :: r, rows => by rw [strucks, List.length_cons, List.length_cons, strucks_len r]
noncomputable def RowOk (gr : Int) (r : Str × Int) : Prop := (∃ j, j < 3 ∧ NameOf gr j r.1) ∧ Builtin.Int.intBits r.2 ≤ 140
theorem rowOk_strike {gr : Int} {t : Str} {rows : List (Str × Int)} (h : ∀ r ∈ rows, RowOk gr r) (ht : ∃ j, j < 3 ∧ NameOf gr j t) : ∀ r ∈ strikeR t rows, RowOk gr r := fun r hr => by
  rcases List.mem_append.mp hr with hr | hr
  · exact h r (List.mem_filter.mp hr).1
  · obtain ⟨q, hq, rfl⟩ := List.mem_map.mp hr
    exact ⟨ht, (h q (List.mem_filter.mp (List.dropLast_subset _ hq)).1).2⟩
theorem rowOk_strikes {gr : Int} : ∀ (as : List Str) (rows : List (Str × Int)), (∀ t ∈ as, ∃ j, j < 3 ∧ NameOf gr j t) → (∀ r ∈ rows, RowOk gr r) → ∀ r ∈ strikes as rows, RowOk gr r
  | [], _, _, h => h
  | t :: as, rows, hn, h => rowOk_strikes as _ (fun t ht => hn t (.tail _ ht)) (rowOk_strike h (hn t (.head _)))
theorem strike_len (t : Str) : ∀ (rows : List (Str × Int)), (strikeR t rows).length ≤ rows.length := fun rows => by
  have h : (rows.filter fun r => PySem.Txt.lower r.1 != PySem.Txt.lower t).length + (struckOf t rows).length = rows.length := by
    unfold struckOf
    induction rows with
    | nil => rfl
    | cons r rs ih =>
      rw [List.filter_cons, List.filter_cons, bne]
      cases (PySem.Txt.lower r.1 == PySem.Txt.lower t) <;> simp [← ih, bne] <;> (first | exact om159 | exact om378 | omega)
  rw [strikeR, List.length_append, List.length_map, List.length_dropLast]
  (first | exact om379 h | omega)
theorem strikes_len : ∀ (as : List Str) (rows : List (Str × Int)), (strikes as rows).length ≤ rows.length
  | [], _ => Nat.le_refl _
  | a :: as, rows => Nat.le_trans (strikes_len as _) (strike_len a rows)
theorem asked_names {gr : Int} {i : Nat} : ∀ t ∈ askedL gr i, ∃ j, j < 3 ∧ NameOf gr j t := fun t ht => by
  unfold askedL at ht
  split at ht
  · obtain ⟨x, hx, rfl⟩ := List.mem_map.mp ht
    simp only [nameL, List.mem_cons, List.not_mem_nil, or_false] at hx
    rcases hx with rfl | rfl | rfl
    · exact ⟨0, by decide, .inr (by rw [show gr + ((0 : Nat) : Int) + 1 = gr + 1 from by (first | exact om380 | omega)])⟩
    · exact ⟨1, by decide, .inr (by rw [show gr + ((1 : Nat) : Int) + 1 = gr + 2 from by (first | exact om381 | omega)])⟩
    · exact ⟨2, by decide, .inr (by rw [show gr + ((2 : Nat) : Int) + 1 = gr + 3 from by (first | exact om382 | omega)])⟩
  · simp only [nameL, List.mem_cons, List.not_mem_nil, or_false] at ht
    rcases ht with rfl | rfl | rfl
    · exact ⟨0, by decide, .inl (by rw [show gr + ((0 : Nat) : Int) + 1 = gr + 1 from by (first | exact om380 | omega)])⟩
    · exact ⟨1, by decide, .inl (by rw [show gr + ((1 : Nat) : Int) + 1 = gr + 2 from by (first | exact om381 | omega)])⟩
    · exact ⟨2, by decide, .inl (by rw [show gr + ((2 : Nat) : Int) + 1 = gr + 3 from by (first | exact om382 | omega)])⟩
theorem rows_pairOk {gr : Int} (hg : 0 ≤ gr ∧ gr < 1000000) {ps : List Pr} {rows : List (Str × Int)} (h : RowsAre ps rows) (ho : ∀ r ∈ rows, RowOk gr r) : ∀ q ∈ ps, PairOk q := fun q hq => by
  obtain ⟨k, x, tk, tv, hm, e⟩ := h.mem q hq
  obtain ⟨⟨j, hj, hn⟩, hb⟩ := ho _ hm
  refine ⟨k, tk, apT x, tv, e, Nat.le_trans (hn.len hg.1 hg.2 hj) (by decide), ?_, apT_signs x⟩
  have h1 : (apT x).length = (apT x).cps.toList.length := by simp [Str.length]
  rw [h1]
  exact Nat.le_trans (apT_len hb) (by decide)
theorem tup_ne' {h : Heap} {q : Pr} {b : Addr} {o : Obj} (e1 : h.get? q.1 = some (tupObj q)) (e2 : h.get? b = some o) (hc : o.cls ≠ Value.type "tuple") : q.1 ≠ b := fun e => by
  rw [e, e2] at e1
  exact hc (congrArg Obj.cls (Option.some.inj e1))
theorem News.keepB {g h h' : Heap} {L l : Addr} {nw ms : List (Addr × Obj)} (N : News g L h nw) (kb : KeepBut l h h') (hs : ∀ p ∈ ms, p ∈ nw ∧ p.1 ≠ l) : News g L h' ms := fun p hp => ⟨kb _ _ (hs p hp).2 (N p (hs p hp).1).1, (N p (hs p hp).1).2⟩
theorem asked_len {gr : Int} {i : Nat} : (askedL gr i).length = 3 := by unfold askedL; split <;> rfl
theorem Fr.unsee {h₀ h : Heap} {L : Addr} {m : Str → Option Value} {x : Str} {v : Value} (F : Fr h₀ L h (fun y => if y = x then some v else m y)) (e : m x = some v) : Fr h₀ L h m := by
  have em : (fun y => if y = x then some v else m y) = m := by
    funext y
    by_cases hy : y = x
    · rw [if_pos hy, hy, e]
    · rw [if_neg hy]
  rw [em] at F; exact F
theorem law_C2 {g : Heap} {L' : Addr} {QQ : Flow → Shared → Prop} {m : Str → Option Value}
  (X' : (Mine.hd.heap_39 w.params).In g) (T' : Top p loose mean mg mb g) (R : Room 128 A) (F : Fr g L' s.heap m)
  {gr : Int} {i : Nat} {x dx lx lk la : Addr} {kx nk ka n : Nat} {hk0 : Int} {tk0 : Tok} {oX oA : Obj} {tail : List (Addr × Obj)} {ps : List Pr} {rows : List (Str × Int)} {sv av : List Value}
  (hg : 0 ≤ gr ∧ gr < 1000000) (ms : m (Str.ofString "struck") = some (.ref lk))
  (dX : oX.data = .cell (some (.ref x))) (dA : oA.data = .cell (some (.ref la))) (hR : RowsAre ps rows) (ho : ∀ r ∈ rows, RowOk gr r) (hz : rows.length ≤ 12) (ha : StrsAre av (askedL gr i)) (hsv : sv.length ≤ 1000)
  (N : News g L' s.heap ((x, instObj 231 dx) :: (dx, dictOf [⟨hk0, .str (Str.ofString "_headers") tk0, .ref lx⟩] n) :: (lx, listOf (ps.map fun q => Value.ref q.1).toArray kx) :: (lk, listOf sv.toArray nk) :: (la, listOf av.toArray ka) :: (L' + 1 + 1 + 1 + 1 + 1 + 1 + 1 + 1, oX) :: (L' + 1 + 1 + 1 + 1 + 1 + 1 + 1 + 1 + 1 + 1, oA) :: (ps.map tupE ++ tail)))
  (gt : @LT.lt Nat _ (L' + 10) lx ∧ @LT.lt Nat _ (L' + 10) x ∧ @LT.lt Nat _ (L' + 10) dx ∧ @LT.lt Nat _ (L' + 10) lk ∧ @LT.lt Nat _ lx la ∧ @LT.lt Nat _ x la ∧ @LT.lt Nat _ dx la ∧ @LT.lt Nat _ lk la ∧ @Ne Nat x dx ∧ @Ne Nat lx x ∧ @Ne Nat lx dx ∧ @Ne Nat lx lk ∧ @Ne Nat x lk ∧ @Ne Nat dx lk)
  (offT : ∀ p ∈ tail, p.1 ≠ lx ∧ p.1 ≠ lk ∧ p.1 < la)
  (hC : ∀ (h : Heap) (tk : Nat) (D : Addr) (kd kx' : Nat) (ps' : List Pr) (res : List Res), Fr g L' h m → RowsAre ps' (strikes (askedL gr i) rows) → ResAre res (strucks (askedL gr i) rows) →
    News g L' h ((x, instObj 231 dx) :: (dx, dictOf [⟨hk0, .str (Str.ofString "_headers") tk0, .ref lx⟩] n) :: (lx, listOf (ps'.map fun q => Value.ref q.1).toArray kx') :: (lk, listOf (sv ++ [Value.ref D]).toArray (nk + 1)) :: (la, listOf av.toArray ka) :: (L' + 1 + 1 + 1 + 1 + 1 + 1 + 1 + 1, oX) :: (L' + 1 + 1 + 1 + 1 + 1 + 1 + 1 + 1 + 1 + 1, oA) :: (D, listOf (res.map fun q => Value.ref q.1).toArray kd) :: (ps'.map tupE ++ (res.map resE ++ tail))) →
    @LT.lt Nat _ la D → (∀ p ∈ tail, p.1 < D) → (∀ q ∈ res, @Ne Nat q.1 lk ∧ ∀ p ∈ tail, @Ne Nat q.1 p.1) →
    wpAny (model prog w) (A.deeper (lawEnv L')) (execs (lawTb.drop 2) (lawEnv L')) QQ E { s with heap := h, toks := tk }) :
  wpAny (model prog w) (A.deeper (lawEnv L')) (execs (lawTb.drop 1) (lawEnv L')) QQ E s := by
  refine' with_lit (K := Mine.hd.heap_39 w.params) ?k6 ?_
  case k6 => k_is
  intro hk
  obtain ⟨hlb, hls⟩ := law_is hk
  clear hk
  simp only [lawEnv, lawTb, hlb, hls] at hC ⊢
  clear hlb hls
  obtain ⟨ahd, dp, fr, gd, un⟩ := A
  obtain rfl : ahd = none := R.hh
  simp only [List.drop_succ_cons, List.drop_zero, forBody] at hC ⊢
  have F1 := Fr.see F ms
  clear F
  obtain ⟨q1, q2, q3, q4, q5, q6, q7, q8, q9, q10, q11, q12, q13, q14⟩ := gt
  k_steps
  refine comp_list rfl (News.get N (a := la) (by k_mem)) (by decide) rfl rfl F1 N (fun j ys nw => ∃ psj res kxj, RowsAre psj (strikes ((askedL gr i).take j) rows) ∧ ResAre res (strucks ((askedL gr i).take j) rows) ∧ ys = res.map (fun q => Value.ref q.1) ∧ (∀ q ∈ res, @Ne Nat q.1 lx ∧ @Ne Nat q.1 lk ∧ ∀ p ∈ tail, @Ne Nat q.1 p.1) ∧
      nw = (x, instObj 231 dx) :: (dx, dictOf [⟨hk0, .str (Str.ofString "_headers") tk0, .ref lx⟩] n) :: (lx, listOf (psj.map fun q => Value.ref q.1).toArray kxj) :: (lk, listOf sv.toArray nk) :: (la, listOf av.toArray ka) :: (L' + 1 + 1 + 1 + 1 + 1 + 1 + 1 + 1, oX) :: (L' + 1 + 1 + 1 + 1 + 1 + 1 + 1 + 1 + 1 + 1, oA) :: (psj.map tupE ++ (res.map resE ++ tail))) ?hz (.inr ⟨_, fun j ys nw ⟨_, _, _, _, _, _, _, e⟩ => by rw [e]; k_mem⟩) ⟨ps, [], kx, hR, .nil, rfl, (fun _ h => nomatch h), rfl⟩ ?turn (end_value ?done)
  case hz =>
    rintro j ys nw ⟨psj, res, kxj, _, hres, rfl, _, _⟩
    rw [List.length_map, hres.len, strucks_len, List.length_take, asked_len]
    (first | exact om383 | omega)
  case turn =>
    rintro g2 C D I gs hgg less lt hI hID hDC j v ys nw it k h tk mC E' hj hv ⟨psj, res, kxj, hRj, hres, rfl, hoff, rfl⟩ off F3 N3
    have X3 := X'.keeps hgg
    have T3 := T'.keeps hgg
    obtain ⟨t, tt, rfl, ht⟩ := strs_at ha j v hv
    have htn := asked_names t (List.mem_of_getElem? ht)
    have hoj := rowOk_strikes ((askedL gr i).take j) rows (fun t ht => asked_names t (List.mem_of_mem_take ht)) ho
    have hpj := rows_pairOk hg hRj hoj
    have hlj : psj.length ≤ 20 := by rw [hRj.len]; exact om732 (strikes_len ((askedL gr i).take j) rows) (by assumption)
    have mT : ∀ q ∈ psj, tupE q ∈ (x, instObj 231 dx) :: (dx, dictOf [⟨hk0, .str (Str.ofString "_headers") tk0, .ref lx⟩] n) :: (lx, listOf (psj.map fun q => Value.ref q.1).toArray kxj) :: (lk, listOf sv.toArray nk) :: (la, listOf av.toArray ka) :: (L' + 1 + 1 + 1 + 1 + 1 + 1 + 1 + 1, oX) :: (L' + 1 + 1 + 1 + 1 + 1 + 1 + 1 + 1 + 1 + 1, oA) :: (psj.map tupE ++ (res.map resE ++ tail)) := fun q hq => by
      repeat (first | exact List.mem_append_left _ (List.mem_map_of_mem hq) | refine List.Mem.tail _ ?_)
    have gTu : ∀ q ∈ psj, h.get? q.1 = some (tupObj q) := fun q hq => (N3 (tupE q) (.tail _ (.tail _ (mT q hq)))).1
    have gx := News.get N3 (a := x) (by k_mem)
    have gd := News.get N3 (a := dx) (by k_mem)
    have gl := News.get N3 (a := lx) (by k_mem)
    have gk := News.get N3 (a := lk) (by k_mem)
    have gD := News.get N3 (a := D) (by k_mem)
    have gI := News.get N3 (a := I) (by k_mem)
    have htx : ∀ q ∈ psj, q.1 ≠ x ∧ q.1 ≠ dx ∧ q.1 ≠ lx := fun q hq => ⟨tup_ne' (gTu q hq) gx (fun e => by cases e), tup_ne' (gTu q hq) gd (show Value.type "dict" ≠ Value.type "tuple" by decide), tup_ne' (gTu q hq) gl (show Value.type "list" ≠ Value.type "tuple" by decide)⟩
    obtain ⟨jn, hjn, hn⟩ := htn
    refine wpAny_tests_nil ?_
    rw [if_pos rfl]
    k_steps
    refine strike_call X3 T3 (Fr.keep F3) x dx lx kxj psj t _ (Room.deep R (by decide)) ⟨⟨_, gx⟩, ⟨_, _, _, gd⟩, gl, gTu⟩ htx hpj (News.none N3 (by k_mem)) (News.none N3 (by k_mem)) (News.none N3 (by k_mem)) q10 q11 hlj (Nat.le_trans (hn.len hg.1 hg.2 hjn) (by decide)) (hn.signs hg.1).2 (hn.signs hg.1).1 ?_
    intro q kq nl adds h' tk' kb hT hadds el fq eq
    have F4 := Fr.but F3 N3 (al := lx) (by k_mem) kb
    have hlI : ∀ p ∈ (x, instObj 231 dx) :: (dx, dictOf [⟨hk0, .str (Str.ofString "_headers") tk0, .ref lx⟩] n) :: (lx, listOf (ps.map fun q => Value.ref q.1).toArray kx) :: (lk, listOf sv.toArray nk) :: (la, listOf av.toArray ka) :: (L' + 1 + 1 + 1 + 1 + 1 + 1 + 1 + 1, oX) :: (L' + 1 + 1 + 1 + 1 + 1 + 1 + 1 + 1 + 1 + 1, oA) :: (ps.map tupE ++ tail), p.1 < I := lt
    have lxI : @LT.lt Nat _ lx I := hlI (lx, _) (by k_mem)
    have lkI : @LT.lt Nat _ lk I := hlI (lk, _) (by k_mem)
    have hID' : @LT.lt Nat _ I D := hID
    have mR : ∀ p ∈ res.map resE, p ∈ (x, instObj 231 dx) :: (dx, dictOf [⟨hk0, .str (Str.ofString "_headers") tk0, .ref lx⟩] n) :: (lx, listOf (psj.map fun q => Value.ref q.1).toArray kxj) :: (lk, listOf sv.toArray nk) :: (la, listOf av.toArray ka) :: (L' + 1 + 1 + 1 + 1 + 1 + 1 + 1 + 1, oX) :: (L' + 1 + 1 + 1 + 1 + 1 + 1 + 1 + 1 + 1 + 1, oA) :: (psj.map tupE ++ (res.map resE ++ tail)) := fun p hp => by
      repeat (first | exact List.mem_append_right _ (List.mem_append_left _ hp) | refine List.Mem.tail _ ?_)
    have mt : ∀ p ∈ tail, p ∈ (x, instObj 231 dx) :: (dx, dictOf [⟨hk0, .str (Str.ofString "_headers") tk0, .ref lx⟩] n) :: (lx, listOf (psj.map fun q => Value.ref q.1).toArray kxj) :: (lk, listOf sv.toArray nk) :: (la, listOf av.toArray ka) :: (L' + 1 + 1 + 1 + 1 + 1 + 1 + 1 + 1, oX) :: (L' + 1 + 1 + 1 + 1 + 1 + 1 + 1 + 1 + 1 + 1, oA) :: (psj.map tupE ++ (res.map resE ++ tail)) := fun p hp => by
      repeat (first | exact List.mem_append_right _ (List.mem_append_right _ hp) | refine List.Mem.tail _ ?_)
    have P1 : News g2 C h' [(D, listOf (res.map fun q => Value.ref q.1).toArray k), (I, it), (x, instObj 231 dx), (dx, dictOf [⟨hk0, .str (Str.ofString "_headers") tk0, .ref lx⟩] n)] := News.keepB N3 kb (List.forall_mem_cons.mpr ⟨⟨by k_mem, by k_ne⟩, List.forall_mem_cons.mpr ⟨⟨by k_mem, by k_ne⟩, List.forall_mem_cons.mpr ⟨⟨by k_mem, by k_ne⟩, List.forall_mem_cons.mpr ⟨⟨by k_mem, by k_ne⟩, List.forall_mem_nil _⟩⟩⟩⟩)
    have P2 : News g2 C h' [(lx, listOf ((rest t psj ++ adds).map fun q => Value.ref q.1).toArray nl)] := List.forall_mem_cons.mpr ⟨⟨el, (N3 (lx, listOf (psj.map fun q => Value.ref q.1).toArray kxj) (by k_mem)).2⟩, List.forall_mem_nil _⟩
    have P3 : News g2 C h' [(lk, listOf sv.toArray nk), (la, listOf av.toArray ka), (L' + 1 + 1 + 1 + 1 + 1 + 1 + 1 + 1, oX), (L' + 1 + 1 + 1 + 1 + 1 + 1 + 1 + 1 + 1 + 1, oA)] := News.keepB N3 kb (List.forall_mem_cons.mpr ⟨⟨by k_mem, by k_ne⟩, List.forall_mem_cons.mpr ⟨⟨by k_mem, by k_ne⟩, List.forall_mem_cons.mpr ⟨⟨by k_mem, by k_ne⟩, List.forall_mem_cons.mpr ⟨⟨by k_mem, by k_ne⟩, List.forall_mem_nil _⟩⟩⟩⟩)
    have P4 : News g2 C h' ((rest t psj).map tupE) := News.keepB N3 kb fun p hp => by
      obtain ⟨q', hq', rfl⟩ := List.mem_map.mp hp
      have hq2 := (List.mem_filter.mp hq').1
      exact ⟨.tail _ (.tail _ (mT q' hq2)), (htx q' hq2).2.2⟩
    have P5 : News g2 C h' (adds.map tupE) := fun p hp => by
      obtain ⟨q', hq', rfl⟩ := List.mem_map.mp hp
      exact (news_new F3 (hadds q' hq').1 (hadds q' hq').2) _ (.head _)
    have P6 : News g2 C h' (res.map resE) := News.keepB N3 kb fun p hp => by
      obtain ⟨q', hq', rfl⟩ := List.mem_map.mp hp
      exact ⟨.tail _ (.tail _ (mR _ hp)), (hoff q' hq').1⟩
    have P7 := news_new F3 fq eq
    have P8 : News g2 C h' tail := News.keepB N3 kb fun p hp => ⟨.tail _ (.tail _ (mt p hp)), (offT p hp).1⟩
    have e1 : (rest t psj ++ adds).map tupE = (rest t psj).map tupE ++ adds.map tupE := List.map_append
    have e2 : (res ++ [(q, (gotten t psj).drop ((gotten t psj).length - 1), kq)]).map resE = res.map resE ++ [(q, listOf ((gotten t psj).drop ((gotten t psj).length - 1)).toArray kq)] := List.map_append
    have fr : ∀ {b : Addr} {o : Obj}, h.get? b = some o → @Ne Nat q b := fun {b o} e z => by
      have z' : q = b := z
      subst z'
      exact absurd (fq.symm.trans e) (by simp)
    have NN : News g2 C h' ((D, listOf (res.map fun q => Value.ref q.1).toArray k) :: (I, it) :: (x, instObj 231 dx) :: (dx, dictOf [⟨hk0, .str (Str.ofString "_headers") tk0, .ref lx⟩] n) :: (lx, listOf ((rest t psj ++ adds).map fun q => Value.ref q.1).toArray nl) :: (lk, listOf sv.toArray nk) :: (la, listOf av.toArray ka) :: (L' + 1 + 1 + 1 + 1 + 1 + 1 + 1 + 1, oX) :: (L' + 1 + 1 + 1 + 1 + 1 + 1 + 1 + 1 + 1 + 1, oA) :: ((rest t psj ++ adds).map tupE ++ ((res ++ [(q, (gotten t psj).drop ((gotten t psj).length - 1), kq)]).map resE ++ tail))) := by
      rw [e1, e2]
      exact News.app P1 (News.app P2 (News.app P3 (News.app (News.app P4 P5) (News.app (News.app P6 P7) P8))))
    have hDI : ∀ b o, (h.get? b = none ∨ (b, o) ∈ (x, instObj 231 dx) :: (dx, dictOf [⟨hk0, .str (Str.ofString "_headers") tk0, .ref lx⟩] n) :: (lx, listOf (psj.map fun q => Value.ref q.1).toArray kxj) :: (lk, listOf sv.toArray nk) :: (la, listOf av.toArray ka) :: (L' + 1 + 1 + 1 + 1 + 1 + 1 + 1 + 1, oX) :: (L' + 1 + 1 + 1 + 1 + 1 + 1 + 1 + 1 + 1 + 1, oA) :: (psj.map tupE ++ (res.map resE ++ tail))) → b ≠ D ∧ b ≠ I := fun b o hb => by
      rcases hb with hb | hb
      · refine ⟨fun z => ?_, fun z => ?_⟩
        · rw [z, gD] at hb
          cases hb
        · rw [z, gI] at hb
          cases hb
      · exact off _ hb
    refine ElemEnd.intro (nw' := (x, instObj 231 dx) :: (dx, dictOf [⟨hk0, .str (Str.ofString "_headers") tk0, .ref lx⟩] n) :: (lx, listOf ((rest t psj ++ adds).map fun q => Value.ref q.1).toArray nl) :: (lk, listOf sv.toArray nk) :: (la, listOf av.toArray ka) :: (L' + 1 + 1 + 1 + 1 + 1 + 1 + 1 + 1, oX) :: (L' + 1 + 1 + 1 + 1 + 1 + 1 + 1 + 1 + 1 + 1, oA) :: ((rest t psj ++ adds).map tupE ++ ((res ++ [(q, (gotten t psj).drop ((gotten t psj).length - 1), kq)]).map resE ++ tail))) F4 NN (fun p hp => ?_) ⟨rest t psj ++ adds, res ++ [(q, (gotten t psj).drop ((gotten t psj).length - 1), kq)], nl, ?_, ?_, ?_, ?_, rfl⟩
    · rw [e1, e2] at hp
      rcases List.mem_cons.mp hp with rfl | hp
      · exact hDI _ _ (.inr (by k_mem))
      rcases List.mem_cons.mp hp with rfl | hp
      · exact hDI _ _ (.inr (by k_mem))
      rcases List.mem_cons.mp hp with rfl | hp
      · exact hDI lx (listOf (psj.map fun q => Value.ref q.1).toArray kxj) (.inr (by k_mem))
      rcases List.mem_cons.mp hp with rfl | hp
      · exact hDI _ _ (.inr (by k_mem))
      rcases List.mem_cons.mp hp with rfl | hp
      · exact hDI _ _ (.inr (by k_mem))
      rcases List.mem_cons.mp hp with rfl | hp
      · exact hDI _ _ (.inr (by k_mem))
      rcases List.mem_cons.mp hp with rfl | hp
      · exact hDI _ _ (.inr (by k_mem))
      rcases List.mem_append.mp hp with hp | hp
      · rcases List.mem_append.mp hp with hp | hp
        · obtain ⟨q', hq', rfl⟩ := List.mem_map.mp hp
          exact hDI _ _ (.inr (mT q' (List.mem_filter.mp hq').1))
        · obtain ⟨q', hq', rfl⟩ := List.mem_map.mp hp
          exact hDI _ (tupObj q') (.inl (hadds q' hq').1)
      · rcases List.mem_append.mp hp with hp | hp
        · rcases List.mem_append.mp hp with hp | hp
          · exact hDI _ _ (.inr (mR _ hp))
          · rw [List.mem_singleton.mp hp]
            exact hDI _ it (.inl fq)
        · exact hDI _ _ (.inr (mt _ hp))
    · rw [List.take_add_one, ht, strikes_app]
      exact rows_strike hRj hT
    · rw [List.take_add_one, ht, strucks_app]
      exact hres.app (.cons (rows_last hRj) .nil)
    · rw [List.map_append]; rfl
    · intro q' hq'
      rcases List.mem_append.mp hq' with hq' | hq'
      · exact hoff q' hq'
      · rw [List.mem_singleton.mp hq']
        exact ⟨fr gl, fr gk, fun p hp => fr (N3 p (.tail _ (.tail _ (mt p hp)))).1⟩
  case done =>
    rintro ys nw k D h tk ⟨psj, res, kxj, hRj, hres, rfl, hoff, rfl⟩ off F3 N3 lt
    rw [List.take_of_length_le (by rw [asked_len, ha.length, asked_len]; exact Nat.le_refl _)] at hRj hres
    have ltt : ∀ p ∈ tail, p.1 < D := fun p hp => lt p (by repeat (first | exact List.mem_append_right _ hp | refine List.Mem.tail _ ?_))
    have ltla : @LT.lt Nat _ la D := lt (la, listOf av.toArray ka) (by k_mem)
    have ltlk : @LT.lt Nat _ lk D := lt (lk, listOf sv.toArray nk) (by k_mem)
    have gk := News.get N3 (a := lk) (by k_mem)
    k_steps
    refine append_at (N3.get (by k_mem)) (fun h9 hs e9 => ?_) (by rw [sizeLine_eq]; simp; (first | exact om230 hsv | omega))
    have kb := KeepBut.of hs
    have e9' : h9.get? lk = some (listOf (sv ++ [Value.ref D]).toArray (nk + 1)) := by simpa using e9
    have F9 := Fr.but F3 N3 (al := lk) (o := listOf sv.toArray nk) (by k_mem) kb
    have tne : ∀ q ∈ psj, q.1 ≠ lk := fun q hq => tup_ne' (N3 (tupE q) (by repeat (first | exact List.mem_append_left _ (List.mem_map_of_mem hq) | refine List.Mem.tail _ ?_))).1 gk (show Value.type "list" ≠ Value.type "tuple" by decide)
    have P1 : News g L' h9 [(x, instObj 231 dx), (dx, dictOf [⟨hk0, .str (Str.ofString "_headers") tk0, .ref lx⟩] n), (lx, listOf (psj.map fun q => Value.ref q.1).toArray kxj)] := News.keepB N3 kb (List.forall_mem_cons.mpr ⟨⟨by k_mem, by k_ne⟩, List.forall_mem_cons.mpr ⟨⟨by k_mem, by k_ne⟩, List.forall_mem_cons.mpr ⟨⟨by k_mem, by k_ne⟩, List.forall_mem_nil _⟩⟩⟩)
    have P2 : News g L' h9 [(lk, listOf (sv ++ [Value.ref D]).toArray (nk + 1))] := List.forall_mem_cons.mpr ⟨⟨e9', (N3 (lk, listOf sv.toArray nk) (by k_mem)).2⟩, List.forall_mem_nil _⟩
    have P3 : News g L' h9 [(la, listOf av.toArray ka), (L' + 1 + 1 + 1 + 1 + 1 + 1 + 1 + 1, oX), (L' + 1 + 1 + 1 + 1 + 1 + 1 + 1 + 1 + 1 + 1, oA), (D, listOf (res.map fun q => Value.ref q.1).toArray k)] := News.keepB N3 kb (List.forall_mem_cons.mpr ⟨⟨by k_mem, by k_ne⟩, List.forall_mem_cons.mpr ⟨⟨by k_mem, by k_ne⟩, List.forall_mem_cons.mpr ⟨⟨by k_mem, by k_ne⟩, List.forall_mem_cons.mpr ⟨⟨by k_mem, by k_ne⟩, List.forall_mem_nil _⟩⟩⟩⟩)
    have P4 : News g L' h9 (psj.map tupE ++ (res.map resE ++ tail)) := News.keepB N3 kb fun p hp => ⟨by repeat (first | exact hp | refine List.Mem.tail _ ?_), by
      rcases List.mem_append.mp hp with hp | hp
      · obtain ⟨q', hq', rfl⟩ := List.mem_map.mp hp
        exact tne q' hq'
      · rcases List.mem_append.mp hp with hp | hp
        · obtain ⟨q', hq', rfl⟩ := List.mem_map.mp hp
          exact (hoff q' hq').2.1
        · exact (offT p hp).2.1⟩
    have N9 := News.app P1 (News.app P2 (News.app P3 P4))
    simp only [List.cons_append, List.nil_append] at N9
    clear F3 N3
    k_steps
    exact hC h9 _ D k kxj psj res (Fr.unsee F9 ms) hRj hres N9 ltla ltt fun q hq => (hoff q hq).2
end
section
local macro_rules | `(tactic| walk_at "my pad") => `(tactic| skip)
theorem resetLC3 : True := by
  w_top off
  exact trivial
variable {prog : Program} {w : World} {p : Program} {loose : List Str} {mean : ExcName → Option Value} {mg mb : Str → Option Value}
  {A : Around} {G : Heap} {s : Shared} {Q : Value → Shared → Prop} {E : Value → Shared → Prop}
local macro_rules | `(tactic| walk_at "compareOp NotEq ref ref") => `(tactic| refine Halt.go ?_)
local macro_rules | `(tactic| walk_at "execs cons") => `(tactic| with_reducible refine haltN "sums" ?_)
theorem readsAll_strs {h : Heap} : ∀ {vs : List Value} {xs : List Str}, StrsAre vs xs → ReadsAll h vs (xs.map PyData.str) []
  | _, _, .nil => .nil
  | _, _, .cons k t r => by
    have := ReadsAll.cons (Reads.str (h := h) k t) (readsAll_strs (h := h) r)
    simpa using this
theorem reads_strs {h : Heap} {a : Addr} {vs : List Value} {xs : List Str} (hl : h.IsList a vs.toArray) (hi : StrsAre vs xs) : Reads h (.ref a) (.list (xs.map PyData.str)) [a] := by
  obtain ⟨o, ho, hc, n, hd⟩ := hl
  exact Reads.list ho hc hd (by simpa using readsAll_strs hi)
theorem canLay_strs : ∀ xs : List Str, (∀ x ∈ xs, PyData.strOk x = true) → PyData.canLayAll0 (xs.map PyData.str) = true
  | [], _ => by simp [PyData.canLayAll0]
  | n :: r, h => by simp [PyData.canLayAll0, PyData.canLay0, canLay_strs r fun x hx => h x (.tail _ hx), h n (.head _)]
theorem depth_strs : ∀ xs : List Str, PyData.depthAll (xs.map PyData.str) ≤ 1
  | [] => by simp [PyData.depthAll]
  | n :: r => by
    have := depth_strs r
    simp only [List.map_cons, PyData.depthAll, PyData.depth]
    (first | exact om386 this | omega)
theorem shaped_strs (xs : List Str) (h : ∀ x ∈ xs, PyData.strOk x = true) : PySem.SeqAt.shaped (.list (xs.map PyData.str)) = true := by
  have h1 := depth_strs xs
  have h2 : PyData.depth (.list (xs.map PyData.str)) ≤ 64 := by simp only [PyData.depth]; (first | exact om387 h1 | omega)
  show (PyData.canLay0 (.list (xs.map PyData.str)) && decide (PyData.depth (.list (xs.map PyData.str)) ≤ 64)) = true
  rw [Bool.and_eq_true]
  exact ⟨by simp only [PyData.canLay0]; exact canLay_strs xs h, decide_eq_true h2⟩
theorem noMix_strs : ∀ ns ms : List Str, PySem.SeqAt.noMixAll (ns.map PyData.str) (ms.map PyData.str) = true
  | [], [] => by simp [PySem.SeqAt.noMixAll]
  | [], _ :: _ => by simp [PySem.SeqAt.noMixAll]
  | _ :: _, [] => by simp [PySem.SeqAt.noMixAll]
  | _ :: r, _ :: q => by simp [PySem.SeqAt.noMixAll, PySem.SeqAt.noMix, noMix_strs r q]
theorem same_strs : ∀ ns ms : List Str, PySem.Spec.sameAll (ns.map PyData.str) (ms.map PyData.str) = decide (ns = ms)
  | [], [] => by simp [PySem.Spec.sameAll]
  | [], _ :: _ => by simp [PySem.Spec.sameAll]
  | _ :: _, [] => by simp [PySem.Spec.sameAll]
  | n :: r, k :: q => by
    simp only [List.map_cons, PySem.Spec.sameAll, PySem.Spec.same, same_strs r q]
    by_cases h : n = k <;> simp [h]
theorem ne_strs {a b : Addr} {vs us : List Value} {xs : List Str} {Q : Value → Shared → Prop} (hl : s.heap.IsList a vs.toArray) (hi : StrsAre vs xs) (hl' : s.heap.IsList b us.toArray) (hi' : StrsAre us xs) (ho : ∀ x ∈ xs, PyData.strOk x = true) (hu : A.units + 64 < cLine)
    (h : Q (.bool false) s) : wpAny (model prog w) A (compareOp .NotEq (.ref a) (.ref b)) Q E s :=
  ne_dataH_same (reads_strs hl hi) (reads_strs hl' hi') (shaped_strs xs ho) (shaped_strs xs ho) hu (by simp only [PySem.SeqAt.noMix]; exact noMix_strs xs xs) (by simp only [PySem.Spec.same]; rw [same_strs]; simpa using h)
section
variable {elt t1 i1 i2 : Expr} {x2 : Str} {px : Pos} {scope : Scope} {pos : Pos} {cenv : Env} {I D : Addr} {it : Obj} {g : Heap} {E' : Value → Shared → Prop} {m : Str → Option Value} {ys : List Value} {k : Nat} {Jn : List Value → Prop} {s₀ : Shared}
theorem iter_range' {r : Addr} {b : Int} {n : Nat} {t u v : Tok} {Q : Value → Shared → Prop} (hr : IsRange s.heap r 0 b 1 t u v) (ha : -1000000 ≤ b) (hb : b ≤ 1000000) (hab : n = b.toNat)
    (h : ∀ o : Obj, o.isFreed = false → IsRangeIter (s.heap.push o) s.heap.objs.size (0 + ((0 : Nat) : Int) * 1) ((n : Int) - ((0 : Nat) : Int)) 1 → Q (.ref s.heap.objs.size) { s with heap := s.heap.push o }) : wpAny (model prog w) A (pyIter (.ref r)) Q E s := by
  refine wpAny_pyIter_range hr (small_one (by (first | exact om388 | omega)) (by (first | exact om389 | omega)) (by (first | exact om390 ha | omega)) (by (first | exact om391 hb | omega))) ?_
  have e : Builtin.Range.rangeSize 0 b 1 = (n : Int) := by rw [rangeSize_one]; split <;> (first | exact om392 hab (by walk_at "my asm") | exact om393 hab (by walk_at "my asm") | omega)
  rw [e]
  refine h _ rfl ?_
  have := Heap.get?_push_size s.heap (o := { cls := .type "range_iterator", data := .fields #[rawInt 0, rawInt (n : Int), rawInt 1] }) rfl
  simpa using this
theorem in_range' {r : Addr} {b : Int} {n : Nat} {t u v : Tok} (hh : A.handled = none) (hr : IsRange s.heap r 0 b 1 t u v) (ha : -1000000 ≤ b) (hb : b ≤ 1000000) (hab : n = b.toNat) (hx : cenv.kindOf x2 = some .local) (hp : (cenv.scope.kind == .class || (cenv.scope.kind == .module && cenv.locals != cenv.globals)) = false)
    (hDI : I ≠ D) (F : Fr g cenv.locals s.heap m) (N : News g cenv.locals s.heap [(D, listOf ys.toArray k), (I, it)])
    (J : Nat → List Value → Prop) (hz : ∀ i ys, J i ys → ys.length ≤ 16777216) (hj : J 0 ys) (hn : ∀ ys, J n ys → Jn ys)
    (turn : ∀ (j : Nat) (v : Value) ys h tk k (mC : Str → Option Value) (E' : Value → Shared → Prop), j < n → (∃ t, v = .int (0 + (j : Int)) t) → J j ys → (∀ z, z ≠ x2 → mC z = m z) → Fr g cenv.locals h (fun z => if z = x2 then some v else mC z) → News g cenv.locals h [(D, listOf ys.toArray k), (I, it)] →
      wpAny (model prog w) A (eval elt cenv) (fun y s₂ => ∃ h' tk', s₂ = { s with heap := h', toks := tk' } ∧ h.StaysIn h' ∧ J (j + 1) (ys ++ [y])) E' { s with heap := h, toks := tk })
    (hs : ∃ h tk, s = { s₀ with heap := h, toks := tk }) :
    wpAny (model prog w) A (pyIter (.ref r)) (fun it2 s₂ => codeAny (model prog w) A (.compStart (lc2 elt t1 i1 (.Name x2 px) i2 scope pos) 1 it2 (.ref D) cenv) (OutEnd g cenv.locals D I it Jn s₀) s₂) E' s := by
  refine iter_range' hr ha hb hab fun o ho st => ?_
  exact in_walk (ex := []) o ho rfl (LCg.range_walks hh 0 n) hx hp (fun q => nomatch q) (fun q => nomatch q) hDI st F N J hz hj hn turn hs
end
theorem law_C3 {g : Heap} {L' : Addr} {QQ : Flow → Shared → Prop} {m : Str → Option Value}
  (X' : (Mine.hd.heap_39 w.params).In g) (T' : Top p loose mean mg mb g) (R : Room 128 A) (F : Fr g L' s.heap m) (hh0 : A.units + 64 < 9000)
  {gr s0 s1 s2 : Int} {i : Nat} {x dx lx la lz : Addr} {kx ka kz n : Nat} {hk0 : Int} {tk0 ti ts0 ts1 ts2 : Tok} {oX oA oZ oT : Obj} {tail : List (Addr × Obj)} {ps : List Pr} {rows : List (Str × Int)} {a0 a1 a2 : Str} {ta0 ta1 ta2 : Tok}
  (z0 : 1 ≤ s0 ∧ s0 ≤ 3) (z1 : s0 ≤ s1 ∧ s1 ≤ s0 + 1) (z2 : s1 ≤ s2 ∧ s2 ≤ s1 + 1) (hi : (i : Int) < s2)
  (dX : oX.data = .cell (some (.ref x))) (dA : oA.data = .cell (some (.ref la))) (dZ : oZ.data = .cell (some (.ref lz))) (dT : oT.data = .cell (some (.int (0 + (i : Int)) ti))) (hR : RowsAre ps rows) (hz : rows.length ≤ 12)
  (hkeys : rows.map (·.1) = ownL (s0 - 1 - i).toNat (s1 - 1 - i).toNat (s2 - 1 - i).toNat a0 a1 a2 3) (hso : ∀ x ∈ [a0, a1, a2], PyData.strOk x = true)
  (N : News g L' s.heap ((x, instObj 231 dx) :: (dx, dictOf [⟨hk0, .str (Str.ofString "_headers") tk0, .ref lx⟩] n) :: (lx, listOf (ps.map fun q => Value.ref q.1).toArray kx) :: (la, listOf #[Value.str a0 ta0, .str a1 ta1, .str a2 ta2] ka) :: (lz, listOf #[.int s0 ts0, .int s1 ts1, .int s2 ts2] kz) :: (L' + 1 + 1 + 1 + 1 + 1, oZ) :: (L' + 1 + 1 + 1 + 1 + 1 + 1 + 1 + 1, oX) :: (L' + 1 + 1 + 1 + 1 + 1 + 1 + 1 + 1 + 1, oT) :: (L' + 1 + 1 + 1 + 1 + 1 + 1 + 1 + 1 + 1 + 1, oA) :: (ps.map tupE ++ tail)))
  (hC : ∀ (h : Heap) (tk : Nat), Fr g L' h m →
    News g L' h ((x, instObj 231 dx) :: (dx, dictOf [⟨hk0, .str (Str.ofString "_headers") tk0, .ref lx⟩] n) :: (lx, listOf (ps.map fun q => Value.ref q.1).toArray kx) :: (la, listOf #[Value.str a0 ta0, .str a1 ta1, .str a2 ta2] ka) :: (lz, listOf #[.int s0 ts0, .int s1 ts1, .int s2 ts2] kz) :: (L' + 1 + 1 + 1 + 1 + 1, oZ) :: (L' + 1 + 1 + 1 + 1 + 1 + 1 + 1 + 1, oX) :: (L' + 1 + 1 + 1 + 1 + 1 + 1 + 1 + 1 + 1, oT) :: (L' + 1 + 1 + 1 + 1 + 1 + 1 + 1 + 1 + 1 + 1, oA) :: (ps.map tupE ++ tail)) →
    wpAny (model prog w) (A.deeper (lawEnv L')) (execs (lawTb.drop 3) (lawEnv L')) QQ E { s with heap := h, toks := tk }) :
  wpAny (model prog w) (A.deeper (lawEnv L')) (execs (lawTb.drop 2) (lawEnv L')) QQ E s := by
  refine' with_lit (K := Mine.hd.heap_39 w.params) ?k6 ?_
  case k6 => k_is
  intro hk
  obtain ⟨hlb, hls⟩ := law_is hk
  clear hk
  simp only [lawEnv, lawTb, hlb, hls] at hC ⊢
  clear hlb hls
  obtain ⟨ahd, dp, fr, gd, un⟩ := A
  obtain rfl : ahd = none := R.hh
  simp only [List.drop_succ_cons, List.drop_zero, forBody] at hC ⊢
  k_steps
  have gT : ∀ q ∈ ps, s.heap.get? q.1 = some (tupObj q) := fun q hq => (N (tupE q) (by repeat (first | exact List.mem_append_left _ (List.mem_map_of_mem hq) | refine List.Mem.tail _ ?_))).1
  refine keys_call X' T' (Fr.keep F) x dx lx kx ps (Room.deep R (by decide)) ⟨⟨_, News.get N (by k_mem)⟩, ⟨_, _, _, News.get N (by k_mem)⟩, News.get N (by k_mem), gT⟩ (by rw [hR.len]; (first | exact om394 hz | omega)) ?_
  intro q kq h1 tk1 k1 fq eq
  have F1 := Fr.keeps F k1
  have N1 := News.app (news_new F fq eq) (News.grown N k1)
  simp only [List.cons_append, List.nil_append] at N1
  have sK : StrsAre (ps.map (·.2.1)) (rows.map (·.1)) := by
    clear N N1 hC eq gT hkeys
    induction hR with
    | nil => exact .nil
    | cons h ih => exact .cons _ _ (ih (by simp at hz; (first | exact om395 hz | omega)))
  k_steps
  rename News _ _ _ _ => N4
  rename Fr _ _ _ _ => F4
  rename IsRange _ _ _ _ _ _ _ _ => hr4
  have g5 := (News.get N4 (a := L' + 1 + 1 + 1 + 1 + 1) (by k_mem))
  have g9 := (News.get N4 (a := L' + 1 + 1 + 1 + 1 + 1 + 1 + 1 + 1 + 1) (by k_mem))
  have g10 := (News.get N4 (a := L' + 1 + 1 + 1 + 1 + 1 + 1 + 1 + 1 + 1 + 1) (by k_mem))
  have Lz : Heap.IsList _ lz (List.toArray [Value.int s0 ts0, .int s1 ts1, .int s2 ts2]) := ⟨_, News.get N4 (a := lz) (by k_mem), rfl, _, rfl⟩
  have La : Heap.IsList _ la (List.toArray [Value.str a0 ta0, .str a1 ta1, .str a2 ta2]) := ⟨_, News.get N4 (a := la) (by k_mem), rfl, _, rfl⟩
  have iz : IntsAre [Value.int s0 ts0, .int s1 ts1, .int s2 ts2] [s0, s1, s2] := .cons _ _ (.cons _ _ (.cons _ _ .nil))
  refine comp2_range (n := 3) rfl hr4 (by decide) (by decide) (by decide) (fun _ _ => rfl) (by decide) rfl rfl F4 N4 (fun j ys => ys = ownL (s0 - 1 - (0 + (i : Int))).toNat (s1 - 1 - (0 + (i : Int))).toNat (s2 - 1 - (0 + (i : Int))).toNat (Value.str a0 ta0) (.str a1 ta1) (.str a2 ta2) j) rfl ?turn2 (end_value ?done2)
  case turn2 =>
    rintro C D2 I hI hID hDC j v ys h5 tk5 k5 it mC E' hj ⟨tv, rfl⟩ hJ F5 N5
    have X5 := X'.keeps F4.keep
    have T5 := T'.keeps F4.keep
    have hDI : I ≠ D2 := Nat.ne_of_lt hID
    have hj3 : j = 0 ∨ j = 1 ∨ j = 2 := by (first | exact om325 hj | omega)
    rcases hj3 with rfl | rfl | rfl
    · have F6 : Fr _ C h5 (fun z => if z = Str.ofString "k" then some (Value.int 0 tv) else mC z) := F5
      clear F5
      k_steps
      clear hr4
      rename News _ _ _ _ => N7
      rename Fr _ _ _ _ => F7
      rename IsRange _ _ _ _ _ _ _ _ => hr7
      refine in_range' (n := (s0 - 1 - (0 + (i : Int))).toNat) rfl hr7 (show -1000000 ≤ s0 - 1 - (0 + (i : Int)) by (first | exact om396 z1.2 z2.2 hi | omega)) (show s0 - 1 - (0 + (i : Int)) ≤ 1000000 by (first | exact om397 z0.2 | omega)) rfl rfl rfl hDI F7 (News.sub N7 (by walk_at "my sub")) (fun j ys => ys = ownL (s0 - 1 - (0 + (i : Int))).toNat (s1 - 1 - (0 + (i : Int))).toNat (s2 - 1 - (0 + (i : Int))).toNat (Value.str a0 ta0) (.str a1 ta1) (.str a2 ta2) 0 ++ List.replicate j (Value.str a0 ta0) ∧ j ≤ 8) ?hz ?hj ?hn ?turn ⟨_, _, rfl⟩
      case hz =>
        rintro j ys ⟨rfl, _⟩
        have := ownL_len (z0 := (s0 - 1 - (0 + (i : Int))).toNat) (z1 := (s1 - 1 - (0 + (i : Int))).toNat) (z2 := (s2 - 1 - (0 + (i : Int))).toNat) (a := Value.str a0 ta0) (b := .str a1 ta1) (c := .str a2 ta2) 0
        rw [List.length_append, List.length_replicate]
        (first | exact om398 z0.2 z1.2 z2.2 this (by walk_at "my asm") | omega)
      case hj => exact ⟨by rw [hJ, List.replicate_zero, List.append_nil], by decide⟩
      case hn => rintro ys ⟨rfl, _⟩; rfl
      case turn =>
        rintro j v ys h8 tk8 k8 mC8 E8 hj _ ⟨rfl, _⟩ hm F8 N8
        have F9 := Fr.seeX1 F8 (x1 := Str.ofString "k") (hm _ (by decide))
        clear F8
        have hj5 : j + 1 ≤ 8 := by (first | exact om399 z0.2 hj | omega)
        k_steps
        all_goals first
          | exact StaysIn.refl _
          | exact ⟨by rw [List.append_assoc]; exact congrArg _ (List.replicate_succ' ..).symm, hj5⟩
          | exact hj5
          | (rw [List.append_assoc]; exact congrArg _ (List.replicate_succ' ..).symm)
    · have F6 : Fr _ C h5 (fun z => if z = Str.ofString "k" then some (Value.int 1 tv) else mC z) := F5
      clear F5
      k_steps
      clear hr4
      rename News _ _ _ _ => N7
      rename Fr _ _ _ _ => F7
      rename IsRange _ _ _ _ _ _ _ _ => hr7
      refine in_range' (n := (s1 - 1 - (0 + (i : Int))).toNat) rfl hr7 (show -1000000 ≤ s1 - 1 - (0 + (i : Int)) by (first | exact om400 z2.2 hi | omega)) (show s1 - 1 - (0 + (i : Int)) ≤ 1000000 by (first | exact om401 z1.2 z0.2 | omega)) rfl rfl rfl hDI F7 (News.sub N7 (by walk_at "my sub")) (fun j ys => ys = ownL (s0 - 1 - (0 + (i : Int))).toNat (s1 - 1 - (0 + (i : Int))).toNat (s2 - 1 - (0 + (i : Int))).toNat (Value.str a0 ta0) (.str a1 ta1) (.str a2 ta2) 1 ++ List.replicate j (Value.str a1 ta1) ∧ j ≤ 8) ?hz ?hj ?hn ?turn ⟨_, _, rfl⟩
      case hz =>
        rintro j ys ⟨rfl, _⟩
        have := ownL_len (z0 := (s0 - 1 - (0 + (i : Int))).toNat) (z1 := (s1 - 1 - (0 + (i : Int))).toNat) (z2 := (s2 - 1 - (0 + (i : Int))).toNat) (a := Value.str a0 ta0) (b := .str a1 ta1) (c := .str a2 ta2) 1
        rw [List.length_append, List.length_replicate]
        (first | exact om398 z0.2 z1.2 z2.2 this (by walk_at "my asm") | omega)
      case hj => exact ⟨by rw [hJ, List.replicate_zero, List.append_nil], by decide⟩
      case hn => rintro ys ⟨rfl, _⟩; rfl
      case turn =>
        rintro j v ys h8 tk8 k8 mC8 E8 hj _ ⟨rfl, _⟩ hm F8 N8
        have F9 := Fr.seeX1 F8 (x1 := Str.ofString "k") (hm _ (by decide))
        clear F8
        have hj5 : j + 1 ≤ 8 := by (first | exact om402 z0.2 z1.2 hj | omega)
        k_steps
        all_goals first
          | exact StaysIn.refl _
          | exact ⟨by rw [List.append_assoc]; exact congrArg _ (List.replicate_succ' ..).symm, hj5⟩
          | exact hj5
          | (rw [List.append_assoc]; exact congrArg _ (List.replicate_succ' ..).symm)
    · have F6 : Fr _ C h5 (fun z => if z = Str.ofString "k" then some (Value.int 2 tv) else mC z) := F5
      clear F5
      k_steps
      clear hr4
      rename News _ _ _ _ => N7
      rename Fr _ _ _ _ => F7
      rename IsRange _ _ _ _ _ _ _ _ => hr7
      refine in_range' (n := (s2 - 1 - (0 + (i : Int))).toNat) rfl hr7 (show -1000000 ≤ s2 - 1 - (0 + (i : Int)) by (first | exact om403 hi | omega)) (show s2 - 1 - (0 + (i : Int)) ≤ 1000000 by (first | exact om404 z2.2 z0.2 z1.2 | omega)) rfl rfl rfl hDI F7 (News.sub N7 (by walk_at "my sub")) (fun j ys => ys = ownL (s0 - 1 - (0 + (i : Int))).toNat (s1 - 1 - (0 + (i : Int))).toNat (s2 - 1 - (0 + (i : Int))).toNat (Value.str a0 ta0) (.str a1 ta1) (.str a2 ta2) 2 ++ List.replicate j (Value.str a2 ta2) ∧ j ≤ 8) ?hz ?hj ?hn ?turn ⟨_, _, rfl⟩
      case hz =>
        rintro j ys ⟨rfl, _⟩
        have := ownL_len (z0 := (s0 - 1 - (0 + (i : Int))).toNat) (z1 := (s1 - 1 - (0 + (i : Int))).toNat) (z2 := (s2 - 1 - (0 + (i : Int))).toNat) (a := Value.str a0 ta0) (b := .str a1 ta1) (c := .str a2 ta2) 2
        rw [List.length_append, List.length_replicate]
        (first | exact om398 z0.2 z1.2 z2.2 this (by walk_at "my asm") | omega)
      case hj => exact ⟨by rw [hJ, List.replicate_zero, List.append_nil], by decide⟩
      case hn => rintro ys ⟨rfl, _⟩; rfl
      case turn =>
        rintro j v ys h8 tk8 k8 mC8 E8 hj _ ⟨rfl, _⟩ hm F8 N8
        have F9 := Fr.seeX1 F8 (x1 := Str.ofString "k") (hm _ (by decide))
        clear F8
        have hj5 : j + 1 ≤ 8 := by (first | exact om405 z0.2 z1.2 z2.2 hj | omega)
        k_steps
        all_goals first
          | exact StaysIn.refl _
          | exact ⟨by rw [List.append_assoc]; exact congrArg _ (List.replicate_succ' ..).symm, hj5⟩
          | exact hj5
          | (rw [List.append_assoc]; exact congrArg _ (List.replicate_succ' ..).symm)
  case done2 =>
    rintro ys nw k2 D2 h5 tk5 ⟨rfl, rfl⟩ off2 F5 N5 lt2
    k_lt lt2
    clear F4 N4
    have sO := strs_own (s0 - 1 - (0 + (i : Int))).toNat (s1 - 1 - (0 + (i : Int))).toNat (s2 - 1 - (0 + (i : Int))).toNat a0 a1 a2 ta0 ta1 ta2
    rw [show (0 : Int) + (i : Int) = (i : Int) from by (first | exact om406 | omega)] at sO N5
    k_steps
    rename News _ _ _ _ => N6
    rename Fr _ _ _ _ => F6
    refine ne_strs (vs := ps.map (·.2.1)) (xs := rows.map (·.1)) ⟨_, News.get N6 (a := q) (by k_mem), rfl, _, rfl⟩ sK ⟨_, News.get N6 (a := D2) (by k_mem), rfl, _, rfl⟩ (hkeys ▸ sO) (fun x hx => ?_) ?_ ?_
    · rw [hkeys] at hx
      rcases own_mem hx with rfl | rfl | rfl
      · exact hso _ (.head _)
      · exact hso _ (.tail _ (.head _))
      · exact hso _ (.tail _ (.tail _ (.head _)))
    · show un + 3 + 64 < 9900
      have : un + 64 < 9000 := hh0
      (first | exact om407 this | omega)
    (try clear N F)
    k_steps
    rename News _ _ _ _ => NZ
    rename Fr _ _ _ _ => FZ
    exact hC _ _ FZ (News.sub NZ fun p hp => by repeat (first | exact hp | refine List.Mem.tail _ ?_))
end
section
section
variable {prog : Program} {w : World} {A : Around} {E : Value → Shared → Prop} {R : Result → Shared → Prop} {s : Shared} {env : Env}
theorem comp_loopK {elt target iter : Expr} {ifs : List Expr} {scope : Scope} {pos : Pos} {cenv : Env} {I D : Addr} {ex : List Addr} {g : Heap} {n : Nat} {St : Nat → Heap → Prop} {Up : Nat → (Str → Option Value) → (Str → Option Value) → Prop}
    (W : Src prog w A cenv target I ex g n St Up) (J : Nat → List Value → List (Addr × Obj) → Prop) (hz : ∀ i ys nw, J i ys nw → ys.length ≤ 16777216)
    (hex : ∀ b ∈ ex, (∃ o, g.get? b = some o) ∨ ∃ o, ∀ i ys nw, J i ys nw → (b, o) ∈ nw)
    (turn : ∀ i ys nw it k h tk mC m' (E' : Value → Shared → Prop), i < n → St (i + 1) h → J i ys nw → Up i mC m' → (∀ p ∈ nw, p.1 ≠ D ∧ p.1 ≠ I) → Fr g cenv.locals h m' → News g cenv.locals h ((D, listOf ys.toArray k) :: (I, it) :: nw) →
      wpAny (model prog w) A (forIn ifs true fun c r => if r = true then do let ok ← isTrue c cenv (eval c cenv); pure (ForInStep.yield ok) else pure (ForInStep.yield r)) (fun ok s₃ =>
        if ok = true then wpAny (model prog w) A (eval elt cenv) (ElemEnd g cenv.locals D I (listOf ys.toArray k) it (fun y nw' => J (i + 1) (ys ++ [y]) nw') { s with heap := h, toks := tk }) E' s₃
        else ElemEnd g cenv.locals D I (listOf ys.toArray k) it (fun _ nw' => J (i + 1) ys nw') { s with heap := h, toks := tk } .none s₃) E' { s with heap := h, toks := tk })
    (done : ∀ ys nw k h tk mC, J n ys nw → (∀ p ∈ nw, p.1 ≠ D ∧ p.1 ≠ I) → Fr g cenv.locals h mC → News g cenv.locals h ((D, listOf ys.toArray k) :: nw) → R (.ok .next) { s with heap := h, toks := tk })
    {it0 : Obj} {nw0 : List (Addr × Obj)} {m0 : Str → Option Value} {ys0 : List Value} {k0 : Nat} (hDI : D ≠ I) (st : St 0 s.heap) (F : Fr g cenv.locals s.heap m0) (N : News g cenv.locals s.heap ((D, listOf ys0.toArray k0) :: (I, it0) :: nw0)) (off : ∀ p ∈ nw0, p.1 ≠ D ∧ p.1 ≠ I) (hj : J 0 ys0 nw0) :
    codeAny (model prog w) A (.compLoop (.ListComp elt [⟨target, iter, ifs, 0⟩] scope pos) 0 (.ref I) (.ref D) cenv) R s := by
  refine comp_turns (CompI g cenv.locals D I n St J s) ?_ n
    ⟨0, s.heap, s.toks, m0, ys0, k0, it0, nw0, rfl, Nat.zero_le _, rfl, st, F, N, off, hj⟩
  rintro kk s' ⟨i, h, tk, m, ys, kd, it, nw, rfl, hi, rfl, st, F, N, off, hj⟩
  have N' : News g cenv.locals h ((I, it) :: (D, listOf ys.toArray kd) :: nw) := fun p hp => by
    rcases List.mem_cons.mp hp with rfl | hp
    · exact N _ (.tail _ (.head _))
    · rcases List.mem_cons.mp hp with rfl | hp
      · exact N _ (.head _)
      · exact N _ (.tail _ (.tail _ hp))
  have off' : ∀ p ∈ (D, listOf ys.toArray kd) :: nw, p.1 ≠ I := fun p hp => by
    rcases List.mem_cons.mp hp with rfl | hp
    · exact hDI
    · exact (off p hp).2
  rcases Nat.lt_or_ge i n with hlt | hge
  · refine wpAny_mono (W.step i _ m it _ (fun s₂ => wpAny (model prog w) A (forIn ifs true fun c r => if r = true then do let ok ← isTrue c cenv (eval c cenv); pure (ForInStep.yield ok) else pure (ForInStep.yield r)) (fun ok s₃ =>
            if ok = true then wpAny (model prog w) A (eval elt cenv) (fun x s₄ =>
              wpAny (model prog w) A (call (.builtin "list.append") [.ref D, x]) (fun _ s₅ => ∃ m, m < n - i ∧ (CompI g cenv.locals D I n St J s) m s₅) (notedBy (model prog w) A cenv fun e s' => R (.error e) s') s₄) (notedBy (model prog w) A cenv fun e s' => R (.error e) s') s₃
            else ∃ m, m < n - i ∧ (CompI g cenv.locals D I n St J s) m s₃) (notedBy (model prog w) A cenv fun e s' => R (.error e) s') s₂) _ hlt st F N' off' ?_) (fun r s₁ hr => ?_) fun _ _ e => e
    · rintro it' h' tk' m' hU F' N1 st'
      have N2 : News g cenv.locals h' ((D, listOf ys.toArray kd) :: (I, it') :: nw) := fun p hp => by
        rcases List.mem_cons.mp hp with rfl | hp
        · exact N1 _ (.tail _ (.head _))
        · rcases List.mem_cons.mp hp with rfl | hp
          · exact N1 _ (.head _)
          · exact N1 _ (.tail _ (.tail _ hp))
      have again : ∀ h'' (dob : Obj) (nw' : List (Addr × Obj)) m'', Fr g cenv.locals h'' m'' → News g cenv.locals h'' ((D, dob) :: (I, it') :: nw') → ∀ ys', J (i + 1) ys' nw' → St (i + 1) h'' := by
        intro h'' dob nw' m'' F'' N'' ys' hj'
        refine W.frame _ _ _ st' fun b hb o e => ?_
        rcases List.mem_cons.mp hb with q | q
        · rw [q, (N2 _ (.tail _ (.head _))).1] at e
          rw [q, ← e]; exact (N'' _ (.tail _ (.head _))).1
        · rcases hex b q with ⟨o', ho'⟩ | ⟨o', ho'⟩
          · have e1 := F'.keep _ _ ho'
            rw [e] at e1
            rw [Option.some.inj e1]; exact F''.keep _ _ ho'
          · have e1 := (N2 _ (.tail _ (.tail _ (ho' _ _ _ hj)))).1
            rw [e] at e1
            rw [Option.some.inj e1]; exact (N'' _ (.tail _ (.tail _ (ho' _ _ _ hj')))).1
      refine wpAny_mono (turn i ys nw it' kd h' tk' m m' _ hlt st' hj hU off F' N2) (fun ok s₃ hs => ?_) fun _ _ e => e
      cases ok with
      | true =>
        rw [if_pos rfl] at hs ⊢
        refine wpAny_mono hs (fun y s₄ h₄ => ?_) fun _ _ e => e
        obtain ⟨h₅, tk₅, m₅, nw₅, rfl, F₅, N₅, off₅, hj₅⟩ := h₄
        have hu : UpdF D (listOf ys.toArray kd) ((D, listOf ys.toArray kd) :: (I, it') :: nw₅) (fun o' => (D, o') :: (I, it') :: nw₅) := .head fun p hp => by
          rcases List.mem_cons.mp hp with rfl | hp
          · exact hDI.symm
          · exact (off₅ p hp).1
        refine append_is F₅ N₅ (.head _) hu (hz _ _ _ hj) fun h₆ F₆ N₆ _ => ⟨n - (i + 1), by (first | exact om10 hlt | omega), i + 1, h₆, tk₅, m₅, ys ++ [y], kd + 1, it', nw₅, rfl, hlt, rfl, again _ _ _ _ F₆ N₆ _ hj₅, F₆, N₆, off₅, hj₅⟩
      | false =>
        rw [if_neg (by decide)] at hs ⊢
        obtain ⟨h₅, tk₅, m₅, nw₅, rfl, F₅, N₅, off₅, hj₅⟩ := hs
        exact ⟨n - (i + 1), by (first | exact om10 hlt | omega), i + 1, h₅, tk₅, m₅, ys, kd, it', nw₅, rfl, hlt, rfl, again _ _ _ _ F₅ N₅ _ hj₅, F₅, N₅, off₅, hj₅⟩
    · cases r with
      | none => exact hr.elim
      | some v => exact hr
  · have : i = n := Nat.le_antisymm hi hge
    subst this
    refine W.done _ m it _ _ _ st F N' off' fun h' tk' F' N1 => ?_
    exact done ys nw kd h' tk' m hj off F' N1
noncomputable def CompEndK (s : Shared) (I : Addr) (h₀ : Heap) (L : Addr) (m : Str → Option Value) (news : List (Addr × Obj)) (n : Nat) (J : Nat → List Value → List (Addr × Obj) → Prop) (RR : Value → Addr → Result → Shared → Prop) : Prop :=
  ∀ ys nw k D C h tk mC, J n ys nw → (∀ p ∈ nw, p.1 ≠ D ∧ p.1 ≠ C) → C ≠ L → D ≠ C → h₀.get? C = none → h.Ns C mC → Fr h₀ L h m → News h₀ L h ((D, listOf ys.toArray k) :: nw) → (∀ p ∈ news, p.1 < D) → (∀ b o, b ≠ I → (∀ p ∈ news, b ≠ p.1) → s.heap.get? b = some o → b ≠ C ∧ h.get? b = some o) → RR (.ref D) C (.ok .next) { s with heap := h, toks := tk }
theorem comp_runK {elt target iter : Expr} {ifs : List Expr} {scope : Scope} {cl : List (Str × Addr)} {pos : Pos} {RR : Value → Addr → Result → Shared → Prop} {h₀ : Heap} {L I : Addr} {m : Str → Option Value} {news : List (Addr × Obj)} {it0 : Obj} {ex : List Addr} {n : Nat} {St : Nat → Heap → Prop} {Up : Nat → (Str → Option Value) → (Str → Option Value) → Prop}
    (hcell : ∀ y ∈ scope.names, y.2 ≠ .cell) (hkind : scope.kind = .function) (F : Fr h₀ L s.heap m) (N : News h₀ L s.heap ((I, it0) :: news)) (offI : ∀ p ∈ news, p.1 ≠ I) (st : St 0 s.heap) (hfp : ∀ b ∈ ex, b < s.heap.objs.size)
    (W : ∀ C g, s.heap.objs.size < C → Src prog w A (compEnvC scope cl C env) target I ex g n St Up) (J : Nat → List Value → List (Addr × Obj) → Prop) (hz : ∀ i ys nw, J i ys nw → ys.length ≤ 16777216)
    (hex : ∀ b ∈ ex, (b ≠ I ∧ (∀ p ∈ news, b ≠ p.1) ∧ ∃ o, s.heap.get? b = some o) ∨ ∃ o, ∀ i ys nw, J i ys nw → (b, o) ∈ nw) (hj : J 0 [] news)
    (turn : ∀ g C D, g.StaysIn s.heap → h₀.StaysIn g → (∀ b o, b ≠ I → (∀ p ∈ news, b ≠ p.1) → s.heap.get? b = some o → g.get? b = some o) → (∀ p ∈ news, p.1 < D) → I < D → D < C →
      ∀ i ys nw it k h tk mC m' (E' : Value → Shared → Prop), i < n → St (i + 1) h → J i ys nw → Up i mC m' → (∀ p ∈ nw, p.1 ≠ D ∧ p.1 ≠ I) → Fr g C h m' → News g C h ((D, listOf ys.toArray k) :: (I, it) :: nw) →
      wpAny (model prog w) A (forIn ifs true fun c r => if r = true then do let ok ← isTrue c (compEnvC scope cl C env) (eval c (compEnvC scope cl C env)); pure (ForInStep.yield ok) else pure (ForInStep.yield r)) (fun ok s₃ =>
        if ok = true then wpAny (model prog w) A (eval elt (compEnvC scope cl C env)) (ElemEnd g C D I (listOf ys.toArray k) it (fun y nw' => J (i + 1) (ys ++ [y]) nw') { s with heap := h, toks := tk }) E' s₃
        else ElemEnd g C D I (listOf ys.toArray k) it (fun _ nw' => J (i + 1) ys nw') { s with heap := h, toks := tk } .none s₃) E' { s with heap := h, toks := tk })
    (done : CompEndK s I h₀ L m news n J RR) :
    CompGo prog w A env cl scope (.ListComp elt [⟨target, iter, ifs, 0⟩] scope pos) E RR (.ref I) s := by
  have hIx := N _ (.head _)
  have hI : I < s.heap.objs.size := Heap.lt_size hIx.1
  have hnew : ∀ p ∈ news, p.1 < s.heap.objs.size := fun p hp => Heap.lt_size (N p (.tail _ hp)).1
  unfold CompGo
  refine wpAny_newObj_type (wpAny_newFunctionEnv hcell (by intro y hy; simp at hy) (fun h₁ hns₁ hsb₁ => ?_) hkind)
  dsimp only at hns₁ hsb₁ ⊢
  generalize hH2 : s.heap.push { cls := .type "list", dict := none, data := .seq ([] : List Value).toArray } = H2 at hns₁ hsb₁ ⊢
  have hC : H2.objs.size = s.heap.objs.size + 1 := by rw [← hH2, Heap.size_push]
  have hDC : s.heap.objs.size ≠ H2.objs.size := by rw [hC]; exact Nat.ne_of_lt (Nat.lt_succ_self _)
  have hne : ∀ b, b < s.heap.objs.size → b ≠ H2.objs.size := fun b h => Nat.ne_of_lt (by rw [hC]; exact Nat.lt_succ_of_lt h)
  have old : ∀ b o, s.heap.get? b = some o → h₁.get? b = some o := fun b o e => hsb₁.extBut b o (hne b (Heap.lt_size e)) (Heap.get?_push_of_some _ (hH2 ▸ Heap.get?_push_of_some _ e))
  have hacc : h₁.get? s.heap.objs.size = some (listOf ([] : List Value).toArray 0) := hsb₁.extBut _ _ hDC (Heap.get?_push_of_some _ (hH2 ▸ Heap.get?_push_size _ rfl))
  obtain ⟨g, hg⟩ : ∃ g, g = hideAll s.heap (((I, it0) :: news).map (·.1)) := ⟨_, rfl⟩
  have gs : g.StaysIn s.heap := fun b o e => by rw [hg] at e; exact of_hideAll _ e
  have gz : g.objs.size = s.heap.objs.size := by rw [hg]; exact hideAll_size _ _
  have less : ∀ b o, b ≠ I → (∀ p ∈ news, b ≠ p.1) → s.heap.get? b = some o → g.get? b = some o := fun b o h1 h2 e => by
    rw [hg]
    refine hideAll_get _ e fun hm => ?_
    rcases List.mem_map.mp hm with ⟨q, hq, rfl⟩
    rcases List.mem_cons.mp hq with rfl | hq
    · exact h1 rfl
    · exact h2 q hq rfl
  have hs₀ : h₀.StaysIn g := fun b o e => less b o (fun q => by rw [q, hIx.2.2] at e; cases e) (fun p hp q => by rw [q, (N p (.tail _ hp)).2.2] at e; cases e) (F.keep b o e)
  obtain ⟨oL, hoL⟩ := loc_none F
  have gL : g.get? L = some oL := less L oL (fun q => hIx.2.1 q.symm) (fun p hp q => (N p (.tail _ hp)).2.1 q.symm) hoL
  have F₁ : Fr g H2.objs.size h₁ (fun x => ([] : List (Str × Value)).reverse.lookup x) := ⟨hns₁, fun b o e => old b o (gs b o e), by rw [gz, hC]; exact Nat.le_succ _⟩
  have gnone : ∀ a, s.heap.objs.size ≤ a → g.get? a = none := fun a ha => by
    cases e : g.get? a with
    | none => rfl
    | some o' => exact absurd (Heap.lt_size e) (by rw [gz]; exact Nat.not_lt.mpr ha)
  have hide : ∀ p ∈ (I, it0) :: news, g.get? p.1 = none := fun p hp => by rw [hg]; exact hideAll_none _ (List.mem_map_of_mem hp)
  have N₁ : News g H2.objs.size h₁ ((s.heap.objs.size, listOf ([] : List Value).toArray 0) :: (I, it0) :: news) := fun p hp => by
    rcases List.mem_cons.mp hp with rfl | hp
    · exact ⟨hacc, hDC, gnone _ (Nat.le_refl _)⟩
    · have h1 := N p hp
      exact ⟨old _ _ h1.1, hne _ (Heap.lt_size h1.1), hide p hp⟩
  have offD : ∀ p ∈ news, p.1 ≠ s.heap.objs.size ∧ p.1 ≠ I := fun p hp => ⟨Nat.ne_of_lt (hnew p hp), offI p hp⟩
  have hCenv : ({ (newEnv scope H2.objs.size env.globals cl env.qual none .none (some env) 0) with scope := relabel scope env } : Env) = { (newEnv scope H2.objs.size env.globals cl env.qual none .none (some env) 0) with scope := relabel scope env } := rfl
  have W₁ := W H2.objs.size g (by rw [hC]; exact Nat.lt_succ_self _)
  have st₁ : St 0 h₁ := W₁.frame _ _ _ st fun b _ o e => old b o e
  have loop : ∀ s₃ : Shared, s₃ = { s with heap := h₁, toks := s.toks + ([] : List (Str × Value)).length } →
      codeAny (model prog w) A (.compLoop (.ListComp elt [⟨target, iter, ifs, 0⟩] scope pos) 0 (.ref I) (.ref s.heap.objs.size) (compEnvC scope cl H2.objs.size env))
        (RR (.ref s.heap.objs.size) H2.objs.size) s₃ := by
    rintro s₃ rfl
    refine comp_loopK W₁ J hz (fun b hb => (hex b hb).imp (fun ⟨h1, h2, o, e⟩ => ⟨o, less b o h1 h2 e⟩) id) (turn g H2.objs.size s.heap.objs.size gs hs₀ less hnew hI (by rw [hC]; exact Nat.lt_succ_self _)) ?_ (Ne.symm (Nat.ne_of_lt hI)) st₁ F₁ N₁ offD hj
    intro ys nw k h tk mC hJ off F₂ N₂
    have hlt0 : ∀ b o, h₀.get? b = some o → b ≠ H2.objs.size := fun b o e => hne b (Heap.lt_size (F.keep b o e))
    have hLC : L ≠ H2.objs.size := hne L (Heap.lt_size hoL)
    refine done ys nw k s.heap.objs.size H2.objs.size h tk mC hJ (fun p hp => ⟨(off p hp).1, (N₂ p (.tail _ hp)).2.1⟩) hLC.symm hDC ?_ F₂.ns ⟨F.ns.at' fun o e => ?_, fun b o e => F₂.keep b o (hs₀ b o e), F.above⟩ (fun p hp => ?_) hnew (fun b o hbI hb e => ⟨hne b (Heap.lt_size e), F₂.keep b o (less b o hbI hb e)⟩)
    · cases e : h₀.get? H2.objs.size with
      | none => rfl
      | some o => exact absurd rfl (hlt0 _ _ e)
    · rw [hoL] at e
      cases e
      exact F₂.keep _ _ gL
    · have h1 := N₂ p hp
      refine ⟨h1.1, fun q => ?_, ?_⟩
      · have := h1.2.2
        rw [q, gL] at this; cases this
      · cases e : h₀.get? p.1 with
        | none => rfl
        | some o => rw [hs₀ _ _ e] at h1; cases h1.2.2
  exact codeAny_compStart_list (loop _ rfl) (W₁.self 0 _ _ _ st₁ (loop _ rfl))

theorem end_valueK {s : Shared} {h₀ : Heap} {L : Addr} {m : Str → Option Value} {news : List (Addr × Obj)} {n : Nat} {J : Nat → List Value → List (Addr × Obj) → Prop} {Q : Value → Shared → Prop}
    (done : ∀ ys nw k D h tk, J n ys nw → (∀ p ∈ nw, p.1 ≠ D) → Fr h₀ L h m → News h₀ L h ((D, listOf ys.toArray k) :: nw) → (∀ p ∈ news, p.1 < D) → (∀ b o, (∀ p ∈ news, b ≠ p.1) → s.heap.get? b = some o → h.get? b = some o) → Q (.ref D) { s with heap := h, toks := tk }) : ∀ o : Obj, CompEndK { s with heap := s.heap.push o } s.heap.objs.size h₀ L m news n J (compPost (model prog w) A E none Q) := by
  intro o0 ys nw k D C h tk mC hJ off hCL hDC hC nsC F N lt kp
  refine ⟨mC, nsC, fun h' hs' => ?_⟩
  have kk : ∀ b o, b ≠ C → h.get? b = some o → h'.get? b = some o := fun b o hb e => (hs'.2 b hb).trans e
  refine done ys nw k D h' tk hJ (fun p hp => (off p hp).1) ⟨F.ns.at' fun o e => kk _ o hCL.symm e, fun b o e => kk b o (fun q => by rw [q, hC] at e; cases e) (F.keep b o e), F.above⟩ (fun p hp => ?_) lt (fun b o hb e => let ⟨c1, c2⟩ := kp b o (Nat.ne_of_lt (Heap.lt_size e)) hb (Heap.get?_push_of_some _ e); kk _ _ c1 c2)
  have hpC : p.1 ≠ C := by
    rcases List.mem_cons.mp hp with rfl | hp
    · exact hDC
    · exact (off p hp).2
  exact ⟨kk _ _ hpC (N p hp).1, (N p hp).2⟩
noncomputable def CompTurnK (prog : Program) (w : World) (A : Around) (env : Env) (s : Shared) (h₀ : Heap) (cl : List (Str × Addr)) (scope : Scope) (elt : Expr) (ifs : List Expr) (x : Str) (news : List (Addr × Obj)) (n : Nat) (P : Nat → Value → Prop) (St : Nat → Heap → Prop) (J : Nat → List Value → List (Addr × Obj) → Prop) : Prop :=
  ∀ g C D I, g.StaysIn s.heap → h₀.StaysIn g → (∀ b o, (∀ p ∈ news, b ≠ p.1) → s.heap.get? b = some o → g.get? b = some o) → (∀ p ∈ news, p.1 < I) → s.heap.objs.size ≤ I → I < D → D < C →
      ∀ i v ys nw it k h tk (mC : Str → Option Value) (E' : Value → Shared → Prop), i < n → I = s.heap.objs.size → St (i + 1) h → P i v → J i ys nw → (∀ p ∈ nw, p.1 ≠ D ∧ p.1 ≠ I) → Fr g C h (fun y => if y = x then some v else mC y) → News g C h ((D, listOf ys.toArray k) :: (I, it) :: nw) →
      wpAny (model prog w) A (forIn ifs true fun c r => if r = true then do let ok ← isTrue c (compEnvC scope cl C env) (eval c (compEnvC scope cl C env)); pure (ForInStep.yield ok) else pure (ForInStep.yield r)) (fun ok s₃ =>
        if ok = true then wpAny (model prog w) A (eval elt (compEnvC scope cl C env)) (ElemEnd g C D I (listOf ys.toArray k) it (fun y nw' => J (i + 1) (ys ++ [y]) nw') { s with heap := h, toks := tk }) E' s₃
        else ElemEnd g C D I (listOf ys.toArray k) it (fun _ nw' => J (i + 1) ys nw') { s with heap := h, toks := tk } .none s₃) E' { s with heap := h, toks := tk }
theorem comp_walkK {elt iter : Expr} {x : Str} {px : Pos} {ifs : List Expr} {scope : Scope} {cl : List (Str × Addr)} {pos : Pos} {RR : Value → Addr → Result → Shared → Prop} {h₀ : Heap} {L : Addr} {m : Str → Option Value} {news : List (Addr × Obj)} {ex : List Addr} {n : Nat} {P : Nat → Value → Prop} {St : Nat → Heap → Prop}
    (o : Obj) (ho : o.isFreed = false) (W : Walks prog w A s.heap.objs.size (s.heap.objs.size :: ex) [s.heap.objs.size] n P St) (hit : ∀ i h, St i h → ∃ o, h.get? s.heap.objs.size = some o) (st : St 0 (s.heap.push o)) (hxs : ∀ b ∈ ex, ∃ o, s.heap.get? b = some o)
    (hcell : ∀ y ∈ scope.names, y.2 ≠ .cell) (hkind : scope.kind = .function) (hx : scope.names.lookup x = some .local) (F : Fr h₀ L s.heap m) (N : News h₀ L s.heap news) (J : Nat → List Value → List (Addr × Obj) → Prop) (hz : ∀ i ys nw, J i ys nw → ys.length ≤ 16777216)
    (hex : ∀ b ∈ ex, (∀ p ∈ news, b ≠ p.1) ∨ ∃ o, ∀ i ys nw, J i ys nw → (b, o) ∈ nw) (hj : J 0 [] news)
    (turn : CompTurnK prog w A env s h₀ cl scope elt ifs x news n P St J) (done : CompEndK { s with heap := s.heap.push o } s.heap.objs.size h₀ L m news n J RR) :
    CompGo prog w A env cl scope (.ListComp elt [⟨.Name x px, iter, ifs, 0⟩] scope pos) E RR (.ref s.heap.objs.size) { s with heap := s.heap.push o } := by
  have F' : Fr h₀ L (s.heap.push o) m := F.push _
  have hnew : ∀ p ∈ news, p.1 < s.heap.objs.size := fun p hp => Heap.lt_size (N p hp).1
  have hI : News h₀ L (s.heap.push o) ((s.heap.objs.size, o) :: news) := fun p hp => by
    rcases List.mem_cons.mp hp with rfl | hp
    · exact ⟨Heap.get?_push_size _ ho, (new_ne_loc F).symm, new_none_base F⟩
    · exact ⟨Heap.get?_push_of_some _ (N p hp).1, (N p hp).2⟩
  refine comp_runK (s := { s with heap := s.heap.push o }) (I := s.heap.objs.size) (St := St) (n := n) (ex := ex) (Up := fun i m m' => ∃ v, P i v ∧ m' = fun y => if y = x then some v else m y) hcell hkind F' hI (fun p hp => Nat.ne_of_lt (hnew p hp)) st
    (fun b hb => let ⟨o', e⟩ := hxs b hb; Heap.lt_size (Heap.get?_push_of_some o e)) (fun C g hC => src_walks W hit (lookup_relabel_local hx) (by simp [compEnvC, relabel, hkind]) ?_) J hz (fun b hb => (hex b hb).imp (fun h => ?_) id) hj ?_ ?_
  · intro hm
    obtain ⟨o', e⟩ := hxs _ hm
    have h1 := Heap.lt_size (Heap.get?_push_of_some o e)
    exact absurd (Nat.lt_trans h1 hC) (Nat.lt_irrefl _)
  · obtain ⟨o', e⟩ := hxs b hb
    exact ⟨Nat.ne_of_lt (Heap.lt_size e), h, o', Heap.get?_push_of_some o e⟩
  · intro g C D gs hg less lt hID hDC i ys nw it k h tk mC m' E' hi hSt hJ ⟨v, hP, em⟩ off F₁ N₁
    subst em
    have gs' : g.StaysIn s.heap := fun b o' e => by
      have h1 := gs b o' e
      have h2 : b < s.heap.objs.size ∨ b = s.heap.objs.size := by
        have := Heap.lt_size h1
        have e2 : (s.heap.push o).objs.size = s.heap.objs.size + 1 := Heap.size_push ..
        exact Nat.lt_or_eq_of_le (Nat.le_of_lt_succ (by rw [e2] at this; exact this))
      rcases h2 with h2 | h2
      · rw [← h1]; exact (push_lt h2).symm
      · have := (N₁ _ (.tail _ (.head _))).2.2
        rw [← h2, e] at this; cases this
    exact turn g C D s.heap.objs.size gs' hg (fun b o' h1 h2 => less b o' (Nat.ne_of_lt (Heap.lt_size h2)) h1 (Heap.get?_push_of_some _ h2)) hnew (Nat.le_refl _) hID hDC i v ys nw it k h tk mC E' hi rfl hSt hP hJ off F₁ N₁
  · exact done
variable {elt iter : Expr} {x : Str} {px : Pos} {ifs : List Expr} {scope : Scope} {cl : List (Str × Addr)} {pos : Pos} {RR : Value → Addr → Result → Shared → Prop} {h₀ : Heap} {L : Addr} {m : Str → Option Value} {news : List (Addr × Obj)}
theorem comp_listK {l : Addr} {vs : List Value} {nn : Nat} (hh : A.handled = none) (hl : s.heap.get? l = some (listOf vs.toArray nn)) (hcell : ∀ y ∈ scope.names, y.2 ≠ .cell) (hkind : scope.kind = .function) (hx : scope.names.lookup x = some .local) (F : Fr h₀ L s.heap m) (N : News h₀ L s.heap news)
    (J : Nat → List Value → List (Addr × Obj) → Prop) (hz : ∀ i ys nw, J i ys nw → ys.length ≤ 16777216) (hex : (∀ p ∈ news, l ≠ p.1) ∨ ∃ o, ∀ i ys nw, J i ys nw → (l, o) ∈ nw) (hj : J 0 [] news)
    (turn : CompTurnK prog w A env s h₀ cl scope elt ifs x news vs.length (fun i v => vs[i]? = some v) (fun i h => h.IsListIter s.heap.objs.size l i ∧ h.IsList l vs.toArray) J) (done : ∀ o, CompEndK { s with heap := s.heap.push o } s.heap.objs.size h₀ L m news vs.length J RR) :
    wpAny (model prog w) A (pyIter (.ref l)) (fun it s₂ => CompGo prog w A env cl scope (.ListComp elt [⟨.Name x px, iter, ifs, 0⟩] scope pos) E RR it s₂) E s := by
  have hls : s.heap.IsList l vs.toArray := ⟨_, hl, rfl, _, rfl⟩
  have hne : l ≠ s.heap.objs.size := Nat.ne_of_lt (Heap.lt_size hl)
  refine wpAny_pyIter_list hls ?_
  have hsz : vs.toArray.size = vs.length := by simp
  have W := Walks.list (prog := prog) (w := w) hh s.heap.objs.size l hne vs.toArray
  rw [hsz] at W
  exact comp_walkK (ex := [l]) (P := fun i v => vs[i]? = some v) (St := fun i h => h.IsListIter s.heap.objs.size l i ∧ h.IsList l vs.toArray) _ rfl (by simpa using W) (fun i h st => let ⟨⟨o, e, _⟩, _⟩ := st; ⟨o, e⟩) ⟨⟨_, Heap.get?_push_size _ rfl, rfl, rfl⟩, hls.at fun o e => Heap.get?_push_of_some _ e⟩ (fun b hb => by rw [List.mem_singleton.mp hb]; exact ⟨_, hl⟩) hcell hkind hx F N J hz (fun b hb => by rw [List.mem_singleton.mp hb]; exact hex) hj turn (done _)
end
theorem TbAt.ledF {P line col : Nat} {qual : Str} {g h : Heap} {L : Addr} {m : Str → Option Value} {ps : Array Value} (x : TbAt P line col qual h ps) (F : Fr g L h m) (gP : g.get? P = none) :
    ∃ c o, News g L h [(P, tabObj ps), (c, o)] ∧ (∀ h', g.StaysIn h' → h'.get? P = some (tabObj ps) → h'.get? c = some o → TbAt P line col qual h' ps) ∧ (c = P ∨ ∃ vs s t, o.data = .fields vs ∧ vs[1]? = some (.str s t)) := by
  have nP : h.get? P = some (tabObj ps) ∧ P ≠ L ∧ g.get? P = none := ⟨x.1, not_loc F x.1 (fun es ep q => by cases q), gP⟩
  obtain ⟨xP, rfl | ⟨c', oc, vs, t, rfl, x1, x2, x3, x4, x5⟩⟩ := x
  · exact ⟨P, _, List.forall_mem_cons.mpr ⟨nP, List.forall_mem_cons.mpr ⟨nP, List.forall_mem_nil _⟩⟩, fun h' _ e _ => ⟨e, .inl rfl⟩, .inl rfl⟩
  · cases q : g.get? c' with
    | none => exact ⟨c', oc, List.forall_mem_cons.mpr ⟨nP, List.forall_mem_cons.mpr ⟨⟨x3, not_loc F x3 (fun es ep q => by rw [x4] at q; cases q), q⟩, List.forall_mem_nil _⟩⟩, fun h' _ e e2 => ⟨e, .inr ⟨c', oc, vs, t, rfl, x1, x2, e2, x4, x5⟩⟩, .inr ⟨vs, _, t, x4, x5⟩⟩
    | some o =>
      have : o = oc := by
        have := F.keep _ _ q
        rw [x3] at this; exact (Option.some.inj this).symm
      subst this
      exact ⟨P, _, List.forall_mem_cons.mpr ⟨nP, List.forall_mem_cons.mpr ⟨nP, List.forall_mem_nil _⟩⟩, fun h' k e _ => ⟨e, .inr ⟨c', o, vs, t, rfl, x1, x2, k _ _ q, x4, x5⟩⟩, .inl rfl⟩
theorem Tabs.ledF {g h : Heap} {L : Addr} {m : Str → Option Value} (x : Tabs h) (F : Fr g L h m) (n54 : g.get? 54 = none) (n61 : g.get? 61 = none) :
    ∃ p1 p2 c1 o1 c2 o2, News g L h [(54, tabObj p1), (61, tabObj p2), (c1, o1), (c2, o2)] ∧ TabN g p1 p2 c1 o1 c2 o2 ∧ (c1 = 54 ∨ ∃ vs s t, o1.data = .fields vs ∧ vs[1]? = some (.str s t)) ∧ (c2 = 61 ∨ ∃ vs s t, o2.data = .fields vs ∧ vs[1]? = some (.str s t)) := by
  obtain ⟨p1, x1⟩ := x.one
  obtain ⟨p2, x2⟩ := x.two
  obtain ⟨c1, o1, N1, k1, f1⟩ := x1.ledF F n54
  obtain ⟨c2, o2, N2, k2, f2⟩ := x2.ledF F n61
  exact ⟨p1, p2, c1, o1, c2, o2, List.forall_mem_cons.mpr ⟨N1 _ (.head _), List.forall_mem_cons.mpr ⟨N2 _ (.head _), List.forall_mem_cons.mpr ⟨N1 _ (.tail _ (.head _)), List.forall_mem_cons.mpr ⟨N2 _ (.tail _ (.head _)), List.forall_mem_nil _⟩⟩⟩⟩,
    fun h' k a b c d => ⟨⟨p1, k1 h' k a c⟩, ⟨p2, k2 h' k b d⟩⟩, f1, f2⟩
end
section
theorem resetLC4 : True := by
  w_top off
  exact trivial
variable {prog : Program} {w : World} {p : Program} {loose : List Str} {mean : ExcName → Option Value} {mg mb : Str → Option Value}
  {A : Around} {G : Heap} {s : Shared} {Q : Value → Shared → Prop} {E : Value → Shared → Prop}
local macro_rules | `(tactic| walk_at "execs cons") => `(tactic| with_reducible refine haltN "table" ?_)
noncomputable def TabX (gB : Heap) (base : List (Addr × Obj)) (p1 p2 : Array Value) (d1 : Addr) (e1 : Obj) (d2 : Addr) (e2 : Obj) : Prop :=
  ∀ h', gB.StaysIn h' → (∀ p ∈ base, h'.get? p.1 = some p.2) → h'.get? 54 = some (tabObj p1) → h'.get? 61 = some (tabObj p2) → h'.get? d1 = some e1 → h'.get? d2 = some e2 → Tabs h'
theorem tbAt_base {P line col : Nat} {qual : Str} {h gB h' : Heap} {ps : Array Value} {base : List (Addr × Obj)} (x : TbAt P line col qual h ps) (hb : ∀ p ∈ base, h.get? p.1 = some p.2) (hB : ∀ b o, b ≠ 54 → b ≠ 61 → (∀ p ∈ base, b ≠ p.1) → h.get? b = some o → gB.get? b = some o)
    (k : gB.StaysIn h') (kb : ∀ p ∈ base, h'.get? p.1 = some p.2) (hP : h'.get? P = some (tabObj ps)) : TbAt P line col qual h' ps := by
  obtain ⟨xP, rfl | ⟨c', oc, vs, t, rfl, x1, x2, x3, x4, x5⟩⟩ := x
  · exact ⟨hP, .inl rfl⟩
  · refine ⟨hP, .inr ⟨c', oc, vs, t, rfl, x1, x2, ?_, x4, x5⟩⟩
    by_cases hm : ∃ p ∈ base, c' = p.1
    · obtain ⟨p, hp, rfl⟩ := hm
      have := hb p hp
      rw [x3] at this
      rw [Option.some.inj this]; exact kb p hp
    · exact k _ _ (hB _ _ x1 x2 (fun p hp e => hm ⟨p, hp, e⟩) x3)
theorem News.keepTT {g h h' : Heap} {L : Addr} {nw ms : List (Addr × Obj)} (N : News g L h nw) (k : KeepT h h') (hs : ∀ p ∈ ms, p ∈ nw ∧ p.1 ≠ 54 ∧ p.1 ≠ 61) : News g L h' ms := fun p hp => ⟨k _ _ (hs p hp).2.1 (hs p hp).2.2 (N p (hs p hp).1).1, (N p (hs p hp).1).2⟩
theorem law_C4 {g : Heap} {L' : Addr} {QQ : Flow → Shared → Prop} {m : Str → Option Value}
  (X' : (Mine.hd.heap_39 w.params).In g) (T' : Top p loose mean mg mb g) (R : Room 128 A) (F : Fr g L' s.heap m) (n54 : g.get? 54 = none) (n61 : g.get? 61 = none) (tb : Tabs s.heap)
  {wd : Nat} {tw : Tok} {x dx lx : Addr} {kx n : Nat} {hk0 : Int} {tk0 : Tok} {oX : Obj} {tail : List (Addr × Obj)} {ps : List Pr} {rows : List (Str × Int)}
  (mw : m (Str.ofString "width") = some (.int (wd : Int) tw)) (hw : 130 ≤ wd ∧ wd ≤ 4403) (dX : oX.data = .cell (some (.ref x))) (hR : RowsAre ps rows) (hz : rows.length ≤ 12) (hb : ∀ r ∈ rows, Builtin.Int.intBits r.2 ≤ 140) (hS : ∀ x ∈ psums 0 (rows.map (·.2)), -(2 ^ 128) ≤ x ∧ x ≤ 2 ^ 128)
  (h54 : @LT.lt Nat _ 61 L') (gt : @LT.lt Nat _ L' x ∧ @LT.lt Nat _ L' dx ∧ @LT.lt Nat _ L' lx) (off : ∀ p ∈ ps.map tupE ++ tail, p.1 ≠ 54 ∧ p.1 ≠ 61)
  (N : News g L' s.heap ((x, instObj 231 dx) :: (dx, dictOf [⟨hk0, .str (Str.ofString "_headers") tk0, .ref lx⟩] n) :: (lx, listOf (ps.map fun q => Value.ref q.1).toArray kx) :: (L' + 1 + 1 + 1 + 1 + 1 + 1 + 1 + 1, oX) :: (ps.map tupE ++ tail)))
  (hC : ∀ (h : Heap) (tk : Nat) (q : Addr) (kq : Nat) (ys : List Value), Fr g L' h (fun y => if y = Str.ofString "sums" then some (.ref q) else m y) → Tabs h → IntsAre ys (psums 0 (rows.map (·.2))) →
    News g L' h ((q, listOf ys.toArray kq) :: (x, instObj 231 dx) :: (dx, dictOf [⟨hk0, .str (Str.ofString "_headers") tk0, .ref lx⟩] n) :: (lx, listOf (ps.map fun q => Value.ref q.1).toArray kx) :: (L' + 1 + 1 + 1 + 1 + 1 + 1 + 1 + 1, oX) :: (ps.map tupE ++ tail)) →
    wpAny (model prog w) (A.deeper (lawEnv L')) (execs (lawTb.drop 4) (lawEnv L')) QQ E { s with heap := h, toks := tk }) :
  wpAny (model prog w) (A.deeper (lawEnv L')) (execs (lawTb.drop 3) (lawEnv L')) QQ E s := by
  refine' with_lit (K := Mine.hd.heap_39 w.params) ?k6 ?_
  case k6 => k_is
  intro hk
  obtain ⟨hlb, hls⟩ := law_is hk
  clear hk
  simp only [lawEnv, lawTb, hlb, hls] at hC ⊢
  clear hlb hls
  obtain ⟨ahd, dp, fr, gd, un⟩ := A
  obtain rfl : ahd = none := R.hh
  simp only [List.drop_succ_cons, List.drop_zero, forBody] at hC ⊢
  have F0 := Fr.see F mw
  k_steps
  have gT : ∀ q ∈ ps, s.heap.get? q.1 = some (tupObj q) := fun q hq => (N (tupE q) (by repeat (first | exact List.mem_append_left _ (List.mem_map_of_mem hq) | refine List.Mem.tail _ ?_))).1
  refine values_call X' T' (Fr.keep F) x dx lx kx ps (Room.deep R (by decide)) ⟨⟨_, News.get N (by k_mem)⟩, ⟨_, _, _, News.get N (by k_mem)⟩, News.get N (by k_mem), gT⟩ (by rw [hR.len]; (first | exact om394 hz | omega)) ?_
  intro q kq h1 tk1 k1 fq eq
  have F1 := Fr.keeps F k1
  have tb1 := tb.stay k1
  have N1 := News.app (news_new F fq eq) (News.grown N k1)
  simp only [List.cons_append, List.nil_append] at N1
  have sV : StrsAre (ps.map (·.2.2)) (rows.map fun r => apT r.2) := by
    clear N N1 hC eq gT hS hb off
    induction hR with
    | nil => exact .nil
    | cons h ih => exact .cons _ _ (ih (by simp at hz; (first | exact om395 hz | omega)))
  have q54 : q ≠ 54 := fun e => by
    obtain ⟨p0, t0⟩ := tb.one
    rw [e, t0.1] at fq; cases fq
  have q61 : q ≠ 61 := fun e => by
    obtain ⟨p0, t0⟩ := tb.two
    rw [e, t0.1] at fq; cases fq
  obtain ⟨base, hB⟩ : ∃ b : List (Addr × Obj), b = (q, listOf (ps.map (·.2.2)).toArray kq) :: (x, instObj 231 dx) :: (dx, dictOf [⟨hk0, .str (Str.ofString "_headers") tk0, .ref lx⟩] n) :: (lx, listOf (ps.map fun q => Value.ref q.1).toArray kx) :: (L' + 1 + 1 + 1 + 1 + 1 + 1 + 1 + 1, oX) :: (ps.map tupE ++ tail) := ⟨_, rfl⟩
  rw [← hB] at N1
  have mq : (q, listOf (ps.map (·.2.2)).toArray kq) ∈ base := by rw [hB]; exact .head _
  have offB : ∀ p ∈ base, p.1 ≠ 54 ∧ p.1 ≠ 61 := by
    rw [hB]
    obtain ⟨g1, g2, g3⟩ := gt
    refine List.forall_mem_cons.mpr ⟨⟨q54, q61⟩, List.forall_mem_cons.mpr ⟨⟨by k_ne, by k_ne⟩, List.forall_mem_cons.mpr ⟨⟨by k_ne, by k_ne⟩, List.forall_mem_cons.mpr ⟨⟨by k_ne, by k_ne⟩, List.forall_mem_cons.mpr ⟨⟨by k_ne, by k_ne⟩, off⟩⟩⟩⟩⟩
  obtain ⟨⟨p1, t1⟩, ⟨p2, t2⟩⟩ := tb1
  have NB0 : News g L' h1 ((54, tabObj p1) :: (61, tabObj p2) :: (54, tabObj p1) :: (61, tabObj p2) :: base) := by
    have a1 : h1.get? 54 = some (tabObj p1) ∧ (54 : Addr) ≠ L' ∧ g.get? 54 = none := ⟨t1.1, not_loc F1 t1.1 (fun es ep q => by cases q), n54⟩
    have a2 : h1.get? 61 = some (tabObj p2) ∧ (61 : Addr) ≠ L' ∧ g.get? 61 = none := ⟨t2.1, not_loc F1 t2.1 (fun es ep q => by cases q), n61⟩
    exact List.forall_mem_cons.mpr ⟨a1, List.forall_mem_cons.mpr ⟨a2, List.forall_mem_cons.mpr ⟨a1, List.forall_mem_cons.mpr ⟨a2, N1⟩⟩⟩⟩
  obtain ⟨gB, hgB⟩ : ∃ gB, gB = hideAll h1 (54 :: 61 :: base.map (·.1)) := ⟨_, rfl⟩
  have gBin : ∀ b o, gB.get? b = some o → h1.get? b = some o ∧ b ≠ 54 ∧ b ≠ 61 ∧ ∀ p ∈ base, b ≠ p.1 := fun b o e => by
    rw [hgB] at e
    refine ⟨of_hideAll _ e, fun q => ?_, fun q => ?_, fun p hp q => ?_⟩
    · rw [q, hideAll_none _ (List.mem_cons_self ..)] at e; cases e
    · rw [q, hideAll_none _ (.tail _ (List.mem_cons_self ..))] at e; cases e
    · rw [q, hideAll_none _ (.tail _ (.tail _ (List.mem_map_of_mem hp)))] at e; cases e
  have gBof : ∀ b o, b ≠ 54 → b ≠ 61 → (∀ p ∈ base, b ≠ p.1) → h1.get? b = some o → gB.get? b = some o := fun b o a1 a2 a3 e => by
    rw [hgB]
    refine hideAll_get _ e fun hm => ?_
    rcases List.mem_cons.mp hm with q | hm
    · exact a1 q
    · rcases List.mem_cons.mp hm with q | hm
      · exact a2 q
      · obtain ⟨p, hp, q⟩ := List.mem_map.mp hm
        exact a3 p hp q.symm
  have X0 : TabX gB base p1 p2 54 (tabObj p1) 61 (tabObj p2) := fun h' k kb a b _ _ => ⟨⟨p1, tbAt_base t1 (fun p hp => (N1 p hp).1) gBof k kb a⟩, ⟨p2, tbAt_base t2 (fun p hp => (N1 p hp).1) gBof k kb b⟩⟩
  k_steps
  refine comp_listK rfl (News.get N1 mq) (by decide) rfl rfl F1 NB0 (fun j ys nw => ∃ p1 p2 d1 e1 d2 e2, nw = (54, tabObj p1) :: (61, tabObj p2) :: (d1, e1) :: (d2, e2) :: base ∧ TabX gB base p1 p2 d1 e1 d2 e2 ∧ IntsAre ys ((rows.map (·.2)).take j)) ?hz (.inr ⟨_, fun j ys nw ⟨_, _, _, _, _, _, e, _⟩ => by rw [e]; exact .tail _ (.tail _ (.tail _ (.tail _ mq)))⟩) ⟨p1, p2, 54, _, 61, _, rfl, X0, .nil⟩ ?turn (end_valueK ?done)
  case hz =>
    rintro j ys nw ⟨_, _, _, _, _, _, _, _, hj⟩
    rw [hj.length, List.length_take, List.length_map]
    (first | exact om340 hz | omega)
  case turn =>
    rintro g2 C D I gs hgg less lt hI hID hDC j v ys nw it k h tk mC E' hj hIe ⟨⟨oI, eI, cI, dI⟩, _⟩ hv ⟨b1, b2, d1, e1, d2, e2, rfl, hX, hJ⟩ off3 F3 N3
    have X3 := X'.keeps hgg
    have T3 := T'.keeps hgg
    have bm : ∀ p ∈ base, p ∈ (D, listOf ys.toArray k) :: (I, it) :: (54, tabObj b1) :: (61, tabObj b2) :: (d1, e1) :: (d2, e2) :: base := fun p hp => .tail _ (.tail _ (.tail _ (.tail _ (.tail _ (.tail _ hp)))))
    have g54 : g2.get? 54 = none := News.none N3 (by k_mem)
    have g61 : g2.get? 61 = none := News.none N3 (by k_mem)
    have in2 : gB.StaysIn g2 := fun b o e => by
      obtain ⟨a0, a1, a2, a3⟩ := gBin b o e
      exact less b o (List.forall_mem_cons.mpr ⟨a1, List.forall_mem_cons.mpr ⟨a2, List.forall_mem_cons.mpr ⟨a1, List.forall_mem_cons.mpr ⟨a2, a3⟩⟩⟩⟩) a0
    have of2 : g2.StaysIn gB := fun b o e => gBof b o (fun q => by rw [q, g54] at e; cases e) (fun q => by rw [q, g61] at e; cases e) (fun p hp q => by rw [q, (N3 p (bm p hp)).2.2] at e; cases e) (gs b o e)
    have tb3 : Tabs h := hX h (StaysIn.trans in2 F3.keep) (fun p hp => (N3 p (bm p hp)).1) (News.get N3 (by k_mem)) (News.get N3 (by k_mem)) (News.get N3 (by k_mem)) (News.get N3 (by k_mem))
    obtain ⟨y, ty, rfl, hy⟩ := strs_at sV j v hv
    obtain ⟨z, hz1, rfl⟩ : ∃ z, (rows.map (·.2))[j]? = some z ∧ y = apT z := by
      rw [List.getElem?_map] at hy ⊢
      cases e : rows[j]? with
      | none => rw [e] at hy; cases hy
      | some r => rw [e] at hy; exact ⟨r.2, rfl, (Option.some.inj hy).symm⟩
    have hzb : Builtin.Int.intBits z ≤ 140 := by
      obtain ⟨r, hr, rfl⟩ := List.mem_map.mp (List.mem_of_getElem? hz1)
      exact hb r hr
    refine wpAny_tests_nil ?_
    rw [if_pos rfl]
    k_steps
    refine told_call X3 T3 (Fr.keep F3) g54 g61 tb3 z _ (Room.deep R (by decide)) hzb ?_
    intro tt h5 tk5 k5 tb5
    have F5 := Fr.keepT F3 tb3 g54 g61 k5
    obtain ⟨p5, p6, c5, o5, c6, o6, N5, TN5, f5, f6⟩ := Tabs.ledF tb5 F5 g54 g61
    have D54 : ∀ {a : Addr} {o : Obj}, (a, o) ∈ [(D, listOf ys.toArray k), (I, it)] → a ≠ 54 ∧ a ≠ 61 := fun {a o} ha => by
      have h1 := (off3 (54, tabObj b1) (.head _))
      have h2 := (off3 (61, tabObj b2) (.tail _ (.head _)))
      rcases List.mem_cons.mp ha with e | ha
      · cases e; exact ⟨h1.1.symm, h2.1.symm⟩
      · cases List.mem_singleton.mp ha; exact ⟨h1.2.symm, h2.2.symm⟩
    have NA := News.keepTT (ms := [(D, listOf ys.toArray k), (I, it)]) N3 k5 (fun p hp => ⟨by
      rcases List.mem_cons.mp hp with rfl | hp
      · exact .head _
      · rw [List.mem_singleton.mp hp]; exact .tail _ (.head _), D54 hp⟩)
    have NBs := News.keepTT (ms := base) N3 k5 (fun p hp => ⟨bm p hp, offB p hp⟩)
    have NN := News.app NA (News.app N5 NBs)
    simp only [List.cons_append, List.nil_append] at NN
    refine ElemEnd.intro F5 NN (fun p hp => ?_) ⟨p5, p6, c5, o5, c6, o6, rfl, fun h' k kb a b c d => TN5 h' (StaysIn.trans of2 k) a b c d, ?_⟩
    · have eIt : it = oI := by
        have := News.get N3 (a := I) (by k_mem)
        rw [hIe] at this
        rw [eI] at this
        exact (Option.some.inj this).symm
      have f54 := off3 (54, tabObj b1) (.head _)
      have f61 := off3 (61, tabObj b2) (.tail _ (.head _))
      have code : ∀ {c : Addr} {o : Obj}, h5.get? c = some o → (∃ vs s t, o.data = .fields vs ∧ vs[1]? = some (.str s t)) → c ≠ D ∧ c ≠ I := fun {c o} e hf => by
        obtain ⟨vs', s', t', a1, a2⟩ := hf
        refine ⟨fun q => ?_, fun q => ?_⟩
        · rw [q, (NA _ (.head _)).1] at e
          rw [← Option.some.inj e] at a1
          cases a1
        · rw [q, (NA _ (.tail _ (.head _))).1] at e
          rw [← Option.some.inj e, eIt, dI] at a1
          cases a1
          cases a2
      have fresh : ∀ {b : Addr} {o : Obj}, (b, o) ∈ [(54, tabObj p5), (61, tabObj p6), (c5, o5), (c6, o6)] → b ≠ D ∧ b ≠ I := fun {b o} hm => by
        have e := (N5 _ hm).1
        simp only [List.mem_cons, List.not_mem_nil, or_false, Prod.mk.injEq] at hm
        rcases hm with ⟨rfl, rfl⟩ | ⟨rfl, rfl⟩ | ⟨rfl, rfl⟩ | ⟨rfl, rfl⟩
        · exact f54
        · exact f61
        · rcases f5 with rfl | f5
          · exact f54
          · exact code e f5
        · rcases f6 with rfl | f6
          · exact f61
          · exact code e f6
      rcases List.mem_cons.mp hp with rfl | hp
      · exact fresh (.head _)
      rcases List.mem_cons.mp hp with rfl | hp
      · exact fresh (.tail _ (.head _))
      rcases List.mem_cons.mp hp with rfl | hp
      · exact fresh (.tail _ (.tail _ (.head _)))
      rcases List.mem_cons.mp hp with rfl | hp
      · exact fresh (.tail _ (.tail _ (.tail _ (.head _))))
      · exact off3 p (.tail _ (.tail _ (.tail _ (.tail _ hp))))
    · rw [List.take_add_one, hz1]
      exact hJ.append (.cons _ _ .nil)
  case done =>
    rintro ys nw k D h tk ⟨b1, b2, d1, e1, d2, e2, rfl, hX, hJ⟩ off3 F3 N3 lt kp
    rw [List.take_of_length_le (by rw [sV.length, List.length_map, List.length_map]; exact Nat.le_refl _)] at hJ
    have bm : ∀ p ∈ base, p ∈ (D, listOf ys.toArray k) :: (54, tabObj b1) :: (61, tabObj b2) :: (d1, e1) :: (d2, e2) :: base := fun p hp => .tail _ (.tail _ (.tail _ (.tail _ (.tail _ hp))))
    have tb3 : Tabs h := hX h (fun b o e => by
      obtain ⟨a0, a1, a2, a3⟩ := gBin b o e
      exact kp b o (List.forall_mem_cons.mpr ⟨a1, List.forall_mem_cons.mpr ⟨a2, List.forall_mem_cons.mpr ⟨a1, List.forall_mem_cons.mpr ⟨a2, a3⟩⟩⟩⟩) a0) (fun p hp => (N3 p (bm p hp)).1) (News.get N3 (by k_mem)) (News.get N3 (by k_mem)) (News.get N3 (by k_mem)) (News.get N3 (by k_mem))
    have F4 := Fr.see F3 mw
    k_steps
    refine sums_call X' T' (Fr.keep F3) n54 n61 tb3 D ys (rows.map (·.2)) k wd _ (Room.deep R (by decide)) (News.get N3 (by k_mem)) hJ (by rw [List.length_map]; exact hz) hS (fun x hx => by
      obtain ⟨r, hr, rfl⟩ := List.mem_map.mp hx
      exact Nat.le_trans (hb r hr) (by decide)) hw.1 hw.2 ?_
    intro q9 ys9 k9 h9 tk9 kT9 tb9 fq9 eq9 hI9
    have F9 := Fr.keepT F3 tb3 n54 n61 kT9
    obtain ⟨p5, p6, c5, o5, c6, o6, N5, TN5⟩ := Tabs.led tb9 F9 n54 n61
    have NBs := News.keepTT (ms := base) N3 kT9 (fun p hp => ⟨bm p hp, offB p hp⟩)
    have NN := News.app (news_new F3 fq9 eq9) (News.app N5 NBs)
    simp only [List.cons_append, List.nil_append] at NN
    clear F3 F4 N3
    k_steps
    rename News _ _ _ _ => NZ
    rename Fr _ _ _ _ => FZ
    refine hC _ _ q9 k9 ys9 FZ (TN5 _ (Fr.keep FZ) (News.get NZ (by k_mem)) (News.get NZ (by k_mem)) (News.get NZ (by k_mem)) (News.get NZ (by k_mem))) hI9 (News.sub NZ fun p hp => ?_)
    rcases List.mem_cons.mp hp with rfl | hp
    · exact .head _
    · rw [hB]
      exact .tail _ (.tail _ (.tail _ (.tail _ (.tail _ (.tail _ hp)))))
end
section
theorem resetLC5 : True := by
  w_top off
  exact trivial
variable {prog : Program} {w : World} {p : Program} {loose : List Str} {mean : ExcName → Option Value} {mg mb : Str → Option Value}
  {A : Around} {G : Heap} {s : Shared} {Q : Value → Shared → Prop} {E : Value → Shared → Prop}
local macro_rules | `(tactic| walk_at "call type:zip") => `(tactic| refine Halt.go ?_)
local macro_rules | `(tactic| walk_at "call type:list") => `(tactic| refine Halt.go ?_)
local macro_rules | `(tactic| walk_at "execs nil") => `(tactic| refine Halt.go ?_)
theorem zip_made {l1 l2 : Addr} {xs ys : List Value} {n1 n2 : Nat} {Q : Value → Shared → Prop} (hl1 : s.heap.get? l1 = some (listOf xs.toArray n1)) (hl2 : s.heap.get? l2 = some (listOf ys.toArray n2))
    (h : ∀ z TI TO i1 i2 h', ZipApart z TI TO i1 i2 l1 l2 → IsZip h' z TI TO .none → (∃ a b, IsPair h' TO a b) → ZIter h' z TI TO i1 i2 l1 l2 xs.toArray ys.toArray 0 → s.heap.StaysIn h' → s.heap.get? z = none ∧ s.heap.get? TO = none ∧ s.heap.get? i1 = none ∧ s.heap.get? i2 = none → Q (.ref z) { s with heap := h' }) :
    wpAny (model prog w) A (call (.type "zip") [.ref l1, .ref l2]) Q E s := by
  have hs1 : s.heap.IsList l1 xs.toArray := ⟨_, hl1, rfl, _, rfl⟩
  have hs2 : s.heap.IsList l2 ys.toArray := ⟨_, hl2, rfl, _, rfl⟩
  obtain ⟨z, hzz⟩ : ∃ z : Nat, z = s.heap.objs.size := ⟨_, rfl⟩
  have lt1 : @LT.lt Nat _ l1 z := by rw [hzz]; exact Heap.lt_size hl1
  have lt2 : @LT.lt Nat _ l2 z := by rw [hzz]; exact Heap.lt_size hl2
  refine call_zip_2 hs1 hs2 fun h' g5 g3 g4 g1 g2 hsz hk => ?_
  rw [← hzz] at g5 g3 g4 g1 g2 hsz ⊢
  have big : ∀ c, z ≤ c → s.heap.get? c = none := fun c hc => by
    cases e : s.heap.get? c with
    | none => rfl
    | some o => exact absurd (Heap.lt_size e) (by rw [← hzz]; exact Nat.not_lt.mpr hc)
  refine h (z + 4) (z + 2) (z + 3) z (z + 1) h' ?_ g5 ⟨_, _, g4⟩ ⟨g3, g1, g2, hs1.at fun o e => hk _ o e, hs2.at fun o e => hk _ o e⟩ hk ⟨big _ (by (first | exact om27 | omega)), big _ (by (first | exact om28 | omega)), big _ (by (first | exact om29 | omega)), big _ (by (first | exact om30 | omega))⟩
  constructor <;> (refine neN ?_; (first | exact om12 | exact om13 | exact om14 | exact om15 | exact om16 | exact om17 | exact om18 | exact om19 | exact om20 | exact om21 | exact om22 lt1 | exact om23 lt1 | exact om24 lt1 | exact om25 lt1 | exact om22 lt2 | exact om23 lt2 | exact om24 lt2 | exact om25 lt2 | omega))
theorem rows_zip : ∀ {ks : List Str} {ns : List Int} {xs ys : List Value} {ps : List Pr}, StrsAre xs ks → StrsAre ys (ns.map apT) → ks.length = ns.length → ps.length = xs.length → (∀ (j : Nat) (q : Pr), ps[j]? = some q → xs[j]? = some q.2.1 ∧ ys[j]? = some q.2.2) → RowsAre ps (ks.zip ns)
  | [], [], _, _, ps, .nil, .nil, _, hp, _ => by
    have : ps = [] := List.length_eq_zero_iff.mp hp
    subst this; exact .nil
  | k :: ks, n :: ns, _, _, ps, .cons _ t h1, .cons _ u h2, hl, hp, hq => by
    cases ps with
    | nil => cases hp
    | cons q r =>
      obtain ⟨a, b⟩ := hq 0 q rfl
      obtain ⟨qa, q1, q2⟩ := q
      have e1 : Value.str k t = q1 := Option.some.inj a
      have e2 : Value.str (apT n) u = q2 := Option.some.inj b
      subst e1 e2
      exact .cons (rows_zip h1 h2 (Nat.succ.inj hl) (Nat.succ.inj hp) fun j q hj => hq (j + 1) q hj)
theorem law_C5a {g : Heap} {L' : Addr} {QQ : Flow → Shared → Prop} {m : Str → Option Value}
  (X' : (Mine.hd.heap_39 w.params).In g) (T' : Top p loose mean mg mb g) (R : Room 128 A) (F : Fr g L' s.heap m)
  {gr : Int} {x dx lx qs : Addr} {kx kq n : Nat} {hk0 : Int} {tk0 : Tok} {oX : Obj} {tail : List (Addr × Obj)} {ps : List Pr} {rows : List (Str × Int)} {sv : List Value} {ns : List Int}
  (ms : m (Str.ofString "sums") = some (.ref qs)) (hg : 0 ≤ gr ∧ gr < 1000000) (dX : oX.data = .cell (some (.ref x))) (hR : RowsAre ps rows) (hz : rows.length ≤ 12) (ho : ∀ r ∈ rows, RowOk gr r) (hi : IntsAre sv ns) (hl : rows.length = ns.length) (hn : ∀ x ∈ ns, -(2 ^ 128) ≤ x ∧ x ≤ 2 ^ 128)
  (off : ∀ p ∈ tail, p.1 ≠ L' + 1 + 1 + 1 + 1 + 1 + 1 + 1 + 1)
  (N : News g L' s.heap ((qs, listOf sv.toArray kq) :: (x, instObj 231 dx) :: (dx, dictOf [⟨hk0, .str (Str.ofString "_headers") tk0, .ref lx⟩] n) :: (lx, listOf (ps.map fun q => Value.ref q.1).toArray kx) :: (L' + 1 + 1 + 1 + 1 + 1 + 1 + 1 + 1, oX) :: (ps.map tupE ++ tail)))
  (hC : ∀ (h : Heap) (tk : Nat) (x' dx' lx' : Addr) (kx' n' : Nat) (hk' : Int) (tk' : Tok) (oX' : Obj) (ps' : List Pr), Fr g L' h m → RowsAre ps' ((rows.map (·.1)).zip ns) → oX'.data = .cell (some (.ref x')) →
    News g L' h ((x', instObj 231 dx') :: (dx', dictOf [⟨hk', .str (Str.ofString "_headers") tk', .ref lx'⟩] n') :: (lx', listOf (ps'.map fun q => Value.ref q.1).toArray kx') :: (L' + 1 + 1 + 1 + 1 + 1 + 1 + 1 + 1, oX') :: (ps'.map tupE ++ tail)) →
    (∀ p ∈ tail, @LT.lt Nat _ p.1 lx') → @LT.lt Nat _ lx' x' → @LT.lt Nat _ lx' dx' → @Ne Nat x' dx' → (∀ q ∈ ps', ∀ p ∈ tail, @Ne Nat q.1 p.1) →
    QQ .next { s with heap := h, toks := tk }) :
  wpAny (model prog w) (A.deeper (lawEnv L')) (execs (lawTb.drop 4) (lawEnv L')) QQ E s := by
  refine' with_lit (K := Mine.hd.heap_39 w.params) ?k6 ?_
  case k6 => k_is
  intro hk
  obtain ⟨hlb, hls⟩ := law_is hk
  clear hk
  simp only [lawEnv, lawTb, hlb, hls] at ⊢
  clear hlb hls
  obtain ⟨ahd, dp, fr, gd, un⟩ := A
  obtain rfl : ahd = none := R.hh
  simp only [List.drop_succ_cons, List.drop_zero, forBody]
  have F0 := Fr.see F ms
  clear F
  k_steps
  have gT : ∀ q ∈ ps, s.heap.get? q.1 = some (tupObj q) := fun q hq => (N (tupE q) (by repeat (first | exact List.mem_append_left _ (List.mem_map_of_mem hq) | refine List.Mem.tail _ ?_))).1
  refine keys_call X' T' (Fr.keep F0) x dx lx kx ps (Room.deep R (by decide)) ⟨⟨_, News.get N (by k_mem)⟩, ⟨_, _, _, News.get N (by k_mem)⟩, News.get N (by k_mem), gT⟩ (by rw [hR.len]; (first | exact om394 hz | omega)) ?_
  intro q kq1 h1 tk1 k1 fq eq
  have F1 := Fr.keeps F0 k1
  have N1 := News.app (news_new F0 fq eq) (News.grown N k1)
  simp only [List.cons_append, List.nil_append] at N1
  have sK : StrsAre (ps.map (·.2.1)) (rows.map (·.1)) := by
    clear N N1 hC eq gT ho hl
    induction hR with
    | nil => exact .nil
    | cons h ih => exact .cons _ _ (ih (by simp at hz; (first | exact om395 hz | omega)))
  k_steps
  refine comp_list rfl (News.get N1 (a := qs) (by k_mem)) (by decide) rfl rfl F1 N1 _ ?hz (.inr ⟨_, fun i ys nw ⟨made, e, _⟩ => by rw [e]; exact List.mem_append_right _ (.tail _ (.head _))⟩) ?h0 (CompTurn.make N1 (fun j ys made => made = [] ∧ StrsAre ys ((ns.map apT).take j)) ?turn) (end_value ?done)
  case hz =>
    rintro j ys nw ⟨made, _, _, _, hj⟩
    rw [hj.length, List.length_take, List.length_map, ← hl]
    (first | exact om340 hz | omega)
  case h0 => exact ⟨[], rfl, (fun _ h => nomatch h), rfl, .nil⟩
  case turn =>
    rintro C D hD hDC j v ys made k h tk mC E' hj hv ⟨rfl, hJ⟩ F3 N3
    have X3 := X'.keeps F1.keep
    have T3 := T'.keeps F1.keep
    obtain ⟨z, tz, rfl, hz1⟩ := hi.at j v hv
    have hzb := hn z (List.mem_of_getElem? hz1)
    k_steps
    refine text_call X3 T3 (Fr.keep F3) z _ (Room.deep R (by decide)) (bits_ap (by (first | exact om412 hzb.1 | omega)) (by (first | exact om413 hzb.2 | omega))) ?_
    intro t h2 tk2 k2
    refine PairElt.intro [] k2 (fun _ h => nomatch h) ⟨rfl, ?_⟩
    rw [List.take_add_one, List.getElem?_map, hz1]
    exact hJ.append' (.cons _ _ .nil)
  case done =>
    rintro ys nw k D h tk ⟨made, rfl, _, rfl, hJ⟩ off3 F3 N3 lt3
    rw [List.nil_append] at N3
    rw [List.take_of_length_le (by rw [List.length_map, hi.length]; exact Nat.le_refl _)] at hJ
    clear F1 N1
    k_steps
    refine zip_made (News.get N3 (a := q) (by k_mem)) (News.get N3 (a := D) (by k_mem)) ?_
    intro z TI TO i1 i2 h2 ZA Z1 Z2 ZI k2 hfz
    obtain ⟨f1, f2, f3, f4⟩ := hfz
    have F4 := Fr.keeps F3 k2
    have lt4 : ∀ p ∈ tail, (∃ o, h2.get? p.1 = some o) := fun p hp => ⟨_, k2 _ _ (N3 p (by repeat (first | exact List.mem_append_right _ hp | refine List.Mem.tail _ ?_))).1⟩
    have g8 : ∀ {b : Addr} {o : Obj}, h.get? b = some o → ∃ o, h2.get? b = some o := fun e => ⟨_, k2 _ _ e⟩
    have gX := News.get N3 (a := L' + 1 + 1 + 1 + 1 + 1 + 1 + 1 + 1) (by k_mem)
    have e4 : (ps.map (·.2.1)).length = ys.length := by rw [sK.length, hJ.length, List.length_map, List.length_map, hl]
    k_steps
    refine list_zip rfl ZA e4 (by rw [sK.length, List.length_map]; (first | exact om394 hz | omega)) Z1 Z2 ZI ?_
    intro S h3 ps' c3 gS ltS hl3 eS hps kp
    have kk : h.StaysIn h3 := fun b o e => kp b o (fun q => by rw [q, f1] at e; cases e) (fun q => by rw [q, f2] at e; cases e) (fun q => by rw [q, f3] at e; cases e) (fun q => by rw [q, f4] at e; cases e) (k2 b o e)
    have hR' : RowsAre ps' ((rows.map (·.1)).zip ns) := rows_zip sK hJ (by rw [List.length_map, hl]) hl3 fun j q hj => (hps j q hj).2.2
    have NX := News.sub (News.grown N3 kk) (ms := [(L' + 1 + 1 + 1 + 1 + 1 + 1 + 1 + 1, oX)]) (by walk_at "my sub")
    have NTl := News.sub (News.grown N3 kk) (ms := tail) (fun p hp => by repeat (first | exact List.mem_append_right _ hp | refine List.Mem.tail _ ?_))
    have NS := news_new F3 (fresh_of k2 gS) eS
    have hps2 : ∀ q ∈ ps', h.get? q.1 = none ∧ h3.get? q.1 = some (tupObj q) := fun q hq => by
      obtain ⟨j, hj⟩ := List.mem_iff_getElem?.mp hq
      have := hps j q hj
      exact ⟨fresh_of k2 this.1, this.2.1⟩
    have NTp : News g L' h3 (ps'.map tupE) := fun p hp => by
      obtain ⟨q, hq, rfl⟩ := List.mem_map.mp hp
      exact (news_new F3 (hps2 q hq).1 (hps2 q hq).2) _ (.head _)
    have N5 := News.app NS (News.app NX (News.app NTp NTl))
    simp only [List.cons_append, List.nil_append] at N5
    have F5 := Fr.keeps F3 kk
    have htl : ∀ p ∈ ps'.map tupE ++ tail, p.1 ≠ L' + 1 + 1 + 1 + 1 + 1 + 1 + 1 + 1 := fun p hp => by
      rcases List.mem_append.mp hp with hp | hp
      · obtain ⟨q, hq, rfl⟩ := List.mem_map.mp hp
        exact tup_ne (hps2 q hq).2 (kk _ _ gX) dX
      · exact off p hp
    have ltS2 : ∀ p ∈ tail, @LT.lt Nat _ p.1 S := fun p hp => let ⟨o, e⟩ := lt4 p hp; ltS _ o e
    have ltX : @LT.lt Nat _ (L' + 1 + 1 + 1 + 1 + 1 + 1 + 1 + 1) S := let ⟨o, e⟩ := g8 gX; ltS _ o e
    have apT2 : ∀ q ∈ ps', ∀ p ∈ tail, @Ne Nat q.1 p.1 := fun q hq p hp e => by
      have e1 := (hps2 q hq).1
      have e2 : q.1 = p.1 := e
      rw [e2, (N3 p (by repeat (first | exact List.mem_append_right _ hp | refine List.Mem.tail _ ?_))).1] at e1
      cases e1
    clear F3 N3 F4 NX NTl NS NTp
    k_steps
    refine hdr_call X' T' (Fr.keep F5) S c3 ps' (Room.deep R (by decide)) (News.get N5 (.head _)) (fun q hq => (hps2 q hq).2) (fun q hq => ?_) ?_
    · obtain ⟨kq, xq, tkq, tvq, hq2, eq⟩ := hR'.mem q hq
      obtain ⟨r0, hr0, rfl⟩ := List.mem_map.mp (List.of_mem_zip hq2).1
      obtain ⟨⟨j, hj, hn'⟩, _⟩ := ho r0 hr0
      exact ⟨_, tkq, apT xq, tvq, eq, (hn'.signs hg.1).1, apT_signs _⟩
    intro x' dx' h7 tk7 hk7 tkk nn kS fx fdx hlt7 hxd ex ed
    have F9 := Fr.keeps F5 kS
    have N9 := News.app (news_new F5 fx ex) (News.app (news_new F5 fdx ed) (News.grown N5 kS))
    simp only [List.cons_append, List.nil_append] at N9
    obtain ⟨hx81, hx82⟩ := hlt7 _ _ (N5.get (a := L' + 1 + 1 + 1 + 1 + 1 + 1 + 1 + 1) (by k_mem))
    obtain ⟨hxS1, hxS2⟩ := hlt7 _ _ (N5.get (.head _))
    clear F5 N5
    k_steps
    rename News _ _ _ _ => NZ
    rename Fr _ _ _ _ => FZ
    show wpAny _ _ (execs [] _) _ _ _
    exact wpAny_pure (hC _ _ x' dx' S c3 nn hk7 tkk _ ps' (Fr.unsee FZ ms) hR' (by assumption) NZ ltS2 hxS1 hxS2 hxd apT2)
theorem law_C5 {g : Heap} {L' : Addr} {QQ : Flow → Shared → Prop} {m : Str → Option Value}
  (X' : (Mine.hd.heap_39 w.params).In g) (T' : Top p loose mean mg mb g) (R : Room 128 A) (F : Fr g L' s.heap m) (n54 : g.get? 54 = none) (n61 : g.get? 61 = none) (tb : Tabs s.heap) (h61 : @LT.lt Nat _ 61 L')
  {gr : Int} {x dx lx qs : Addr} {kx kq n : Nat} {hk0 : Int} {tk0 : Tok} {oX : Obj} {tail : List (Addr × Obj)} {ps : List Pr} {rows : List (Str × Int)} {sv : List Value} {ns : List Int}
  (ms : m (Str.ofString "sums") = some (.ref qs)) (hg : 0 ≤ gr ∧ gr < 1000000) (dX : oX.data = .cell (some (.ref x))) (hR : RowsAre ps rows) (hz : rows.length ≤ 12) (ho : ∀ r ∈ rows, RowOk gr r) (hi : IntsAre sv ns) (hl : rows.length = ns.length) (hn : ∀ x ∈ ns, -(2 ^ 128) ≤ x ∧ x ≤ 2 ^ 128)
  (off : ∀ p ∈ tail, p.1 ≠ L' + 1 + 1 + 1 + 1 + 1 + 1 + 1 + 1)
  (N : News g L' s.heap ((qs, listOf sv.toArray kq) :: (x, instObj 231 dx) :: (dx, dictOf [⟨hk0, .str (Str.ofString "_headers") tk0, .ref lx⟩] n) :: (lx, listOf (ps.map fun q => Value.ref q.1).toArray kx) :: (L' + 1 + 1 + 1 + 1 + 1 + 1 + 1 + 1, oX) :: (ps.map tupE ++ tail)))
  (hC : ∀ (h : Heap) (tk : Nat) (x' dx' lx' : Addr) (kx' n' : Nat) (hk' : Int) (tk' : Tok) (oX' : Obj) (ps' : List Pr), Fr g L' h m → Tabs h → RowsAre ps' ((rows.map (·.1)).zip ns) → oX'.data = .cell (some (.ref x')) →
    News g L' h ((x', instObj 231 dx') :: (dx', dictOf [⟨hk', .str (Str.ofString "_headers") tk', .ref lx'⟩] n') :: (lx', listOf (ps'.map fun q => Value.ref q.1).toArray kx') :: (L' + 1 + 1 + 1 + 1 + 1 + 1 + 1 + 1, oX') :: (ps'.map tupE ++ tail)) →
    (∀ p ∈ tail, @LT.lt Nat _ p.1 lx') → @LT.lt Nat _ lx' x' → @LT.lt Nat _ lx' dx' → @Ne Nat x' dx' → (∀ q ∈ ps', ∀ p ∈ tail, @Ne Nat q.1 p.1) →
    QQ .next { s with heap := h, toks := tk }) :
  wpAny (model prog w) (A.deeper (lawEnv L')) (execs (lawTb.drop 4) (lawEnv L')) QQ E s := by
  obtain ⟨b1, b2, c1, e1, c2, e2, NT, TN, f1, f2⟩ := Tabs.ledF tb F n54 n61
  have gX := News.get N (a := L' + 1 + 1 + 1 + 1 + 1 + 1 + 1 + 1) (by k_mem)
  have q54 : (54 : Addr) ≠ L' + 1 + 1 + 1 + 1 + 1 + 1 + 1 + 1 := by k_ne
  have q61 : (61 : Addr) ≠ L' + 1 + 1 + 1 + 1 + 1 + 1 + 1 + 1 := by k_ne
  have cod : ∀ {c : Addr} {o : Obj}, s.heap.get? c = some o → (∃ vs s t, o.data = .fields vs ∧ vs[1]? = some (.str s t)) → c ≠ L' + 1 + 1 + 1 + 1 + 1 + 1 + 1 + 1 := fun {c o} e hf q => by
    obtain ⟨vs', s', t', a1, a2⟩ := hf
    rw [q, gX] at e
    rw [← Option.some.inj e, dX] at a1
    cases a1
  have qc1 : c1 ≠ L' + 1 + 1 + 1 + 1 + 1 + 1 + 1 + 1 := by
    rcases f1 with rfl | f
    · exact q54
    · exact cod (News.get NT (.tail _ (.tail _ (.head _)))) f
  have qc2 : c2 ≠ L' + 1 + 1 + 1 + 1 + 1 + 1 + 1 + 1 := by
    rcases f2 with rfl | f
    · exact q61
    · exact cod (News.get NT (.tail _ (.tail _ (.tail _ (.head _))))) f
  have N2 := News.app N NT
  simp only [List.cons_append, List.append_assoc] at N2
  refine law_C5a X' T' R F ms hg dX hR hz ho hi hl hn (tail := tail ++ [(54, tabObj b1), (61, tabObj b2), (c1, e1), (c2, e2)]) (fun p hp => ?_) N2 ?_
  · rcases List.mem_append.mp hp with hp | hp
    · exact off p hp
    · simp only [List.mem_cons, List.not_mem_nil, or_false] at hp
      rcases hp with rfl | rfl | rfl | rfl
      · exact q54
      · exact q61
      · exact qc1
      · exact qc2
  · intro h tk x' dx' lx' kx' n' hk' tk' oX' ps' F' hR' dX' N' lt1 lt2 lt3 ne ap
    have NT' : News g L' h [(54, tabObj b1), (61, tabObj b2), (c1, e1), (c2, e2)] := News.sub N' fun p hp => by repeat (first | exact List.mem_append_right _ (List.mem_append_right _ hp) | refine List.Mem.tail _ ?_)
    refine hC h tk x' dx' lx' kx' n' hk' tk' oX' ps' F' (TN h (Fr.keep F') (News.get NT' (.head _)) (News.get NT' (.tail _ (.head _))) (News.get NT' (.tail _ (.tail _ (.head _)))) (News.get NT' (.tail _ (.tail _ (.tail _ (.head _)))))) hR' dX' (News.sub N' fun p hp => ?_) (fun p hp => lt1 p (List.mem_append_left _ hp)) lt2 lt3 ne fun q hq p hp => ap q hq p (List.mem_append_left _ hp)
    simp only [List.mem_cons, List.mem_append] at hp ⊢
    rcases hp with hp | hp | hp | hp | hp | hp
    · exact .inl hp
    · exact .inr (.inl hp)
    · exact .inr (.inr (.inl hp))
    · exact .inr (.inr (.inr (.inl hp)))
    · exact .inr (.inr (.inr (.inr (.inl hp))))
    · exact .inr (.inr (.inr (.inr (.inr (.inl hp)))))
end
section
variable {prog : Program} {w : World} {p : Program} {loose : List Str} {mean : ExcName → Option Value} {mg mb : Str → Option Value}
  {A : Around} {G : Heap} {s : Shared} {Q : Value → Shared → Prop} {E : Value → Shared → Prop}
local macro_rules | `(tactic| walk_at "my sub") => `(tactic| (repeat' (first | (refine List.forall_mem_cons.mpr ⟨by k_mem, ?_⟩) | exact List.forall_mem_nil _)))
theorem law_B {g : Heap} {L' : Addr} {QQ : Flow → Shared → Prop} {m : Str → Option Value}
  (X' : (Mine.hd.heap_39 w.params).In g) (T' : Top p loose mean mg mb g) (R : Room 128 A) (F : Fr g L' s.heap m)
  {fi sp gr s0 s1 s2 wd : Int} (nums : LawNums fi sp gr s0 s1 s2 wd) {ts0 ts1 ts2 tw tf tp tg : Tok} {kz : Nat} {lz : Addr} {o1 o2 o3 o4 o5 o6 o7 o8 o9 o10 : Obj} {p1 p2 : Array Value}
  (mw : m (Str.ofString "width") = some (.int wd tw))
  (d2 : o2.data = .cell (some (.int fi tf))) (d3 : o3.data = .cell (some (.int sp tp))) (d4 : o4.data = .cell (some (.int gr tg))) (d5 : o5.data = .cell (some (.ref lz)))
  (d6 : o6.data = .cell none) (d7 : o7.data = .cell none) (d8 : o8.data = .cell none) (d9 : o9.data = .cell none) (d10 : o10.data = .cell none)
  (N : News g L' s.heap [(lz, listOf #[.int s0 ts0, .int s1 ts1, .int s2 ts2] kz), (L' + 1 + 1, o2), (L' + 1 + 1 + 1, o3), (L' + 1 + 1 + 1 + 1, o4), (L' + 1 + 1 + 1 + 1 + 1, o5), (L' + 1 + 1 + 1 + 1 + 1 + 1, o6), (L' + 1 + 1 + 1 + 1 + 1 + 1 + 1, o7), (L' + 1 + 1 + 1 + 1 + 1 + 1 + 1 + 1, o8), (L' + 1 + 1 + 1 + 1 + 1 + 1 + 1 + 1 + 1, o9), (L' + 1 + 1 + 1 + 1 + 1 + 1 + 1 + 1 + 1 + 1, o10), (54, tabObj p1), (61, tabObj p2)])
  (h54 : @LT.lt Nat _ 54 L') (h61 : @LT.lt Nat _ 61 L') (hlz : @LT.lt Nat _ (L' + 10) lz)
  (hC : ∀ (h : Heap) (tk : Nat) (m : Str → Option Value) (ps : List Pr) (x dx lx ln lk : Addr), LawC g L' h m fi sp gr s0 s1 s2 wd ps (rows0 fi sp 0 (ownL s0.toNat s1.toNat s2.toNat (apT (gr + 1)) (apT (gr + 2)) (apT (gr + 3)) 3)) x dx lx ln lz lk → h.get? 54 = some (tabObj p1) → h.get? 61 = some (tabObj p2) → wpAny (model prog w) (A.deeper (lawEnv L')) (execs (lawB.drop 13) (lawEnv L')) QQ NoE { s with heap := h, toks := tk }) :
  wpAny (model prog w) (A.deeper (lawEnv L')) (execs (lawB.drop 9) (lawEnv L')) QQ NoE s := by
  have z0 := nums.z0
  have z1 := nums.z1
  have z2 := nums.z2
  refine law_B1 X' T' R F nums.g (o4 := o4) (o7 := o7) (tg := tg) (tail := [(lz, listOf #[.int s0 ts0, .int s1 ts1, .int s2 ts2] kz), (L' + 1 + 1, o2), (L' + 1 + 1 + 1, o3), (L' + 1 + 1 + 1 + 1 + 1, o5), (L' + 1 + 1 + 1 + 1 + 1 + 1, o6), (L' + 1 + 1 + 1 + 1 + 1 + 1 + 1 + 1, o8), (L' + 1 + 1 + 1 + 1 + 1 + 1 + 1 + 1 + 1, o9), (L' + 1 + 1 + 1 + 1 + 1 + 1 + 1 + 1 + 1 + 1, o10), (54, tabObj p1), (61, tabObj p2)]) d4 d7 ?o1 (News.sub N (by walk_at "my sub")) ?_
  case o1 => repeat (first | exact List.forall_mem_nil _ | refine List.forall_mem_cons.mpr ⟨by show @Ne Nat _ _; omega, ?_⟩)
  intro h1 tk1 ln kn o7' t1 t2 t3 F1 d7' N1 lt1
  refine law_B2 X' T' R F1 z0 z1 z2 (ln := ln) (lz := lz) (kn := kn) (kz := kz) (t1 := t1) (t2 := t2) (t3 := t3) (ts0 := ts0) (ts1 := ts1) (ts2 := ts2) (gr := gr) (o5 := o5) (o7 := o7') (tail := [(L' + 1 + 1, o2), (L' + 1 + 1 + 1, o3), (L' + 1 + 1 + 1 + 1, o4), (L' + 1 + 1 + 1 + 1 + 1 + 1, o6), (L' + 1 + 1 + 1 + 1 + 1 + 1 + 1 + 1, o8), (L' + 1 + 1 + 1 + 1 + 1 + 1 + 1 + 1 + 1, o9), (L' + 1 + 1 + 1 + 1 + 1 + 1 + 1 + 1 + 1 + 1, o10), (54, tabObj p1), (61, tabObj p2)]) d5 d7' (News.sub N1 (by walk_at "my sub")) ?_
  intro h2 tk2 D2 k2 F2 N2 _ _
  have dl := ownL_len (z0 := s0.toNat) (z1 := s1.toNat) (z2 := s2.toNat) (a := apT (gr + 1)) (b := apT (gr + 2)) (c := apT (gr + 3)) 3
  refine law_B3 X' T' R F2 nums.f nums.s (strs_own _ _ _ _ _ _ t1 t2 t3) (by (first | exact om339 z0.1 z0.2 z1.2 z2.2 dl | omega)) ?hks rfl d2 d3 d8 (tail := [(ln, listOf (List.toArray [Value.str (apT (gr + 1)) t1, .str (apT (gr + 2)) t2, .str (apT (gr + 3)) t3]) kn), (lz, listOf #[.int s0 ts0, .int s1 ts1, .int s2 ts2] kz), (L' + 1 + 1 + 1 + 1, o4), (L' + 1 + 1 + 1 + 1 + 1, o5), (L' + 1 + 1 + 1 + 1 + 1 + 1, o6), (L' + 1 + 1 + 1 + 1 + 1 + 1 + 1, o7'), (L' + 1 + 1 + 1 + 1 + 1 + 1 + 1 + 1 + 1, o9), (L' + 1 + 1 + 1 + 1 + 1 + 1 + 1 + 1 + 1 + 1, o10), (54, tabObj p1), (61, tabObj p2)]) ?o3 (News.sub N2 (by walk_at "my sub")) ?_
  case hks =>
    intro k hk
    rcases own_mem hk with rfl | rfl | rfl <;> exact apT_signs _
  case o3 =>
    have l1 := lt1 _ (.head _)
    repeat (first | exact List.forall_mem_nil _ | refine List.forall_mem_cons.mpr ⟨by show @Ne Nat _ _; omega, ?_⟩)
  intro h3 tk3 ps x dx lx lk kx n hk tkk o8' m' F3 ms3 mw3 d8' hR N3 ⟨q1, q2, q3, q4, q5, q6⟩
  exact hC _ _ _ ps x dx lx ln lk ⟨nums, F3, ⟨tw, mw3.trans mw⟩, ms3, hR, ⟨o2, o3, o4, o5, o6, o7', o8', o9, o10, t1, t2, t3, ts0, ts1, ts2, kn, kz, kx, hk, tkk, n, News.app (News.sub N3 (by walk_at "my sub")) (News.sub N3 fun p hp => by repeat (first | exact hp | refine List.Mem.tail _ ?_)), ⟨tf, d2⟩, ⟨tp, d3⟩, ⟨tg, d4⟩, d5, d6, d7', d8', d9, d10⟩, hlz, lt1 _ (.head _), q1 _ (.head _), q2, q3, q4, q5, q6⟩ (News.get N3 (by k_mem)) (News.get N3 (by k_mem))
end
section
noncomputable abbrev Lin := Int × Int
noncomputable def evL (fi sp : Int) (a : Lin) : Int := a.1 * fi + a.2 * sp
noncomputable abbrev ARow := List (Nat × Lin)
noncomputable def rowK (K : Nat → Str) (fi sp : Int) (a : Nat × Lin) : Str × Int := (K a.1, evL fi sp a.2)
noncomputable def strikeA (j : Nat) (A : ARow) : ARow := A.filter (fun a => a.1 != j) ++ (A.filter (fun a => a.1 == j)).dropLast
noncomputable def lastA (j : Nat) (A : ARow) : List Lin := ((A.filter (fun a => a.1 == j)).map (·.2)).drop ((A.filter (fun a => a.1 == j)).length - 1)
noncomputable def strikesA : List Nat → ARow → ARow
  | [], A => A
  | j :: r, A => strikesA r (strikeA j A)
noncomputable def strucksA : List Nat → ARow → List (List Lin)
  | [], _ => []
  | j :: r, A => lastA j A :: strucksA r (strikeA j A)
noncomputable def psumsL : Lin → List Lin → List Lin
  | _, [] => []
  | a, x :: r => (a.1 + x.1, a.2 + x.2) :: psumsL (a.1 + x.1, a.2 + x.2) r
noncomputable def enumA : Nat → List Nat → ARow
  | _, [] => []
  | n, k :: r => (k, (1, (n : Int))) :: enumA (n + 1) r
noncomputable def turnA (A : ARow) : ARow := ((strikesA [0, 1, 2] A).map (·.1)).zip (psumsL (0, 0) ((strikesA [0, 1, 2] A).map (·.2)))
noncomputable def gameA (z0 z1 z2 : Nat) : Nat → ARow
  | 0 => enumA 0 (ownL z0 z1 z2 0 1 2 3)
  | i + 1 => turnA (gameA z0 z1 z2 i)
noncomputable def outA (z0 z1 z2 k : Nat) : Nat → List Lin
  | 0 => []
  | i + 1 => outA z0 z1 z2 k i ++ (strucksA [0, 1, 2] (gameA z0 z1 z2 i)).getD k []
noncomputable def stepL (f : Int) (q : List Lin) : List Lin := List.zipWith (fun (u o : Lin) => (u.1 + f * o.1, u.2 + f * o.2)) (q ++ [(0, 0)]) ([(0, 0)] ++ q)
noncomputable def prodA (k : Nat) (s0 s1 s2 : Int) : List Lin := (facs k s0 s1 s2 (k - 1)).foldl (fun q f => stepL f q) [(0, 1), (1, (k : Int) - 1)]
theorem evL_add (fi sp : Int) (a b : Lin) : evL fi sp (a.1 + b.1, a.2 + b.2) = evL fi sp a + evL fi sp b := by
  simp only [evL, Int.add_mul]; (first | exact om530 | omega)
theorem evL_step (fi sp f : Int) (a b : Lin) : evL fi sp (a.1 + f * b.1, a.2 + f * b.2) = evL fi sp a + f * evL fi sp b := by
  simp only [evL, Int.add_mul, Int.mul_add, Int.mul_assoc]; (first | exact om530 | omega)
theorem psumsL_ev (fi sp : Int) : ∀ (r : List Lin) (a : Lin), (psumsL a r).map (evL fi sp) = psums (evL fi sp a) (r.map (evL fi sp))
  | [], _ => rfl
  | x :: r, a => by
    rw [psumsL, List.map_cons, List.map_cons, psums, psumsL_ev fi sp r, evL_add]
theorem stepL_ev (fi sp f : Int) (q : List Lin) : (stepL f q).map (evL fi sp) = stepP f (q.map (evL fi sp)) := by
  rw [stepL, stepP, List.map_zipWith]
  have e0 : ([(0, 0)] : List Lin).map (evL fi sp) = [0] := by simp [evL]
  rw [show ([0] : List Int) = ([(0, 0)] : List Lin).map (evL fi sp) from e0.symm, ← List.map_append, ← List.map_append, List.zipWith_map]
  congr 1
  funext u o
  exact evL_step fi sp f u o
theorem foldL_ev (fi sp : Int) : ∀ (fs : List Int) (q : List Lin), (fs.foldl (fun q f => stepL f q) q).map (evL fi sp) = fs.foldl (fun q f => stepP f q) (q.map (evL fi sp))
  | [], _ => rfl
  | f :: fs, q => by rw [List.foldl_cons, List.foldl_cons, foldL_ev fi sp fs, stepL_ev]
theorem prodA_ev (fi sp : Int) (k : Nat) (s0 s1 s2 : Int) : (prodA k s0 s1 s2).map (evL fi sp) = prodOf fi sp k s0 s1 s2 := by
  rw [prodA, foldL_ev, prodOf]
  congr 1
  simp [evL]
theorem struck_A {gr fi sp : Int} (hg : 0 ≤ gr) {K : Nat → Str} {j : Nat} {t : Str} (ht : NameOf gr j t) {A : ARow} (hK : ∀ a ∈ A, NameOf gr a.1 (K a.1)) : struckOf t (A.map (rowK K fi sp)) = (A.filter (fun a => a.1 == j)).map (rowK K fi sp) := by
  rw [struckOf, List.filter_map]
  congr 1
  apply List.filter_congr
  intro a ha
  show (PySem.Txt.lower (K a.1) == PySem.Txt.lower t) = _
  rw [(hK a ha).eq hg ht]
  by_cases h : a.1 = j <;> simp [h]
theorem strike_A {gr fi sp : Int} (hg : 0 ≤ gr) {K : Nat → Str} {j : Nat} {t : Str} (ht : NameOf gr j t) {A : ARow} (hK : ∀ a ∈ A, NameOf gr a.1 (K a.1)) :
    strikeR t (A.map (rowK K fi sp)) = (strikeA j A).map (rowK (fun i => if i = j then t else K i) fi sp) := by
  rw [strikeR, struck_A hg ht hK, strikeA, List.map_append]
  congr 1
  · rw [List.filter_map]
    have e : (A.filter ((fun r : Str × Int => PySem.Txt.lower r.1 != PySem.Txt.lower t) ∘ rowK K fi sp)) = A.filter (fun a => a.1 != j) := by
      apply List.filter_congr
      intro a ha
      show (!(PySem.Txt.lower (K a.1) == PySem.Txt.lower t)) = _
      rw [(hK a ha).eq hg ht]
      by_cases h : a.1 = j <;> simp [h]
    rw [e]
    apply List.map_congr_left
    intro a ha
    have := (List.mem_filter.mp ha).2
    have hj : a.1 ≠ j := by simpa using this
    simp only [rowK, if_neg hj]
  · rw [List.dropLast_eq_take, List.dropLast_eq_take, List.length_map, ← List.map_take, List.map_map]
    apply List.map_congr_left
    intro a ha
    have := (List.mem_filter.mp (List.mem_of_mem_take ha)).2
    have hj : a.1 = j := by simpa using this
    show (t, (rowK K fi sp a).2) = _
    simp only [rowK, if_pos hj]
theorem last_A {gr fi sp : Int} (hg : 0 ≤ gr) {K : Nat → Str} {j : Nat} {t : Str} (ht : NameOf gr j t) {A : ARow} (hK : ∀ a ∈ A, NameOf gr a.1 (K a.1)) : lastR t (A.map (rowK K fi sp)) = (lastA j A).map (evL fi sp) := by
  rw [lastR, struck_A hg ht hK, lastA, List.length_map, List.map_map, List.map_drop, List.map_map]
  rfl
theorem strikeA_sub {j : Nat} {A : ARow} {a : Nat × Lin} (h : a ∈ strikeA j A) : a ∈ A := by
  rcases List.mem_append.mp h with h | h
  · exact (List.mem_filter.mp h).1
  · exact (List.mem_filter.mp (List.dropLast_subset _ h)).1
noncomputable def keyN (gr : Int) (i j : Nat) : Str := (askedL gr i).getD j (Str.ofString "")
theorem keyN_name {gr : Int} (i : Nat) {j : Nat} (hj : j < 3) : NameOf gr j (keyN gr i j) := by
  have h3 : j = 0 ∨ j = 1 ∨ j = 2 := by (first | exact om325 hj | omega)
  have e0 : gr + ((0 : Nat) : Int) + 1 = gr + 1 := by (first | exact om380 | omega)
  have e1 : gr + ((1 : Nat) : Int) + 1 = gr + 2 := by (first | exact om381 | omega)
  have e2 : gr + ((2 : Nat) : Int) + 1 = gr + 3 := by (first | exact om382 | omega)
  unfold keyN askedL NameOf
  split
  · rcases h3 with rfl | rfl | rfl
    · rw [e0]; exact .inr rfl
    · rw [e1]; exact .inr rfl
    · rw [e2]; exact .inr rfl
  · rcases h3 with rfl | rfl | rfl
    · rw [e0]; exact .inl rfl
    · rw [e1]; exact .inl rfl
    · rw [e2]; exact .inl rfl
theorem keyN_two (gr : Int) (i : Nat) : keyN gr (i + 2) = keyN gr i := by
  funext j
  unfold keyN askedL
  rw [Nat.add_mod_right]
theorem asked_is (gr : Int) (i : Nat) : askedL gr i = [keyN gr i 0, keyN gr i 1, keyN gr i 2] := by
  unfold keyN askedL
  split <;> rfl
theorem strikes_A {gr fi sp : Int} (hg : 0 ≤ gr) {i : Nat} {A : ARow} (h3 : ∀ a ∈ A, a.1 < 3) :
    strikes (askedL gr i) (A.map (rowK (keyN gr (i + 1)) fi sp)) = (strikesA [0, 1, 2] A).map (rowK (keyN gr i) fi sp) ∧
    strucks (askedL gr i) (A.map (rowK (keyN gr (i + 1)) fi sp)) = (strucksA [0, 1, 2] A).map (·.map (evL fi sp)) := by
  have n0 := keyN_name (gr := gr) i (j := 0) (by decide)
  have n1 := keyN_name (gr := gr) i (j := 1) (by decide)
  have n2 := keyN_name (gr := gr) i (j := 2) (by decide)
  rw [asked_is]
  have k0 : ∀ a ∈ A, NameOf gr a.1 (keyN gr (i + 1) a.1) := fun a ha => keyN_name _ (h3 a ha)
  have k1 : ∀ a ∈ strikeA 0 A, NameOf gr a.1 ((fun q => if q = 0 then keyN gr i 0 else keyN gr (i + 1) q) a.1) := fun a ha => by
    dsimp only
    split
    · rename_i e; rw [e]; exact n0
    · exact k0 a (strikeA_sub ha)
  have k2 : ∀ a ∈ strikeA 1 (strikeA 0 A), NameOf gr a.1 ((fun q => if q = 1 then keyN gr i 1 else (fun q => if q = 0 then keyN gr i 0 else keyN gr (i + 1) q) q) a.1) := fun a ha => by
    dsimp only
    split
    · rename_i e; rw [e]; exact n1
    · exact k1 a (strikeA_sub ha)
  constructor
  · simp only [strikes, strikesA]
    rw [strike_A hg n0 k0, strike_A hg n1 k1, strike_A hg n2 k2]
    apply List.map_congr_left
    intro a ha
    have h := h3 a (strikeA_sub (strikeA_sub (strikeA_sub ha)))
    have hh : a.1 = 0 ∨ a.1 = 1 ∨ a.1 = 2 := by (first | exact om325 h | omega)
    unfold rowK
    rcases hh with e | e | e <;> rw [e] <;> rfl
  · simp only [strucks, strucksA, List.map_cons, List.map_nil]
    rw [last_A hg n0 k0, strike_A hg n0 k0, last_A hg n1 k1, strike_A hg n1 k1, last_A hg n2 k2]
theorem turn_A {gr fi sp : Int} {i : Nat} (B : ARow) :
    (((B.map (rowK (keyN gr i) fi sp)).map (·.1)).zip (psums 0 ((B.map (rowK (keyN gr i) fi sp)).map (·.2)))) = ((B.map (·.1)).zip (psumsL (0, 0) (B.map (·.2)))).map (rowK (keyN gr (i + 2)) fi sp) := by
  rw [keyN_two, List.map_map, List.map_map]
  have e1 : B.map ((fun r : Str × Int => r.1) ∘ rowK (keyN gr i) fi sp) = (B.map (·.1)).map (keyN gr i) := by rw [List.map_map]; rfl
  have e2 : B.map ((fun r : Str × Int => r.2) ∘ rowK (keyN gr i) fi sp) = (B.map (·.2)).map (evL fi sp) := by rw [List.map_map]; rfl
  have e3 := psumsL_ev fi sp (B.map (·.2)) (0, 0)
  rw [show evL fi sp (0, 0) = 0 from by simp [evL]] at e3
  rw [e1, e2, ← e3, List.zip_map]
  rfl
theorem rows0_A (gr fi sp : Int) {x : Nat} : ∀ (ks : List Nat) (n : Nat), rows0 fi sp n (ks.map (keyN gr x)) = (enumA n ks).map (rowK (keyN gr x) fi sp)
  | [], _ => rfl
  | k :: r, n => by
    rw [List.map_cons, rows0, enumA, List.map_cons, rows0_A gr fi sp r]
    congr 1
    simp [rowK, evL]
theorem ownL_map {α β : Type} (f : α → β) (z0 z1 z2 : Nat) (a b c : α) : (ownL z0 z1 z2 a b c 3).map f = ownL z0 z1 z2 (f a) (f b) (f c) 3 := by
  simp [ownL]
noncomputable def okLin (a : Lin) : Bool := decide (-10000000 ≤ a.1) && decide (a.1 ≤ 10000000) && decide (-10000000 ≤ a.2) && decide (a.2 ≤ 10000000)
noncomputable def okTurn (z0 z1 z2 i : Nat) : Bool :=
  (gameA z0 z1 z2 i).all (fun a => decide (a.1 < 3) && okLin a.2) && decide ((gameA z0 z1 z2 i).length ≤ 12) &&
  decide ((strikesA [0, 1, 2] (gameA z0 z1 z2 i)).map (·.1) = ownL (z0 - 1 - i) (z1 - 1 - i) (z2 - 1 - i) 0 1 2 3) && (psumsL (0, 0) ((strikesA [0, 1, 2] (gameA z0 z1 z2 i)).map (·.2))).all okLin
noncomputable def okOut (z0 z1 z2 : Nat) : Bool := [0, 1, 2].all fun k => decide (outA z0 z1 z2 k z2 = (prodA (k + 1) (z0 : Int) (z1 : Int) (z2 : Int)).drop 1) && (outA z0 z1 z2 k z2).all okLin
noncomputable def okShape (z0 z1 z2 : Nat) : Bool := (List.range z2).all (okTurn z0 z1 z2) && okOut z0 z1 z2
theorem shapes_ok : ∀ z0 ∈ [1, 2, 3], ∀ d1 ∈ [0, 1], ∀ d2 ∈ [0, 1], okShape z0 (z0 + d1) (z0 + d1 + d2) = true := by decide +kernel
theorem shape_ok {z0 z1 z2 : Nat} (h0 : 1 ≤ z0 ∧ z0 ≤ 3) (h1 : z0 ≤ z1 ∧ z1 ≤ z0 + 1) (h2 : z1 ≤ z2 ∧ z2 ≤ z1 + 1) : okShape z0 z1 z2 = true := by
  have := shapes_ok z0 (by simp; (first | exact om531 h0.1 h0.2 | omega)) (z1 - z0) (by simp; (first | exact om532 h1.2 | omega)) (z2 - z1) (by simp; (first | exact om532 h2.2 | omega))
  rw [show z0 + (z1 - z0) = z1 from by (first | exact om533 h1.1 | omega), show z1 + (z2 - z1) = z2 from by (first | exact om533 h2.1 | omega)] at this
  exact this
theorem ev_bd {fi sp : Int} {a : Lin} (h : okLin a = true) (hf : -1000000 < fi ∧ fi < 1000000) (hs : -1000000 < sp ∧ sp < 1000000) : -20000000000000 ≤ evL fi sp a ∧ evL fi sp a ≤ 20000000000000 := by
  simp only [okLin, Bool.and_eq_true, decide_eq_true_eq] at h
  obtain ⟨⟨⟨a1, a2⟩, b1⟩, b2⟩ := h
  have bd : ∀ x y : Int, -10000000 ≤ x → x ≤ 10000000 → -1000000 < y → y < 1000000 → -10000000000000 ≤ x * y ∧ x * y ≤ 10000000000000 := fun x y x1 x2 y1 y2 => by
    have p : (x * y).natAbs ≤ 10000000 * 1000000 := by
      rw [Int.natAbs_mul]
      exact Nat.mul_le_mul (by (first | exact om534 x1 x2 | omega)) (by (first | exact om535 y1 y2 | omega))
    (first | exact om536 p | omega)
  have p1 := bd a.1 fi a1 a2 hf.1 hf.2
  have p2 := bd a.2 sp b1 b2 hs.1 hs.2
  unfold evL
  (first | exact om537 p1.1 p2.1 p1.2 p2.2 | omega)
theorem okTurn_of {z0 z1 z2 i : Nat} (h0 : 1 ≤ z0 ∧ z0 ≤ 3) (h1 : z0 ≤ z1 ∧ z1 ≤ z0 + 1) (h2 : z1 ≤ z2 ∧ z2 ≤ z1 + 1) (hi : i < z2) :
    (∀ a ∈ gameA z0 z1 z2 i, a.1 < 3 ∧ okLin a.2 = true) ∧ (gameA z0 z1 z2 i).length ≤ 12 ∧ (strikesA [0, 1, 2] (gameA z0 z1 z2 i)).map (·.1) = ownL (z0 - 1 - i) (z1 - 1 - i) (z2 - 1 - i) 0 1 2 3 ∧ ∀ a ∈ psumsL (0, 0) ((strikesA [0, 1, 2] (gameA z0 z1 z2 i)).map (·.2)), okLin a = true := by
  have h := shape_ok h0 h1 h2
  simp only [okShape, Bool.and_eq_true, List.all_eq_true, List.mem_range] at h
  have t := h.1 i hi
  simp only [okTurn, Bool.and_eq_true, List.all_eq_true, decide_eq_true_eq] at t
  exact ⟨t.1.1.1, t.1.1.2, t.1.2, t.2⟩
theorem okOut_of {z0 z1 z2 k : Nat} (h0 : 1 ≤ z0 ∧ z0 ≤ 3) (h1 : z0 ≤ z1 ∧ z1 ≤ z0 + 1) (h2 : z1 ≤ z2 ∧ z2 ≤ z1 + 1) (hk : k < 3) : outA z0 z1 z2 k z2 = (prodA (k + 1) (z0 : Int) (z1 : Int) (z2 : Int)).drop 1 ∧ ∀ a ∈ outA z0 z1 z2 k z2, okLin a = true := by
  have h := shape_ok h0 h1 h2
  simp only [okShape, okOut, Bool.and_eq_true, List.all_eq_true, decide_eq_true_eq] at h
  exact h.2 k (by simp; (first | exact om325 hk | omega))
end
section
variable {prog : Program} {w : World} {p : Program} {loose : List Str} {mean : ExcName → Option Value} {mg mb : Str → Option Value}
  {A : Around} {G : Heap} {s : Shared} {Q : Value → Shared → Prop} {E : Value → Shared → Prop}
noncomputable abbrev Trn := Addr × Nat × List Res
noncomputable def trnE (q : Trn) : List (Addr × Obj) := (q.1, listOf (q.2.2.map fun r => Value.ref r.1).toArray q.2.1) :: q.2.2.map resE
noncomputable def struckE (T : List Trn) : List (Addr × Obj) := T.flatMap trnE
inductive TrnsAre : List Trn → List (List (List Int)) → Prop
  | nil : TrnsAre [] []
  | cons {q : Trn} {ns : List (List Int)} {qs : List Trn} {nss : List (List (List Int))} (h : ResAre q.2.2 ns) (r : TrnsAre qs nss) : TrnsAre (q :: qs) (ns :: nss)
theorem TrnsAre.app {a b : List Trn} {x y : List (List (List Int))} (h : TrnsAre a x) (k : TrnsAre b y) : TrnsAre (a ++ b) (x ++ y) := by
  induction h with
  | nil => exact k
  | cons h _ ih => exact .cons h ih
theorem TrnsAre.len {a : List Trn} {x : List (List (List Int))} (h : TrnsAre a x) : a.length = x.length := by
  induction h with
  | nil => rfl
  | cons h _ ih => rw [List.length_cons, List.length_cons, ih]
noncomputable abbrev IsSeq (o : Obj) : Prop := ∃ a n, o.data = .seq a n
theorem trnE_seq {q : Trn} : ∀ p ∈ trnE q, IsSeq p.2 := fun p hp => by
  rcases List.mem_cons.mp hp with rfl | hp
  · exact ⟨_, _, rfl⟩
  · obtain ⟨r, _, rfl⟩ := List.mem_map.mp hp
    exact ⟨_, _, rfl⟩
theorem struckE_seq {T : List Trn} : ∀ p ∈ struckE T, IsSeq p.2 := fun p hp => by
  obtain ⟨q, _, hq⟩ := List.mem_flatMap.mp hp
  exact trnE_seq p hq
theorem struckE_snoc (T : List Trn) (q : Trn) : struckE (T ++ [q]) = struckE T ++ trnE q := by
  simp [struckE]
theorem tups_seq {ps : List Pr} : ∀ p ∈ ps.map tupE, IsSeq p.2 := fun p hp => by
  obtain ⟨q, _, rfl⟩ := List.mem_map.mp hp
  exact ⟨_, _, rfl⟩
theorem seq_ne {h : Heap} {a b : Addr} {oa ob : Obj} (ea : h.get? a = some oa) (eb : h.get? b = some ob) (sa : IsSeq oa) (nb : ∀ x n, ob.data ≠ .seq x n) : a ≠ b := fun q => by
  obtain ⟨x, n, e⟩ := sa
  rw [q, eb] at ea
  rw [← Option.some.inj ea] at e
  exact nb x n e
theorem code_ne {h : Heap} {P c k : Addr} {o ok : Obj} (f : c = P ∨ ∃ vs s t, o.data = .fields vs ∧ vs[1]? = some (.str s t)) (e : h.get? c = some o) (ek : h.get? k = some ok) (nf : ∀ vs s t, ok.data = .fields vs → vs[1]? ≠ some (.str s t)) (hP : P ≠ k) : c ≠ k := fun q => by
  rcases f with rfl | ⟨vs, s, t, a1, a2⟩
  · exact hP q
  · rw [q, ek] at e
    rw [← Option.some.inj e] at a1
    exact nf vs s t a1 a2
theorem not_seq_cell {o : Obj} {v : Option Value} (d : o.data = .cell v) : ∀ x n, o.data ≠ .seq x n := fun x n e => by rw [d] at e; cases e
theorem not_f_cell {o : Obj} {v : Option Value} (d : o.data = .cell v) : ∀ vs s t, o.data = .fields vs → vs[1]? ≠ some (.str s t) := fun vs s t e => by rw [d] at e; cases e
theorem not_f_list {vs : List Value} {n : Nat} : ∀ ws s t, (listOf vs.toArray n).data = .fields ws → ws[1]? ≠ some (.str s t) := fun ws s t e => by cases e
noncomputable def outsA (z0 z1 z2 : Nat) (fi sp : Int) (i : Nat) : List (List (List Int)) := (List.range i).map fun t => (strucksA [0, 1, 2] (gameA z0 z1 z2 t)).map (·.map (evL fi sp))
theorem outsA_succ (z0 z1 z2 : Nat) (fi sp : Int) (i : Nat) : outsA z0 z1 z2 fi sp (i + 1) = outsA z0 z1 z2 fi sp i ++ [(strucksA [0, 1, 2] (gameA z0 z1 z2 i)).map (·.map (evL fi sp))] := by
  simp [outsA, List.range_succ]
inductive TurnJ (g : Heap) (L' : Addr) (fi sp gr s0 s1 s2 : Int) (wd : Nat) (lk ln : Addr) (Z : List (Addr × Obj)) (i : Nat) (m : Str → Option Value) (nw : List (Addr × Obj)) : Prop
  | mk (T : List Trn) (ps : List Pr) (x dx lx c1 c2 : Addr) (kx nk n : Nat) (hk : Int) (tk : Tok) (b1 b2 : Array Value) (e1 e2 o8 o10 : Obj) (va : Option Value)
    (enw : nw = (lk, listOf (T.map fun q => Value.ref q.1).toArray nk) :: (x, instObj 231 dx) :: (dx, dictOf [⟨hk, .str (Str.ofString "_headers") tk, .ref lx⟩] n) :: (lx, listOf (ps.map fun q => Value.ref q.1).toArray kx) :: (L' + 1 + 1 + 1 + 1 + 1 + 1 + 1 + 1, o8) :: (L' + 1 + 1 + 1 + 1 + 1 + 1 + 1 + 1 + 1 + 1, o10) ::
      (54, tabObj b1) :: (61, tabObj b2) :: (c1, e1) :: (c2, e2) :: (ps.map tupE ++ (struckE T ++ Z)))
    (a0 : (∃ t, m (Str.ofString "width") = some (.int (wd : Int) t))) (a1 : m (Str.ofString "struck") = some (.ref lk)) (a2 : TabN g b1 b2 c1 e1 c2 e2)
    (a3 : (c1 = 54 ∨ ∃ vs s t, e1.data = .fields vs ∧ vs[1]? = some (.str s t))) (a4 : (c2 = 61 ∨ ∃ vs s t, e2.data = .fields vs ∧ vs[1]? = some (.str s t)))
    (a5 : RowsAre ps ((gameA s0.toNat s1.toNat s2.toNat i).map (rowK (keyN gr (i + 1)) fi sp))) (a6 : TrnsAre T (outsA s0.toNat s1.toNat s2.toNat fi sp i)) (a7 : o8.data = .cell (some (.ref x))) (a8 : o10.data = .cell va)
    (a9 : @LT.lt Nat _ ln lx) (a10 : @LT.lt Nat _ (L' + 10) x) (a11 : @LT.lt Nat _ (L' + 10) dx) (a12 : @Ne Nat x dx) (a13 : @Ne Nat lx x) (a14 : @Ne Nat lx dx) (a15 : @Ne Nat lx lk) (a16 : @Ne Nat x lk) (a17 : @Ne Nat dx lk) (a18 : ∀ p ∈ struckE T, p.1 ≠ lx ∧ p.1 ≠ lk) : TurnJ g L' fi sp gr s0 s1 s2 wd lk ln Z i m nw
structure ZOk (L' ln lz : Addr) (oln olz o5 o7 : Obj) (Z : List (Addr × Obj)) : Prop where
  mln : (ln, oln) ∈ Z
  mlz : (lz, olz) ∈ Z
  m5 : (L' + 1 + 1 + 1 + 1 + 1, o5) ∈ Z
  m7 : (L' + 1 + 1 + 1 + 1 + 1 + 1 + 1, o7) ∈ Z
  lo : ∀ p ∈ Z, @LT.lt Nat _ L' p.1 ∧ @LE.le Nat _ p.1 ln
  ne : ∀ p ∈ Z, p.1 ≠ L' + 1 + 1 + 1 + 1 + 1 + 1 + 1 + 1 ∧ p.1 ≠ L' + 1 + 1 + 1 + 1 + 1 + 1 + 1 + 1 + 1 + 1
theorem strOk_name {gr : Int} {i j : Nat} (hg : 0 ≤ gr) (hj : j < 3) : PyData.strOk (keyN gr i j) = true := by
  have h := ((keyN_name (gr := gr) i hj).signs hg).1
  unfold PyData.strOk
  rw [Array.all_eq_true_iff_forall_mem]
  intro c hc
  have := h c (by simpa using hc)
  simp; (first | exact om414 this.2 | omega)
theorem rowOk_game {fi sp gr : Int} {i : Nat} {B : ARow} (hf : -1000000 < fi ∧ fi < 1000000) (hs : -1000000 < sp ∧ sp < 1000000) (hB : ∀ a ∈ B, a.1 < 3 ∧ okLin a.2 = true) : ∀ r ∈ B.map (rowK (keyN gr i) fi sp), RowOk gr r := fun r hr => by
  obtain ⟨a, ha, rfl⟩ := List.mem_map.mp hr
  have h1 := hB a ha
  have h2 := ev_bd h1.2 hf hs
  exact ⟨⟨a.1, h1.1, keyN_name i h1.1⟩, bits_ap (Int.lt_of_lt_of_le (by decide) h2.1) (Int.lt_of_le_of_lt h2.2 (by decide))⟩
theorem strikesA_sub {A : ARow} {a : Nat × Lin} (h : a ∈ strikesA [0, 1, 2] A) : a ∈ A := strikeA_sub (strikeA_sub (strikeA_sub h))
theorem turn_core {g : Heap} {L' : Addr} {m : Str → Option Value} {QQ : Flow → Shared → Prop}
  (X' : (Mine.hd.heap_39 w.params).In g) (T' : Top p loose mean mg mb g) (R : Room 128 A) (hu : A.units + 64 < 9000) (F : Fr g L' s.heap m) (n54 : g.get? 54 = none) (n61 : g.get? 61 = none) (h54 : @LT.lt Nat _ 54 L') (h61 : @LT.lt Nat _ 61 L')
  {gr s0 s1 s2 : Int} {wd i : Nat} (hg : 0 ≤ gr ∧ gr < 1000000) (z0 : 1 ≤ s0 ∧ s0 ≤ 3) (z1 : s0 ≤ s1 ∧ s1 ≤ s0 + 1) (z2 : s1 ≤ s2 ∧ s2 ≤ s1 + 1) (hwd : 130 ≤ wd ∧ wd ≤ 4403) (hi : (i : Int) < s2)
  {rows rows2 : List (Str × Int)} {strk : List (List Int)} {a0 a1 a2 : Str} (es2 : strikes (askedL gr i) rows = rows2) (es3 : strucks (askedL gr i) rows = strk) (ea : askedL gr i = [a0, a1, a2])
  (ho : ∀ r ∈ rows, RowOk gr r) (hz : rows.length ≤ 12) (hz2 : rows2.length ≤ 12) (ho2 : ∀ r ∈ rows2, RowOk gr r) (hkeys : rows2.map (·.1) = ownL (s0 - 1 - (i : Int)).toNat (s1 - 1 - (i : Int)).toNat (s2 - 1 - (i : Int)).toNat a0 a1 a2 3) (hso : ∀ x ∈ [a0, a1, a2], PyData.strOk x = true)
  (hS : ∀ x ∈ psums 0 (rows2.map (·.2)), -(2 ^ 128) ≤ x ∧ x ≤ 2 ^ 128)
  {x dx lx lk ln lz c1 c2 : Addr} {kx nk n kn kz : Nat} {hk0 : Int} {tk0 tw t1 t2 t3 ts0 ts1 ts2 u : Tok} {b1 b2 : Array Value} {e1 e2 o5 o7 o8 o10 oc : Obj} {va : Option Value} {sv : List Value} {ps : List Pr} {V W : List (Addr × Obj)}
  (mw : m (Str.ofString "width") = some (.int (wd : Int) tw)) (ms : m (Str.ofString "struck") = some (.ref lk)) (TN : TabN g b1 b2 c1 e1 c2 e2) (hsv : sv.length ≤ 1000)
  (d5 : o5.data = .cell (some (.ref lz))) (d7 : o7.data = .cell (some (.ref ln))) (d8 : o8.data = .cell (some (.ref x))) (d10 : o10.data = .cell va) (dc : oc.data = .cell (some (.int (0 + (i : Int)) u))) (hR : RowsAre ps rows)
  (gx : @LT.lt Nat _ (L' + 10) ln ∧ @LT.lt Nat _ (L' + 10) lx ∧ @LT.lt Nat _ (L' + 10) x ∧ @LT.lt Nat _ (L' + 10) dx ∧ @LT.lt Nat _ (L' + 10) lk) (nx : @Ne Nat x dx ∧ @Ne Nat lx x ∧ @Ne Nat lx dx ∧ @Ne Nat lx lk ∧ @Ne Nat x lk ∧ @Ne Nat dx lk)
  (mln : (ln, listOf #[Value.str (apT (gr + 1)) t1, .str (apT (gr + 2)) t2, .str (apT (gr + 3)) t3] kn) ∈ W) (mlz : (lz, listOf #[.int s0 ts0, .int s1 ts1, .int s2 ts2] kz) ∈ W) (m5 : (L' + 1 + 1 + 1 + 1 + 1, o5) ∈ W) (m7 : (L' + 1 + 1 + 1 + 1 + 1 + 1 + 1, o7) ∈ W) (mc : (L' + 1 + 1 + 1 + 1 + 1 + 1 + 1 + 1 + 1, oc) ∈ W)
  (m54 : (54, tabObj b1) ∈ W) (m61 : (61, tabObj b2) ∈ W) (mc1 : (c1, e1) ∈ W) (mc2 : (c2, e2) ∈ W) (VW : ∀ p ∈ V, p ∈ W)
  (psF : ∀ p ∈ ps.map tupE, p.1 ≠ L' + 1 + 1 + 1 + 1 + 1 + 1 + 1 + 1 + 1 + 1) (wF : ∀ p ∈ W, p.1 ≠ L' + 1 + 1 + 1 + 1 + 1 + 1 + 1 + 1 + 1 + 1 ∧ p.1 ≠ lx ∧ p.1 ≠ lk) (vF : ∀ p ∈ V, (p.1 ≠ 54 ∧ p.1 ≠ 61) ∧ p.1 ≠ L' + 1 + 1 + 1 + 1 + 1 + 1 + 1 + 1)
  (N : News g L' s.heap ((lk, listOf sv.toArray nk) :: (x, instObj 231 dx) :: (dx, dictOf [⟨hk0, .str (Str.ofString "_headers") tk0, .ref lx⟩] n) :: (lx, listOf (ps.map fun q => Value.ref q.1).toArray kx) :: (L' + 1 + 1 + 1 + 1 + 1 + 1 + 1 + 1, o8) :: (L' + 1 + 1 + 1 + 1 + 1 + 1 + 1 + 1 + 1 + 1, o10) :: (ps.map tupE ++ W)))
  (hC : ∀ (h : Heap) (tk : Nat) (q D x' dx' lx' : Addr) (kx' n' kd : Nat) (hk' : Int) (tk' : Tok) (o8' o10' : Obj) (va' : Option Value) (ps' : List Pr) (res : List Res), Fr g L' h (fun y => if y = Str.ofString "sums" then some (.ref q) else m y) → Tabs h → RowsAre ps' ((rows2.map (·.1)).zip (psums 0 (rows2.map (·.2)))) → ResAre res strk →
    o8'.data = .cell (some (.ref x')) → o10'.data = .cell va' →
    News g L' h ((x', instObj 231 dx') :: (dx', dictOf [⟨hk', .str (Str.ofString "_headers") tk', .ref lx'⟩] n') :: (lx', listOf (ps'.map fun q => Value.ref q.1).toArray kx') :: (L' + 1 + 1 + 1 + 1 + 1 + 1 + 1 + 1, o8') :: (ps'.map tupE ++ ((lk, listOf (sv ++ [Value.ref D]).toArray (nk + 1)) :: (L' + 1 + 1 + 1 + 1 + 1 + 1 + 1 + 1 + 1 + 1, o10') :: (D, listOf (res.map fun q => Value.ref q.1).toArray kd) :: (res.map resE ++ V)))) →
    (∀ p ∈ (lk, listOf (sv ++ [Value.ref D]).toArray (nk + 1)) :: (L' + 1 + 1 + 1 + 1 + 1 + 1 + 1 + 1 + 1 + 1, o10') :: (D, listOf (res.map fun q => Value.ref q.1).toArray kd) :: (res.map resE ++ V), @LT.lt Nat _ p.1 lx') → @LT.lt Nat _ lx' x' → @LT.lt Nat _ lx' dx' → @Ne Nat x' dx' →
    (∀ q ∈ ps', ∀ p ∈ (lk, listOf (sv ++ [Value.ref D]).toArray (nk + 1)) :: (L' + 1 + 1 + 1 + 1 + 1 + 1 + 1 + 1 + 1 + 1, o10') :: (D, listOf (res.map fun q => Value.ref q.1).toArray kd) :: (res.map resE ++ V), @Ne Nat q.1 p.1) →
    @LT.lt Nat _ lk D → (∀ p ∈ V, @LT.lt Nat _ p.1 D) → (∀ q ∈ res, @Ne Nat q.1 lk ∧ ∀ p ∈ V, @Ne Nat q.1 p.1) → QQ .next { s with heap := h, toks := tk }) :
  wpAny (model prog w) (A.deeper (lawEnv L')) (execs lawTb (lawEnv L')) QQ E s := by
  obtain ⟨g1, g2, g3, g4, g5⟩ := gx
  obtain ⟨q4, q5, q6, q7, q8, q9⟩ := nx
  have NW : ∀ p ∈ W, s.heap.get? p.1 = some p.2 ∧ p.1 ≠ L' ∧ g.get? p.1 = none := fun p hp => N p (by repeat (first | exact List.mem_append_right _ hp | refine List.Mem.tail _ ?_))
  refine law_C1 X' T' R F hg d7 dc d10 (tail := (lk, listOf sv.toArray nk) :: (x, instObj 231 dx) :: (dx, dictOf [⟨hk0, .str (Str.ofString "_headers") tk0, .ref lx⟩] n) :: (lx, listOf (ps.map fun q => Value.ref q.1).toArray kx) :: (L' + 1 + 1 + 1 + 1 + 1 + 1 + 1 + 1, o8) :: (ps.map tupE ++ W))
    (List.forall_mem_cons.mpr ⟨NW _ mln, List.forall_mem_cons.mpr ⟨NW _ m7, List.forall_mem_cons.mpr ⟨NW _ mc, List.forall_mem_cons.mpr ⟨N _ (by k_mem), fun p hp => N p (by
      rcases List.mem_cons.mp hp with rfl | hp
      · exact .head _
      · refine .tail _ ?_
        rcases List.mem_cons.mp hp with rfl | hp
        · exact .head _
        · refine .tail _ ?_
          rcases List.mem_cons.mp hp with rfl | hp
          · exact .head _
          · refine .tail _ ?_
            rcases List.mem_cons.mp hp with rfl | hp
            · exact .head _
            · refine .tail _ ?_
              rcases List.mem_cons.mp hp with rfl | hp
              · exact .head _
              · exact .tail _ (.tail _ hp))⟩⟩⟩⟩) g1 ?o1 ?c1
  case o1 =>
    refine List.forall_mem_cons.mpr ⟨Nat.ne_of_gt g5, List.forall_mem_cons.mpr ⟨Nat.ne_of_gt g3, List.forall_mem_cons.mpr ⟨Nat.ne_of_gt g4, List.forall_mem_cons.mpr ⟨Nat.ne_of_gt g2, List.forall_mem_cons.mpr ⟨by k_ne, List.forall_mem_append.mpr ⟨psF, fun p hp => (wF p hp).1⟩⟩⟩⟩⟩⟩
  case c1 =>
  intro h1 tk1 la ka oA av F1 hav dA lt1 _ N1
  have la_lk := lt1 _ (.head _)
  have la_x := lt1 _ (.tail _ (.head _))
  have la_dx := lt1 _ (.tail _ (.tail _ (.head _)))
  have la_lx := lt1 _ (.tail _ (.tail _ (.tail _ (.head _))))
  have la_W : ∀ p ∈ W, p.1 < la := fun p hp => lt1 p (by repeat (first | exact List.mem_append_right _ hp | refine List.Mem.tail _ ?_))
  have Npw : News g L' h1 (ps.map tupE ++ W) := News.sub N1 (by walk_at "my tl")
  clear lt1
  refine law_C2 X' T' R F1 hg ms d8 dA hR ho hz hav hsv (x := x) (dx := dx) (lx := lx) (lk := lk) (la := la) (kx := kx) (nk := nk) (ka := ka) (n := n) (hk0 := hk0) (tk0 := tk0) (tail := W) ?n2 ⟨g2, g3, g4, g5, la_lx, la_x, la_dx, la_lk, q4, q5, q6, q7, q8, q9⟩ (fun p hp => ⟨(wF p hp).2.1, (wF p hp).2.2, la_W p hp⟩) ?c2
  case n2 => repeat' (first | assumption | refine List.forall_mem_cons.mpr ⟨N1 _ (by k_mem), ?_⟩)
  case c2 =>
  clear N1 Npw NW
  intro h2 tk2 D kd kx2 ps2 res F2 hR2 hres N2 ltD ltt hres2
  rw [es2] at hR2
  rw [es3] at hres
  rw [ea] at hav
  obtain ⟨ta0, ta1, ta2, rfl⟩ : ∃ ta0 ta1 ta2, av = [Value.str a0 ta0, .str a1 ta1, .str a2 ta2] := by
    cases hav with | cons _ t1 r => cases r with | cons _ t2 r => cases r with | cons _ t3 r => cases r with | nil => exact ⟨_, _, _, rfl⟩
  have NW : ∀ p ∈ W, h2.get? p.1 = some p.2 ∧ p.1 ≠ L' ∧ g.get? p.1 = none := fun p hp => N2 p (by repeat (first | exact List.mem_append_right _ (List.mem_append_right _ hp) | refine List.Mem.tail _ ?_))
  have Nps : News g L' h2 (ps2.map tupE) := News.sub N2 (by walk_at "my tl")
  have Nrw : News g L' h2 (res.map resE ++ W) := News.sub N2 (by walk_at "my tl")
  refine law_C3 X' T' R F2 hu z0 z1 z2 hi d8 dA d5 dc hR2 hz2 hkeys hso (gr := gr) (x := x) (dx := dx) (lx := lx) (la := la) (lz := lz) (kx := kx2) (ka := ka) (kz := kz) (n := n) (hk0 := hk0) (tk0 := tk0) (ts0 := ts0) (ts1 := ts1) (ts2 := ts2) (ta0 := ta0) (ta1 := ta1) (ta2 := ta2)
    (tail := (lk, listOf (sv ++ [Value.ref D]).toArray (nk + 1)) :: (D, listOf (res.map fun q => Value.ref q.1).toArray kd) :: (res.map resE ++ W)) ?n3 ?c3
  case n3 => repeat' (first | assumption | exact NW _ mlz | exact NW _ m5 | exact NW _ mc | exact N2 _ (by k_mem) | refine List.forall_mem_append.mpr ⟨?_, ?_⟩ | refine List.forall_mem_cons.mpr ⟨?_, ?_⟩)
  case c3 =>
  clear N2 NW Nps Nrw
  intro h3 tk3 F3 N3
  have NW : ∀ p ∈ W, h3.get? p.1 = some p.2 ∧ p.1 ≠ L' ∧ g.get? p.1 = none := fun p hp => N3 p (by repeat (first | exact List.mem_append_right _ (.tail _ (.tail _ (List.mem_append_right _ hp))) | refine List.Mem.tail _ ?_))
  have Nps : News g L' h3 (ps2.map tupE) := News.sub N3 (by walk_at "my tl")
  have Nres : News g L' h3 (res.map resE) := fun p hp => N3 p (by repeat (first | exact List.mem_append_right _ (.tail _ (.tail _ (List.mem_append_left _ hp))) | refine List.Mem.tail _ ?_))
  have tb3 : Tabs h3 := TN h3 (Fr.keep F3) (NW _ m54).1 (NW _ m61).1 (NW _ mc1).1 (NW _ mc2).1
  have e8 := (N3 (L' + 1 + 1 + 1 + 1 + 1 + 1 + 1 + 1, o8) (by k_mem)).1
  have sq3 : ∀ {l : List (Addr × Obj)}, News g L' h3 l → (∀ p ∈ l, IsSeq p.2) → ∀ p ∈ l, (p.1 ≠ 54 ∧ p.1 ≠ 61) ∧ p.1 ≠ L' + 1 + 1 + 1 + 1 + 1 + 1 + 1 + 1 := fun {l} NN sl p hp =>
    ⟨⟨seq_ne (NN p hp).1 (NW _ m54).1 (sl p hp) (fun _ _ e => by cases e), seq_ne (NN p hp).1 (NW _ m61).1 (sl p hp) (fun _ _ e => by cases e)⟩, seq_ne (NN p hp).1 e8 (sl p hp) (not_seq_cell d8)⟩
  have psq := sq3 Nps tups_seq
  have rsq := sq3 Nres fun p hp => by
    obtain ⟨q, _, rfl⟩ := List.mem_map.mp hp
    exact ⟨_, _, rfl⟩
  have lkD : @LT.lt Nat _ lk D := Nat.lt_trans la_lk ltD
  have g6 : @LT.lt Nat _ (L' + 10) D := Nat.lt_trans g5 lkD
  have L10 : @LT.lt Nat _ L' (L' + 10) := Nat.lt_add_of_pos_right (by decide)
  have offV : ∀ p ∈ (lk, listOf (sv ++ [Value.ref D]).toArray (nk + 1)) :: (L' + 1 + 1 + 1 + 1 + 1 + 1 + 1 + 1 + 1 + 1, oA) :: (D, listOf (res.map fun q => Value.ref q.1).toArray kd) :: (res.map resE ++ V), (p.1 ≠ 54 ∧ p.1 ≠ 61) ∧ p.1 ≠ L' + 1 + 1 + 1 + 1 + 1 + 1 + 1 + 1 := by
    refine List.forall_mem_cons.mpr ⟨⟨⟨?_, ?_⟩, ?_⟩, List.forall_mem_cons.mpr ⟨⟨⟨by k_ne, by k_ne⟩, by k_ne⟩, List.forall_mem_cons.mpr ⟨⟨⟨?_, ?_⟩, ?_⟩, List.forall_mem_append.mpr ⟨rsq, vF⟩⟩⟩⟩
    · exact Nat.ne_of_gt (Nat.lt_trans h54 (Nat.lt_trans L10 g5))
    · exact Nat.ne_of_gt (Nat.lt_trans h61 (Nat.lt_trans L10 g5))
    · exact Nat.ne_of_gt (Nat.lt_trans (Nat.add_lt_add_left (by decide : 8 < 10) L') g5)
    · exact Nat.ne_of_gt (Nat.lt_trans h54 (Nat.lt_trans L10 g6))
    · exact Nat.ne_of_gt (Nat.lt_trans h61 (Nat.lt_trans L10 g6))
    · exact Nat.ne_of_gt (Nat.lt_trans (Nat.add_lt_add_left (by decide : 8 < 10) L') g6)
  refine law_C4 X' T' R F3 n54 n61 tb3 mw hwd d8 hR2 hz2 (fun r hr => (ho2 r hr).2) hS h61 (x := x) (dx := dx) (lx := lx) (kx := kx2) (n := n) (hk0 := hk0) (tk0 := tk0) ⟨Nat.lt_trans L10 g3, Nat.lt_trans L10 g4, Nat.lt_trans L10 g2⟩
    (tail := (lk, listOf (sv ++ [Value.ref D]).toArray (nk + 1)) :: (L' + 1 + 1 + 1 + 1 + 1 + 1 + 1 + 1 + 1 + 1, oA) :: (D, listOf (res.map fun q => Value.ref q.1).toArray kd) :: (res.map resE ++ V)) (List.forall_mem_append.mpr ⟨fun p hp => (psq p hp).1, fun p hp => (offV p hp).1⟩) ?n4 ?c4
  case n4 =>
    have NV : News g L' h3 V := fun p hp => NW p (VW p hp)
    have nlk := N3 (lk, listOf (sv ++ [Value.ref D]).toArray (nk + 1)) (by repeat (first | exact List.mem_append_right _ (.head _) | refine List.Mem.tail _ ?_))
    have nD := N3 (D, listOf (res.map fun q => Value.ref q.1).toArray kd) (by repeat (first | exact List.mem_append_right _ (.tail _ (.head _)) | refine List.Mem.tail _ ?_))
    repeat' (first | assumption | exact N3 _ (by k_mem) | refine List.forall_mem_append.mpr ⟨?_, ?_⟩ | refine List.forall_mem_cons.mpr ⟨?_, ?_⟩)
  case c4 =>
  clear N3 NW Nps Nres e8 sq3 psq rsq tb3
  intro h4 tk4 q9' k9 ys9 F4 tb4 hI9 N4
  refine law_C5 X' T' R F4 n54 n61 tb4 h61 (if_pos rfl) hg d8 hR2 hz2 ho2 hI9 (by rw [psums_len, List.length_map]) hS (fun p hp => (offV p hp).2) N4 ?c5
  intro h5 tk5 x5 dx5 lx5 kx5 n5 hk5 tk6 o85 ps5 F5 tb5 hR5 d85 N5 lt5 a5 b5 c5 ap5
  exact hC h5 tk5 q9' D x5 dx5 lx5 kx5 n5 kd hk5 tk6 o85 oA _ ps5 res F5 tb5 hR5 hres d85 dA N5 lt5 a5 b5 c5 ap5 lkD (fun p hp => ltt p (VW p hp)) (fun q hq => ⟨(hres2 q hq).1, fun p hp => (hres2 q hq).2 p (VW p hp)⟩)
theorem law_turn {g : Heap} {L' : Addr} {m : Str → Option Value} {RR : Result → Shared → Prop}
  (X' : (Mine.hd.heap_39 w.params).In g) (T' : Top p loose mean mg mb g) (R : Room 128 A) (hu : A.units + 64 < 9000) (F : Fr g L' s.heap m) (n54 : g.get? 54 = none) (n61 : g.get? 61 = none) (h54 : @LT.lt Nat _ 54 L') (h61 : @LT.lt Nat _ 61 L')
  {fi sp gr s0 s1 s2 : Int} {wd : Nat} (nums : LawNums fi sp gr s0 s1 s2 (wd : Int)) {lk ln lz : Addr} {kn kz : Nat} {t1 t2 t3 ts0 ts1 ts2 u : Tok} {o5 o7 oc it : Obj} {I : Addr} {i : Nat} {nw Z : List (Addr × Obj)}
  (hZ : ZOk L' ln lz (listOf #[Value.str (apT (gr + 1)) t1, .str (apT (gr + 2)) t2, .str (apT (gr + 3)) t3] kn) (listOf #[.int s0 ts0, .int s1 ts1, .int s2 ts2] kz) o5 o7 Z)
  (d5 : o5.data = .cell (some (.ref lz))) (d7 : o7.data = .cell (some (.ref ln))) (dc : oc.data = .cell (some (.int (0 + (i : Int)) u))) (g1 : @LT.lt Nat _ (L' + 10) ln) (g3 : @LT.lt Nat _ ln lk) (gI : @LT.lt Nat _ (L' + 10) I)
  (hi : (i : Int) < s2) {ra rb rc : Int} (hIR : IsRangeIter s.heap I ra rb rc)
  (hJ : TurnJ g L' fi sp gr s0 s1 s2 wd lk ln Z i m nw)
  (hof : ∀ p ∈ nw, p.1 ≠ I ∧ p.1 ≠ L' + 1 + 1 + 1 + 1 + 1 + 1 + 1 + 1 + 1)
  (N : News g L' s.heap ((I, it) :: (L' + 1 + 1 + 1 + 1 + 1 + 1 + 1 + 1 + 1, oc) :: nw)) :
  wpAny (model prog w) (A.deeper (lawEnv L')) (execs lawTb (lawEnv L')) (CellEnd g L' I (L' + 1 + 1 + 1 + 1 + 1 + 1 + 1 + 1 + 1) it (TurnJ g L' fi sp gr s0 s1 s2 wd lk ln Z (i + 1)) s RR) E s := by
  obtain ⟨T, ps, x, dx, lx, c1, c2, kx, nk, n, hk0, tk0, b1, b2, e1, e2, o8, o10, va, rfl, ⟨tw, mw⟩, ms, TN, f1, f2, hR, hT, d8, d10, q1, q2, q3, q4, q5, q6, q7, q8, q9, hst⟩ := hJ
  have nf := nums.f
  have nsp := nums.s
  have hg := nums.g
  have z0 := nums.z0
  have z1 := nums.z1
  have z2 := nums.z2
  have zz0 : 1 ≤ s0.toNat ∧ s0.toNat ≤ 3 := by (first | exact om415 z0.1 z0.2 | omega)
  have zz1 : s0.toNat ≤ s1.toNat ∧ s1.toNat ≤ s0.toNat + 1 := by (first | exact om416 z1.1 z1.2 zz0.2 | omega)
  have zz2 : s1.toNat ≤ s2.toNat ∧ s2.toNat ≤ s1.toNat + 1 := by (first | exact om417 z0.1 z2.1 z2.2 zz1.1 | omega)
  obtain ⟨ok1, ok2, ok3, ok4⟩ := okTurn_of (i := i) zz0 zz1 zz2 (by (first | exact om418 zz1.1 hi | omega))
  have hsv : T.length = i := by rw [hT.len, outsA, List.length_map, List.length_range]
  obtain ⟨sA, sB⟩ := strikes_A (fi := fi) (sp := sp) hg.1 (i := i) (A := gameA s0.toNat s1.toNat s2.toNat i) (fun a ha => (ok1 a ha).1)
  have hl2 : (strikes (askedL gr i) ((gameA s0.toNat s1.toNat s2.toNat i).map (rowK (keyN gr (i + 1)) fi sp))).length ≤ 12 := Nat.le_trans (strikes_len _ _) (by rw [List.length_map]; exact ok2)
  rw [sA] at hl2
  obtain ⟨B, hB⟩ : ∃ B, B = strikesA [0, 1, 2] (gameA s0.toNat s1.toNat s2.toNat i) := ⟨_, rfl⟩
  have hB3 : ∀ a ∈ B, a.1 < 3 ∧ okLin a.2 = true := fun a ha => ok1 a (strikesA_sub (hB ▸ ha))
  rw [← hB] at sA hl2 ok3 ok4
  have hkeys : (B.map (rowK (keyN gr i) fi sp)).map (·.1) = ownL (s0 - 1 - (i : Int)).toNat (s1 - 1 - (i : Int)).toNat (s2 - 1 - (i : Int)).toNat (keyN gr i 0) (keyN gr i 1) (keyN gr i 2) 3 := by
    have e : (B.map (rowK (keyN gr i) fi sp)).map (·.1) = (B.map (·.1)).map (keyN gr i) := by rw [List.map_map, List.map_map]; rfl
    rw [e, ok3, ownL_map, om442 z0.1 z1.2 zz0.1 zz1.1 zz2.2, om443, om443]
  have hso : ∀ x ∈ [keyN gr i 0, keyN gr i 1, keyN gr i 2], PyData.strOk x = true := List.forall_mem_cons.mpr ⟨strOk_name hg.1 (by decide), List.forall_mem_cons.mpr ⟨strOk_name hg.1 (by decide), List.forall_mem_cons.mpr ⟨strOk_name hg.1 (by decide), List.forall_mem_nil _⟩⟩⟩
  have ePs : psums 0 ((B.map (rowK (keyN gr i) fi sp)).map (·.2)) = (psumsL (0, 0) (B.map (·.2))).map (evL fi sp) := by
    rw [psumsL_ev, List.map_map, List.map_map]
    congr 1
    simp [evL]
  have hS : ∀ x ∈ psums 0 ((B.map (rowK (keyN gr i) fi sp)).map (·.2)), -(2 ^ 128) ≤ x ∧ x ≤ 2 ^ 128 := fun x hx => by
    rw [ePs] at hx
    obtain ⟨a, ha, rfl⟩ := List.mem_map.mp hx
    have := ev_bd (ok4 a ha) nf nsp
    exact ⟨Int.le_trans (by decide) this.1, Int.le_trans this.2 (by decide)⟩
  have hwd : 130 ≤ wd ∧ wd ≤ 4403 := by
    have := nums.w
    (first | exact om444 this | omega)
  clear ok3 ok4 zz0 zz1 zz2 ePs nums
  have eIt : it = { cls := .type "range_iterator", dict := none, data := .fields #[rawInt ra, rawInt rb, rawInt rc], slots := #[] } := Option.some.inj ((N _ (.head _)).1.symm.trans hIR)
  have nfI : ∀ vs s t, it.data = .fields vs → vs[1]? ≠ some (.str s t) := fun vs s t e q => by
    rw [eIt] at e
    cases e
    cases q
  clear eIt hIR
  have L10 : @LT.lt Nat _ L' (L' + 10) := Nat.lt_add_of_pos_right (by decide)
  have g10 := (N (L' + 1 + 1 + 1 + 1 + 1 + 1 + 1 + 1 + 1 + 1, o10) (by k_mem)).1
  have e8 := (N (L' + 1 + 1 + 1 + 1 + 1 + 1 + 1 + 1, o8) (by k_mem)).1
  have e54 := (N (54, tabObj b1) (by k_mem)).1
  have e61 := (N (61, tabObj b2) (by k_mem)).1
  have elx := (N (lx, listOf (ps.map fun q => Value.ref q.1).toArray kx) (by k_mem)).1
  have elk := (N (lk, listOf (T.map fun q => Value.ref q.1).toArray nk) (by k_mem)).1
  have ec1 := (N (c1, e1) (by k_mem)).1
  have ec2 := (N (c2, e2) (by k_mem)).1
  have gp : ∀ p ∈ ps.map tupE ++ struckE T, s.heap.get? p.1 = some p.2 := fun p hp => (N p (by
    repeat (first | exact (List.mem_append.mp hp).elim (List.mem_append_left _) fun h => List.mem_append_right _ (List.mem_append_left _ h) | refine List.Mem.tail _ ?_))).1
  obtain ⟨V, hV⟩ : ∃ V, V = (I, it) :: (L' + 1 + 1 + 1 + 1 + 1 + 1 + 1 + 1 + 1, oc) :: (struckE T ++ Z) := ⟨_, rfl⟩
  have VZ : ∀ p ∈ Z, p ∈ V := fun p hp => by rw [hV]; exact .tail _ (.tail _ (List.mem_append_right _ hp))
  have VT : ∀ p ∈ struckE T, p ∈ V := fun p hp => by rw [hV]; exact .tail _ (.tail _ (List.mem_append_left _ hp))
  have VI : (I, it) ∈ V := by rw [hV]; exact .head _
  have Vc : (L' + 1 + 1 + 1 + 1 + 1 + 1 + 1 + 1 + 1, oc) ∈ V := by rw [hV]; exact .tail _ (.head _)
  have all : ∀ {P : Addr × Obj → Prop}, P (I, it) → P (L' + 1 + 1 + 1 + 1 + 1 + 1 + 1 + 1 + 1, oc) → (∀ p ∈ struckE T, P p) → (∀ p ∈ Z, P p) → ∀ p ∈ V, P p := fun a b c d => by
    rw [hV]
    exact List.forall_mem_cons.mpr ⟨a, List.forall_mem_cons.mpr ⟨b, List.forall_mem_append.mpr ⟨c, d⟩⟩⟩
  have hlk := hof (lk, listOf (T.map fun q => Value.ref q.1).toArray nk) (.head _)
  have hlx := hof (lx, listOf (ps.map fun q => Value.ref q.1).toArray kx) (by k_mem)
  have g13 : @LT.lt Nat _ (L' + 10) lk := Nat.lt_trans g1 g3
  have g1x : @LT.lt Nat _ (L' + 10) lx := Nat.lt_trans g1 q1
  have sF : ∀ p ∈ struckE T, (p.1 ≠ 54 ∧ p.1 ≠ 61) ∧ p.1 ≠ L' + 1 + 1 + 1 + 1 + 1 + 1 + 1 + 1 := fun p hp =>
    have ga := gp p (List.mem_append_right _ hp)
    ⟨⟨seq_ne ga e54 (struckE_seq p hp) (fun _ _ e => by cases e), seq_ne ga e61 (struckE_seq p hp) (fun _ _ e => by cases e)⟩, seq_ne ga e8 (struckE_seq p hp) (not_seq_cell d8)⟩
  have vF : ∀ p ∈ V, (p.1 ≠ 54 ∧ p.1 ≠ 61) ∧ p.1 ≠ L' + 1 + 1 + 1 + 1 + 1 + 1 + 1 + 1 := all
    ⟨⟨Nat.ne_of_gt (Nat.lt_trans h54 (Nat.lt_trans L10 gI)), Nat.ne_of_gt (Nat.lt_trans h61 (Nat.lt_trans L10 gI))⟩, Nat.ne_of_gt (Nat.lt_trans (Nat.add_lt_add_left (by decide : 8 < 10) L') gI)⟩
    ⟨⟨by k_ne, by k_ne⟩, by k_ne⟩ sF
    (fun p hp => ⟨⟨Nat.ne_of_gt (Nat.lt_trans h54 (hZ.lo p hp).1), Nat.ne_of_gt (Nat.lt_trans h61 (hZ.lo p hp).1)⟩, (hZ.ne p hp).1⟩)
  have wF : ∀ p ∈ V, p.1 ≠ L' + 1 + 1 + 1 + 1 + 1 + 1 + 1 + 1 + 1 + 1 ∧ p.1 ≠ lx ∧ p.1 ≠ lk := all
    ⟨Nat.ne_of_gt gI, fun q => hlx.1 q.symm, fun q => hlk.1 q.symm⟩ ⟨by k_ne, fun q => hlx.2 q.symm, fun q => hlk.2 q.symm⟩
    (fun p hp => ⟨seq_ne (gp p (List.mem_append_right _ hp)) g10 (struckE_seq p hp) (not_seq_cell d10), (hst p hp).1, (hst p hp).2⟩)
    (fun p hp => ⟨(hZ.ne p hp).2, Nat.ne_of_lt (Nat.lt_of_le_of_lt (hZ.lo p hp).2 q1), Nat.ne_of_lt (Nat.lt_of_le_of_lt (hZ.lo p hp).2 g3)⟩)
  refine turn_core X' T' R hu F n54 n61 h54 h61 hg z0 z1 z2 hwd hi sA sB (asked_is _ _) (rowOk_game nf nsp ok1) (by rw [List.length_map]; exact ok2) hl2 (rowOk_game nf nsp hB3) hkeys hso hS (lx := lx) (kx := kx) (nk := nk) (n := n) (kn := kn) (kz := kz) (hk0 := hk0) (tk0 := tk0) (t1 := t1) (t2 := t2) (t3 := t3) (ts0 := ts0) (ts1 := ts1) (ts2 := ts2) mw ms TN (sv := T.map fun q => Value.ref q.1) (by rw [List.length_map]; (first | exact om431 hsv z2.2 z0.2 z1.2 hi | omega))
    d5 d7 d8 d10 dc hR ⟨g1, g1x, q2, q3, g13⟩ ⟨q4, q5, q6, q7, q8, q9⟩ (V := V) (W := (54, tabObj b1) :: (61, tabObj b2) :: (c1, e1) :: (c2, e2) :: V)
    (.tail _ (.tail _ (.tail _ (.tail _ (VZ _ hZ.mln))))) (.tail _ (.tail _ (.tail _ (.tail _ (VZ _ hZ.mlz))))) (.tail _ (.tail _ (.tail _ (.tail _ (VZ _ hZ.m5))))) (.tail _ (.tail _ (.tail _ (.tail _ (VZ _ hZ.m7))))) (.tail _ (.tail _ (.tail _ (.tail _ Vc)))) (.head _) (.tail _ (.head _)) (.tail _ (.tail _ (.head _))) (.tail _ (.tail _ (.tail _ (.head _)))) (fun p hp => .tail _ (.tail _ (.tail _ (.tail _ hp))))
    (fun p hp => seq_ne (gp p (List.mem_append_left _ hp)) g10 (tups_seq p hp) (not_seq_cell d10)) ?wF vF ?N ?hC
  case wF =>
    refine List.forall_mem_cons.mpr ⟨⟨by k_ne, Nat.ne_of_lt (Nat.lt_trans h54 (Nat.lt_trans L10 g1x)), Nat.ne_of_lt (Nat.lt_trans h54 (Nat.lt_trans L10 g13))⟩, List.forall_mem_cons.mpr ⟨⟨by k_ne, Nat.ne_of_lt (Nat.lt_trans h61 (Nat.lt_trans L10 g1x)), Nat.ne_of_lt (Nat.lt_trans h61 (Nat.lt_trans L10 g13))⟩,
      List.forall_mem_cons.mpr ⟨⟨?_, ?_, ?_⟩, List.forall_mem_cons.mpr ⟨⟨?_, ?_, ?_⟩, wF⟩⟩⟩⟩
    · exact code_ne f1 ec1 g10 (not_f_cell d10) (by k_ne)
    · exact code_ne f1 ec1 elx not_f_list (Nat.ne_of_lt (Nat.lt_trans h54 (Nat.lt_trans L10 g1x)))
    · exact code_ne f1 ec1 elk not_f_list (Nat.ne_of_lt (Nat.lt_trans h54 (Nat.lt_trans L10 g13)))
    · exact code_ne f2 ec2 g10 (not_f_cell d10) (by k_ne)
    · exact code_ne f2 ec2 elx not_f_list (Nat.ne_of_lt (Nat.lt_trans h61 (Nat.lt_trans L10 g1x)))
    · exact code_ne f2 ec2 elk not_f_list (Nat.ne_of_lt (Nat.lt_trans h61 (Nat.lt_trans L10 g13)))
  case N =>
    have NV : News g L' s.heap V := all (N _ (.head _)) (N _ (.tail _ (.head _))) (fun p hp => N p (by repeat (first | exact List.mem_append_right _ (List.mem_append_left _ hp) | refine List.Mem.tail _ ?_))) (fun p hp => N p (by repeat (first | exact List.mem_append_right _ (List.mem_append_right _ hp) | refine List.Mem.tail _ ?_)))
    have Nps : News g L' s.heap (ps.map tupE) := fun p hp => N p (by repeat (first | exact List.mem_append_left _ hp | refine List.Mem.tail _ ?_))
    repeat' (first | assumption | exact N _ (by k_mem) | refine List.forall_mem_append.mpr ⟨?_, ?_⟩ | refine List.forall_mem_cons.mpr ⟨?_, ?_⟩)
  case hC =>
  clear N gp wF sF elx elk ec1 ec2 e54 e61 e8 g10 hlx f1 f2 TN d10
  intro h5 tk5 q D x5 dx5 lx5 kx5 n5 kd hk5 tk6 o85 oA va' ps5 res F5 tb5 hR5 hres d85 dA N5 lt5 a5 b5 c5 ap5 lkD DV hres2
  rw [turn_A, hB] at hR5
  obtain ⟨b1', b2', c1', e1', c2', e2', NT, TN', f1', f2'⟩ := Tabs.ledF tb5 F5 n54 n61
  have N5t : ∀ p ∈ (lk, listOf ((T.map fun q => Value.ref q.1) ++ [Value.ref D]).toArray (nk + 1)) :: (L' + 1 + 1 + 1 + 1 + 1 + 1 + 1 + 1 + 1 + 1, oA) :: (D, listOf (res.map fun q => Value.ref q.1).toArray kd) :: (res.map resE ++ V), h5.get? p.1 = some p.2 ∧ p.1 ≠ L' ∧ g.get? p.1 = none := fun p hp => N5 p (by repeat (first | exact List.mem_append_right _ hp | refine List.Mem.tail _ ?_))
  have N5V : News g L' h5 V := fun p hp => N5t p (.tail _ (.tail _ (.tail _ (List.mem_append_right _ hp))))
  have Nps : News g L' h5 (ps5.map tupE) := fun p hp => N5 p (by repeat (first | exact List.mem_append_left _ hp | refine List.Mem.tail _ ?_))
  have ltV : ∀ p ∈ V, @LT.lt Nat _ p.1 lx5 := fun p hp => lt5 p (.tail _ (.tail _ (.tail _ (List.mem_append_right _ hp))))
  have ltlk : @LT.lt Nat _ lk lx5 := lt5 _ (.head _)
  have ltD : @LT.lt Nat _ D lx5 := lt5 _ (.tail _ (.tail _ (.head _)))
  have g5x : @LT.lt Nat _ (L' + 10) lx5 := Nat.lt_trans g13 ltlk
  have g5d : @LT.lt Nat _ (L' + 10) D := Nat.lt_trans g13 lkD
  have tI : ∀ p ∈ (D, listOf (res.map fun q => Value.ref q.1).toArray kd) :: res.map resE, p.1 ≠ I ∧ p.1 ≠ L' + 1 + 1 + 1 + 1 + 1 + 1 + 1 + 1 + 1 := List.forall_mem_cons.mpr ⟨⟨Nat.ne_of_gt (DV _ VI), Nat.ne_of_gt (DV _ Vc)⟩, fun p hp => by
    obtain ⟨q, hq, rfl⟩ := List.mem_map.mp hp
    exact ⟨(hres2 q hq).2 _ VI, (hres2 q hq).2 _ Vc⟩⟩
  have pI : ∀ p ∈ ps5.map tupE, p.1 ≠ I ∧ p.1 ≠ L' + 1 + 1 + 1 + 1 + 1 + 1 + 1 + 1 + 1 := fun p hp => by
    obtain ⟨q, hq, rfl⟩ := List.mem_map.mp hp
    exact ⟨ap5 q hq _ (.tail _ (.tail _ (.tail _ (List.mem_append_right _ VI)))), ap5 q hq _ (.tail _ (.tail _ (.tail _ (List.mem_append_right _ Vc))))⟩
  have sI : ∀ p ∈ struckE T ++ Z, p.1 ≠ I ∧ p.1 ≠ L' + 1 + 1 + 1 + 1 + 1 + 1 + 1 + 1 + 1 := fun p hp => hof p (by repeat (first | exact List.mem_append_right _ hp | refine List.Mem.tail _ ?_))
  obtain ⟨zI, zc⟩ := List.forall_mem_append.mp sI
  have gI5 := (N5V _ VI).1
  have gc5 := (N5V _ Vc).1
  have cI : ∀ {c : Addr} {o : Obj} {P : Addr}, (c = P ∨ ∃ vs s t, o.data = .fields vs ∧ vs[1]? = some (.str s t)) → h5.get? c = some o → @LT.lt Nat _ P L' → c ≠ I ∧ c ≠ L' + 1 + 1 + 1 + 1 + 1 + 1 + 1 + 1 + 1 := fun {c o P} f e hP =>
    ⟨code_ne f e gI5 nfI (Nat.ne_of_lt (Nat.lt_trans hP (Nat.lt_trans L10 gI))), code_ne f e gc5 (not_f_cell dc) (Nat.ne_of_lt (Nat.lt_trans hP (Nat.lt_add_of_pos_right (by decide : 0 < 9))))⟩
  have eT : ((T ++ [(D, kd, res)]).map fun q => Value.ref q.1) = (T.map fun q => Value.ref q.1) ++ [Value.ref D] := List.map_append
  have eS : struckE (T ++ [(D, kd, res)]) = struckE T ++ ((D, listOf (res.map fun q => Value.ref q.1).toArray kd) :: res.map resE) := struckE_snoc T _
  refine CellEnd.intro (oc := oc) (news' := (lk, listOf ((T ++ [(D, kd, res)]).map fun q => Value.ref q.1).toArray (nk + 1)) :: (x5, instObj 231 dx5) :: (dx5, dictOf [⟨hk5, .str (Str.ofString "_headers") tk6, .ref lx5⟩] n5) :: (lx5, listOf (ps5.map fun q => Value.ref q.1).toArray kx5) :: (L' + 1 + 1 + 1 + 1 + 1 + 1 + 1 + 1, o85) :: (L' + 1 + 1 + 1 + 1 + 1 + 1 + 1 + 1 + 1 + 1, oA) ::
      (54, tabObj b1') :: (61, tabObj b2') :: (c1', e1') :: (c2', e2') :: (ps5.map tupE ++ (struckE (T ++ [(D, kd, res)]) ++ Z))) F5 ?nn dc ?oo
    (.mk (T ++ [(D, kd, res)]) ps5 x5 dx5 lx5 c1' c2' kx5 (nk + 1) n5 hk5 tk6 b1' b2' e1' e2' o85 oA va' rfl ⟨tw, mw⟩ ms TN' f1' f2' hR5 (outsA_succ .. ▸ hT.app (.cons hres .nil)) d85 dA (Nat.lt_trans g3 ltlk) (Nat.lt_trans g5x a5) (Nat.lt_trans g5x b5) c5
      (Nat.ne_of_lt a5) (Nat.ne_of_lt b5) (Nat.ne_of_gt ltlk) (Nat.ne_of_gt (Nat.lt_trans ltlk a5)) (Nat.ne_of_gt (Nat.lt_trans ltlk b5)) ?w9)
  case nn =>
    rw [eT, eS]
    have Nst : News g L' h5 (struckE T ++ ((D, listOf (res.map fun q => Value.ref q.1).toArray kd) :: res.map resE)) := List.forall_mem_append.mpr ⟨fun p hp => N5V p (VT p hp), fun p hp => N5t p (.tail _ (.tail _ ((List.mem_cons.mp hp).elim (fun e => e ▸ .head _) fun h => .tail _ (List.mem_append_left _ h))))⟩
    have NZ : News g L' h5 Z := fun p hp => N5V p (VZ p hp)
    repeat' (first | assumption | exact N5V _ VI | exact N5V _ Vc | exact N5t _ (.head _) | exact N5t _ (.tail _ (.head _)) | exact N5 _ (by k_mem) | exact NT _ (by k_mem) | refine List.forall_mem_append.mpr ⟨?_, ?_⟩ | refine List.forall_mem_cons.mpr ⟨?_, ?_⟩)
  case oo =>
    rw [eS]
    refine List.forall_mem_cons.mpr ⟨hlk, List.forall_mem_cons.mpr ⟨⟨Nat.ne_of_gt (Nat.lt_trans (ltV _ VI) a5), Nat.ne_of_gt (Nat.lt_trans (ltV _ Vc) a5)⟩, List.forall_mem_cons.mpr ⟨⟨Nat.ne_of_gt (Nat.lt_trans (ltV _ VI) b5), Nat.ne_of_gt (Nat.lt_trans (ltV _ Vc) b5)⟩, List.forall_mem_cons.mpr ⟨⟨Nat.ne_of_gt (ltV _ VI), Nat.ne_of_gt (ltV _ Vc)⟩,
      List.forall_mem_cons.mpr ⟨hof (L' + 1 + 1 + 1 + 1 + 1 + 1 + 1 + 1, o8) (by k_mem), List.forall_mem_cons.mpr ⟨hof (L' + 1 + 1 + 1 + 1 + 1 + 1 + 1 + 1 + 1 + 1, o10) (by k_mem), List.forall_mem_cons.mpr ⟨hof (54, tabObj b1) (by k_mem), List.forall_mem_cons.mpr ⟨hof (61, tabObj b2) (by k_mem), List.forall_mem_cons.mpr ⟨cI f1' (NT (c1', e1') (by k_mem)).1 h54, List.forall_mem_cons.mpr ⟨cI f2' (NT (c2', e2') (by k_mem)).1 h61,
      List.forall_mem_append.mpr ⟨pI, List.forall_mem_append.mpr ⟨List.forall_mem_append.mpr ⟨zI, tI⟩, zc⟩⟩⟩⟩⟩⟩⟩⟩⟩⟩⟩⟩
  case w9 =>
    rw [eS]
    refine List.forall_mem_append.mpr ⟨fun p hp => ⟨Nat.ne_of_lt (ltV p (VT p hp)), (hst p hp).2⟩, List.forall_mem_cons.mpr ⟨⟨Nat.ne_of_lt ltD, Nat.ne_of_gt lkD⟩, fun p hp => ?_⟩⟩
    obtain ⟨q, hq, rfl⟩ := List.mem_map.mp hp
    exact ⟨Nat.ne_of_lt (lt5 _ (.tail _ (.tail _ (.tail _ (List.mem_append_left _ hp))))), (hres2 q hq).1⟩
end
section
theorem resetLC7 : True := by
  w_top off
  exact trivial
variable {prog : Program} {w : World} {p : Program} {loose : List Str} {mean : ExcName → Option Value} {mg mb : Str → Option Value}
  {A : Around} {G : Heap} {s : Shared} {Q : Value → Shared → Prop} {E : Value → Shared → Prop}
local macro_rules | `(tactic| walk_at "exec For Name Call cons nil") => `(tactic| (k_dflt (refine' wpAny_For ?_ ?hs_E; (case hs_E => intro _; rfl); k_whole)))
theorem first_rows {fi sp gr : Int} {z0 z1 z2 : Nat} : rows0 fi sp 0 (ownL z0 z1 z2 (apT (gr + 1)) (apT (gr + 2)) (apT (gr + 3)) 3) = (gameA z0 z1 z2 0).map (rowK (keyN gr (0 + 1)) fi sp) := by
  have e : ownL z0 z1 z2 (apT (gr + 1)) (apT (gr + 2)) (apT (gr + 3)) 3 = (ownL z0 z1 z2 0 1 2 3).map (keyN gr (0 + 1)) := by
    rw [ownL_map]; rfl
  rw [e, rows0_A]; rfl
inductive LawZ (L' : Addr) (fi sp gr s0 s1 s2 : Int) (ln lz : Addr) (Z6 : List (Addr × Obj)) : Prop
  | mk (t1 t2 t3 ts0 ts1 ts2 tf tp tg : Tok) (kn kz : Nat) (o2 o3 o4 o5 o6 o7 : Obj) (Z : List (Addr × Obj)) (eZ : Z = [(ln, listOf #[Value.str (apT (gr + 1)) t1, .str (apT (gr + 2)) t2, .str (apT (gr + 3)) t3] kn), (lz, listOf #[.int s0 ts0, .int s1 ts1, .int s2 ts2] kz), (L' + 1 + 1, o2), (L' + 1 + 1 + 1, o3), (L' + 1 + 1 + 1 + 1, o4), (L' + 1 + 1 + 1 + 1 + 1, o5), (L' + 1 + 1 + 1 + 1 + 1 + 1 + 1, o7)])
    (e6 : Z6 = (L' + 1 + 1 + 1 + 1 + 1 + 1, o6) :: Z) (d2 : o2.data = .cell (some (.int fi tf))) (d3 : o3.data = .cell (some (.int sp tp))) (d4 : o4.data = .cell (some (.int gr tg))) (d5 : o5.data = .cell (some (.ref lz))) (d6 : o6.data = .cell none) (d7 : o7.data = .cell (some (.ref ln))) (g1 : @LT.lt Nat _ (L' + 10) lz) (g2 : @LT.lt Nat _ lz ln) : LawZ L' fi sp gr s0 s1 s2 ln lz Z6
theorem law_CC {g : Heap} {L' : Addr} {m : Str → Option Value} {QQ : Flow → Shared → Prop}
  (X' : (Mine.hd.heap_39 w.params).In g) (T' : Top p loose mean mg mb g) (R : Room 128 A) (hu : A.units + 64 < 9000) (n54 : g.get? 54 = none) (n61 : g.get? 61 = none) (h54 : @LT.lt Nat _ 54 L') (h61 : @LT.lt Nat _ 61 L')
  {fi sp gr s0 s1 s2 : Int} {wd : Nat} {ps : List Pr} {x dx lx ln lz lk : Addr}
  (hL : LawC g L' s.heap m fi sp gr s0 s1 s2 (wd : Int) ps (rows0 fi sp 0 (ownL s0.toNat s1.toNat s2.toNat (apT (gr + 1)) (apT (gr + 2)) (apT (gr + 3)) 3)) x dx lx ln lz lk)
  (e54 : s.heap.get? 54 = some (tabObj #[])) (e61 : s.heap.get? 61 = some (tabObj #[]))
  (hC : ∀ (h : Heap) (tk : Nat) (m : Str → Option Value) (nw Z6 : List (Addr × Obj)) (o9 : Obj) (v : Option Value), Fr g L' h m → o9.data = .cell v → LawZ L' fi sp gr s0 s1 s2 ln lz Z6 →
    TurnJ g L' fi sp gr s0 s1 s2 wd lk ln Z6 s2.toNat m nw → News g L' h ((L' + 1 + 1 + 1 + 1 + 1 + 1 + 1 + 1 + 1, o9) :: nw) → @LT.lt Nat _ ln lk →
    wpAny (model prog w) (A.deeper (lawEnv L')) (execs (lawB.drop 14) (lawEnv L')) QQ NoE { s with heap := h, toks := tk }) :
  wpAny (model prog w) (A.deeper (lawEnv L')) (execs (lawB.drop 13) (lawEnv L')) QQ NoE s := by
  refine' with_lit (K := Mine.hd.heap_39 w.params) ?k6 ?_
  case k6 => k_is
  intro hk
  obtain ⟨hlb, hls⟩ := law_is hk
  clear hk
  simp only [lawEnv, hlb, hls] at hC ⊢
  clear hlb hls
  obtain ⟨ahd, dp, fr, gd, un⟩ := A
  obtain rfl : ahd = none := R.hh
  obtain ⟨nums, F, ⟨tw, mw⟩, ms, hR, ⟨o2, o3, o4, o5, o6, o7, o8, o9, o10, t1, t2, t3, ts0, ts1, ts2, kn, kz, kx, hk0, tk0, n, N, ⟨tf, d2⟩, ⟨tp, d3⟩, ⟨tg, d4⟩, d5, d6, d7, d8, d9, d10⟩, g1, g2, g3, g4, g5, g6, g7, g8⟩ := hL
  have z0 := nums.z0
  have z1 := nums.z1
  have z2 := nums.z2
  rw [first_rows] at hR
  simp only [List.cons_append, List.nil_append] at N
  have L10 : @LT.lt Nat _ L' (L' + 10) := Nat.lt_add_of_pos_right (by decide)
  have a54 : s.heap.get? 54 = some (tabObj #[]) ∧ (54 : Addr) ≠ L' ∧ g.get? 54 = none := ⟨e54, Nat.ne_of_lt h54, n54⟩
  have a61 : s.heap.get? 61 = some (tabObj #[]) ∧ (61 : Addr) ≠ L' ∧ g.get? 61 = none := ⟨e61, Nat.ne_of_lt h61, n61⟩
  obtain ⟨Z, hZ⟩ : ∃ Z, Z = [(ln, listOf #[Value.str (apT (gr + 1)) t1, .str (apT (gr + 2)) t2, .str (apT (gr + 3)) t3] kn), (lz, listOf #[.int s0 ts0, .int s1 ts1, .int s2 ts2] kz), (L' + 1 + 1, o2), (L' + 1 + 1 + 1, o3), (L' + 1 + 1 + 1 + 1, o4), (L' + 1 + 1 + 1 + 1 + 1, o5), (L' + 1 + 1 + 1 + 1 + 1 + 1 + 1, o7)] := ⟨_, rfl⟩
  have hLZ : LawZ L' fi sp gr s0 s1 s2 ln lz ((L' + 1 + 1 + 1 + 1 + 1 + 1, o6) :: Z) := ⟨t1, t2, t3, ts0, ts1, ts2, tf, tp, tg, kn, kz, o2, o3, o4, o5, o6, o7, Z, hZ, rfl, d2, d3, d4, d5, d6, d7, g1, g2⟩
  have NZ : News g L' s.heap Z := by
    rw [hZ]
    exact News.sub N (by walk_at "my sub")
  have gn : @LT.lt Nat _ (L' + 10) ln := Nat.lt_trans g1 g2
  have hO : ZOk L' ln lz (listOf #[Value.str (apT (gr + 1)) t1, .str (apT (gr + 2)) t2, .str (apT (gr + 3)) t3] kn) (listOf #[.int s0 ts0, .int s1 ts1, .int s2 ts2] kz) o5 o7 ((L' + 1 + 1 + 1 + 1 + 1 + 1, o6) :: Z) ∧ ∀ p ∈ (L' + 1 + 1 + 1 + 1 + 1 + 1, o6) :: Z, p.1 ≠ L' + 1 + 1 + 1 + 1 + 1 + 1 + 1 + 1 + 1 := by
    have c : ∀ k : Nat, k < 8 → (@LT.lt Nat _ L' (L' + (k + 1)) ∧ @LE.le Nat _ (L' + (k + 1)) ln) ∧ @Ne Nat (L' + (k + 1)) (L' + 9) := fun k hk =>
      ⟨⟨Nat.lt_add_of_pos_right (Nat.succ_pos k), Nat.le_of_lt (Nat.lt_trans (Nat.add_lt_add_left (Nat.lt_trans (Nat.succ_lt_succ hk) (by decide)) L') gn)⟩, Nat.ne_of_lt (Nat.add_lt_add_left (Nat.succ_lt_succ hk) L')⟩
    have d : ∀ k : Nat, k < 7 → @Ne Nat (L' + (k + 1)) (L' + 8) ∧ @Ne Nat (L' + (k + 1)) (L' + 10) := fun k hk => ⟨Nat.ne_of_lt (Nat.add_lt_add_left (Nat.succ_lt_succ hk) L'), Nat.ne_of_lt (Nat.add_lt_add_left (Nat.lt_trans (Nat.succ_lt_succ hk) (by decide)) L')⟩
    have b : ∀ {c : Addr}, @LT.lt Nat _ (L' + 10) c → c ≠ L' + 8 ∧ c ≠ L' + 10 := fun h => ⟨Nat.ne_of_gt (Nat.lt_trans (Nat.add_lt_add_left (by decide : 8 < 10) L') h), Nat.ne_of_gt h⟩
    have e : ∀ {c : Addr}, @LT.lt Nat _ (L' + 10) c → c ≠ L' + 9 := fun h => Nat.ne_of_gt (Nat.lt_trans (Nat.add_lt_add_left (by decide : 9 < 10) L') h)
    subst hZ
    refine ⟨⟨.tail _ (.head _), .tail _ (.tail _ (.head _)), .tail _ (.tail _ (.tail _ (.tail _ (.tail _ (.tail _ (.head _)))))), .tail _ (.tail _ (.tail _ (.tail _ (.tail _ (.tail _ (.tail _ (.head _))))))), ?_, ?_⟩, ?_⟩
    · exact List.forall_mem_cons.mpr ⟨(c 5 (by decide)).1, List.forall_mem_cons.mpr ⟨⟨Nat.lt_trans L10 gn, Nat.le_refl _⟩, List.forall_mem_cons.mpr ⟨⟨Nat.lt_trans L10 g1, Nat.le_of_lt g2⟩, List.forall_mem_cons.mpr ⟨(c 1 (by decide)).1, List.forall_mem_cons.mpr ⟨(c 2 (by decide)).1, List.forall_mem_cons.mpr ⟨(c 3 (by decide)).1, List.forall_mem_cons.mpr ⟨(c 4 (by decide)).1, List.forall_mem_cons.mpr ⟨(c 6 (by decide)).1, List.forall_mem_nil _⟩⟩⟩⟩⟩⟩⟩⟩
    · exact List.forall_mem_cons.mpr ⟨d 5 (by decide), List.forall_mem_cons.mpr ⟨b gn, List.forall_mem_cons.mpr ⟨b g1, List.forall_mem_cons.mpr ⟨d 1 (by decide), List.forall_mem_cons.mpr ⟨d 2 (by decide), List.forall_mem_cons.mpr ⟨d 3 (by decide), List.forall_mem_cons.mpr ⟨d 4 (by decide), List.forall_mem_cons.mpr ⟨d 6 (by decide), List.forall_mem_nil _⟩⟩⟩⟩⟩⟩⟩⟩
    · exact List.forall_mem_cons.mpr ⟨(c 5 (by decide)).2, List.forall_mem_cons.mpr ⟨e gn, List.forall_mem_cons.mpr ⟨e g1, List.forall_mem_cons.mpr ⟨(c 1 (by decide)).2, List.forall_mem_cons.mpr ⟨(c 2 (by decide)).2, List.forall_mem_cons.mpr ⟨(c 3 (by decide)).2, List.forall_mem_cons.mpr ⟨(c 4 (by decide)).2, List.forall_mem_cons.mpr ⟨(c 6 (by decide)).2, List.forall_mem_nil _⟩⟩⟩⟩⟩⟩⟩⟩
  have NP : News g L' s.heap (ps.map tupE) := News.sub N (by walk_at "my tl")
  have NN : News g L' s.heap ((lk, listOf #[] 0) :: (x, instObj 231 dx) :: (dx, dictOf [⟨hk0, .str (Str.ofString "_headers") tk0, .ref lx⟩] n) :: (lx, listOf (ps.map fun q => Value.ref q.1).toArray kx) :: (lz, listOf #[.int s0 ts0, .int s1 ts1, .int s2 ts2] kz) :: (L' + 1 + 1 + 1 + 1 + 1, o5) :: (L' + 1 + 1 + 1 + 1 + 1 + 1, o6) :: (L' + 1 + 1 + 1 + 1 + 1 + 1 + 1 + 1, o8) :: (L' + 1 + 1 + 1 + 1 + 1 + 1 + 1 + 1 + 1, o9) :: (L' + 1 + 1 + 1 + 1 + 1 + 1 + 1 + 1 + 1 + 1, o10) :: (54, tabObj #[]) :: (61, tabObj #[]) :: (ps.map tupE ++ Z)) := by
    repeat' (first | assumption | exact N _ (by k_mem) | refine List.forall_mem_append.mpr ⟨?_, ?_⟩ | refine List.forall_mem_cons.mpr ⟨?_, ?_⟩)
  have Lz : Heap.IsList _ lz (List.toArray [Value.int s0 ts0, .int s1 ts1, .int s2 ts2]) := ⟨_, News.get NN (a := lz) (by k_mem), rfl, _, rfl⟩
  clear N NZ NP hZ a54 a61
  simp only [List.drop_succ_cons, List.drop_zero] at hC ⊢
  k_steps
  rename News _ _ _ _ => N5
  rename Fr _ _ _ _ => F5
  rename IsRange _ _ _ _ _ _ _ _ => hr
  have e9 := (N5 (L' + 1 + 1 + 1 + 1 + 1 + 1 + 1 + 1 + 1, o9) (by k_mem)).1
  have Nps : News g L' _ (ps.map tupE) := News.sub N5 (by walk_at "my tl")
  have NZ5 : News g L' _ Z := fun p hp => N5 p (by repeat (first | exact List.mem_append_right _ hp | refine List.Mem.tail _ ?_))
  have NS0 : ∀ h, News g L' h (struckE []) := fun h p hp => nomatch hp
  have off9 : ∀ p ∈ ps.map tupE, p.1 ≠ L' + 1 + 1 + 1 + 1 + 1 + 1 + 1 + 1 + 1 := fun p hp => seq_ne (Nps p hp).1 e9 (tups_seq p hp) (not_seq_cell d9)
  have gx : ∀ {c : Addr}, @LT.lt Nat _ ln c → c ≠ L' + 1 + 1 + 1 + 1 + 1 + 1 + 1 + 1 + 1 := fun h => Nat.ne_of_gt (Nat.lt_trans (Nat.lt_trans (Nat.add_lt_add_left (by decide : 9 < 10) L') gn) h)
  have gk : @LT.lt Nat _ ln lk := Nat.lt_trans g3 (Nat.lt_trans g4 g6)
  have g9 : ∀ {c : Addr}, @LT.lt Nat _ c L' → c ≠ L' + 1 + 1 + 1 + 1 + 1 + 1 + 1 + 1 + 1 := fun h => Nat.ne_of_lt (Nat.lt_trans h (Nat.lt_add_of_pos_right (by decide : 0 < 9)))
  refine for_cell_range (n := s2.toNat) (c := L' + 1 + 1 + 1 + 1 + 1 + 1 + 1 + 1 + 1) (oc0 := o9) (v0 := none) (h₀ := g) (L := L')
    (news := (lk, listOf #[] 0) :: (x, instObj 231 dx) :: (dx, dictOf [⟨hk0, .str (Str.ofString "_headers") tk0, .ref lx⟩] n) :: (lx, listOf (ps.map fun q => Value.ref q.1).toArray kx) :: (L' + 1 + 1 + 1 + 1 + 1 + 1 + 1 + 1, o8) :: (L' + 1 + 1 + 1 + 1 + 1 + 1 + 1 + 1 + 1 + 1, o10) ::
      (54, tabObj #[]) :: (61, tabObj #[]) :: (54, tabObj #[]) :: (61, tabObj #[]) :: (ps.map tupE ++ (struckE [] ++ ((L' + 1 + 1 + 1 + 1 + 1 + 1, o6) :: Z))))
    (TurnJ g L' fi sp gr s0 s1 s2 wd lk ln ((L' + 1 + 1 + 1 + 1 + 1 + 1, o6) :: Z)) rfl hr (by decide) (by show s2 ≤ 1000000; (first | exact om336 z2.2 z0.2 z1.2 | omega)) (by show (0 : Int) + ((s2.toNat : Nat) : Int) = s2; (first | exact om337 z0.1 z1.1 z2.1 | omega)) rfl rfl rfl F5 ?nN d9 ?off
    ⟨[], ps, x, dx, lx, 54, 61, kx, 0, n, hk0, tk0, #[], #[], tabObj #[], tabObj #[], o8, o10, none, rfl, ⟨tw, mw⟩, ms, fun h' _ a b _ _ => ⟨⟨#[], a, .inl rfl⟩, ⟨#[], b, .inl rfl⟩⟩, .inl rfl, .inl rfl, hR, .nil, d8, d10, g3, Nat.lt_trans gn (Nat.lt_trans g3 g4), Nat.lt_trans gn (Nat.lt_trans g3 g5), g8, Nat.ne_of_lt g4, Nat.ne_of_lt g5, Nat.ne_of_lt (Nat.lt_trans g4 g6), Nat.ne_of_lt g6, Nat.ne_of_lt g7, fun p hp => nomatch hp⟩ ?turn ?done
  case nN =>
    repeat' (first | assumption | exact NS0 _ | exact N5 _ (by k_mem) | refine List.forall_mem_append.mpr ⟨?_, ?_⟩ | refine List.forall_mem_cons.mpr ⟨?_, ?_⟩)
  case off =>
    exact List.forall_mem_cons.mpr ⟨gx gk, List.forall_mem_cons.mpr ⟨gx (Nat.lt_trans g3 g4), List.forall_mem_cons.mpr ⟨gx (Nat.lt_trans g3 g5), List.forall_mem_cons.mpr ⟨gx g3, List.forall_mem_cons.mpr ⟨by k_ne, List.forall_mem_cons.mpr ⟨by k_ne, List.forall_mem_cons.mpr ⟨g9 h54, List.forall_mem_cons.mpr ⟨g9 h61, List.forall_mem_cons.mpr ⟨g9 h54, List.forall_mem_cons.mpr ⟨g9 h61,
      List.forall_mem_append.mpr ⟨off9, List.forall_mem_append.mpr ⟨fun p hp => (nomatch hp), hO.2⟩⟩⟩⟩⟩⟩⟩⟩⟩⟩⟩⟩
  case turn =>
    rintro I hI i u m₁ news₁ it oc1 h tk E' hin hJ hof hdo hIR F₁ N₁
    exact law_turn X' T' R hu F₁ n54 n61 h54 h61 nums hO.1 d5 d7 hdo gn gk (have q : @LT.lt Nat _ (L' + 1 + 1 + 1 + 1 + 1 + 1 + 1 + 1 + 1 + 1) I := hI (L' + 1 + 1 + 1 + 1 + 1 + 1 + 1 + 1 + 1 + 1, o10) (by k_mem); q) (by (first | exact om496 hin | omega)) hIR hJ hof N₁
  case done =>
    rintro m₁ news₁ oc1 v h tk hJ hdo hof F₁ N₁
    exact hC h tk m₁ news₁ _ oc1 v F₁ hdo hLZ hJ N₁ gk
end
section
noncomputable def textsV (T : List Trn) (k : Nat) : List Value := T.flatMap fun q => (q.2.2.getD k (0, [], 0)).2.1
theorem ResAre.getD : ∀ {qs : List Res} {nss : List (List Int)}, ResAre qs nss → ∀ k : Nat, StrsAre (qs.getD k (0, [], 0)).2.1 ((nss.getD k []).map apT)
  | _, _, .nil, k => by simpa using StrsAre.nil
  | _, _, .cons h _, 0 => h
  | _, _, .cons _ r, k + 1 => by simpa using r.getD k
theorem texts_are : ∀ {T : List Trn} {nss : List (List (List Int))}, TrnsAre T nss → ∀ k : Nat, StrsAre (textsV T k) ((nss.flatMap fun l => l.getD k []).map apT)
  | _, _, .nil, k => .nil
  | _, _, .cons h r, k => by
    have := (h.getD k).append' (texts_are r k)
    simpa [textsV] using this
theorem outs_flat (z0 z1 z2 : Nat) (fi sp : Int) (k : Nat) : ∀ n : Nat, (outsA z0 z1 z2 fi sp n).flatMap (fun l => l.getD k []) = (outA z0 z1 z2 k n).map (evL fi sp)
  | 0 => rfl
  | n + 1 => by
    rw [outsA_succ, List.flatMap_append, outs_flat z0 z1 z2 fi sp k n, outA, List.map_append]
    congr 1
    simp [List.getD_eq_getElem?_getD]
    cases (strucksA [0, 1, 2] (gameA z0 z1 z2 n))[k]? <;> rfl
noncomputable def dueL (fi sp s0 s1 s2 : Int) (k : Nat) : List Int := (prodOf fi sp (k + 1) s0 s1 s2).drop 1
theorem due_texts {fi sp s0 s1 s2 : Int} (z0 : 1 ≤ s0 ∧ s0 ≤ 3) (z1 : s0 ≤ s1 ∧ s1 ≤ s0 + 1) (z2 : s1 ≤ s2 ∧ s2 ≤ s1 + 1) {T : List Trn} (hT : TrnsAre T (outsA s0.toNat s1.toNat s2.toNat fi sp s2.toNat)) {k : Nat} (hk : k < 3) :
    StrsAre (textsV T k) ((dueL fi sp s0 s1 s2 k).map apT) := by
  have h := texts_are hT k
  rw [outs_flat] at h
  have e := (okOut_of (z0 := s0.toNat) (z1 := s1.toNat) (z2 := s2.toNat) (k := k) (by (first | exact om415 z0.1 z0.2 | omega)) (by (first | exact om497 z1.1 z1.2 | omega)) (by (first | exact om497 z2.1 z2.2 | omega)) hk).1
  rw [show ((s0.toNat : Nat) : Int) = s0 from by (first | exact om498 z0.1 | omega), show ((s1.toNat : Nat) : Int) = s1 from by (first | exact om499 z0.1 z1.1 | omega), show ((s2.toNat : Nat) : Int) = s2 from by (first | exact om500 z0.1 z1.1 z2.1 | omega)] at e
  rw [e, List.map_drop, prodA_ev] at h
  exact h
theorem due_bits {fi sp s0 s1 s2 : Int} (hf : -1000000 < fi ∧ fi < 1000000) (hs : -1000000 < sp ∧ sp < 1000000) (z0 : 1 ≤ s0 ∧ s0 ≤ 3) (z1 : s0 ≤ s1 ∧ s1 ≤ s0 + 1) (z2 : s1 ≤ s2 ∧ s2 ≤ s1 + 1) {k : Nat} (hk : k < 3) :
    ∀ x ∈ dueL fi sp s0 s1 s2 k, Builtin.Int.intBits x ≤ 140 := fun x hx => by
  obtain ⟨e, ok⟩ := okOut_of (z0 := s0.toNat) (z1 := s1.toNat) (z2 := s2.toNat) (k := k) (by (first | exact om415 z0.1 z0.2 | omega)) (by (first | exact om497 z1.1 z1.2 | omega)) (by (first | exact om497 z2.1 z2.2 | omega)) hk
  rw [show ((s0.toNat : Nat) : Int) = s0 from by (first | exact om498 z0.1 | omega), show ((s1.toNat : Nat) : Int) = s1 from by (first | exact om499 z0.1 z1.1 | omega), show ((s2.toNat : Nat) : Int) = s2 from by (first | exact om500 z0.1 z1.1 z2.1 | omega)] at e
  rw [dueL, ← prodA_ev, ← List.map_drop, ← e] at hx
  obtain ⟨a, ha, rfl⟩ := List.mem_map.mp hx
  have h2 := ev_bd (ok a ha) hf hs
  exact bits_ap (Int.lt_of_lt_of_le (by decide) h2.1) (Int.lt_of_le_of_lt h2.2 (by decide))
theorem due_len {fi sp s0 s1 s2 : Int} (z0 : 1 ≤ s0 ∧ s0 ≤ 3) (z1 : s0 ≤ s1 ∧ s1 ≤ s0 + 1) (z2 : s1 ≤ s2 ∧ s2 ≤ s1 + 1) {k : Nat} : (dueL fi sp s0 s1 s2 k).length ≤ 20 := by
  rw [dueL, List.length_drop, prodOf, foldl_len]
  have := facs_len (k := k + 1) (j := k) z0 z1 z2
  show 2 + (facs (k + 1) s0 s1 s2 k).length - 1 ≤ 20
  (first | exact om501 this | omega)
theorem trns_three : ∀ {T : List Trn} {nss : List (List (List Int))}, TrnsAre T nss → (∀ ns ∈ nss, ns.length = 3) → ∀ q ∈ T, q.2.2.length = 3
  | _, _, .nil, _, q, hq => nomatch hq
  | _, _, .cons h r, h3, q, hq => by
    rcases List.mem_cons.mp hq with rfl | hq
    · rw [h.len]; exact h3 _ (.head _)
    · exact trns_three r (fun ns hn => h3 ns (.tail _ hn)) q hq
theorem outs_three {z0 z1 z2 : Nat} {fi sp : Int} {n : Nat} : ∀ ns ∈ outsA z0 z1 z2 fi sp n, ns.length = 3 := fun ns hn => by
  obtain ⟨t, _, rfl⟩ := List.mem_map.mp hn
  rw [List.length_map]; rfl
theorem textsV_take (T : List Trn) (k : Nat) {j : Nat} {q : Trn} (h : T[j]? = some q) : textsV (T.take (j + 1)) k = textsV (T.take j) k ++ (q.2.2.getD k (0, [], 0)).2.1 := by
  rw [List.take_add_one, h, textsV, List.flatMap_append]
  simp [textsV]
theorem textsV_le (T : List Trn) (k j : Nat) : (textsV (T.take j) k).length ≤ (textsV T k).length := by
  have e : textsV T k = textsV (T.take j) k ++ textsV (T.drop j) k := by
    rw [textsV, textsV, textsV, ← List.flatMap_append, List.take_append_drop]
  rw [e, List.length_append]; (first | exact om502 | omega)
end
section
theorem resetLD2 : True := by
  w_top off
  exact trivial
variable {prog : Program} {w : World} {p : Program} {loose : List Str} {mean : ExcName → Option Value} {mg mb : Str → Option Value}
  {A : Around} {G : Heap} {s : Shared} {Q : Value → Shared → Prop} {E : Value → Shared → Prop}
local macro_rules | `(tactic| walk_at "exec For Name Call cons nil") => `(tactic| (k_dflt (refine' wpAny_For ?_ ?hs_F; (case hs_F => intro _; rfl); k_whole)))
local macro_rules | `(tactic| walk_at "exec For Tuple Call cons nil") => `(tactic| (k_dflt (refine' wpAny_For ?_ ?hs_G; (case hs_G => intro _; rfl); k_whole)))
local macro_rules | `(tactic| walk_at "subscriptTail Name Name ref int") => `(tactic| refine Halt.go ?_)
local macro_rules | `(tactic| walk_at "call type:zip") => `(tactic| refine Halt.go ?_)
local macro_rules | `(tactic| walk_at "call builtin:len") => `(tactic| refine Halt.go ?_)
theorem item_at {va sl : Expr} {l : Addr} {vs : List Value} {n : Nat} {k : Int} {u : Tok} {v : Value} {Q : Value → Shared → Prop} (hl : s.heap.get? l = some (listOf vs.toArray n)) (h0 : 0 ≤ k) (h3 : k < 1000) (hv : vs[k.toNat]? = some v) (h : Q v s)
    (hs : subscripted sl false (.ref l) (.int k u) = operate [.ref l, .int k u] (getItem (.ref l) (.int k u))) :
    wpAny (model prog w) A (subscriptTail va sl (.ref l) (.int k u)) Q E s := by
  have hL : s.heap.IsList l vs.toArray := ⟨_, hl, rfl, _, rfl⟩
  exact tail_any hL.typeIs slot_list_getitem.lookup (wpAny_getItem_list hL h0 (Int.lt_trans h3 (by decide)) (by simpa using hv) h) hs
theorem News.ne {g h : Heap} {L a : Addr} {o : Obj} {nw : List (Addr × Obj)} (N : News g L h nw) (hm : (a, o) ∈ nw) : a ≠ L := (N _ hm).2.1
theorem len_is {l : Addr} {vs : List Value} {n c : Nat} {Q : Value → Shared → Prop} (hl : s.heap.get? l = some (listOf vs.toArray n)) (e : vs.length = c) (hc : c < 1000) (h : Q (.int (c : Nat) (s.toks + 1)) { s with toks := s.toks + 1 + 1 }) :
    wpAny (model prog w) A (call (.builtin "len") [.ref l]) Q E s := by
  have es : vs.toArray.size = c := by simp [e]
  refine len_list ⟨_, hl, rfl, _, rfl⟩ (by rw [es]; (first | exact om503 hc | omega)) ?_
  rw [es]; exact h
theorem item_names {va sl : Expr} {l : Addr} {n i : Nat} {gr : Int} {u t1 t2 t3 : Tok} {Q : Value → Shared → Prop} (hl : s.heap.get? l = some (listOf #[Value.str (apT (gr + 1)) t1, .str (apT (gr + 2)) t2, .str (apT (gr + 3)) t3] n)) (hi : i < 3)
    (h : ∀ t, Q (.str (apT (gr + (0 + (i : Int)) + 1)) t) s) (hs : subscripted sl false (.ref l) (.int (0 + (i : Int)) u) = operate [.ref l, .int (0 + (i : Int)) u] (getItem (.ref l) (.int (0 + (i : Int)) u))) :
    wpAny (model prog w) A (subscriptTail va sl (.ref l) (.int (0 + (i : Int)) u)) Q E s := by
  have hv : ∃ t, [Value.str (apT (gr + 1)) t1, .str (apT (gr + 2)) t2, .str (apT (gr + 3)) t3][(0 + (i : Int)).toNat]? = some (.str (apT (gr + (0 + (i : Int)) + 1)) t) := by
    have h3 : i = 0 ∨ i = 1 ∨ i = 2 := by (first | exact om325 hi | omega)
    rcases h3 with rfl | rfl | rfl
    · exact ⟨t1, by rw [show gr + (0 + ((0 : Nat) : Int)) + 1 = gr + 1 from by (first | exact om504 | omega)]; rfl⟩
    · exact ⟨t2, by rw [show gr + (0 + ((1 : Nat) : Int)) + 1 = gr + 2 from by (first | exact om505 | omega)]; rfl⟩
    · exact ⟨t3, by rw [show gr + (0 + ((2 : Nat) : Int)) + 1 = gr + 3 from by (first | exact om506 | omega)]; rfl⟩
  obtain ⟨t, ht⟩ := hv
  exact item_at (vs := [Value.str (apT (gr + 1)) t1, .str (apT (gr + 2)) t2, .str (apT (gr + 3)) t3]) hl (by (first | exact om362 | omega)) (by (first | exact om363 hi | omega)) ht (h t) hs
noncomputable def lawLb : List Stmt := forBody (lawB.drop 14)
theorem law_D1 {g : Heap} {L' : Addr} {QQ : Flow → Shared → Prop} {m : Str → Option Value}
  (X' : (Mine.hd.heap_39 w.params).In g) (T' : Top p loose mean mg mb g) (R : Room 128 A) (F : Fr g L' s.heap m)
  {fi sp gr s0 s1 s2 : Int} {i : Nat} (hi3 : i < 3) (nf : -1000000 < fi ∧ fi < 1000000) (nsp : -1000000 < sp ∧ sp < 1000000) (hg : 0 ≤ gr ∧ gr < 1000000) (z0 : 1 ≤ s0 ∧ s0 ≤ 3) (z1 : s0 ≤ s1 ∧ s1 ≤ s0 + 1) (z2 : s1 ≤ s2 ∧ s2 ≤ s1 + 1)
  {lk ln lz : Addr} {kn kz nk : Nat} {t1 t2 t3 ts0 ts1 ts2 tf tp tg u : Tok} {o2 o3 o4 o5 oc o7 : Obj} {T : List Trn} {tail : List (Addr × Obj)}
  (ms : m (Str.ofString "struck") = some (.ref lk))
  (d2 : o2.data = .cell (some (.int fi tf))) (d3 : o3.data = .cell (some (.int sp tp))) (d4 : o4.data = .cell (some (.int gr tg))) (d5 : o5.data = .cell (some (.ref lz))) (dc : oc.data = .cell (some (.int (0 + (i : Int)) u))) (d7 : o7.data = .cell (some (.ref ln)))
  (hT : TrnsAre T (outsA s0.toNat s1.toNat s2.toNat fi sp s2.toNat))
  (N : News g L' s.heap ((lk, listOf (T.map fun q => Value.ref q.1).toArray nk) :: (ln, listOf #[Value.str (apT (gr + 1)) t1, .str (apT (gr + 2)) t2, .str (apT (gr + 3)) t3] kn) :: (lz, listOf #[.int s0 ts0, .int s1 ts1, .int s2 ts2] kz) ::
      (L' + 1 + 1, o2) :: (L' + 1 + 1 + 1, o3) :: (L' + 1 + 1 + 1 + 1, o4) :: (L' + 1 + 1 + 1 + 1 + 1, o5) :: (L' + 1 + 1 + 1 + 1 + 1 + 1, oc) :: (L' + 1 + 1 + 1 + 1 + 1 + 1 + 1, o7) :: (struckE T ++ tail)))
  (hC : ∀ (h : Heap) (tk : Nat) (m' : Str → Option Value), Fr g L' h m' → m' (Str.ofString "struck") = some (.ref lk) → 
    News g L' h ((lk, listOf (T.map fun q => Value.ref q.1).toArray nk) :: (ln, listOf #[Value.str (apT (gr + 1)) t1, .str (apT (gr + 2)) t2, .str (apT (gr + 3)) t3] kn) :: (lz, listOf #[.int s0 ts0, .int s1 ts1, .int s2 ts2] kz) ::
      (L' + 1 + 1, o2) :: (L' + 1 + 1 + 1, o3) :: (L' + 1 + 1 + 1 + 1, o4) :: (L' + 1 + 1 + 1 + 1 + 1, o5) :: (L' + 1 + 1 + 1 + 1 + 1 + 1, oc) :: (L' + 1 + 1 + 1 + 1 + 1 + 1 + 1, o7) :: (struckE T ++ tail)) → QQ .next { s with heap := h, toks := tk }) :
  wpAny (model prog w) (A.deeper (lawEnv L')) (execs lawLb (lawEnv L')) QQ E s := by
  refine' with_lit (K := Mine.hd.heap_39 w.params) ?k6 ?_
  case k6 => k_is
  intro hk
  obtain ⟨hlb, hls⟩ := law_is hk
  clear hk
  simp only [lawEnv, lawLb, hlb, hls] at ⊢
  clear hlb hls
  obtain ⟨ahd, dp, fr, gd, un⟩ := A
  obtain rfl : ahd = none := R.hh
  simp only [List.drop_succ_cons, List.drop_zero, forBody_for]
  have F1 := Fr.see F ms
  clear F
  k_steps
  have gT : ∀ q ∈ T, s.heap.get? q.1 = some (listOf (q.2.2.map fun r => Value.ref r.1).toArray q.2.1) ∧ ∀ r ∈ q.2.2, s.heap.get? r.1 = some (listOf r.2.1.toArray r.2.2) := fun q hq => by
    have hm : ∀ p ∈ trnE q, s.heap.get? p.1 = some p.2 := fun p hp => (N p (by
      have : p ∈ struckE T := List.mem_flatMap.mpr ⟨q, hq, hp⟩
      repeat (first | exact List.mem_append_left _ this | refine List.Mem.tail _ ?_))).1
    exact ⟨hm _ (.head _), fun r hr => hm (resE r) (.tail _ (List.mem_map_of_mem hr))⟩
  have g6 := News.get N (a := L' + 1 + 1 + 1 + 1 + 1 + 1) (by k_mem)
  have hTl : T.length = s2.toNat := by rw [hT.len, outsA, List.length_map, List.length_range]
  have tV := due_texts z0 z1 z2 hT hi3
  have dl := due_len (fi := fi) (sp := sp) z0 z1 z2 (k := i)
  have tVl : (textsV T i).length = (dueL fi sp s0 s1 s2 i).length := by rw [tV.length, List.length_map]
  have dB := due_bits nf nsp z0 z1 z2 hi3
  obtain ⟨due, hdue⟩ : ∃ d, d = dueL fi sp s0 s1 s2 i := ⟨_, rfl⟩
  rw [← hdue] at tV tVl dl dB
  refine comp2_list rfl (News.get N (.head _)) (fun _ _ => rfl) (by decide) rfl rfl F1 N (fun j ys => ys = textsV (T.take j) i) rfl ?turn ?done
  case turn =>
    rintro C D2 I hI hID hDC j v ys h5 tk5 k5 it mC E' hj hv hJ F5 N5
    have X5 := X'.keeps F1.keep
    have T5 := T'.keeps F1.keep
    have hDI : I ≠ D2 := Nat.ne_of_lt hID
    obtain ⟨q, hq, rfl⟩ : ∃ q, T[j]? = some q ∧ v = .ref q.1 := by
      rw [List.getElem?_map] at hv
      cases e : T[j]? with
      | none => rw [e] at hv; cases hv
      | some q => rw [e] at hv; exact ⟨q, rfl, (Option.some.inj hv).symm⟩
    have hqm := List.mem_of_getElem? hq
    have q3 := trns_three hT outs_three q hqm
    obtain ⟨r, hr⟩ : ∃ r, q.2.2[i]? = some r := ⟨_, List.getElem?_eq_getElem (by (first | exact om507 q3 hi3 | omega))⟩
    have hrd : q.2.2.getD i (0, [], 0) = r := by rw [List.getD_eq_getElem?_getD, hr]; rfl
    obtain ⟨gq, gr⟩ := gT q hqm
    have gr1 := gr r (List.mem_of_getElem? hr)
    have tk1 := textsV_take T i hq
    have tkl := textsV_le T i (j + 1)
    rw [hrd] at tk1
    k_steps
    refine item_at (F5.keep _ _ gq) (by (first | exact om362 | omega)) (by (first | exact om363 hi3 | omega)) (v := .ref r.1) ?_ ?_ (by with_unfolding_all rfl)
    · rw [show (0 + (i : Int)).toNat = i from by (first | exact om361 | omega), List.getElem?_map, hr]; rfl
    k_steps
    have rI : @LT.lt Nat _ r.1 s.heap.objs.size := Heap.lt_size gr1
    refine in_list rfl (F5.keep _ _ gr1) (show @Ne Nat r.1 C by (first | exact om508 hI rI hID hDC | omega)) (show @Ne Nat r.1 D2 by (first | exact om509 hI rI hID | omega)) rfl rfl hDI F5 N5 (fun j' ys => ys = textsV (T.take j) i ++ r.2.1.take j') ?hz ?hj ?hn ?turn ⟨_, _, rfl⟩
    case hz =>
      rintro j' ys rfl
      rw [tk1] at tkl
      simp only [List.length_append, List.length_take] at tkl ⊢
      (first | exact om510 tVl tkl dl | omega)
    case hj => rw [hJ, List.take_zero, List.append_nil]
    case hn =>
      rintro ys rfl
      show _ = textsV (T.take (j + 1)) i
      rw [tk1, List.take_length]
    case turn =>
      rintro j' v ys h8 tk8 k8 mC8 E8 hj' rfl hm F8 N8
      k_steps
      · exact StaysIn.refl _
      · rw [List.append_assoc, List.take_add_one, hj']; rfl
  case done =>
    (refine' end_local ?ea ?eb ?ec ?_; (case ea => rfl); (case eb => rfl); (case ec => rfl))
    rintro ys nw k D h tk ⟨rfl, rfl⟩ off F3 N3 lt
    rw [List.length_map, List.take_length] at N3
    have k1 : (0 : Int) + (i : Int) + 1 = ((i + 1 : Nat) : Int) := by (first | exact om511 | omega)
    have D0 : @LT.lt Nat _ ln D := lt (ln, listOf #[Value.str (apT (gr + 1)) t1, .str (apT (gr + 2)) t2, .str (apT (gr + 3)) t3] kn) (by k_mem)
    k_steps
    rw [k1]
    refine prod_call X' T' (Fr.keep (by assumption)) lz _ kz fi sp s0 s1 s2 (i + 1) _ _ _ (Room.deep R (by decide)) (News.get N3 (by k_mem)) (.cons _ _ (.cons _ _ (.cons _ _ .nil))) (by (first | exact om512 | omega)) (by (first | exact om513 hi3 | omega)) z0 z1 z2 (by (first | exact om514 nf.1 nf.2 | omega)) (by (first | exact om514 nsp.1 nsp.2 | omega)) ?_
    intro q ys kn2 h6 tk6 k6 fq eq hI6
    have F6 := Fr.keeps F3 k6
    have N6 := News.app (news_new F3 fq eq) (News.grown N3 k6)
    simp only [List.cons_append, List.nil_append] at N6
    clear F3 N3
    have pl : (prodOf fi sp (i + 1) s0 s1 s2).length ≤ 21 := by
      rw [prodOf, foldl_len]
      have := facs_len (k := i + 1) (j := i) z0 z1 z2
      show 2 + (facs (i + 1) s0 s1 s2 i).length ≤ 21
      (first | exact om515 this | omega)
    k_steps
    rename News _ _ _ _ => N7
    rename Fr _ _ _ _ => F7
    rename IntsAre _ (List.drop _ _) => hI7
    rename_i lD ws hh7 x1 x2 x3 _xt x4
    have hI8 : IntsAre ws due := by rw [hdue]; exact hI7
    refine len_is (News.get N7 (a := D) (by k_mem)) tVl (by (first | exact om517 dl | omega)) ?_
    k_steps
    refine len_is (News.get N7 (a := lD) (by k_mem)) hI8.length (by (first | exact om517 dl | omega)) ?_
    k_steps
    any_goals (rename ((due.length : Nat) : Int) ≠ ((due.length : Nat) : Int) => hne; exact absurd rfl hne)
    refine item_names (News.get N7 (a := ln) (by k_mem)) hi3 ?_ (by with_unfolding_all rfl)
    intro tn
    k_steps
    refine is_call X' T' (Fr.keep F7) (gr + (0 + (i : Int)) + 1) _ _ (Room.deep R (by decide)) (bits_ap (by (first | exact om518 hg.1 | omega)) (by (first | exact om519 hg.2 hi3 | omega))) ?_
    intro h8 tk8 k8
    have F8 := Fr.keeps F7 k8
    have N8 := News.grown N7 k8
    clear F7 N7
    k_steps
    rename Fr _ _ _ _ => F9
    refine for_zip (vs1 := textsV T i) (vs2 := ws) rfl (News.get N8 (a := D) (by k_mem)) (News.get N8 (a := lD) (by k_mem)) (by rw [tVl, hI8.length]) (News.ne N8 (a := D) (by k_mem)) (News.ne N8 (a := lD) (by k_mem)) rfl rfl rfl F9 N8 ?turn2 ?done2
    case turn2 =>
      rintro j v1 v2 h9 tk9 E' hv1 hv2 FA NA
      obtain ⟨x, tx, rfl, hx⟩ := strs_at tV j v1 hv1
      obtain ⟨z, tz, rfl, hz⟩ := hI8.at j v2 hv2
      rw [List.getElem?_map, hz] at hx
      obtain rfl := Option.some.inj hx
      have hzb := dB z (List.mem_of_getElem? hz)
      k_steps
      refine is_call X' T' (Fr.keep FA) z _ _ (Room.deep R (by decide)) hzb ?_
      intro hA tkA kA
      have FB := Fr.keeps FA kA
      have NB := News.grown NA kA
      clear FA NA
      k_steps
      exact ForEnd.intro kA
    case done2 =>
      rintro h9 tk9 m9 hm9 FA NA
      k_steps
      refine hC _ _ m9 FA ((hm9 _ (by decide) (by decide)).trans rfl) (News.sub NA ?_)
      repeat (refine List.forall_mem_cons.mpr ⟨by k_mem, ?_⟩)
      walk_at "my tl"
end
section
theorem resetLD3 : True := by
  w_top off
  exact trivial
variable {prog : Program} {w : World} {p : Program} {loose : List Str} {mean : ExcName → Option Value} {mg mb : Str → Option Value}
  {A : Around} {G : Heap} {s : Shared} {Q : Value → Shared → Prop} {E : Value → Shared → Prop}
local macro_rules | `(tactic| walk_at "exec For Name Call cons nil") => `(tactic| (k_dflt (refine' wpAny_For ?_ ?hs_H; (case hs_H => intro _; rfl); k_whole)))
theorem law_DD {g : Heap} {L' : Addr} {m : Str → Option Value} {QQ : Flow → Shared → Prop}
  (X' : (Mine.hd.heap_39 w.params).In g) (T' : Top p loose mean mg mb g) (R : Room 128 A) (h54 : @LT.lt Nat _ 54 L') (h61 : @LT.lt Nat _ 61 L')
  {fi sp gr s0 s1 s2 : Int} {wd : Nat} (nums : LawNums fi sp gr s0 s1 s2 (wd : Int)) {ln lz lk : Addr} {nw Z6 : List (Addr × Obj)} {o9 : Obj}
  (F : Fr g L' s.heap m) (hLZ : LawZ L' fi sp gr s0 s1 s2 ln lz Z6) (hJ : TurnJ g L' fi sp gr s0 s1 s2 wd lk ln Z6 s2.toNat m nw)
  (N : News g L' s.heap ((L' + 1 + 1 + 1 + 1 + 1 + 1 + 1 + 1 + 1, o9) :: nw)) (g3 : @LT.lt Nat _ ln lk)
  (hret : ∀ (h : Heap) (tk : Nat) (m : Str → Option Value) (b1 b2 : Array Value), Fr g L' h m → h.get? 54 = some (tabObj b1) → h.get? 61 = some (tabObj b2) → QQ (.ret (.bool true)) { s with heap := h, toks := tk }) :
  wpAny (model prog w) (A.deeper (lawEnv L')) (execs (lawB.drop 14) (lawEnv L')) QQ NoE s := by
  refine' with_lit (K := Mine.hd.heap_39 w.params) ?k6 ?_
  case k6 => k_is
  intro hk
  obtain ⟨hlb, hls⟩ := law_is hk
  clear hk
  simp only [lawEnv, hlb, hls] at ⊢
  clear hlb hls
  obtain ⟨ahd, dp, fr, gd, un⟩ := A
  obtain rfl : ahd = none := R.hh
  obtain ⟨t1, t2, t3, ts0, ts1, ts2, tf, tp, tg, kn, kz, o2, o3, o4, o5, o6, o7, Z, eZ, rfl, d2, d3, d4, d5, d6, d7, g1, g2⟩ := hLZ
  obtain ⟨T, ps, x, dx, lx, c1, c2, kx, nk, n, hk0, tk0, b1, b2, e1, e2, o8, o10, va, rfl, ⟨tw, mw⟩, ms, TN, f1, f2, hR, hT, d8, d10, q1, q2, q3, q4, q5, q6, q7, q8, q9, hst⟩ := hJ
  simp only [List.drop_succ_cons, List.drop_zero]
  have mZ : ∀ {P : Addr × Obj → Prop}, (∀ p ∈ Z, P p) → ∀ p ∈ [(ln, listOf #[Value.str (apT (gr + 1)) t1, .str (apT (gr + 2)) t2, .str (apT (gr + 3)) t3] kn), (lz, listOf #[.int s0 ts0, .int s1 ts1, .int s2 ts2] kz), (L' + 1 + 1, o2), (L' + 1 + 1 + 1, o3), (L' + 1 + 1 + 1 + 1, o4), (L' + 1 + 1 + 1 + 1 + 1, o5), (L' + 1 + 1 + 1 + 1 + 1 + 1 + 1, o7)], P p := fun h => by rw [← eZ]; exact h
  have gn : @LT.lt Nat _ (L' + 10) ln := Nat.lt_trans g1 g2
  have zoff : ∀ p ∈ Z, p.1 ≠ L' + 1 + 1 + 1 + 1 + 1 + 1 := by
    have c : ∀ k : Nat, k ≠ 6 → @Ne Nat (L' + k) (L' + 6) := fun k hk q => hk (Nat.add_left_cancel q)
    have b : ∀ {c : Addr}, @LT.lt Nat _ (L' + 10) c → c ≠ L' + 6 := fun h => Nat.ne_of_gt (Nat.lt_trans (Nat.add_lt_add_left (by decide : 6 < 10) L') h)
    rw [eZ]
    exact List.forall_mem_cons.mpr ⟨b gn, List.forall_mem_cons.mpr ⟨b g1, List.forall_mem_cons.mpr ⟨c 2 (by decide), List.forall_mem_cons.mpr ⟨c 3 (by decide), List.forall_mem_cons.mpr ⟨c 4 (by decide), List.forall_mem_cons.mpr ⟨c 5 (by decide), List.forall_mem_cons.mpr ⟨c 7 (by decide), List.forall_mem_nil _⟩⟩⟩⟩⟩⟩⟩
  have Nst0 : News g L' s.heap (struckE T) := fun p hp => N p (by repeat (first | exact List.mem_append_right _ (List.mem_append_left _ hp) | refine List.Mem.tail _ ?_))
  have NZ0 : News g L' s.heap Z := fun p hp => N p (by repeat (first | exact List.mem_append_right _ (List.mem_append_right _ (.tail _ hp)) | refine List.Mem.tail _ ?_))
  have N6 := N (L' + 1 + 1 + 1 + 1 + 1 + 1, o6) (by repeat (first | exact List.mem_append_right _ (List.mem_append_right _ (.head _)) | refine List.Mem.tail _ ?_))
  have NS : News g L' s.heap ((L' + 1 + 1 + 1 + 1 + 1 + 1, o6) :: (lk, listOf (T.map fun q => Value.ref q.1).toArray nk) :: (54, tabObj b1) :: (61, tabObj b2) :: (struckE T ++ Z)) := by
    repeat' (first | assumption | exact N _ (by k_mem) | refine List.forall_mem_append.mpr ⟨?_, ?_⟩ | refine List.forall_mem_cons.mpr ⟨?_, ?_⟩)
  have off6 : ∀ p ∈ struckE T, p.1 ≠ L' + 1 + 1 + 1 + 1 + 1 + 1 := fun p hp => seq_ne (Nst0 p hp).1 N6.1 (struckE_seq p hp) (not_seq_cell d6)
  clear N Nst0 NZ0 N6 TN f1 f2 hR hst q1 q2 q3 q4 q5 q6 q7 q8 q9 d8 d10
  k_steps
  rename News _ _ _ _ => N5
  rename Fr _ _ _ _ => F5
  rename IsRange _ _ _ _ _ _ _ _ => hr
  have sub : ∀ {h : Heap} {a b : Addr × Obj} {c : List (Addr × Obj)}, News g L' h (a :: b :: c) → News g L' h c := fun N p hp => N p (.tail _ (.tail _ hp))
  refine for_cell_range (n := 3) (c := L' + 1 + 1 + 1 + 1 + 1 + 1) (oc0 := o6) (v0 := none) (h₀ := g) (L := L')
    (news := (lk, listOf (T.map fun q => Value.ref q.1).toArray nk) :: (54, tabObj b1) :: (61, tabObj b2) :: (struckE T ++ Z))
    (fun i m nw => m (Str.ofString "struck") = some (.ref lk) ∧ nw = (lk, listOf (T.map fun q => Value.ref q.1).toArray nk) :: (54, tabObj b1) :: (61, tabObj b2) :: (struckE T ++ Z)) rfl hr (by decide) (by decide) (by decide) rfl rfl rfl F5 N5 d6 ?off
    ⟨ms, rfl⟩ ?turn ?done
  case off =>
    exact List.forall_mem_cons.mpr ⟨Nat.ne_of_gt (Nat.lt_trans (Nat.lt_trans (Nat.add_lt_add_left (by decide : 6 < 10) L') gn) g3), List.forall_mem_cons.mpr ⟨by k_ne, List.forall_mem_cons.mpr ⟨by k_ne, List.forall_mem_append.mpr ⟨off6, zoff⟩⟩⟩⟩
  case turn =>
    rintro I hI i u m₁ news₁ it oc1 h tk E' hin ⟨ms1, rfl⟩ hof hdo hIR F₁ N₁
    have Nt := sub N₁
    have Ns1 : News g L' h (struckE T) := fun p hp => Nt p (.tail _ (.tail _ (.tail _ (List.mem_append_left _ hp))))
    have NZ1 : News g L' h Z := fun p hp => Nt p (.tail _ (.tail _ (.tail _ (List.mem_append_right _ hp))))
    have NZe := mZ NZ1
    have NI : News g L' h [(I, it)] := List.forall_mem_cons.mpr ⟨N₁ _ (.head _), List.forall_mem_nil _⟩
    refine law_D1 X' T' R F₁ hin nums.f nums.s nums.g nums.z0 nums.z1 nums.z2 ms1 d2 d3 d4 d5 hdo d7 hT (lk := lk) (ln := ln) (lz := lz) (kn := kn) (kz := kz) (nk := nk) (t1 := t1) (t2 := t2) (t3 := t3) (ts0 := ts0) (ts1 := ts1) (ts2 := ts2) (tail := (I, it) :: (54, tabObj b1) :: (61, tabObj b2) :: Z) ?n1 ?c1
    case n1 => repeat' (first | assumption | exact NZe _ (by k_mem) | exact N₁ _ (by k_mem) | refine List.forall_mem_append.mpr ⟨?_, ?_⟩ | refine List.forall_mem_cons.mpr ⟨?_, ?_⟩)
    case c1 =>
      intro h2 tk2 m2 F2 ms2 N2
      have Ns2 : News g L' h2 (struckE T) := fun p hp => N2 p (by repeat (first | exact List.mem_append_left _ hp | refine List.Mem.tail _ ?_))
      have Nt2 : News g L' h2 ((I, it) :: (54, tabObj b1) :: (61, tabObj b2) :: Z) := fun p hp => N2 p (by repeat (first | exact List.mem_append_right _ hp | refine List.Mem.tail _ ?_))
      have NZ2 : News g L' h2 Z := fun p hp => Nt2 p (.tail _ (.tail _ (.tail _ hp)))
      refine CellEnd.intro (oc := oc1) F2 ?n3 hdo hof ⟨ms2, rfl⟩
      repeat' (first | assumption | exact Nt2 _ (by k_mem) | exact N2 _ (by k_mem) | refine List.forall_mem_append.mpr ⟨?_, ?_⟩ | refine List.forall_mem_cons.mpr ⟨?_, ?_⟩)
  case done =>
    rintro m₁ news₁ oc1 v h tk ⟨ms1, rfl⟩ hdo hof F₁ N₁
    k_steps
    exact hret _ _ _ b1 b2 F₁ (News.get N₁ (by k_mem)) (News.get N₁ (by k_mem))
end
end
section
variable {prog : Program} {w : World} {p : Program} {loose : List Str} {mean : ExcName → Option Value} {mg mb : Str → Option Value}
  {A : Around} {G : Heap} {s : Shared} {Q : Value → Shared → Prop} {E : Value → Shared → Prop}
theorem cells_ten {cm : Str → Option Value} {n₁ n₂ n₃ n₄ n₅ n₆ n₇ n₈ n₉ n₀ : Str} {c₁ c₂ c₃ c₄ c₅ c₆ c₇ c₈ c₉ c₀ : Addr} {cells : List (Addr × Obj)} (x : CellsAre cm [(n₁, c₁), (n₂, c₂), (n₃, c₃), (n₄, c₄), (n₅, c₅), (n₆, c₆), (n₇, c₇), (n₈, c₈), (n₉, c₉), (n₀, c₀)] cells) :
    ∃ o₁ o₂ o₃ o₄ o₅ o₆ o₇ o₈ o₉ o₀, cells = [(c₁, o₁), (c₂, o₂), (c₃, o₃), (c₄, o₄), (c₅, o₅), (c₆, o₆), (c₇, o₇), (c₈, o₈), (c₉, o₉), (c₀, o₀)] ∧ o₁.data = .cell (cm n₁) ∧ o₂.data = .cell (cm n₂) ∧ o₃.data = .cell (cm n₃) ∧ o₄.data = .cell (cm n₄) ∧ o₅.data = .cell (cm n₅) ∧ o₆.data = .cell (cm n₆) ∧ o₇.data = .cell (cm n₇) ∧ o₈.data = .cell (cm n₈) ∧ o₉.data = .cell (cm n₉) ∧ o₀.data = .cell (cm n₀) := by
  cases x with | cons ha r => cases r with | cons hb r => obtain ⟨o₁, o₂, o₃, o₄, o₅, o₆, o₇, o₈, rfl, h₁, h₂, h₃, h₄, h₅, h₆, h₇, h₈⟩ := PyProof.Rows.kc_eight r; exact ⟨_, _, o₁, o₂, o₃, o₄, o₅, o₆, o₇, o₈, rfl, ha, hb, h₁, h₂, h₃, h₄, h₅, h₆, h₇, h₈⟩
theorem law_call (X : (Mine.hd.heap_39 w.params).In G) (T : Top p loose mean mg mb G) (st : G.StaysIn s.heap) (n54 : G.get? 54 = none) (n61 : G.get? 61 = none) (t54 : s.heap.get? 54 = some (tabObj #[])) (t61 : s.heap.get? 61 = some (tabObj #[]))
  (l : Addr) (vs : List Value) (ns : List Int) (R : Room 130 A) (hl : s.heap.IsList l vs.toArray) (hi : IntsAre vs ns) (hlen : ns.length ≤ 63)
  (hret : ∀ (h' : Heap) (tk' : Nat) (b1 b2 : Array Value), KeepT s.heap h' → h'.get? 54 = some (tabObj b1) → h'.get? 61 = some (tabObj b2) → Q (.bool true) { s with heap := h', toks := tk' }) :
  wpAny (model prog w) A (call (.ref 281) [.ref l]) Q E s := by
  obtain ⟨ahd, dp, fr, gd, un⟩ := A
  obtain rfl : ahd = none := R.hh
  have l54 : l ≠ 54 := fun e => by
    obtain ⟨o, e1, e2, _⟩ := hl
    rw [e, t54] at e1; cases e1; cases e2
  have l61 : l ≠ 61 := fun e => by
    obtain ⟨o, e1, e2, _⟩ := hl
    rw [e, t61] at e1; cases e1; cases e2
  have hu : un + 64 < 9000 := by
    have : un + 10 * 130 < 9900 := R.hu
    (first | exact om233 this | omega)
  have R2 : Room 128 { depth := dp, frames := fr, handled := none, guards := gd, units := un } := R.le (by decide)
  refine' with_lit (K := Mine.hd.heap_39 w.params) ?kl ?_
  case kl => k_is
  intro hk
  (k_dflt (refine' enterC ?hid ?st ?hH ?X ?T ?R ?k6 ?k7 ?k9 ?kB ?kD ?_ ?c2 ?c3 ?c4; (case st | X | T | R => assumption); (case k6 | k7 => k_is); (case k9 => first | exact BindsTo.of_eq rfl | exact binds_K (by assumption) rfl (by k_is) rfl rfl rfl); (case kB => exact rfl); (case kD => decide +kernel); (case c2 | c3 | c4 => exact rfl)))
  case hid => exact [(54, tabObj #[]), (61, tabObj #[])]
  case hH => exact List.forall_mem_cons.mpr ⟨⟨t54, n54⟩, List.forall_mem_cons.mpr ⟨⟨t61, n61⟩, List.forall_mem_nil _⟩⟩
  intro g L' h₁ tk cells gs ls gst F N Y X' T' l1 l2
  have kT : KeepT s.heap g := fun b o b1 b2 e => ls b o (List.forall_mem_cons.mpr ⟨b1, List.forall_mem_cons.mpr ⟨b2, List.forall_mem_nil _⟩⟩) e
  have m54 : g.get? 54 = none := News.none N (List.mem_append_right _ (.head _))
  have m61 : g.get? 61 = none := News.none N (List.mem_append_right _ (.tail _ (.head _)))
  have hLg : g.IsList l vs.toArray := hl.at fun o e => ls _ _ (List.forall_mem_cons.mpr ⟨l54, List.forall_mem_cons.mpr ⟨l61, List.forall_mem_nil _⟩⟩) e
  obtain ⟨o10, o9, o8, o7, o6, o5, o4, o3, o2, o1, rfl, d10, d9, d8, d7, d6, d5, d4, d3, d2, d1⟩ := cells_ten Y
  simp only [List.cons_append, List.nil_append] at N
  k_lt l1
  clear Y l2
  have g54 : ∀ k : Nat, @Ne Nat 54 (L' + k) := fun k => Nat.ne_of_lt (Nat.lt_of_lt_of_le l1.1 (Nat.le_add_right _ _))
  have g61 : ∀ k : Nat, @Ne Nat 61 (L' + k) := fun k => Nat.ne_of_lt (Nat.lt_of_lt_of_le l1.2.1 (Nat.le_add_right _ _))
  k_unmd
  refine law_A1 X' T' R2 F hLg hi hlen (o1 := o1) d1 (tail := [(L' + 1 + 1, o2), (L' + 1 + 1 + 1, o3), (L' + 1 + 1 + 1 + 1, o4), (L' + 1 + 1 + 1 + 1 + 1, o5), (L' + 1 + 1 + 1 + 1 + 1 + 1, o6), (L' + 1 + 1 + 1 + 1 + 1 + 1 + 1, o7), (L' + 1 + 1 + 1 + 1 + 1 + 1 + 1 + 1, o8), (L' + 1 + 1 + 1 + 1 + 1 + 1 + 1 + 1 + 1, o9), (L' + 1 + 1 + 1 + 1 + 1 + 1 + 1 + 1 + 1 + 1, o10), (54, tabObj #[]), (61, tabObj #[])]) (News.sub N (by walk_at "my sub")) ?_
  intro h1 tk1 D kD c0 c1 c2 c3 t0 t1 t2 t3 F1 N1 lt1
  have off : ∀ k : Nat, k < 6 → ∀ p ∈ [(L' + 1 + 1 + 1 + 1 + 1 + 1, o6), (L' + 1 + 1 + 1 + 1 + 1 + 1 + 1, o7), (L' + 1 + 1 + 1 + 1 + 1 + 1 + 1 + 1, o8), (L' + 1 + 1 + 1 + 1 + 1 + 1 + 1 + 1 + 1, o9), (L' + 1 + 1 + 1 + 1 + 1 + 1 + 1 + 1 + 1 + 1, o10), (54, tabObj #[]), (61, tabObj #[])], p.1 ≠ L' + k := fun k hk =>
    have c : ∀ j : Nat, 6 ≤ j → @Ne Nat (L' + j) (L' + k) := fun j hj => Nat.ne_of_gt (Nat.add_lt_add_left (Nat.lt_of_lt_of_le hk hj) L')
    List.forall_mem_cons.mpr ⟨c 6 (by decide), List.forall_mem_cons.mpr ⟨c 7 (by decide), List.forall_mem_cons.mpr ⟨c 8 (by decide), List.forall_mem_cons.mpr ⟨c 9 (by decide), List.forall_mem_cons.mpr ⟨c 10 (by decide), List.forall_mem_cons.mpr ⟨g54 k, List.forall_mem_cons.mpr ⟨g61 k, List.forall_mem_nil _⟩⟩⟩⟩⟩⟩⟩
  refine law_A2 X' T' R2 F1 rfl d2 d3 d4 d5 (off 2 (by decide)) (off 3 (by decide)) (off 4 (by decide)) (off 5 (by decide)) (lt1 (L' + 1 + 1 + 1 + 1 + 1 + 1 + 1 + 1 + 1 + 1, o10) (by k_mem)) (News.sub N1 (by walk_at "my sub")) ?_
  intro h2 tk2 m2 lz kz wn fi sp gr s0 s1 s2 tf tp tg tw ts0 ts1 ts2 o2 o3 o4 o5 F2 mw nums e2 e3 e4 e5 N2 glz
  refine law_B X' T' R2 F2 nums (o1 := o1) mw e2 e3 e4 e5 d6 d7 d8 d9 d10 N2 l1.1 l1.2.1 glz ?_
  intro hB tkB mB psB xB dxB lxB lnB lkB hL g54 g61
  refine law_CC X' T' R2 hu m54 m61 l1.1 l1.2.1 hL g54 g61 ?_
  intro hB2 tkB2 mB2 nwB Z6 o9B vB FB d9B hLZ hJB NB g3B
  refine law_DD X' T' R2 l1.1 l1.2.1 nums FB hLZ hJB NB g3B ?_
  intro hE tkE mE b1 b2 FE e54 e61
  show Q _ _
  exact hret _ _ b1 b2 (fun b o b1 b2 e => Fr.keep FE _ _ (kT b o b1 b2 e)) e54 e61
end
section
theorem mg_law {K : Frag} {h : Heap} {mg : Str → Option Value} {x : Str} {f fa : Addr} (X : K.In h) (G : h.Ns mainGlobals mg) (hf : nsIn K mainGlobals x = some (some (.ref f))) (hm : mg x = some (.ref fa)) : fa = f := by
  have e1 := mg_of X G hf
  rw [hm] at e1
  cases e1; rfl
theorem good_true {cw : ClaimW} {cl : Str → Option Addr} {mean : ExcName → Option Value} {args : List WData} {s₁ : Shared} {c1 c2 : Addr} {h' : Heap} {tk' : Nat} {b1 b2 : Array Value} (hT : TabsAt [(c1, 54), (c2, 61)] s₁.heap)
    (k : KeepT s₁.heap h') (e1 : h'.get? 54 = some (tabObj b1)) (e2 : h'.get? 61 = some (tabObj b2)) (hg : s₁.gens = #[]) (hr : ∀ cls, cw.raises args cls = false) (hp : cw.post args (.bool true) args = true) :
    GoodWG cw cl mean args s₁ (.ok (.ret (.bool true))) { s₁ with heap := h', toks := tk' } := by
  have T1 := hT (c1, 54) (.head _)
  have T2 := hT (c2, 61) (.tail _ (.head _))
  have h54 : s₁.heap.get? 54 = some (tabObj #[]) := T1.2
  have h61 : s₁.heap.get? 61 = some (tabObj #[]) := T2.2
  refine ⟨.inl ⟨_, _, [], rfl, hr, .bool true, hp, fun _ => ⟨List.nodup_nil, fun a ha => nomatch ha⟩⟩, ⟨fun b o e => ?_, fun b o e => ?_⟩, rfl, .of_eq hg⟩
  · by_cases b54 : b = 54
    · subst b54
      rw [h54] at e
      cases e
      exact .inr (.inl ⟨(T1.1.tab T1.2).isCodeTable, rfl, #[], b1, rfl, by rw [Array.empty_append]; exact e1⟩)
    · by_cases b61 : b = 61
      · subst b61
        rw [h61] at e
        cases e
        exact .inr (.inl ⟨(T2.1.tab T2.2).isCodeTable, rfl, #[], b2, rfl, by rw [Array.empty_append]; exact e2⟩)
      · exact .inl (k b o b54 b61 e)
  · by_cases b54 : b = 54
    · exact ⟨_, b54 ▸ e1⟩
    · by_cases b61 : b = 61
      · exact ⟨_, b61 ▸ e2⟩
      · exact ⟨o, k b o b54 b61 e⟩
end
end
end
theorem resetFin : True := by
  w_top off
  exact trivial
end Mine
theorem PySem.Challenge.cw_ul0023_01_holds : PySem.Challenge.rw_ul0023_01.Holds := by
  refine holds_law Mine.said1 fun said => ?_
  refine holds_open (q := Mine.hd.view) (loose := Mine.hkLoose) (Xt := Mine.hkXt) (XP := XL Mine.hd.view []) (Yf := Hook.obs Mine.hkHook) (Ya := Hook.val Mine.hkHook) (YP := Hook.says Mine.hkHook) (N := 3172) Mine.left1 (Hook.of Mine.hkHook) (Hook.keeps Mine.hkHook) (fun s e => xl_of s (Bool.and_eq_true_iff.mp e).1) XL.keeps (by rfl) (by rfl) (by rfl) (fun s e => recFacts_of (Bool.and_eq_true_iff.mp e).2) (by rfl) said (by decide +kernel) ⟨rfl, rfl, rfl, rfl, rfl, by decide +kernel⟩ ?hw ?hc
  case hw => w_witness2
  case hc =>
    w_strict (
      k_fill
      intro w s₀ s₁ mg mb G Y fa o pm cd doc dV kV ho hd hcd hD hmg hg args vals as hpre hlay hrd hwl hlo
      have KX := km_in_of Y
      km_tabs Y
      have X := (Ground.X G).1
      have V := (Ground.X G).2
      refine Ground.open G ?_
      intro T B D TE TW
      try (refine guard_noD D (by decide +kernel) ?_; clear D)
      have hT9 : TabsAt [(58, 54), (65, 61)] s₁.heap := List.forall_mem_cons.mpr ⟨⟨codeHd_of_K (c := 58) (P := 54) KX (by kernel_rfl), hT8 54 (by k_mem)⟩, List.forall_mem_cons.mpr ⟨⟨codeHd_of_K (c := 65) (P := 61) KX (by kernel_rfl), hT8 61 (by k_mem)⟩, List.forall_mem_nil _⟩⟩
      obtain rfl : fa = 281 := Mine.mg_law KX (Top.g T) (by kernel_rfl) hmg
      wrow_args hpre hlay hrd hwl hlo
      rename ¬ ((63 : Nat) : Int) < _ => hlen
      rename IntsAre _ _ => hI
      rename Heap.IsList _ _ _ => hL
      refine Mine.law_call (ghost_K hT9 KX (by kernel_rfl)) (ghost_top hT9 T) (fun b o e => of_hideAll _ e) (hideAll_none _ (by decide)) (hideAll_none _ (by decide)) (hT8 54 (by k_mem)) (hT8 61 (by k_mem)) _ _ _ ⟨rfl, by decide, by decide⟩ hL hI (by (first | exact om114 hlen | omega)) ?_
      intro h' tk' b1 b2 k e1 e2
      refine Mine.good_true hT9 k e1 e2 hg ?_ ?_
      · intro _; rfl
      · wrow_post)
