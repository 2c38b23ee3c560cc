import PyProof.Rows.All
import Wide.All
import OpenK.AllK
import Wide.FinOn
import PySem.Challenge.RW_te0060_04
set_option Elab.async false
local macro_rules | `(⋯)=>`(by kernel_rfl!)
local macro_rules | `(∅)=>`(by kernel_rfl)
open PySem.Str renaming ofString → ae, length → ee
open Nat renaming le_trans → af, lt_of_le_of_lt → ai, lt_of_lt_of_le → aj, le_add_right → am, le_of_lt → aq, lt_trans → ar, lt_succ_self → av, le_of_not_lt → aw, lt_add_of_pos_right → bg, le_refl → bh, add_assoc → bl, add_comm → bn, add_sub_cancel' → bp, add_sub_cancel_left → bx, add_le_add_left → cc, min_eq_left → ce, le_succ_of_le → cq, sub_lt_sub_left → dd, succ_le_succ → df, lt_succ_of_lt → dl, add_right_comm → dm, zero_le → dq, min_le_right → du, le_of_eq → dz, le_add_left → ed, zero_add → eg, mul_le_mul_left → ei, le_of_succ_le → ej, lt_irrefl → em, sub_eq_zero_of_le → eu, lt_of_not_le → fc, le_succ → ff, lt_of_succ_lt → fg, le_of_not_le → fp, lt_add_right → fq, add_le_add → ft, min_le_left → fw, le_antisymm → fx, add_le_add_right → gd, not_le_of_lt → gh, le_of_ble_eq_true → gj, sub_min_sub_right → gm, add_le_of_le_sub' → gp, not_lt → gv, succ_pos → gz, min_eq_right → ib, lt_of_lt_of_eq → ii, lt_of_le_of_ne → ij, lt_of_succ_lt_succ → iq, le_of_lt_succ → iu, ne_of_gt → ix, ne_of_lt → iz, sub_le_sub_right → je, not_lt_zero → jg, sub_self → ji
open Bool renaming and_eq_true_iff → ag, and_eq_true → dj, eq_false_iff → ek, true_and → eo, and_false → ew, or_eq_true → ey, and_true → fm, noConfusion → fo, or_eq_false_iff → gb, or_eq_true_iff → gg, false_or → gt, or_false → gu, false_and → iy, not_eq_true' → jm
open List renaming getElem?_eq_getElem → ah, drop_eq_getElem_cons → ak, replicate → au, all_eq_true → ay, drop_of_length_le → az, mem_cons → bb, mem_cons_of_mem → bc, mem_singleton → be, length_append → bj, mem_cons_self → bk, getElem?_eq_none → bt, not_mem_nil → bu, length_drop → bv, getElem?_drop → bw, length_take → bz, map_cons → cf, append_nil → ck, lookup_cons → cy, length_map → cz, getElem?_eq_some_iff → dg, takeWhile_cons → dh, drop_drop → dk, isPrefixOf_iff_prefix → dn, append_assoc → dw, take_append_drop → ef, takeWhile_sublist → eh, nodup_cons → ez, prefix_iff_eq_take → fb, take_succ_eq_append_getElem → fe, range → fh, mem_of_getElem? → fi, getElem?_map → fj, mem_range → fu, mem_of_mem_drop → fz, length_eq_zero_iff → gf, take_of_length_le → gi, forIn_cons → gk, getElem?_toArray → gq, takeWhile_prefix → gr, mem_iff_getElem → gx, lookup → gy, drop_length → ia, map_congr_left → ic, replicate_zero → ie, mem_append → ig, nil_append → ik, all_takeWhile → im, length_eq_one_iff → io, length → ip, size_toArray → ir, length_range → iw, length_replicate → ja, contains_iff_mem → jb, range'_succ → jc, length_cons → jd, mem_of_mem_take → jf, map_nil → jh, mem_map → jj, nodup_nil → jl, all_cons → jp
open False renaming elim → bq
open Int renaming natCast_nonneg → cg, not_lt → fk, ofNat_lt → fy, ofNat_le → ga, add_sub_cancel → il, toNat_natCast → jo
open Option renaming isSome_iff_exists → cj, bind_eq_some_iff → cu, map_eq_some_iff → de, isNone_iff_eq_none → gw, elim_none → jq
open Array renaming length_toList → cn, getElem?_eq_getElem → fv
open PySem.Heap renaming get?_push_size → dc, get?_push_of_some → di, lt_size → dy, size_push → jk
section
open PySem PySem.W PySem.Calls PyProof.Rows
set_option Elab.async false
set_option maxRecDepth 1000000
set_option maxHeartbeats 8000000
namespace MH
noncomputable abbrev pw:Program:=PySem.Challenge.pw_te0060_04
noncomputable abbrev rwL:OpenLaw:=PySem.Challenge.rw_te0060_04
noncomputable def pB:List Stmt:=pw.main.body
noncomputable def nS(i:Nat)(l:List Stmt):Stmt:=match l.drop i with
 |s ::_=>s
 |[]=>.Pass default
noncomputable def dD{α:Sort _}(d:α)(cl:List Stmt->α)(fn:Arguments->List Stmt->Scope->α)(s:Stmt):α:=Stmt.casesOn (motive_2:=λ_=>α) s (λ_ a b _ _ _ sc _ _ _=>fn a b sc) (λ_ _ _ _ _ _ _ _ _ _=>d) (λ_ _ _ b _ _ _ _ _ _ _=>cl b) (λ_ _=>d) (λ_ _=>d) (λ_ _ _=>d) (λ_ _ _ _ _ _ _=>d) (λ_ _ _ _=>d) (λ_ _ _ _ _=>d) (λ_ _ _ _ _=>d) (λ_ _ _ _ _=>d) (λ_ _ _ _=>d) (λ_ _ _ _=>d) (λ_ _ _=>d) (λ_ _ _=>d) (λ_ _ _=>d) (λ_ _ _=>d) (λ_ _ _ _ _=>d) (λ_ _ _ _ _=>d) (λ_ _ _=>d) (λ_ _=>d) (λ_ _ _ _=>d) (λ_ _=>d) (λ_ _=>d) (λ_ _=>d) (λ_=>d) (λ_=>d) (λ_=>d)
noncomputable def cB(s:Stmt):List Stmt:=dD [] id (λ_ _ _=>[]) s
noncomputable abbrev Z(s:String):Str:=ae s
noncomputable abbrev S(s:String)(t:Nat):Value:=.str (Z s) t
noncomputable abbrev I(i:Int)(t:Nat):Value:=.int i t
noncomputable abbrev D(P:Params)(k:String)(t:Nat)(v:Value):DictEntry:=⟨PyData.keyHash P (Z k),S k t,v⟩
noncomputable def fO(s:Stmt)(n q:String)(g:Nat)(dv kv doc pm cd ct:Value)(bi:Nat):Obj:=dD default (λ_=>default) (λa b sc=>⟨.type "function",none,.func ⟨Z n,Z q,a,.stmts b,sc,g,[],dv,kv,doc,pm,none,cd,ct,bi⟩,#[]⟩) s
noncomputable def kO(s:Stmt)(n q:String)(g:Nat)(dv kv doc pm cd ct:Value)(bi:Nat):Obj:=dD default (λ_=>default) (λa b sc=>⟨.none,none,.func ⟨Z n,Z q,a,.stmts b,sc,g,[],dv,kv,doc,pm,none,cd,ct,bi⟩,#[]⟩) s
noncomputable def cO(n q:String)(t l na y r u:Nat):Obj:=⟨.type "code",none,.fields #[S n t,S q (t+1),S "/claim/cut.py" (t+2),.int (Int.ofNat l) 0,.int (Int.ofNat na) 0,I 0 0,.int (Int.ofNat y) 0,I 3 0,.ref r,.bool true,I 181 0,.ref (r+1),.none,.ref (r+2),.ref (r+3),.ref (r+4),.int (Int.ofNat u) 0,.int (Int.ofNat l) 0,S "/claim/cut.py" (u+1)],#[]⟩
noncomputable def mO(n:String)(t r k:Nat):Obj:=⟨.type "member_descriptor",none,.fields #[S n t,.ref r,.builtin "proto.slot",.builtin "proto.slot#set",.int (Int.ofNat k) 0],#[]⟩
noncomputable def tO(n:String)(a d:Nat)(sl:List Str)(x t u:Nat):Obj:=⟨.type "type",none,.cls ⟨Z n,[.ref 74],[.ref a,.ref 74,.type "object"],d,Z n,false,sl,[],false,none,false⟩,#[some (.ref x),none,some (S n t),some (S n u),some (.builtin "object.__new__"),some (.bool false)]⟩
noncomputable def HK(P:Params):Frag:=[
 (2,⟨.none,none,.dict #[] 0,#[]⟩),
 (3,⟨(.type "dict"),none,.dict #[D P "__name__" 165 (S "law_te0060_04" 1242),D P "__doc__" 166 .none,D P "__package__" 167 .none,D P "__loader__" 168 (.builtin "__main__.__loader__#opaque"),D P "__spec__" 169 .none,D P "__annotations__" 170 (.ref 6),D P "__builtins__" 171 (.ref 4),D P "__file__" 173 (S "/claim/cut.py" 172),D P "__cached__" 174 .none,D P "_wall" 193 (.ref 21),D P "ascii_lower" 201 (.ref 26),D P "_replacement_string_value" 219 (.ref 27),D P "serialize_string_value" 226 (.ref 34),D P "serialize_url" 233 (.ref 41),D P "Node" 284 (.ref 74),D P "ParseError" 330 (.ref 104),D P "Comment" 371 (.ref 134),D P "WhitespaceToken" 412 (.ref 163),D P "LiteralToken" 470 (.ref 206),D P "IdentToken" 515 (.ref 235),D P "AtKeywordToken" 560 (.ref 265),D P "HashToken" 606 (.ref 295),D P "StringToken" 652 (.ref 325),D P "URLToken" 698 (.ref 355),D P "UnicodeRangeToken" 744 (.ref 385),D P "NumberToken" 799 (.ref 415),D P "PercentageToken" 854 (.ref 447),D P "DimensionToken" 918 (.ref 479),D P "ParenthesesBlock" 959 (.ref 513),D P "SquareBracketsBlock" 1000 (.ref 542),D P "CurlyBracketsBlock" 1041 (.ref 571),D P "FunctionBlock" 1091 (.ref 600),D P "_DIGITS" 1104 (.ref 606),D P "_number_end" 1116 (.ref 613),D P "_hex_end" 1125 (.ref 620),D P "parse_component_value_list" 1160 (.ref 628),D P "_is_name_start" 1169 (.ref 635),D P "_is_ident_start" 1177 (.ref 642),D P "_consume_ident" 1189 (.ref 649),D P "_consume_quoted_string" 1203 (.ref 656),D P "_consume_escape" 1213 (.ref 663),D P "_consume_url" 1227 (.ref 670),D P "_consume_unicode_range" 1241 (.ref 677),D P "_law_PIECES" 1308 (.ref 678),D P "_law_LETTERS" 1310 (S "abcdefghijklmnopqrstuvwxyzABCDEFGHIJKLMNOPQRSTUVWXYZ_" 1309),D P "_law_HEX" 1316 (.ref 685),D P "_law_LONG_SIGNS" 1322 (.ref 692),D P "_law_OPENERS" 1328 (.ref 699),D P "_law_CLOSERS" 1334 (.ref 706),D P "_law_STEPS" 1340 (.ref 713),D P "_law_mend" 1353 (.ref 720),D P "_law_name_head" 1360 (.ref 727),D P "_law_name_sign" 1367 (.ref 734),D P "_law_opens_name" 1377 (.ref 741),D P "_law_whole_name" 1388 (.ref 748),D P "_law_blanks" 1396 (.ref 755),D P "_law_numeral" 1410 (.ref 762),D P "_law_count" 1419 (.ref 769),D P "_law_range_opens" 1428 (.ref 776),D P "_law_range" 1442 (.ref 783),D P "_law_address_opens" 1450 (.ref 790),D P "_law_bad_in_address" 1458 (.ref 797),D P "_law_good_address" 1466 (.ref 804),D P "_law_single" 1476 (.ref 811),D P "_law_sign" 1486 (.ref 818),D P "_law_mark" 1493 (.ref 825),D P "_law_number" 1507 (.ref 832),D P "_law_comment" 1517 (.ref 839),D P "_law_string" 1528 (.ref 846),D P "_law_address" 1539 (.ref 853),D P "_law_fault" 1552 (.ref 860),D P "_law_name" 1566 (.ref 867),D P "_law_node" 1580 (.ref 874),D P "_law_inside" 1592 (.ref 881),D P "_law_row" 1607 (.ref 888),D P "law" 1618 (.ref 895)] 76,#[]⟩),
 (4,⟨(.type "module"),(some 0),.plain,#[]⟩),
 (25,⟨(.type "code"),none,.fields #[(S "ascii_lower" 196),(S "ascii_lower" 197),(S "/claim/cut.py" 198),(I 5 0),(I 1 0),(I 0 0),(I 0 0),(I 3 0),(.ref 22),(.bool true),(I 181 0),(.ref 23),.none,.none,.none,(.ref 24),(I 199 0),(I 5 0),(S "/claim/cut.py" 200)],#[]⟩),
 (26,fO (nS 2 pB) "ascii_lower" "ascii_lower" 3 .none .none .none (S "tinycss2.ast" 194) (.ref 25) .none 0),
 (27,⟨(.type "dict"),none,.dict #[D P "\"" 204 (S "\\\"" 205),D P "\\" 206 (S "\\\\" 207),D P "\n" 208 (S "\\A " 209),D P "\x0d" 210 (S "\\D " 211),D P "\x0c" 212 (S "\\C " 213)] 5,#[]⟩),
 (33,cO "serialize_string_value" "serialize_string_value" 220 9 1 0 28 224),
 (34,fO (nS 5 pB) "serialize_string_value" "serialize_string_value" 3 .none .none .none (S "tinycss2.serializer" 202) (.ref 33) .none 0),
 (40,cO "serialize_url" "serialize_url" 227 11 1 0 35 231),
 (41,fO (nS 6 pB) "serialize_url" "serialize_url" 3 .none .none .none (S "tinycss2.serializer" 202) (.ref 40) .none 0),
 (55,cO "__init__" "Node.__init__" 251 17 3 0 50 257),
 (56,fO (nS 1 (cB (nS 8 pB))) "__init__" "Node.__init__" 3 .none .none .none (S "tinycss2.ast" 234) (.ref 55) .none 0),
 (73,⟨(.type "dict"),none,.dict #[D P "__module__" 243 (S "tinycss2.ast" 234),D P "__firstlineno__" 247 (I 14 246),D P "__slots__" 250 (.ref 49),D P "__init__" 259 (.ref 56),D P "serialize" 266 (.ref 63),D P "_serialize_to" 274 (.ref 70),D P "__static_attributes__" 277 (.ref 71),D P "source_column" 279 (.ref 75),D P "source_line" 281 (.ref 76),D P "__doc__" 282 .none] 4,#[]⟩),
 (74,⟨(.type "type"),none,.cls ⟨Z "Node",[(.type "object")],[(.ref 74),(.type "object")],73,Z "Node",false,[Z "source_column",Z "source_line"],[(.ref 104),(.ref 134),(.ref 163),(.ref 206),(.ref 235),(.ref 265),(.ref 295),(.ref 325),(.ref 355),(.ref 385),(.ref 415),(.ref 447),(.ref 479),(.ref 513),(.ref 542),(.ref 571),(.ref 600)],false,none,false⟩,#[none,none,some (S "Node" 236),some (S "Node" 244),some (.builtin "object.__new__"),some (.bool false)]⟩),
 (75,mO "source_column" 278 74 1),
 (76,mO "source_line" 280 74 0),
 (92,cO "__init__" "ParseError.__init__" 302 30 5 0 87 310),
 (93,fO (nS 2 (cB (nS 9 pB))) "__init__" "ParseError.__init__" 3 .none .none .none (S "tinycss2.ast" 234) (.ref 92) .none 0),
 (103,⟨(.type "dict"),none,.dict #[D P "__module__" 292 (S "tinycss2.ast" 234),D P "__firstlineno__" 296 (I 26 295),D P "__slots__" 299 (.ref 86),D P "type" 301 (S "error" 300),D P "__init__" 312 (.ref 93),D P "_serialize_to" 320 (.ref 100),D P "__static_attributes__" 323 (.ref 101),D P "kind" 325 (.ref 105),D P "message" 327 (.ref 106),D P "__doc__" 328 .none] 4,#[]⟩),
 (104,tO "ParseError" 104 103 [Z "source_column",Z "source_line",Z "kind",Z "message"] 79 285 293),
 (105,mO "kind" 324 104 3),
 (106,mO "message" 326 104 2),
 (122,cO "__init__" "Comment.__init__" 347 41 4 0 117 354),
 (123,fO (nS 2 (cB (nS 10 pB))) "__init__" "Comment.__init__" 3 .none .none .none (S "tinycss2.ast" 234) (.ref 122) .none 0),
 (133,⟨(.type "dict"),none,.dict #[D P "__module__" 338 (S "tinycss2.ast" 234),D P "__firstlineno__" 342 (I 37 341),D P "__slots__" 344 (.ref 116),D P "type" 346 (S "comment" 345),D P "__init__" 356 (.ref 123),D P "_serialize_to" 364 (.ref 130),D P "__static_attributes__" 366 (.ref 131),D P "value" 368 (.ref 135),D P "__doc__" 369 .none] 3,#[]⟩),
 (134,tO "Comment" 134 133 [Z "source_column",Z "source_line",Z "value"] 109 331 339),
 (135,mO "value" 367 134 2),
 (151,cO "__init__" "WhitespaceToken.__init__" 388 51 4 0 146 395),
 (152,fO (nS 2 (cB (nS 11 pB))) "__init__" "WhitespaceToken.__init__" 3 .none .none .none (S "tinycss2.ast" 234) (.ref 151) .none 0),
 (162,⟨(.type "dict"),none,.dict #[D P "__module__" 379 (S "tinycss2.ast" 234),D P "__firstlineno__" 383 (I 47 382),D P "__slots__" 385 (.ref 145),D P "type" 387 (S "whitespace" 386),D P "__init__" 397 (.ref 152),D P "_serialize_to" 405 (.ref 159),D P "__static_attributes__" 407 (.ref 160),D P "value" 409 (.ref 164),D P "__doc__" 410 .none] 3,#[]⟩),
 (163,tO "WhitespaceToken" 163 162 [Z "source_column",Z "source_line",Z "value"] 138 372 380),
 (164,mO "value" 408 163 2),
 (180,cO "__init__" "LiteralToken.__init__" 429 61 4 0 175 436),
 (181,fO (nS 2 (cB (nS 12 pB))) "__init__" "LiteralToken.__init__" 3 .none .none .none (S "tinycss2.ast" 234) (.ref 180) .none 0),
 (205,⟨(.type "dict"),none,.dict #[D P "__module__" 420 (S "tinycss2.ast" 234),D P "__firstlineno__" 424 (I 57 423),D P "__slots__" 426 (.ref 174),D P "type" 428 (S "literal" 427),D P "__init__" 438 (.ref 181),D P "__eq__" 446 (.ref 188),D P "__ne__" 454 (.ref 195),D P "_serialize_to" 462 (.ref 202),D P "__static_attributes__" 464 (.ref 203),D P "value" 466 (.ref 207),D P "__doc__" 467 .none,D P "__hash__" 468 .none] 4,#[]⟩),
 (206,tO "LiteralToken" 206 205 [Z "source_column",Z "source_line",Z "value"] 167 413 421),
 (207,mO "value" 465 206 2),
 (223,cO "__init__" "IdentToken.__init__" 488 77 4 0 218 495),
 (224,fO (nS 2 (cB (nS 13 pB))) "__init__" "IdentToken.__init__" 3 .none .none .none (S "tinycss2.ast" 234) (.ref 223) .none 0),
 (234,⟨(.type "dict"),none,.dict #[D P "__module__" 478 (S "tinycss2.ast" 234),D P "__firstlineno__" 482 (I 73 481),D P "__slots__" 485 (.ref 217),D P "type" 487 (S "ident" 486),D P "__init__" 497 (.ref 224),D P "_serialize_to" 505 (.ref 231),D P "__static_attributes__" 508 (.ref 232),D P "lower_value" 510 (.ref 236),D P "value" 512 (.ref 237),D P "__doc__" 513 .none] 4,#[]⟩),
 (235,tO "IdentToken" 235 234 [Z "source_column",Z "source_line",Z "lower_value",Z "value"] 210 471 479),
 (236,mO "lower_value" 509 235 3),
 (237,mO "value" 511 235 2),
 (253,cO "__init__" "AtKeywordToken.__init__" 533 91 4 0 248 540),
 (254,fO (nS 2 (cB (nS 14 pB))) "__init__" "AtKeywordToken.__init__" 3 .none .none .none (S "tinycss2.ast" 234) (.ref 253) .none 0),
 (264,⟨(.type "dict"),none,.dict #[D P "__module__" 523 (S "tinycss2.ast" 234),D P "__firstlineno__" 527 (I 87 526),D P "__slots__" 530 (.ref 247),D P "type" 532 (S "at-keyword" 531),D P "__init__" 542 (.ref 254),D P "_serialize_to" 550 (.ref 261),D P "__static_attributes__" 553 (.ref 262),D P "lower_value" 555 (.ref 266),D P "value" 557 (.ref 267),D P "__doc__" 558 .none] 4,#[]⟩),
 (265,tO "AtKeywordToken" 265 264 [Z "source_column",Z "source_line",Z "lower_value",Z "value"] 240 516 524),
 (266,mO "lower_value" 554 265 3),
 (267,mO "value" 556 265 2),
 (283,cO "__init__" "HashToken.__init__" 578 105 5 0 278 586),
 (284,fO (nS 2 (cB (nS 15 pB))) "__init__" "HashToken.__init__" 3 .none .none .none (S "tinycss2.ast" 234) (.ref 283) .none 0),
 (294,⟨(.type "dict"),none,.dict #[D P "__module__" 568 (S "tinycss2.ast" 234),D P "__firstlineno__" 572 (I 101 571),D P "__slots__" 575 (.ref 277),D P "type" 577 (S "hash" 576),D P "__init__" 588 (.ref 284),D P "_serialize_to" 596 (.ref 291),D P "__static_attributes__" 599 (.ref 292),D P "is_identifier" 601 (.ref 296),D P "value" 603 (.ref 297),D P "__doc__" 604 .none] 4,#[]⟩),
 (295,tO "HashToken" 295 294 [Z "source_column",Z "source_line",Z "is_identifier",Z "value"] 270 561 569),
 (296,mO "is_identifier" 600 295 3),
 (297,mO "value" 602 295 2),
 (313,cO "__init__" "StringToken.__init__" 624 116 5 0 308 632),
 (314,fO (nS 2 (cB (nS 16 pB))) "__init__" "StringToken.__init__" 3 .none .none .none (S "tinycss2.ast" 234) (.ref 313) .none 0),
 (324,⟨(.type "dict"),none,.dict #[D P "__module__" 614 (S "tinycss2.ast" 234),D P "__firstlineno__" 618 (I 112 617),D P "__slots__" 621 (.ref 307),D P "type" 623 (S "string" 622),D P "__init__" 634 (.ref 314),D P "_serialize_to" 642 (.ref 321),D P "__static_attributes__" 645 (.ref 322),D P "representation" 647 (.ref 326),D P "value" 649 (.ref 327),D P "__doc__" 650 .none] 4,#[]⟩),
 (325,tO "StringToken" 325 324 [Z "source_column",Z "source_line",Z "representation",Z "value"] 300 607 615),
 (326,mO "representation" 646 325 3),
 (327,mO "value" 648 325 2),
 (343,cO "__init__" "URLToken.__init__" 670 127 5 0 338 678),
 (344,fO (nS 2 (cB (nS 17 pB))) "__init__" "URLToken.__init__" 3 .none .none .none (S "tinycss2.ast" 234) (.ref 343) .none 0),
 (354,⟨(.type "dict"),none,.dict #[D P "__module__" 660 (S "tinycss2.ast" 234),D P "__firstlineno__" 664 (I 123 663),D P "__slots__" 667 (.ref 337),D P "type" 669 (S "url" 668),D P "__init__" 680 (.ref 344),D P "_serialize_to" 688 (.ref 351),D P "__static_attributes__" 691 (.ref 352),D P "representation" 693 (.ref 356),D P "value" 695 (.ref 357),D P "__doc__" 696 .none] 4,#[]⟩),
 (355,tO "URLToken" 355 354 [Z "source_column",Z "source_line",Z "representation",Z "value"] 330 653 661),
 (356,mO "representation" 692 355 3),
 (357,mO "value" 694 355 2),
 (373,cO "__init__" "UnicodeRangeToken.__init__" 716 138 5 0 368 724),
 (374,fO (nS 2 (cB (nS 18 pB))) "__init__" "UnicodeRangeToken.__init__" 3 .none .none .none (S "tinycss2.ast" 234) (.ref 373) .none 0),
 (384,⟨(.type "dict"),none,.dict #[D P "__module__" 706 (S "tinycss2.ast" 234),D P "__firstlineno__" 710 (I 134 709),D P "__slots__" 713 (.ref 367),D P "type" 715 (S "unicode-range" 714),D P "__init__" 726 (.ref 374),D P "_serialize_to" 734 (.ref 381),D P "__static_attributes__" 737 (.ref 382),D P "end" 739 (.ref 386),D P "start" 741 (.ref 387),D P "__doc__" 742 .none] 4,#[]⟩),
 (385,tO "UnicodeRangeToken" 385 384 [Z "source_column",Z "source_line",Z "end",Z "start"] 360 699 707),
 (386,mO "end" 738 385 3),
 (387,mO "start" 740 385 2),
 (403,cO "__init__" "NumberToken.__init__" 764 149 6 0 398 773),
 (404,fO (nS 2 (cB (nS 19 pB))) "__init__" "NumberToken.__init__" 3 .none .none .none (S "tinycss2.ast" 234) (.ref 403) .none 0),
 (414,⟨(.type "dict"),none,.dict #[D P "__module__" 752 (S "tinycss2.ast" 234),D P "__firstlineno__" 756 (I 145 755),D P "__slots__" 761 (.ref 397),D P "type" 763 (S "number" 762),D P "__init__" 775 (.ref 404),D P "_serialize_to" 783 (.ref 411),D P "__static_attributes__" 788 (.ref 412),D P "int_value" 790 (.ref 416),D P "is_integer" 792 (.ref 417),D P "representation" 794 (.ref 418),D P "value" 796 (.ref 419),D P "__doc__" 797 .none] 6,#[]⟩),
 (415,tO "NumberToken" 415 414 [Z "source_column",Z "source_line",Z "int_value",Z "is_integer",Z "representation",Z "value"] 390 745 753),
 (416,mO "int_value" 789 415 5),
 (417,mO "is_integer" 791 415 4),
 (418,mO "representation" 793 415 3),
 (419,mO "value" 795 415 2),
 (435,cO "__init__" "PercentageToken.__init__" 819 162 6 0 430 828),
 (436,fO (nS 2 (cB (nS 20 pB))) "__init__" "PercentageToken.__init__" 3 .none .none .none (S "tinycss2.ast" 234) (.ref 435) .none 0),
 (446,⟨(.type "dict"),none,.dict #[D P "__module__" 807 (S "tinycss2.ast" 234),D P "__firstlineno__" 811 (I 158 810),D P "__slots__" 816 (.ref 429),D P "type" 818 (S "percentage" 817),D P "__init__" 830 (.ref 436),D P "_serialize_to" 838 (.ref 443),D P "__static_attributes__" 843 (.ref 444),D P "int_value" 845 (.ref 448),D P "is_integer" 847 (.ref 449),D P "representation" 849 (.ref 450),D P "value" 851 (.ref 451),D P "__doc__" 852 .none] 6,#[]⟩),
 (447,tO "PercentageToken" 447 446 [Z "source_column",Z "source_line",Z "int_value",Z "is_integer",Z "representation",Z "value"] 422 800 808),
 (448,mO "int_value" 844 447 5),
 (449,mO "is_integer" 846 447 4),
 (450,mO "representation" 848 447 3),
 (451,mO "value" 850 447 2),
 (467,cO "__init__" "DimensionToken.__init__" 876 175 7 0 462 886),
 (468,fO (nS 2 (cB (nS 21 pB))) "__init__" "DimensionToken.__init__" 3 .none .none .none (S "tinycss2.ast" 234) (.ref 467) .none 0),
 (478,⟨(.type "dict"),none,.dict #[D P "__module__" 862 (S "tinycss2.ast" 234),D P "__firstlineno__" 866 (I 171 865),D P "__slots__" 873 (.ref 461),D P "type" 875 (S "dimension" 874),D P "__init__" 888 (.ref 468),D P "_serialize_to" 896 (.ref 475),D P "__static_attributes__" 903 (.ref 476),D P "int_value" 905 (.ref 480),D P "is_integer" 907 (.ref 481),D P "lower_unit" 909 (.ref 482),D P "representation" 911 (.ref 483),D P "unit" 913 (.ref 484),D P "value" 915 (.ref 485),D P "__doc__" 916 .none] 8,#[]⟩),
 (479,tO "DimensionToken" 479 478 [Z "source_column",Z "source_line",Z "int_value",Z "is_integer",Z "lower_unit",Z "representation",Z "unit",Z "value"] 454 855 863),
 (480,mO "int_value" 904 479 7),
 (481,mO "is_integer" 906 479 6),
 (482,mO "lower_unit" 908 479 5),
 (483,mO "representation" 910 479 4),
 (484,mO "unit" 912 479 3),
 (485,mO "value" 914 479 2),
 (501,cO "__init__" "ParenthesesBlock.__init__" 935 193 4 0 496 942),
 (502,fO (nS 2 (cB (nS 22 pB))) "__init__" "ParenthesesBlock.__init__" 3 .none .none .none (S "tinycss2.ast" 234) (.ref 501) .none 0),
 (512,⟨(.type "dict"),none,.dict #[D P "__module__" 926 (S "tinycss2.ast" 234),D P "__firstlineno__" 930 (I 189 929),D P "__slots__" 932 (.ref 495),D P "type" 934 (S "() block" 933),D P "__init__" 944 (.ref 502),D P "_serialize_to" 952 (.ref 509),D P "__static_attributes__" 954 (.ref 510),D P "content" 956 (.ref 514),D P "__doc__" 957 .none] 3,#[]⟩),
 (513,tO "ParenthesesBlock" 513 512 [Z "source_column",Z "source_line",Z "content"] 488 919 927),
 (514,mO "content" 955 513 2),
 (530,cO "__init__" "SquareBracketsBlock.__init__" 976 203 4 0 525 983),
 (531,fO (nS 2 (cB (nS 23 pB))) "__init__" "SquareBracketsBlock.__init__" 3 .none .none .none (S "tinycss2.ast" 234) (.ref 530) .none 0),
 (541,⟨(.type "dict"),none,.dict #[D P "__module__" 967 (S "tinycss2.ast" 234),D P "__firstlineno__" 971 (I 199 970),D P "__slots__" 973 (.ref 524),D P "type" 975 (S "[] block" 974),D P "__init__" 985 (.ref 531),D P "_serialize_to" 993 (.ref 538),D P "__static_attributes__" 995 (.ref 539),D P "content" 997 (.ref 543),D P "__doc__" 998 .none] 3,#[]⟩),
 (542,tO "SquareBracketsBlock" 542 541 [Z "source_column",Z "source_line",Z "content"] 517 960 968),
 (543,mO "content" 996 542 2),
 (559,cO "__init__" "CurlyBracketsBlock.__init__" 1017 213 4 0 554 1024),
 (560,fO (nS 2 (cB (nS 24 pB))) "__init__" "CurlyBracketsBlock.__init__" 3 .none .none .none (S "tinycss2.ast" 234) (.ref 559) .none 0),
 (570,⟨(.type "dict"),none,.dict #[D P "__module__" 1008 (S "tinycss2.ast" 234),D P "__firstlineno__" 1012 (I 209 1011),D P "__slots__" 1014 (.ref 553),D P "type" 1016 (S "{} block" 1015),D P "__init__" 1026 (.ref 560),D P "_serialize_to" 1034 (.ref 567),D P "__static_attributes__" 1036 (.ref 568),D P "content" 1038 (.ref 572),D P "__doc__" 1039 .none] 3,#[]⟩),
 (571,tO "CurlyBracketsBlock" 571 570 [Z "source_column",Z "source_line",Z "content"] 546 1001 1009),
 (572,mO "content" 1037 571 2),
 (588,cO "__init__" "FunctionBlock.__init__" 1060 223 5 0 583 1068),
 (589,fO (nS 2 (cB (nS 25 pB))) "__init__" "FunctionBlock.__init__" 3 .none .none .none (S "tinycss2.ast" 234) (.ref 588) .none 0),
 (599,⟨(.type "dict"),none,.dict #[D P "__module__" 1049 (S "tinycss2.ast" 234),D P "__firstlineno__" 1053 (I 219 1052),D P "__slots__" 1057 (.ref 582),D P "type" 1059 (S "function" 1058),D P "__init__" 1070 (.ref 589),D P "_serialize_to" 1078 (.ref 596),D P "__static_attributes__" 1082 (.ref 597),D P "arguments" 1084 (.ref 601),D P "lower_name" 1086 (.ref 602),D P "name" 1088 (.ref 603),D P "__doc__" 1089 .none] 5,#[]⟩),
 (600,tO "FunctionBlock" 600 599 [Z "source_column",Z "source_line",Z "arguments",Z "lower_name",Z "name"] 575 1042 1050),
 (601,mO "arguments" 1083 600 4),
 (602,mO "lower_name" 1085 600 3),
 (603,mO "name" 1087 600 2),
 (606,⟨(.type "tuple"),none,.seq #[(S "0" 1094),(S "1" 1095),(S "2" 1096),(S "3" 1097),(S "4" 1098),(S "5" 1099),(S "6" 1100),(S "7" 1101),(S "8" 1102),(S "9" 1103)] 0,#[]⟩),
 (612,cO "_number_end" "_number_end" 1105 236 2 0 607 1114),
 (613,fO (nS 28 pB) "_number_end" "_number_end" 3 .none .none .none (S "tinycss2.tokenizer" 1092) (.ref 612) .none 0),
 (619,cO "_hex_end" "_hex_end" 1117 261 2 0 614 1123),
 (620,fO (nS 29 pB) "_hex_end" "_hex_end" 3 .none .none .none (S "tinycss2.tokenizer" 1092) (.ref 619) .none 0),
 (621,⟨(.type "tuple"),none,.seq #[(.bool false)] 0,#[]⟩),
 (627,cO "parse_component_value_list" "parse_component_value_list" 1126 266 2 0 622 1158),
 (628,fO (nS 30 pB) "parse_component_value_list" "parse_component_value_list" 3 (.ref 621) .none .none (S "tinycss2.tokenizer" 1092) (.ref 627) .none 0),
 (634,cO "_is_name_start" "_is_name_start" 1161 424 2 0 629 1167),
 (635,fO (nS 31 pB) "_is_name_start" "_is_name_start" 3 .none .none .none (S "tinycss2.tokenizer" 1092) (.ref 634) .none 0),
 (641,cO "_is_ident_start" "_is_ident_start" 1170 427 2 0 636 1175),
 (642,fO (nS 32 pB) "_is_ident_start" "_is_ident_start" 3 .none .none .none (S "tinycss2.tokenizer" 1092) (.ref 641) .none 0),
 (648,cO "_consume_ident" "_consume_ident" 1178 436 2 0 643 1187),
 (649,fO (nS 33 pB) "_consume_ident" "_consume_ident" 3 .none .none .none (S "tinycss2.tokenizer" 1092) (.ref 648) .none 0),
 (655,cO "_consume_quoted_string" "_consume_quoted_string" 1190 453 2 0 650 1201),
 (656,fO (nS 34 pB) "_consume_quoted_string" "_consume_quoted_string" 3 .none .none .none (S "tinycss2.tokenizer" 1092) (.ref 655) .none 0),
 (662,cO "_consume_escape" "_consume_escape" 1204 485 2 0 657 1211),
 (663,fO (nS 35 pB) "_consume_escape" "_consume_escape" 3 .none .none .none (S "tinycss2.tokenizer" 1092) (.ref 662) .none 0),
 (669,cO "_consume_url" "_consume_url" 1214 494 2 0 664 1225),
 (670,fO (nS 36 pB) "_consume_url" "_consume_url" 3 .none .none .none (S "tinycss2.tokenizer" 1092) (.ref 669) .none 0),
 (676,cO "_consume_unicode_range" "_consume_unicode_range" 1228 553 2 0 671 1239),
 (677,fO (nS 37 pB) "_consume_unicode_range" "_consume_unicode_range" 3 .none .none .none (S "tinycss2.tokenizer" 1092) (.ref 676) .none 0),
 (678,⟨(.type "list"),none,.seq #[(S "a" 1244),(S "\x0d\n" 1245),(S "(" 1246),(S "1" 1247),(S "\"" 1248),(S "-" 1249),(S "*/" 1250),(S ")" 1251),(S "url(" 1252),(S " " 1253),(S "e3" 1254),(S "'" 1255),(S "/*" 1256),(S "{" 1257),(S "+" 1258),(S "u+1?" 1259),(S "]" 1260),(S ".5" 1261),(S "\n" 1262),(S "#" 1263),(S "-->" 1264),(S "é" 1265),(S "}" 1266),(S "%" 1267),(S "f(" 1268),(S "\x0d" 1269),(S "@" 1270),(S "<!--" 1271),(S "[" 1272),(S "E-2" 1273),(S "|" 1274),(S "𝒳" 1275),(S "=" 1276),(S "U" 1277),(S "--" 1278),(S "\x0c" 1279),(S "*" 1280),(S "b)" 1281),(S "\x00" 1282),(S "\t" 1283),(S ":" 1284),(S "0" 1285),(S "~" 1286),(S "URL( " 1287),(S "\"" 1288),(S "+7" 1289),(S "/" 1290),(S "x" 1291),(S "^=" 1292),(S "?" 1293),(S "U+a0-BF" 1294),(S "'" 1295),(S "||" 1296),(S "_" 1297),(S "\x01" 1298),(S "-1." 1299),(S "$" 1300),(S ";" 1301),(S "\x0d\n" 1302),(S "*/" 1303),(S "]" 1304),(S "}" 1305),(S "\x7f" 1306),(S "!" 1307)] 0,#[]⟩),
 (684,cO "_law_HEX" "_law_HEX" 1311 580 0 0 679 1314),
 (685,fO (nS 41 pB) "_law_HEX" "_law_HEX" 3 .none .none .none (S "law_te0060_04" 1242) (.ref 684) .none 0),
 (691,cO "_law_LONG_SIGNS" "_law_LONG_SIGNS" 1317 582 0 0 686 1320),
 (692,fO (nS 42 pB) "_law_LONG_SIGNS" "_law_LONG_SIGNS" 3 .none .none .none (S "law_te0060_04" 1242) (.ref 691) .none 0),
 (698,cO "_law_OPENERS" "_law_OPENERS" 1323 584 0 0 693 1326),
 (699,fO (nS 43 pB) "_law_OPENERS" "_law_OPENERS" 3 .none .none .none (S "law_te0060_04" 1242) (.ref 698) .none 0),
 (705,cO "_law_CLOSERS" "_law_CLOSERS" 1329 586 0 0 700 1332),
 (706,fO (nS 44 pB) "_law_CLOSERS" "_law_CLOSERS" 3 .none .none .none (S "law_te0060_04" 1242) (.ref 705) .none 0),
 (712,cO "_law_STEPS" "_law_STEPS" 1335 588 0 0 707 1338),
 (713,fO (nS 45 pB) "_law_STEPS" "_law_STEPS" 3 .none .none .none (S "law_te0060_04" 1242) (.ref 712) .none 0),
 (719,cO "_law_mend" "_law_mend" 1341 590 1 0 714 1351),
 (720,fO (nS 46 pB) "_law_mend" "_law_mend" 3 .none .none .none (S "law_te0060_04" 1242) (.ref 719) .none 0),
 (726,cO "_law_name_head" "_law_name_head" 1354 608 1 0 721 1358),
 (727,fO (nS 47 pB) "_law_name_head" "_law_name_head" 3 .none .none .none (S "law_te0060_04" 1242) (.ref 726) .none 0),
 (733,cO "_law_name_sign" "_law_name_sign" 1361 610 1 0 728 1365),
 (734,fO (nS 48 pB) "_law_name_sign" "_law_name_sign" 3 .none .none .none (S "law_te0060_04" 1242) (.ref 733) .none 0),
 (740,cO "_law_opens_name" "_law_opens_name" 1368 612 2 0 735 1375),
 (741,fO (nS 49 pB) "_law_opens_name" "_law_opens_name" 3 .none .none .none (S "law_te0060_04" 1242) (.ref 740) .none 0),
 (747,cO "_law_whole_name" "_law_whole_name" 1378 616 3 0 742 1386),
 (748,fO (nS 50 pB) "_law_whole_name" "_law_whole_name" 3 .none .none .none (S "law_te0060_04" 1242) (.ref 747) .none 0),
 (754,cO "_law_blanks" "_law_blanks" 1389 624 2 0 749 1394),
 (755,fO (nS 51 pB) "_law_blanks" "_law_blanks" 3 .none .none .none (S "law_te0060_04" 1242) (.ref 754) .none 0),
 (761,cO "_law_numeral" "_law_numeral" 1397 628 2 0 756 1408),
 (762,fO (nS 52 pB) "_law_numeral" "_law_numeral" 3 .none .none .none (S "law_te0060_04" 1242) (.ref 761) .none 0),
 (768,cO "_law_count" "_law_count" 1411 651 1 0 763 1417),
 (769,fO (nS 53 pB) "_law_count" "_law_count" 3 .none .none .none (S "law_te0060_04" 1242) (.ref 768) .none 0),
 (775,cO "_law_range_opens" "_law_range_opens" 1420 657 2 0 770 1426),
 (776,fO (nS 54 pB) "_law_range_opens" "_law_range_opens" 3 .none .none .none (S "law_te0060_04" 1242) (.ref 775) .none 0),
 (782,cO "_law_range" "_law_range" 1429 660 2 0 777 1440),
 (783,fO (nS 55 pB) "_law_range" "_law_range" 3 .none .none .none (S "law_te0060_04" 1242) (.ref 782) .none 0),
 (789,cO "_law_address_opens" "_law_address_opens" 1443 685 2 0 784 1448),
 (790,fO (nS 56 pB) "_law_address_opens" "_law_address_opens" 3 .none .none .none (S "law_te0060_04" 1242) (.ref 789) .none 0),
 (796,cO "_law_bad_in_address" "_law_bad_in_address" 1451 687 1 0 791 1456),
 (797,fO (nS 57 pB) "_law_bad_in_address" "_law_bad_in_address" 3 .none .none .none (S "law_te0060_04" 1242) (.ref 796) .none 0),
 (803,cO "_law_good_address" "_law_good_address" 1459 690 1 0 798 1464),
 (804,fO (nS 58 pB) "_law_good_address" "_law_good_address" 3 .none .none .none (S "law_te0060_04" 1242) (.ref 803) .none 0),
 (810,cO "_law_single" "_law_single" 1467 695 2 0 805 1474),
 (811,fO (nS 59 pB) "_law_single" "_law_single" 3 .none .none .none (S "law_te0060_04" 1242) (.ref 810) .none 0),
 (817,cO "_law_sign" "_law_sign" 1477 711 3 0 812 1484),
 (818,fO (nS 60 pB) "_law_sign" "_law_sign" 3 .none .none .none (S "law_te0060_04" 1242) (.ref 817) .none 0),
 (824,cO "_law_mark" "_law_mark" 1487 718 1 0 819 1491),
 (825,fO (nS 61 pB) "_law_mark" "_law_mark" 3 .none .none .none (S "law_te0060_04" 1242) (.ref 824) .none 0),
 (831,cO "_law_number" "_law_number" 1494 720 3 0 826 1505),
 (832,fO (nS 62 pB) "_law_number" "_law_number" 3 .none .none .none (S "law_te0060_04" 1242) (.ref 831) .none 0),
 (838,cO "_law_comment" "_law_comment" 1508 734 3 0 833 1515),
 (839,fO (nS 63 pB) "_law_comment" "_law_comment" 3 .none .none .none (S "law_te0060_04" 1242) (.ref 838) .none 0),
 (845,cO "_law_string" "_law_string" 1518 741 3 0 840 1526),
 (846,fO (nS 64 pB) "_law_string" "_law_string" 3 .none .none .none (S "law_te0060_04" 1242) (.ref 845) .none 0),
 (852,cO "_law_address" "_law_address" 1529 749 3 0 847 1537),
 (853,fO (nS 65 pB) "_law_address" "_law_address" 3 .none .none .none (S "law_te0060_04" 1242) (.ref 852) .none 0),
 (859,cO "_law_fault" "_law_fault" 1540 759 3 0 854 1550),
 (860,fO (nS 66 pB) "_law_fault" "_law_fault" 3 .none .none .none (S "law_te0060_04" 1242) (.ref 859) .none 0),
 (866,cO "_law_name" "_law_name" 1553 778 3 0 861 1564),
 (867,fO (nS 67 pB) "_law_name" "_law_name" 3 .none .none .none (S "law_te0060_04" 1242) (.ref 866) .none 0),
 (873,cO "_law_node" "_law_node" 1567 803 4 0 868 1578),
 (874,fO (nS 68 pB) "_law_node" "_law_node" 3 .none .none .none (S "law_te0060_04" 1242) (.ref 873) .none 0),
 (880,cO "_law_inside" "_law_inside" 1581 834 5 0 875 1590),
 (881,fO (nS 69 pB) "_law_inside" "_law_inside" 3 .none .none .none (S "law_te0060_04" 1242) (.ref 880) .none 0),
 (887,cO "_law_row" "_law_row" 1593 839 5 0 882 1605),
 (888,fO (nS 70 pB) "_law_row" "_law_row" 3 .none .none .none (S "law_te0060_04" 1242) (.ref 887) .none 0),
 (894,cO "law" "law" 1608 856 1 0 889 1616),
 (895,fO (nS 71 pB) "law" "law" 3 .none .none .none (S "law_te0060_04" 1242) (.ref 894) .none 0)]
noncomputable def HX(P:Params):Frag :=(29,⟨.none,none,.fields #[],#[]⟩) ::(36,⟨.none,none,.fields #[],#[]⟩) ::HK P
noncomputable def hkA:List Addr :=[29,36,2,3,4,25,26,27,33,34,40,41,55,56,73,74,75,76,92,93,103,104,105,106,122,123,133,134,135,151,152,162,163,164,180,181,205,206,207,223,224,234,235,236,237,253,254,264,265,266,267,283,284,294,295,296,297,313,314,324,325,326,327,343,344,354,355,356,357,373,374,384,385,386,387,403,404,414,415,416,417,418,419,435,436,446,447,448,449,450,451,467,468,478,479,480,481,482,483,484,485,501,502,512,513,514,530,531,541,542,543,559,560,570,571,572,588,589,599,600,601,602,603,606,612,613,619,620,621,627,628,634,635,641,642,648,649,655,656,662,663,669,670,676,677,678,684,685,691,692,698,699,705,706,712,713,719,720,726,727,733,734,740,741,747,748,754,755,761,762,768,769,775,776,782,783,789,790,796,797,803,804,810,811,817,818,824,825,831,832,838,839,845,846,852,853,859,860,866,867,873,874,880,881,887,888,894,895]
theorem zjK(P:Params):hkA=(HX P).map (·.1) :=by kernel_rfl
noncomputable def mkT(l:List Obj):BT :=(l.foldl (λ(p:BT×Nat) o=>(p.1.ins p.2 o,p.2+1)) (.nil,0)).1
noncomputable def trA(P:Params):BT :=mkT [boot_o_0 P,boot_o_1 P,boot_o_2 P,boot_o_3 P,boot_o_4 P,boot_o_5 P,boot_o_6 P,boot_o_7 P,boot_o_8 P,boot_o_9 P,boot_o_10 P,⟨(.type "tuple"),none,.seq #[] 0,#[]⟩,⟨.none,none,.fields #[],#[]⟩,⟨(.type "code"),none,.fields #[(S "<module>" 182),(S "<module>" 183),(S "/claim/cut.py" 184),(I 1 0),(I 0 0),(I 0 0),(I 0 0),(I 0 0),(.ref 11),(.bool false),(I 181 0),(.ref 12),.none,.none,.none,.none,(I 185 0),(I 1 0),(S "/claim/cut.py" 186)],#[]⟩,⟨(.type "frame"),none,.plain,#[some (.ref 13),some (.ref 3),some (.ref 3),none,some (S "__main__" 164),none,some (.ref 0)]⟩]
noncomputable def trM(P:Params):BT :=mkT [boot_o_0 P,boot_o_1 P,boot_o_2 P,⟨(.type "dict"),none,.dict #[D P "__name__" 165 (S "tinycss2.serializer" 202),D P "__doc__" 166 .none,D P "__package__" 167 .none,D P "__loader__" 168 (.builtin "__main__.__loader__#opaque"),D P "__spec__" 169 .none,D P "__annotations__" 170 (.ref 6),D P "__builtins__" 171 (.ref 4),D P "__file__" 173 (S "/claim/cut.py" 172),D P "__cached__" 174 .none,D P "_wall" 193 (.ref 21),D P "ascii_lower" 201 (.ref 26),D P "_replacement_string_value" 219 (.ref 27)] 12,#[]⟩,boot_o_4 P,boot_o_5 P,boot_o_6 P,boot_o_7 P,boot_o_8 P,boot_o_9 P,boot_o_10 P,⟨(.type "tuple"),none,.seq #[] 0,#[]⟩,⟨.none,none,.fields #[(I 1 0),(I 0 0),(.ref 20),(I 5 0),(I 0 0),(.ref 25)],#[]⟩,⟨(.type "code"),none,.fields #[(S "<module>" 182),(S "<module>" 183),(S "/claim/cut.py" 184),(I 1 0),(I 0 0),(I 0 0),(I 0 0),(I 0 0),(.ref 11),(.bool false),(I 181 0),(.ref 12),.none,.none,.none,.none,(I 185 0),(I 1 0),(S "/claim/cut.py" 186)],#[]⟩,⟨(.type "frame"),none,.plain,#[some (.ref 13),some (.ref 3),some (.ref 3),none,some (S "__main__" 164),none,some (.ref 0)]⟩,⟨(.type "tuple"),none,.seq #[] 0,#[]⟩,⟨.none,none,.fields #[],#[]⟩,⟨(.type "tuple"),none,.seq #[(S "k" 190)] 0,#[]⟩,⟨(.type "tuple"),none,.seq #[] 0,#[]⟩,kO (nS 0 pB) "_wall" "_wall" 0 .none .none .none .none .none .none 0,⟨(.type "code"),none,.fields #[(S "_wall" 187),(S "_wall" 188),(S "/claim/cut.py" 189),(I 1 0),(I 1 0),(I 0 0),(I 0 0),(I 3 0),(.ref 15),(.bool true),(I 181 0),(.ref 16),.none,(.ref 17),(.ref 18),(.ref 19),(I 191 0),(I 1 0),(S "/claim/cut.py" 192)],#[]⟩,fO (nS 0 pB) "_wall" "_wall" 3 .none .none .none (S "__main__" 164) (.ref 20) .none 0,⟨(.type "tuple"),none,.seq #[] 0,#[]⟩,⟨.none,none,.fields #[],#[]⟩,kO (nS 2 pB) "ascii_lower" "ascii_lower" 0 .none .none .none .none .none .none 0,⟨(.type "code"),none,.fields #[(S "ascii_lower" 196),(S "ascii_lower" 197),(S "/claim/cut.py" 198),(I 5 0),(I 1 0),(I 0 0),(I 0 0),(I 3 0),(.ref 22),(.bool true),(I 181 0),(.ref 23),.none,.none,.none,(.ref 24),(I 199 0),(I 5 0),(S "/claim/cut.py" 200)],#[]⟩,fO (nS 2 pB) "ascii_lower" "ascii_lower" 3 .none .none .none (S "tinycss2.ast" 194) (.ref 25) .none 0,⟨(.type "dict"),none,.dict #[D P "\"" 204 (S "\\\"" 205),D P "\\" 206 (S "\\\\" 207),D P "\n" 208 (S "\\A " 209),D P "\x0d" 210 (S "\\D " 211),D P "\x0c" 212 (S "\\C " 213)] 5,#[]⟩]
noncomputable def zky:Env :={scope :=pw.main.scope,locals :=mainNs,globals :=mainNs,cells :=[],code :=(.ref 13),frame :=some 14}
noncomputable def cE:Code :=.body (behindTheImports pw) zky
noncomputable def p0:Pos :=default
noncomputable def sA(w:World)(os:OsState):SharedT :=⟨trA w.params,15,{},#[],{},187,os⟩
noncomputable def sM(w:World)(os:OsState):SharedT :=⟨trM w.params,28,{},#[],{},220,os⟩
noncomputable def pM:Pos :=⟨8,0,8,25⟩
noncomputable abbrev st1:List Stmt :=(behindTheImports pw).take 5
noncomputable abbrev st2:List Stmt :=(behindTheImports pw).drop 5
noncomputable abbrev tb :=treeTable
theorem zia{p:Program}{w:World}{n₀:Nat}{ann:Option Value}{c:Code}{ps:Pos}{env:Env}{s:Shared}:topRun treeTable p w n₀ ann 2 s (restOf [] env c ps [topFrame p0])=some s :=by
 rfl
theorem zhQ{p q:Program}{loose:List Str}{Xt:Shared ->Bool}{α:Type}{Yf:Shared ->α}{Ya:World ->α}{N:Nat}{g0:Bool}{H₀:Params ->Heap}{gs₀:Array GenState}{d₀:Drawn}{k₀:Nat}{m₀:Nat}{ann:Option Value}{M:Nat}
  (open_:∀w:World,(fencedOpening treeTable p w N).map (λs=>(s.heap,s.gens,s.drawn,s.toks))=some (H₀ w.params,gs₀,d₀,k₀))
  (size:∀w:World,((H₀ w.params).isNs mainGlobals&&gs₀.size==0,(H₀ w.params).objs.size,(H₀ w.params).nsMap mainGlobals "__annotations__")=(true,m₀,ann))
  (run:∀(w:World) (os:OsState),∃s,topRun treeTable p w m₀ ann M ⟨H₀ w.params,gs₀,d₀,k₀,os⟩ (topStub p)=some s/\
   ((staticsOk (importedModules p.main.body) (H₀ w.params) s.heap&&namesBound p s.heap&&gensDone s&&laidKept (H₀ w.params) s.heap),openSeen q loose (importedModules p.main.body) Xt g0 s,Yf s)=(true,openGood q loose,Ya w)) (le:Nat.ble M N=true):LeftO p q loose Xt Yf Ya N g0:=λw=>by
 obtain⟨⟨h,gs,d,k,os⟩,e,e'⟩:=de.mp (open_ w)
 obtain⟨rfl,rfl,rfl,rfl⟩:h=H₀ w.params/\gs=gs₀/\d=d₀/\k=k₀:=by simpa using e'
 obtain⟨z1,z2,z3⟩:_/\_/\_:=by simpa only[Prod.mk.injEq]using size w
 obtain⟨s,r,l⟩:=run w os
 obtain⟨l1,l2,l3⟩:_/\_/\_:=by simpa only[Prod.mk.injEq]using l
 have r:=topRun_mono (N - M) _ _ _ _ r
 rw[show M+(N - M)=N by have:=gj le;omega]at r
 have t:topFrom treeTable p w N ⟨H₀ w.params,gs,d,k,os⟩=some s:=by
  unfold topFrom
  dsimp only
  rw[z1,z2,z3,r]
  show(match staticsOk (importedModules p.main.body) (H₀ w.params) s.heap&&namesBound p s.heap&&gensDone s&&laidKept (H₀ w.params) s.heap with |true=>_|false=>_)=_
  rw[l1]
 unfold openEnds
 rw[e]
 show(topFrom treeTable p w N _).map _=_
 rw[t]
 exact congrArg some (Prod.ext l2 l3)
noncomputable def ziR:Option Value:=some (.ref 6)
noncomputable abbrev qL:Program:=view pw [71]
noncomputable def Yf0(s:Shared):List (Option Obj):=hkA.map s.heap.get?
noncomputable def Ya0(w:World):List (Option Obj):=(HX w.params).map λp=>some p.2
noncomputable def sJ:List Str:=["_wall","ascii_lower","_replacement_string_value","serialize_string_value","serialize_url","Node","ParseError","Comment","WhitespaceToken","LiteralToken","IdentToken","AtKeywordToken","HashToken","StringToken","URLToken","UnicodeRangeToken","NumberToken","PercentageToken","DimensionToken","ParenthesesBlock","SquareBracketsBlock","CurlyBracketsBlock","FunctionBlock","_DIGITS","_number_end","_hex_end","parse_component_value_list","_is_name_start","_is_ident_start","_consume_ident","_consume_quoted_string","_consume_escape","_consume_url","_consume_unicode_range","_law_PIECES","_law_LETTERS","_law_HEX","_law_LONG_SIGNS","_law_OPENERS","_law_CLOSERS","_law_STEPS","_law_mend","_law_name_head","_law_name_sign","_law_opens_name","_law_whole_name","_law_blanks","_law_numeral","_law_count","_law_range_opens","_law_range","_law_address_opens","_law_bad_in_address","_law_good_address","_law_single","_law_sign","_law_mark","_law_number","_law_comment","_law_string","_law_address","_law_fault","_law_name","_law_node","_law_inside","_law_row"].map ae
noncomputable def Xt0(s:Shared):Bool:=recOk (RowW.records (OpenRow.toRowW rwL.row)) s
theorem zkO(N:Nat)(h:Nat.ble 600 N=true):∀w:World,(fencedOpening treeTable pw w N).map (λs=>(s.heap,s.gens,s.drawn,s.toks))=some (boot_heap w.params,#[],boot_drawn,boot_toks):=
 boot_open ∅ h (λs=>by rfl)
theorem zkK(w:World):((boot_heap w.params).isNs mainGlobals&&(#[]:Array GenState).size==0,(boot_heap w.params).objs.size,(boot_heap w.params).nsMap mainGlobals "__annotations__")=(true,11,ziR):=by kernel_rfl
theorem pre0(w:World)(os:OsState):topGo treeTable pw w 11 ziR 12 ⟨boot_heap w.params,#[],boot_drawn,boot_toks,os⟩ (topStub pw)=some ((sA w os).abs,⟨denote treeTable cE,cE,p0,[topFrame p0]⟩):=by
 rw[PySem.W.Fast.te15667345088766844465,PySem.W.Fast.te14364793385576792824,PySem.W.Fast.te11892475500146522536]
 kernel_rfl
theorem zke(w:World)(os:OsState):segRun treeTable pw w 11 ziR 1 1 (sA w os).abs (blockOf (behindTheImports pw) zky cE p0 [topFrame p0])=some (.next,(sA w os).abs,cE,p0):=by
 rw[PySem.W.Fast.te14374325043358763698,PySem.W.Fast.te14364793385576792824]
 kernel_rfl
theorem zjN(w:World)(os:OsState):segRunT treeTable pw w 11 ziR 1 159 (sA w os) (piecesOf st1 zky cE p0 [topFrame p0])=some (.next,sM w os,cE,pM):=by
 rw[PySem.W.Fast.te10110043849684766642,PySem.W.Fast.te14364793385576792824]
 revert w
 refine byRow2 "special-get-raises" (λw=>?_) (λw=>?_)<;>kernel_rfl
noncomputable def zkQ(w:World)(s:Shared):=((staticsOk (importedModules pw.main.body) (boot_heap w.params) s.heap&&namesBound pw s.heap&&gensDone s&&laidKept (boot_heap w.params) s.heap),openSeen qL sJ (importedModules pw.main.body) Xt0 true s,Yf0 s)
theorem zkW(w:World)(os:OsState):(segRunT treeTable pw w 11 ziR 1 7698 (sM w os) (piecesOf st2 zky cE pM [topFrame p0])).map (λr=>(r.1,r.2.2.1,zkQ w r.2.1.abs))=some (.next,cE,true,openGood qL sJ,Ya0 w):=by
 unfold zkQ
 rw[PySem.W.Fast.te10110043849684766642,PySem.W.Fast.te14364793385576792824,PySem.W.Fast.te4187177175401517315]
 kernel_rfl
theorem zjc:behindTheImports pw=st1++(st2++[]):=by rw[ck];exact(ef _ _).symm
theorem run0(w:World)(os:OsState):∃s,topRun treeTable pw w 11 ziR (12+(1+(159+(7698+2)))) ⟨boot_heap w.params,#[],boot_drawn,boot_toks,os⟩ (topStub pw)=some s/\zkQ w s=(true,openGood qL sJ,Ya0 w):=by
 obtain⟨⟨f,s',c,p⟩,e,e'⟩:=de.mp (zkW w os)
 obtain⟨rfl,e'⟩:=Prod.mk.inj e'
 obtain⟨h1,h2⟩:=Prod.mk.inj e'
 dsimp only at h1 h2
 subst h1
 refine⟨s'.abs,go_top (pre0 w os) (piece_block (zke w os) ?_),h2⟩
 rw[zjc]
 exact piece_app (segRun_of (zjN w os)) (piece_app (segRun_of e) zia)
theorem zkV:LeftO (OpenRow.toRowW rwL.row).prog qL sJ Xt0 Yf0 Ya0 8000:=
 zhQ (p:=pw) (zkO 8000 (by decide+kernel)) zkK run0 (by decide+kernel)
noncomputable def zjD:Stmt->DefRec
 |.FunctionDef n a b _ _ _ s _ _ p=>⟨n,a,b,s,p⟩
 |_=>⟨Z "",⟨[],[],none,[],[],none,[]⟩,[],⟨.function,[],false,false,[]⟩,default⟩
noncomputable def dL:DefRec:=zjD (nS 71 pB)
theorem hd(call:WalkO qL sJ (λ_ _=>True) (λw h=>(HX w.params).In h) (OpenRow.toRowW rwL.row) dL [] λf vs=>PySem.call f vs):rwL.Holds:=
 holds_law (by rw[PySem.W.Fast.te9446332074065402090];kernel_rfl) λsaid=>holds_open (hRf:=λs e=>recFacts_of e) zkV (λw s e=>Frag.in_of (zjK _) e) (λw h h' x k=>x.keeps k) (λ_ _=>trivial) (λ_ _ _ _ _=>trivial)
  ∅ ∅ ∅ (by rfl) said ∅ ⟨rfl,rfl,rfl,rfl,rfl,by decide+kernel⟩ ⟨[.list [.int 3,.int 1]],by kernel_rfl,by kernel_rfl⟩ call
end MH
end
section
open PySem PySem.W PyProof.Rows
set_option Elab.async false
set_option autoImplicit false
namespace Mine
/-! eliminations in one step:they keep the proofs' terms small -/
theorem x1{A:Type}{P:A->Prop}{Q:Prop}(k:∀a,P a->Q):(∃a,P a)->Q:=λh=>h.elim k
theorem x2{A B:Type}{P:A->B->Prop}{Q:Prop}(k:∀a b,P a b->Q):(∃a b,P a b)->Q:=x1 λa=>x1 (k a)
theorem x3{A B C:Type}{P:A->B->C->Prop}{Q:Prop}(k:∀a b c,P a b c->Q):(∃a b c,P a b c)->Q:=x1 λa=>x2 (k a)
theorem x4{A B C D:Type}{P:A->B->C->D->Prop}{Q:Prop}(k:∀a b c d,P a b c d->Q):(∃a b c d,P a b c d)->Q:=x1 λa=>x3 (k a)
theorem x5{A B C D E:Type}{P:A->B->C->D->E->Prop}{Q:Prop}(k:∀a b c d e,P a b c d e->Q):(∃a b c d e,P a b c d e)->Q:=x1 λa=>x4 (k a)
theorem x6{A B C D E F:Type}{P:A->B->C->D->E->F->Prop}{Q:Prop}(k:∀a b c d e f,P a b c d e f->Q):(∃a b c d e f,P a b c d e f)->Q:=x1 λa=>x5 (k a)
theorem x7{A B C D E F G:Type}{P:A->B->C->D->E->F->G->Prop}{Q:Prop}(k:∀a b c d e f g,P a b c d e f g->Q):(∃a b c d e f g,P a b c d e f g)->Q:=x1 λa=>x6 (k a)
theorem a2{A B Z:Prop}(k:A->B->Z):A/\B->Z:=λh=>k h.1 h.2
theorem a3{A B C Z:Prop}(k:A->B->C->Z):A/\B/\C->Z:=a2 λa=>a2 (k a)
theorem a4{A B C D Z:Prop}(k:A->B->C->D->Z):A/\B/\C/\D->Z:=a2 λa=>a3 (k a)
theorem a5{A B C D E Z:Prop}(k:A->B->C->D->E->Z):A/\B/\C/\D/\E->Z:=a2 λa=>a4 (k a)
theorem a6{A B C D E F Z:Prop}(k:A->B->C->D->E->F->Z):A/\B/\C/\D/\E/\F->Z:=a2 λa=>a5 (k a)
theorem a7{A B C D E F G Z:Prop}(k:A->B->C->D->E->F->G->Z):A/\B/\C/\D/\E/\F/\G->Z:=a2 λa=>a6 (k a)
theorem a8{A B C D E F G ab Z:Prop}(k:A->B->C->D->E->F->G->ab->Z):A/\B/\C/\D/\E/\F/\G/\ab->Z:=a2 λa=>a7 (k a)
theorem e1{A:Type}{P P':A->Prop}(k:∀a,P a->P' a):(∃a,P a)->∃a,P' a:=x1 λa h=>⟨a,k a h⟩
theorem e2{A B:Type}{P P':A->B->Prop}(k:∀a b,P a b->P' a b):(∃a b,P a b)->∃a b,P' a b:=e1 λa=>e1 (k a)
theorem e3{A B C:Type}{P P':A->B->C->Prop}(k:∀a b c,P a b c->P' a b c):(∃a b c,P a b c)->∃a b c,P' a b c:=e1 λa=>e2 (k a)
theorem e4{A B C D:Type}{P P':A->B->C->D->Prop}(k:∀a b c d,P a b c d->P' a b c d):(∃a b c d,P a b c d)->∃a b c d,P' a b c d:=e1 λa=>e3 (k a)
theorem e5{A B C D E:Type}{P P':A->B->C->D->E->Prop}(k:∀a b c d e,P a b c d e->P' a b c d e):(∃a b c d e,P a b c d e)->∃a b c d e,P' a b c d e:=e1 λa=>e4 (k a)
theorem e6{A B C D E F:Type}{P P':A->B->C->D->E->F->Prop}(k:∀a b c d e f,P a b c d e f->P' a b c d e f):(∃a b c d e f,P a b c d e f)->∃a b c d e f,P' a b c d e f:=e1 λa=>e5 (k a)
theorem e7{A B C D E F G:Type}{P P':A->B->C->D->E->F->G->Prop}(k:∀a b c d e f g,P a b c d e f g->P' a b c d e f g):(∃a b c d e f g,P a b c d e f g)->∃a b c d e f g,P' a b c d e f g:=e1 λa=>e6 (k a)
theorem c1{A Z Z':Prop}(k:Z->Z')(h:A/\Z):A/\Z':=⟨h.1,k h.2⟩
theorem c2{A B Z Z':Prop}(k:Z->Z')(h:A/\B/\Z):A/\B/\Z':=c1 (c1 k) h
theorem c3{A B C Z Z':Prop}(k:Z->Z')(h:A/\B/\C/\Z):A/\B/\C/\Z':=c1 (c2 k) h
theorem c4{A B C D Z Z':Prop}(k:Z->Z')(h:A/\B/\C/\D/\Z):A/\B/\C/\D/\Z':=c1 (c3 k) h
theorem c5{A B C D E Z Z':Prop}(k:Z->Z')(h:A/\B/\C/\D/\E/\Z):A/\B/\C/\D/\E/\Z':=c1 (c4 k) h
theorem c6{A B C D E F Z Z':Prop}(k:Z->Z')(h:A/\B/\C/\D/\E/\F/\Z):A/\B/\C/\D/\E/\F/\Z':=c1 (c5 k) h
theorem zfV{a b:Bool}(h:a=true)(k:b=true):(a&&b)=true:=ag.mpr ⟨h,k⟩
theorem ex2{A B:Type}{P:A->B->Prop}(a:A)(b:B)(h:P a b):∃a b,P a b:=⟨a,b,h⟩
theorem ex3{A B C:Type}{P:A->B->C->Prop}(a:A)(b:B)(c:C)(h:P a b c):∃a b c,P a b c:=⟨a,b,c,h⟩
theorem ex4{A B C D:Type}{P:A->B->C->D->Prop}(a:A)(b:B)(c:C)(d:D)(h:P a b c d):∃a b c d,P a b c d:=⟨a,b,c,d,h⟩
theorem ex5{A B C D E:Type}{P:A->B->C->D->E->Prop}(a:A)(b:B)(c:C)(d:D)(e:E)(h:P a b c d e):∃a b c d e,P a b c d e:=⟨a,b,c,d,e,h⟩
theorem ex6{A B C D E F:Type}{P:A->B->C->D->E->F->Prop}(a:A)(b:B)(c:C)(d:D)(e:E)(f:F)(h:P a b c d e f):∃a b c d e f,P a b c d e f:=⟨a,b,c,d,e,f,h⟩
theorem ex7{A B C D E F G:Type}{P:A->B->C->D->E->F->G->Prop}(a:A)(b:B)(c:C)(d:D)(e:E)(f:F)(g:G)(h:P a b c d e f g):∃a b c d e f g,P a b c d e f g:=⟨a,b,c,d,e,f,g,h⟩
theorem lY{z g:Nat}(h:g<z):z - g=z - (g+1)+1:=(Nat.succ_pred_eq_of_pos (Nat.sub_pos_of_lt h)).symm
inductive DV where
 |s (x:List Nat)|i (n:Int)
inductive PV where
 |none|bool (b:Bool)|int (i:Int)|str (x:List Nat)
 |tup (xs:List PV)|list (xs:List PV)|inst (c:Nat) (fs:List PV)
 |rng (lo hi:Int)|ptr (a:Nat)|dict (b:Bool) (es:List (List (List Nat)×DV))
 deriving Inhabited
inductive Fl where
 |next |brk|cont|ret (v:PV)
inductive Cell where
 |lst (xs:List PV)|ins (c:Nat) (fs:List (Option PV))
noncomputable abbrev fD:=Str->Option PV
noncomputable abbrev Kn:=Str->Option NameKind
structure St where
 ρ:fD
 σ:Nat->Option Cell
noncomputable section
noncomputable def upd(ρ:fD)(x:Str)(v:PV):fD:=λy=>if y=x then some v else ρ y
noncomputable def bE(σ:Nat->Option Cell)(a:Nat)(c:Cell):Nat->Option Cell:=λb=>if b=a then some c else σ b
noncomputable abbrev Fn:=List PV->(PV->Prop)->Prop
structure Ctx where
 val:Str->Option PV
 fn:Str->Option Fn
 bi:Str->Bool
 slot:Nat->Str->Option Nat
 cval:Nat->Str->Option PV
 mutL:Nat->Bool
 cls:Str->Option Fn
 ini:Bool
/-! what a value is,as a step -/
noncomputable def l5{α:Type}(o:Option α)(d:Prop)(K:α->Prop):Prop:=Option.casesOn (motive:=λ_=>Prop) o d K
noncomputable def opt{α:Type}(o:Option α)(K:α->Prop):Prop:=l5 o False K
noncomputable def pvc{α:Sort _}(d:α)(n:α)(b:Bool->α)(i:Int->α)(s:List Nat->α)(t l:List PV->α)(p:Nat->α)(v:PV):α:=PV.casesOn (motive_1:=λ_=>α) v n b i s t l (λ_ _=>d) (λ_ _=>d) p λ_ _=>d
noncomputable def asI(v:PV)(K:Int->Prop):Prop:=pvc False False (λ_=>False) K (λ_=>False) (λ_=>False) (λ_=>False) (λ_=>False) v
noncomputable def asS(v:PV)(K:List Nat->Prop):Prop:=pvc False False (λ_=>False) (λ_=>False) K (λ_=>False) (λ_=>False) (λ_=>False) v
noncomputable def asT(v:PV)(K:List PV->Prop):Prop:=pvc False False (λ_=>False) (λ_=>False) (λ_=>False) K (λ_=>False) (λ_=>False) v
noncomputable def asL(v:PV)(K:List PV->Prop):Prop:=pvc False False (λ_=>False) (λ_=>False) (λ_=>False) (λ_=>False) K (λ_=>False) v
noncomputable def asP(v:PV)(K:Nat->Prop):Prop:=pvc False False (λ_=>False) (λ_=>False) (λ_=>False) (λ_=>False) (λ_=>False) K v
noncomputable def one{α:Type}(xs:List α)(K:α->Prop):Prop:=List.casesOn (motive:=λ_=>Prop) xs False λa r=>List.casesOn (motive:=λ_=>Prop) r (K a) λ_ _=>False
noncomputable def two{α:Type}(xs:List α)(K:α->α->Prop):Prop:=List.casesOn (motive:=λ_=>Prop) xs False λa r=>one r (K a)
noncomputable def zbm{α:Type}(xs:List α)(K:α->α->α->Prop):Prop:=List.casesOn (motive:=λ_=>Prop) xs False λa r=>two r (K a)
theorem gK{α:Type}{o:Option α}{A A':Prop}{K K':α->Prop}(h:A->A')(k:∀a,K a->K' a)(x:l5 o A K):l5 o A' K':=by cases o;exact h x;exact k _ x
theorem iE{α:Type}{A:Prop}{K:α->Prop}:l5 none A K=A:=rfl
theorem iW{α:Type}{a:α}{K:α->Prop}:opt (some a) K=K a:=rfl
theorem dP{α:Type}{o:Option α}{K:α->Prop}(h:opt o K):∃a,o=some a/\K a:=by cases o;exact h.elim;exact⟨_,rfl,h⟩
theorem bY{α:Type}{o:Option α}{K K':α->Prop}(k:∀a,K a->K' a)(h:opt o K):opt o K':=by cases o;exact h;exact k _ h
theorem dH{v:PV}{K:Int->Prop}(h:asI v K):∃i,v=.int i/\K i:=by cases v<;>first |exact⟨_,rfl,h⟩|exact bq h
theorem dW{v:PV}{K:List Nat->Prop}(h:asS v K):∃i,v=.str i/\K i:=by cases v<;>first |exact⟨_,rfl,h⟩|exact bq h
theorem zg7{v:PV}{K:List PV->Prop}(h:asT v K):∃i,v=.tup i/\K i:=by cases v<;>first |exact⟨_,rfl,h⟩|exact bq h
theorem y2{v:PV}{K:List PV->Prop}(h:asL v K):∃i,v=.list i/\K i:=by cases v<;>first |exact⟨_,rfl,h⟩|exact bq h
theorem tN{v:PV}{K:Nat->Prop}(h:asP v K):∃i,v=.ptr i/\K i:=by cases v<;>first |exact⟨_,rfl,h⟩|exact bq h
theorem jM{α:Type}{xs:List α}{K:α->Prop}(h:one xs K):∃a,xs=[a]/\K a:=by
 cases xs with
 |nil=>exact bq h
 |cons a r=>cases r;exact⟨_,rfl,h⟩;exact bq h
theorem oB{α:Type}{xs:List α}{K:α->α->Prop}(h:two xs K):∃a b,xs=[a,b]/\K a b:=by
 cases xs with
 |nil=>exact bq h
 |cons a r=>obtain⟨b,e,k⟩:=jM h;exact ex2 a b ⟨by rw[e],k⟩
theorem pE{α:Type}{xs:List α}{K:α->α->α->Prop}(h:zbm xs K):∃a b c,xs=[a,b,c]/\K a b c:=by
 cases xs with
 |nil=>exact bq h
 |cons a r=>obtain⟨b,c,e,k⟩:=oB h;exact ex3 a b c ⟨by rw[e],k⟩
theorem bF{v:PV}{K K':Int->Prop}(k:∀i,K i->K' i)(h:asI v K):asI v K':=by obtain⟨i,rfl,h⟩:=dH h;exact k i h
theorem b3{v:PV}{K K':List Nat->Prop}(k:∀i,K i->K' i)(h:asS v K):asS v K':=by obtain⟨i,rfl,h⟩:=dW h;exact k i h
theorem zfU{v:PV}{K K':List PV->Prop}(k:∀i,K i->K' i)(h:asT v K):asT v K':=by obtain⟨i,rfl,h⟩:=zg7 h;exact k i h
theorem rB{v:PV}{K K':List PV->Prop}(k:∀i,K i->K' i)(h:asL v K):asL v K':=by obtain⟨i,rfl,h⟩:=y2 h;exact k i h
theorem mF{v:PV}{K K':Nat->Prop}(k:∀i,K i->K' i)(h:asP v K):asP v K':=by obtain⟨i,rfl,h⟩:=tN h;exact k i h
theorem fZ{α:Type}{xs:List α}{K K':α->Prop}(k:∀a,K a->K' a)(h:one xs K):one xs K':=by obtain⟨a,rfl,h⟩:=jM h;exact k a h
theorem lX{α:Type}{xs:List α}{K K':α->α->Prop}(k:∀a b,K a b->K' a b)(h:two xs K):two xs K':=by obtain⟨a,b,rfl,h⟩:=oB h;exact k a b h
theorem oC{α:Type}{xs:List α}{K K':α->α->α->Prop}(k:∀a b c,K a b c->K' a b c)(h:zbm xs K):zbm xs K':=by obtain⟨a,b,c,rfl,h⟩:=pE h;exact k a b c h
noncomputable def gP(c:Option Cell):Option (List PV):=Option.casesOn (motive:=λ_=>Option (List PV)) c none λc=>Cell.casesOn (motive:=λ_=>Option (List PV)) c some λ_ _=>none
noncomputable def der(σ:Nat->Option Cell)(v:PV):PV:=pvc v v (λ_=>v) (λ_=>v) (λ_=>v) (λ_=>v) (λ_=>v) (λa=>Option.casesOn (motive:=λ_=>PV) (gP (σ a)) v .list) v
noncomputable def uH(v:PV):Option Bool:=pvc none (some false) some (λi=>some (decide (i≠0))) (λx=>some (!x.isEmpty)) (λxs=>some (!xs.isEmpty)) (λxs=>some (!xs.isEmpty)) (λ_=>none) v
noncomputable def jF(n:Nat)(i:Int):Nat:=if i<0 then(i+n).toNat else min i.toNat n
noncomputable def slc{α:Type}(xs:List α)(lo hi:Option Int):List α:=
 (xs.drop ((lo.map (jF xs.length)).getD 0)).take ((hi.map (jF xs.length)).getD xs.length - (lo.map (jF xs.length)).getD 0)
noncomputable def sU{α:Type}(xs:List α)(i:Int):Option α:=
 if i<0 then(if 0<=i+xs.length then xs[(i+xs.length).toNat]? else none)else xs[i.toNat]?
noncomputable def uA(x:List Nat):List Nat->Bool
 |[]=>x.isEmpty
 |c ::y=>x.isPrefixOf (c ::y)||uA x y
noncomputable def strP(v:PV):Option (List Nat):=pvc none none (λ_=>none) (λ_=>none) some (λ_=>none) (λ_=>none) (λ_=>none) v
noncomputable def fN:List PV->Option (List (List Nat))
 |[]=>some []
 |v ::r=>(strP v).bind λx=>(fN r).map (x ::·)
noncomputable def bU:Nat:=16777216
noncomputable def zkn(a b:PV)(K:PV->Prop):Prop:=
 pvc False False (λ_=>False) (λx=>asI b λy=>K (.int (x+y))) (λx=>asS b λy=>x.length+y.length<=bU/\K (.str (x++y))) (λ_=>False) (λ_=>False) (λ_=>False) a
noncomputable def addL(a b:PV)(K:PV->Prop):Prop:=asL a λx=>asL b λy=>x.length+y.length<=bU/\K (.list (x++y))
noncomputable def zkv(a b:PV)(K:PV->Prop):Prop:=asI a λx=>asI b λy=>K (.int (x - y))
noncomputable def mulP(a b:PV)(K:PV->Prop):Prop:=
 pvc False False (λ_=>False) (λx=>asI b λy=>Builtin.Int.intBits y<=64/\K (.int (x*y))) (λx=>asI b λy=>0<=y/\y<=1000/\x.length=1/\K (.str (au y.toNat (x.headD 0)))) (λ_=>False) (λ_=>False) (λ_=>False) a
noncomputable def modP(a b:PV)(K:PV->Prop):Prop:=asI a λx=>asI b λy=>0<y/\K (.int (x%y))
noncomputable def opK{α:Sort _}(add sub mul mod pow fdv d:α)(op:Operator):α:=Operator.casesOn (motive:=λ_=>α) op add sub mul d d mod pow d d d d d fdv
noncomputable def isL(v:PV):Bool:=pvc false false (λ_=>false) (λ_=>false) (λ_=>false) (λ_=>false) (λ_=>true) (λ_=>false) v
noncomputable def zkg(op:Operator)(a b:PV)(K:PV->Prop):Prop:=opK (if isL a=true then addL a b K else zkn a b K) (zkv a b K) (mulP a b K) (modP a b K) False False False op
noncomputable def inP(op:Operator)(a b:PV)(K:PV->Prop):Prop:=opK (zkn a b K) (zkv a b K) False False False False False op
mutual
noncomputable def Res(σ:Nat->Option Cell)(v:PV):PV->Prop
 |.tup ts=>∃xs,v=.tup xs/\nM σ xs ts
 |.list ts=>(∃xs,v=.list xs/\nM σ xs ts)\/(∃a xs,v=.ptr a/\σ a=some (.lst xs)/\nM σ xs ts)
 |.inst c ts=>∃xs,v=.inst c xs/\nM σ xs ts
 |.none=>v=.none
 |.bool b=>v=.bool b
 |.int i=>v=.int i
 |.str x=>v=.str x
 |.rng a b=>v=.rng a b
 |.dict b es=>v=.dict b es
 |.ptr _=>False
noncomputable def nM(σ:Nat->Option Cell)(xs:List PV):List PV->Prop
 |[]=>xs=[]
 |t ::ts=>∃y ys,xs=y ::ys/\Res σ y t/\nM σ ys ts
end
mutual
noncomputable def plain:PV->Bool
 |.none=>true
 |.int _=>true
 |.str _=>true
 |.tup xs=>xG xs
 |.list xs=>xG xs
 |.bool _=>false
 |.inst _ _=>false
 |.rng _ _=>false
 |.ptr _=>false
 |.dict _ _=>false
noncomputable def xG:List PV->Bool
 |[]=>true
 |x ::xs=>plain x&&xG xs
end
mutual
noncomputable def dep:PV->Nat
 |.tup xs=>zkz xs+1
 |.list xs=>zkz xs+1
 |.none=>0
 |.int _=>0
 |.str _=>0
 |.bool _=>0
 |.inst _ _=>0
 |.rng _ _=>0
 |.ptr _=>0
 |.dict _ _=>0
noncomputable def zkz:List PV->Nat
 |[]=>0
 |x ::xs=>max (dep x) (zkz xs)
end
noncomputable def eqT(σ:Nat->Option Cell)(a b:PV)(K:Bool->Prop):Prop:=∃t,Res σ a t/\Res σ b t/\plain t=true/\dep t<=4000/\K true
noncomputable def eqW(σ:Nat->Option Cell)(a b:PV)(K:Bool->Prop):Prop:=
 pvc (eqT σ a b K) (eqT σ a b K) (λx=>pvc False False (λy=>K (decide (x=y))) (λ_=>False) (λ_=>False) (λ_=>False) (λ_=>False) (λ_=>False) b)
  (λx=>asI b λy=>K (decide (x=y))) (λx=>pvc False (K false) (λ_=>False) (λ_=>False) (λy=>K (decide (x=y))) (λ_=>False) (λ_=>False) (λ_=>False) b) (λ_=>eqT σ a b K) (λ_=>eqT σ a b K) (λ_=>eqT σ a b K) a
noncomputable def leS:List Nat->List Nat->Bool
 |[],_=>true
 |a ::x,y=>List.casesOn (motive:=λ_=>Bool) y false λb y=>if a=b then leS x y else decide (a<b)
noncomputable def isW(a b:PV)(K:Bool->Prop):Prop:=
 pvc False (pvc False (K true) (λ_=>False) (λ_=>K false) (λ_=>K false) (λ_=>K false) (λ_=>False) (λ_=>False) a)
  (λy=>pvc False False (λx=>K (decide (x=y))) (λ_=>False) (λ_=>False) (λ_=>False) (λ_=>False) (λ_=>False) a) (λ_=>False) (λ_=>False) (λ_=>False) (λ_=>False) (λ_=>False) b
noncomputable def dvP(d:DV):PV:=DV.casesOn (motive:=λ_=>PV) d .str .int
noncomputable def zhV(b:Bool)(v:PV)(K:List (List Nat)->Prop):Prop:=if b=true then asT v λvs=>two vs λp q=>asS p λx=>asS q λy=>K [x,y]else asS v λx=>K [x]
noncomputable def inW(a b:PV)(K:Bool->Prop):Prop:=
 PV.casesOn (motive_1:=λ_=>Prop) b False (λ_=>False) (λ_=>False) (λy=>asS a λx=>K (uA x y)) (λys=>asS a λx=>∃zs,fN ys=some zs/\K (decide (x∈zs))) (λys=>asS a λx=>∃zs,fN ys=some zs/\K (decide (x∈zs)))
  (λ_ _=>False) (λ_ _=>False) (λ_=>False) λt es=>zhV t a λk=>K (es.lookup k).isSome
noncomputable def ltP(a b:PV)(K:Bool->Prop):Prop:=asI a λx=>asI b λy=>K (decide (x<y))
noncomputable def gtP(a b:PV)(K:Bool->Prop):Prop:=asI a λx=>asI b λy=>K (decide (y<x))
noncomputable def geP(a b:PV)(K:Bool->Prop):Prop:=asI a λx=>asI b λy=>K (decide (y<=x))
noncomputable def leP(a b:PV)(K:Bool->Prop):Prop:=
 pvc False False (λ_=>False) (λx=>asI b λy=>K (decide (x<=y))) (λx=>asS b λy=>K (leS x y)) (λ_=>False) (λ_=>False) (λ_=>False) a
noncomputable def zaX(σ:Nat->Option Cell)(op:CmpOp)(a b:PV)(K:Bool->Prop):Prop:=
 CmpOp.casesOn (motive:=λ_=>Prop) op (eqW σ a b K) (eqW σ a b λr=>K (!r)) (ltP a b K) (leP a b K) (gtP a b K) (geP a b K) (isW a b K) (isW a b λr=>K (!r)) (inW a b K) (inW a b λr=>K (!r))
noncomputable def lL(v:PV):Option (List PV):=PV.casesOn (motive_1:=λ_=>Option (List PV)) v none (λ_=>none) (λ_=>none) (λx=>some (x.map λc=>.str [c])) (λ_=>none) some (λ_ _=>none)
 (λlo hi=>some ((fh (hi - lo).toNat).map λ(k:Nat)=>.int (lo+k))) (λ_=>none) (λ_ _=>none)
/-! what an expression is -/
noncomputable def exc{α:Sort _}(d:α)(c:Const->α)(nm:Str->α)(tup:List Expr->α)(att:Expr->Str->Pos->α)(sl:Option Expr->Option Expr->α)(lc:Expr->List Comprehension->α)(e:Expr):α:=
 Expr.casesOn (motive_1:=λ_=>α) e (λ_ _ _=>d) (λ_ _ _=>d) (λ_ _ _ _=>d) (λ_ _ _=>d) (λ_ _ _ _=>d) (λ_ _ _ _=>d) (λ_ _ _=>d) (λ_ _ _=>d) (λe g _ _=>lc e g) (λ_ _ _ _=>d)
  (λ_ _ _ _ _=>d) (λ_ _ _ _=>d) (λ_ _=>d) (λ_ _=>d) (λ_ _=>d) (λ_ _ _ _=>d) (λ_ _ _ _=>d) (λ_ _ _ _=>d) (λ_ _=>d) (λx _ _=>c x) (λo n p=>att o n p) (λ_ _ _=>d) (λ_ _=>d) (λx _=>nm x) (λ_ _=>d) (λes _ _=>tup es) (λl u _ _=>sl l u)
noncomputable def eB(e:Expr):Bool:=
 Expr.casesOn (motive_1:=λ_=>Bool) e (λ_ _ _=>true) (λ_ _ _=>true) (λ_ _ _ _=>true) (λ_ _ _=>true) (λ_ _ _ _=>true) (λ_ _ _ _=>true) (λ_ _ _=>true) (λ_ _ _=>true) (λ_ _ _ _=>true) (λ_ _ _ _=>true)
  (λ_ _ _ _ _=>true) (λ_ _ _ _=>true) (λ_ _=>true) (λ_ _=>true) (λ_ _=>true) (λ_ _ _ _=>true) (λ_ _ _ _=>true) (λ_ _ _ _=>true) (λ_ _=>true) (λ_ _ _=>true) (λ_ _ _=>true) (λ_ _ _=>true) (λ_ _=>false) (λ_ _=>true) (λ_ _=>true) (λ_ _ _=>true) (λ_ _ _ _=>true)
noncomputable def nmE(e:Expr):Option Str:=exc none (λ_=>none) some (λ_=>none) (λ_ _ _=>none) (λ_ _=>none) (λ_ _=>none) e
noncomputable def zbd(e:Expr):Option (List Expr):=exc none (λ_=>none) (λ_=>none) some (λ_ _ _=>none) (λ_ _=>none) (λ_ _=>none) e
noncomputable def atN(e:Expr):Option Str:=exc none (λ_=>none) (λ_=>none) (λ_=>none) (λ_ n _=>some n) (λ_ _=>none) (λ_ _=>none) e
noncomputable def xW(e:Expr):Bool:=exc false (λ_=>false) (λ_=>false) (λ_=>false) (λ_ _ _=>false) (λ_ _=>true) (λ_ _=>false) e
noncomputable def strC(c:Const):Option Str:=match c with
 |.str p=>some p
 |_=>none
noncomputable def csE(e:Expr):Option Str:=exc none strC (λ_=>none) (λ_=>none) (λ_ _ _=>none) (λ_ _=>none) (λ_ _=>none) e
noncomputable def dS:List Expr->List PV->fD->Option fD
 |[],vs,ρ=>if vs.isEmpty=true then some ρ else none
 |e ::es,vs,ρ=>(nmE e).bind λx=>vs.head?.bind λv=>dS es vs.tail (upd ρ x v)
noncomputable def k0(e:Expr)(v:PV)(ρ:fD):Option fD:=match nmE e with
 |some x=>some (upd ρ x v)
 |none=>(zbd e).bind λes=>pvc none none (λ_=>none) (λ_=>none) (λ_=>none) (λvs=>dS es vs ρ) (λ_=>none) (λ_=>none) v
noncomputable def jZ:List Expr->PV->fD->Option fD
 |[],_,ρ=>some ρ
 |t ::ts,v,ρ=>(k0 t v ρ).bind (jZ ts v)
noncomputable def eO(b c:Nat):Option Nat:=
 if 48<=c/\c<=57/\c - 48<b then some (c - 48)
 else if 97<=c/\c<=102/\c - 87<b then some (c - 87)
 else if 65<=c/\c<=70/\c - 55<b then some (c - 55)
 else none
noncomputable def eD(b:Nat):Nat->List Nat->Option Nat
 |acc,[]=>some acc
 |acc,c ::r=>match eO b c with
  |some d=>eD b (acc*b+d) r
  |none=>none
noncomputable def zkx(v:PV)(K:PV->Prop):Prop:=pvc False False (λ_=>False) (λ_=>False) (λx=>K (.int x.length)) (λ_=>False) (λx=>K (.int x.length)) (λ_=>False) v
noncomputable def zdX(x:List Nat)(K:PV->Prop):Prop:=List.casesOn (motive:=λ_=>Prop) x False λc x=>
 x.length<640/\((c=45/\x≠[]/\∃n,eD 10 0 x=some n/\K (.int (-(n:Int))))\/
   (c=43/\x≠[]/\∃n,eD 10 0 x=some n/\K (.int n))\/
   (∃n,eD 10 0 (c ::x)=some n/\K (.int n)))
noncomputable def rngP(lo hi:Int)(K:PV->Prop):Prop:=0<=lo/\lo<=16777216/\0<=hi/\hi<=16777216/\K (.rng lo hi)
noncomputable def biP(name:Str)(args:List PV)(K:PV->Prop):Prop:=
 if name="len"then one args λv=>zkx v K
 else if name="ord"then one args λv=>asS v λx=>one x λc=>K (.int c)
 else if name="int"then List.casesOn (motive:=λ_=>Prop) args False λv r=>asS v λx=>List.casesOn (motive:=λ_=>Prop) r (zdX x K) λb r=>one (b ::r) λb=>asI b λb=>b=16/\x≠[]/\x.length<=640/\∃n,eD 16 0 x=some n/\K (.int n)
 else if name="min"then two args λp q=>asI p λx=>asI q λy=>K (.int (if y<x then y else x))
 else if name="range"then one args λa=>asI a λlo=>rngP 0 lo K
 else False
noncomputable def nB(x p:List Nat):Nat->Nat->Int
 |_,0=>-1
 |i,n+1=>if p.isPrefixOf (x.drop i)then i else nB x p (i+1) n
noncomputable def sX(x p:List Nat)(i:Nat):Int:=nB x p i (x.length+1 - i)
noncomputable def c9:List Nat->List Nat->Nat->List Nat->List Nat
 |_,_,0,x=>x
 |_,_,_+1,[]=>[]
 |p,q,n+1,c ::x=>if p.isPrefixOf (c ::x)then q++c9 p q n ((c ::x).drop p.length)else c ::c9 p q n x
noncomputable def mP(p q x:List Nat):List Nat:=c9 p q (x.length+1) x
noncomputable def sN(c:Nat)(x:List Nat):Nat->Nat->Option Nat->Option Nat
 |0,_,J=>J
 |n+1,i,J=>sN c x n (i+1) (if x[i]?=some c then some i else J)
noncomputable def fY(c:Nat)(x:List Nat)(i j:Nat):Int:=(sN c x (min j x.length - i) i none).elim (-1) λk=>(k:Int)
noncomputable def okI(i:Int)(K:Prop):Prop:=0<=i/\i<4611686018427387904/\K
noncomputable def swP(x:List Nat)(p:PV)(i:Int)(K:Bool->Prop):Prop:=
 pvc False False (λ_=>False) (λ_=>False) (λp=>K (decide (i<=x.length)&&p.isPrefixOf (x.drop i.toNat)))
  (λps=>∃zs,fN ps=some zs/\K (decide (i<=x.length)&&zs.any λp=>p.isPrefixOf (x.drop i.toNat))) (λ_=>False) (λ_=>False) p
noncomputable def zhl(args:List PV)(K:Nat->Int->Int->Prop):Prop:=zbm args λp i j=>asS p λp=>one p λc=>asI i λi=>asI j λj=>okI i (okI j (K c i j))
noncomputable def jG(σ:Nat->Option Cell)(name:Str)(o:PV)(args:List PV)(K:PV->(Nat->Option Cell)->Prop):Prop:=
 if name="append"then asP o λa=>one args λv=>∃xs,σ a=some (.lst xs)/\xs.length<bU/\K .none (bE σ a (.lst (xs++[v])))
 else if name="startswith"then asS o λx=>two args λp i=>asI i λi=>okI i (swP x p i λb=>K (.bool b) σ)
 else if name="find"then asS o λx=>two args λp i=>asS p λp=>asI i λi=>okI i (K (.int (sX x p i.toNat)) σ)
 else if name="rfind"then asS o λx=>zhl args λc i j=>K (.int (fY c x i.toNat j.toNat)) σ
 else if name="count"then asS o λx=>zhl args λc i j=>K (.int ((((x.take j.toNat).drop i.toNat).count c:Nat):Int)) σ
 else if name="join"then asS o λx=>x=[]/\one args λl=>asL (der σ l) λxs=>∃zs,fN xs=some zs/\zs.flatten.length<=bU/\K (.str zs.flatten) σ
 else if name="pop"then asP o λa=>args=[]/\∃xs v,σ a=some (.lst (xs++[v]))/\K v (bE σ a (.lst xs))
 else False
noncomputable def iJ:Const->Option PV
 |.none=>some .none
 |.bool b=>some (.bool b)
 |.int i=>some (.int i)
 |.str s=>some (.str s.cps.toList)
 |_=>none
noncomputable def tst(K:Bool->St->Prop)(v:PV)(J:St):Prop:=opt (uH (der J.σ v)) λb=>K b J
noncomputable def cV(ns:List (Str×NameKind)):Kn:=λy=>gy y ns
noncomputable def sP(v:PV):Bool:=pvc false false (λ_=>false) (λ_=>false) (λ_=>false) (λ_=>false) (λ_=>false) (λ_=>true) v
noncomputable def jU(v:PV):Bool:=pvc false true (λ_=>true) (λ_=>true) (λ_=>true) (λ_=>false) (λ_=>false) (λ_=>false) v
noncomputable def eI(C:Ctx)(pos:Pos)(vs:List PV)(Q:PV->St->Prop)(J:St):Prop:=
 if C.mutL pos.line then∀a,J.σ a=none->Q (.ptr a) ⟨J.ρ,bE J.σ a (.lst vs)⟩else Q (.list vs) J
noncomputable def unP(op:UnaryOp)(v:PV)(K:PV->Prop):Prop:=
 UnaryOp.casesOn (motive:=λ_=>Prop) op False (opt (uH v) λb=>K (.bool (!b))) False (asI v λi=>K (.int (-i)))
noncomputable def dM(as:List Expr):Option (Str×Str):=match as with
 |[a,b]=>(csE a).bind λp=>(csE b).map λq=>(p,q)
 |_=>none
noncomputable def zbX(name p q:Str)(o:PV)(K:PV->Prop):Prop:=
 asS o λx=>name="replace"/\ x.length<=1000000/\p.cps.toList≠[]/\q.cps.toList.length=1/\p≠q/\K (.str (mP p.cps.toList q.cps.toList x))
noncomputable def zdJ(C:Ctx)(name:Str)(o:PV)(K:PV->Prop):Prop:=
 PV.casesOn (motive_1:=λ_=>Prop) o False (λ_=>False) (λ_=>False) (λ_=>False) (λ_=>False) (λ_=>False)
  (λc fs=>l5 (C.slot c name) (opt (C.cval c name) K) λi=>opt fs[i]? K) (λ_ _=>False) (λ_=>False) (λ_ _=>False)
noncomputable def zhu(o:PV)(lo hi:Option Int)(K:PV->Prop):Prop:=
 pvc False False (λ_=>False) (λ_=>False) (λx=>K (.str (slc x lo hi))) (λ_=>False) (λxs=>K (.list (slc xs lo hi))) (λ_=>False) o
noncomputable def zh3(o i:PV)(K:PV->Prop):Prop:=
 PV.casesOn (motive_1:=λ_=>Prop) o False (λ_=>False) (λ_=>False) (λx=>asI i λk=>opt (sU x k) λc=>K (.str [c])) (λxs=>asI i λk=>opt (sU xs k) K) (λxs=>asI i λk=>opt (sU xs k) K)
  (λ_ _=>False) (λ_ _=>False) (λ_=>False) λt es=>zhV t i λk=>opt (es.lookup k) λd=>K (dvP d)
noncomputable def nX(C:Ctx)(f:Str):Bool:=(C.fn f).isSome||(C.cls f).isSome||C.bi f
noncomputable def iM(C:Ctx)(f:Str)(vs:List PV)(J:St)(K:PV->Prop):Prop:=
 l5 (C.fn f) (l5 (C.cls f) (C.bi f=true/\biP f (vs.map (der J.σ)) K) λF=>F vs K)
  λF=>F (vs.map (der J.σ)) λr=>(vs.any sP=false\/jU r=true)/\K r
noncomputable def cZ(e:Expr):List Str:=match nmE e with
 |some x=>[x]
 |none=>((zbd e).getD []).filterMap nmE
noncomputable def setCell(C:Ctx)(a:Nat)(name:Str)(v:PV)(J:St)(K:St->Prop):Prop:=
 ∃c fs i,J.σ a=some (.ins c fs)/\C.slot c name=some i/\i<fs.length/\K ⟨J.ρ,bE J.σ a (.ins c (fs.set i (some v)))⟩
noncomputable def mOk(σ:Nat->Option Cell)(name:Str)(v:PV):Bool:=
 pvc false false (λ_=>false) (λ_=>false) (λ_=>name=="startswith"||name=="find"||name=="rfind"||name=="count"||name=="join") (λ_=>false) (λ_=>false)
  (λa=>(name=="append"||name=="pop")&&(gP (σ a)).isSome) v
mutual
noncomputable def wE(C:Ctx):Expr->Kn->(PV->St->Prop)->St->Prop
 |.Constant c _ _,_,Q,J=>opt (iJ c) λv=>Q v J
 |.Name id _,H,Q,J=>if H id=some .globalImplicit then opt (C.val id) (λv=>Q v J)else opt (J.ρ id) λv=>Q v J
 |.BoolOp op vs _,H,Q,J=>wBo C op vs H Q J
 |.BinOp l op r _,H,Q,J=>wE C l H (λa st1=>wE C r H (λb st2=>zkg op (der st2.σ a) (der st2.σ b) λv=>Q v st2) st1) J
 |.UnaryOp op x _,H,Q,J=>wE C x H (λv st1=>unP op (der st1.σ v) λr=>Q r st1) J
 |.IfExp t b o _,H,Q,J=>wE C t H (tst λc st1=>if c=true then wE C b H Q st1 else wE C o H Q st1) J
 |.Compare l ops cs _,H,Q,J=>wE C l H (λa st1=>wCh C cs ops H a Q st1) J
 |.Call f args kws _,H,Q,J=>kws.isEmpty=true/\l5 (atN f)
   (opt (nmE f) λid=>H id=some .globalImplicit/\nX C id=true/\wEs C args H (λvs st2=>iM C id vs st2 λr=>Q r st2) J)
   λname=>l5 (dM args) (wA C f H (λov st1=>mOk st1.σ name ov=true/\wEs C args H (λvs st2=>jG st2.σ name ov vs λr σ'=>Q r ⟨st2.ρ,σ'⟩) st1) J)
    λpq=>wA C f H (λov st1=>zbX name pq.1 pq.2 ov λr=>Q r st1) J
 |.Attribute o name _,H,Q,J=>wE C o H (λov st1=>zdJ C name ov λr=>Q r st1) J
 |.Subscript o i _,H,Q,J=>wE C o H (λov st1=>if xW i=true then wSl C i H (λlo hi st3=>zhu (der st3.σ ov) lo hi λr=>Q r st3) st1 else wE C i H (λiv st2=>zh3 (der st2.σ ov) iv λr=>Q r st2) st1) J
 |.List es pos,H,Q,J=>wEs C es H (λvs st1=>eI C pos vs Q st1) J
 |.Tuple es _ _,H,Q,J=>wEs C es H (λvs st1=>Q (.tup vs) st1) J
 |.FormattedValue e conv sp _,H,Q,J=>conv=-1/\sp.isNone=true/\wE C e H (λv st1=>asS v λy=>Q (.str y) st1) J
 |.JoinedStr vs _,H,Q,J=>2<=vs.length/\wJ C vs H [] Q J
 |.NamedExpr _ _ _,_,_,_=>False
 |.Lambda _ _ _ _,_,_,_=>False
 |.Dict _ _ _,_,_,_=>False
 |.Set _ _ _,_,_,_=>False
 |.ListComp _ _ _ _,_,_,_=>False
 |.SetComp _ _ _ _,_,_,_=>False
 |.DictComp _ _ _ _ _,_,_,_=>False
 |.GeneratorExp _ _ _ _,_,_,_=>False
 |.Await _ _,_,_,_=>False
 |.Yield _ _,_,_,_=>False
 |.YieldFrom _ _,_,_,_=>False
 |.Starred _ _,_,_,_=>False
 |.Slice _ _ _ _,_,_,_=>False
noncomputable def wEs(C:Ctx):List Expr->Kn->(List PV->St->Prop)->St->Prop
 |[],_,Q,J=>Q [] J
 |e ::es,H,Q,J=>wE C e H (λv st1=>wEs C es H (λvs st2=>Q (v ::vs) st2) st1) J
noncomputable def wJ(C:Ctx):List Expr->Kn->List Nat->(PV->St->Prop)->St->Prop
 |[],_,acc,Q,J=>Q (.str acc) J
 |e ::es,H,acc,Q,J=>wE C e H (λv st1=>asS v λy=>(acc++y).length<=bU/\wJ C es H (acc++y) Q st1) J
noncomputable def wOp(C:Ctx):Option Expr->Kn->(Option Int->St->Prop)->St->Prop
 |none,_,Q,J=>Q none J
 |some e,H,Q,J=>wE C e H (λv st1=>asI v λi=>-4611686018427387904<i/\i<4611686018427387904/\Q (some i) st1) J
noncomputable def wA(C:Ctx):Expr->Kn->(PV->St->Prop)->St->Prop
 |.Attribute o _ _,H,Q,J=>wE C o H Q J
 |.BoolOp _ _ _,_,_,_=>False
 |.NamedExpr _ _ _,_,_,_=>False
 |.BinOp _ _ _ _,_,_,_=>False
 |.UnaryOp _ _ _,_,_,_=>False
 |.Lambda _ _ _ _,_,_,_=>False
 |.IfExp _ _ _ _,_,_,_=>False
 |.Dict _ _ _,_,_,_=>False
 |.Set _ _ _,_,_,_=>False
 |.ListComp _ _ _ _,_,_,_=>False
 |.SetComp _ _ _ _,_,_,_=>False
 |.DictComp _ _ _ _ _,_,_,_=>False
 |.GeneratorExp _ _ _ _,_,_,_=>False
 |.Await _ _,_,_,_=>False
 |.Yield _ _,_,_,_=>False
 |.YieldFrom _ _,_,_,_=>False
 |.Compare _ _ _ _,_,_,_=>False
 |.Call _ _ _ _,_,_,_=>False
 |.FormattedValue _ _ _ _,_,_,_=>False
 |.JoinedStr _ _,_,_,_=>False
 |.Constant _ _ _,_,_,_=>False
 |.Subscript _ _ _,_,_,_=>False
 |.Starred _ _,_,_,_=>False
 |.Name _ _,_,_,_=>False
 |.List _ _,_,_,_=>False
 |.Tuple _ _ _,_,_,_=>False
 |.Slice _ _ _ _,_,_,_=>False
noncomputable def wSl(C:Ctx):Expr->Kn->(Option Int->Option Int->St->Prop)->St->Prop
 |.Slice l u sp _,H,Q,J=>sp.isNone=true/\wOp C l H (λlo st1=>wOp C u H (λhi st2=>Q lo hi st2) st1) J
 |.BoolOp _ _ _,_,_,_=>False
 |.NamedExpr _ _ _,_,_,_=>False
 |.BinOp _ _ _ _,_,_,_=>False
 |.UnaryOp _ _ _,_,_,_=>False
 |.Lambda _ _ _ _,_,_,_=>False
 |.IfExp _ _ _ _,_,_,_=>False
 |.Dict _ _ _,_,_,_=>False
 |.Set _ _ _,_,_,_=>False
 |.ListComp _ _ _ _,_,_,_=>False
 |.SetComp _ _ _ _,_,_,_=>False
 |.DictComp _ _ _ _ _,_,_,_=>False
 |.GeneratorExp _ _ _ _,_,_,_=>False
 |.Await _ _,_,_,_=>False
 |.Yield _ _,_,_,_=>False
 |.YieldFrom _ _,_,_,_=>False
 |.Compare _ _ _ _,_,_,_=>False
 |.Call _ _ _ _,_,_,_=>False
 |.FormattedValue _ _ _ _,_,_,_=>False
 |.JoinedStr _ _,_,_,_=>False
 |.Constant _ _ _,_,_,_=>False
 |.Attribute _ _ _,_,_,_=>False
 |.Subscript _ _ _,_,_,_=>False
 |.Starred _ _,_,_,_=>False
 |.Name _ _,_,_,_=>False
 |.List _ _,_,_,_=>False
 |.Tuple _ _ _,_,_,_=>False
noncomputable def wBo(C:Ctx)(op:BoolOp):List Expr->Kn->(PV->St->Prop)->St->Prop
 |[],_,_,_=>False
 |e ::es,H,Q,J=>if es.isEmpty=true then wE C e H Q J else wE C e H (λv st1=>opt (uH (der st1.σ v)) λb=>if b=(op==.Or)then Q v st1 else wBo C op es H Q st1) J
noncomputable def wCh(C:Ctx):List Expr->List CmpOp->Kn->PV->(PV->St->Prop)->St->Prop
 |[],_,_,_,_,_=>False
 |r ::rs,ops,H,a,Q,J=>opt ops.head? λop=>wE C r H (λb st1=>zaX st1.σ op a b λc=>if rs.isEmpty=true then ops.tail.isEmpty=true/\Q (.bool c) st1 else if c=true then wCh C rs ops.tail H b Q st1 else Q (.bool false) st1) J
end
end
section
variable {C:Ctx}{H:Kn}{Q:PV->St->Prop}{J:St}{p q:Pos}{e l r t b o i elt iter:Expr}{es:List Expr}
theorem zd2{c:Const}{k:Nat}:wE C (.Constant c k p) H Q J=opt (iJ c) λv=>Q v J:=rfl
theorem kL{x:Str}:wE C (.Name x p) H Q J=if H x=some .globalImplicit then opt (C.val x) (λv=>Q v J)else opt (J.ρ x) λv=>Q v J:=rfl
theorem zi1{ops:List CmpOp}:wE C (.Compare l ops es p) H Q J=wE C l H (λa st1=>wCh C es ops H a Q st1) J:=rfl
theorem kM{name:Str}{kws:List Keyword}:wE C (.Call (.Attribute o name q) es kws p) H Q J=(kws.isEmpty=true/\l5 (dM es) (wE C o H (λov st1=>mOk st1.σ name ov=true/\wEs C es H (λvs st2=>jG st2.σ name ov vs λr σ'=>Q r ⟨st2.ρ,σ'⟩) st1) J)
    λpq=>wE C o H (λov st1=>zbX name pq.1 pq.2 ov λr=>Q r st1) J):=rfl
theorem uE{x:Str}{kws:List Keyword}:wE C (.Call (.Name x q) es kws p) H Q J=(kws.isEmpty=true/\H x=some .globalImplicit/\nX C x=true/\wEs C es H (λvs st2=>iM C x vs st2 λr=>Q r st2) J):=rfl
theorem zi0{l u sp:Option Expr}:wE C (.Subscript o (.Slice l u sp q) p) H Q J=wE C o H (λov st1=>sp.isNone=true/\wOp C l H (λlo st2=>wOp C u H (λhi st3=>zhu (der st3.σ ov) lo hi λr=>Q r st3) st2) st1) J:=rfl
theorem ziZ:wE C (.Subscript o i p) H Q J=wE C o H (λov st1=>if xW i=true then wSl C i H (λlo hi st3=>zhu (der st3.σ ov) lo hi λr=>Q r st3) st1 else wE C i H (λiv st2=>zh3 (der st2.σ ov) iv λr=>Q r st2) st1) J:=rfl
theorem mJ{Q:List PV->St->Prop}:wEs C [] H Q J=Q [] J:=rfl
theorem gR{Q:List PV->St->Prop}:wEs C (e ::es) H Q J=wE C e H (λv st1=>wEs C es H (λvs st2=>Q (v ::vs) st2) st1) J:=rfl
theorem zhe{op:CmpOp}{a:PV}:wCh C [r] [op] H a Q J=wE C r H (λb st1=>zaX st1.σ op a b λc=>true=true/\Q (.bool c) st1) J:=rfl
variable {K:PV->Prop}{ac:Bool->Prop}{R:PV->(Nat->Option Cell)->Prop}{σ:Nat->Option Cell}{x y:Int}{u v:List Nat}{s t:List PV}{a:Nat}{bo:Bool}{α:Type}{z z' z'':α}
theorem bM:inP .Add (.int x) (.int y) K=K (.int (x+y)):=rfl
theorem zc3:inP .Add (.str u) (.str v) K=(u.length+v.length<=bU/\K (.str (u++v))):=rfl
end
noncomputable def zdD{α:Sort _}(d:α)(k:Expr->List Expr->List Keyword->α)(b:α)(e:Expr):α:=
 Expr.casesOn (motive_1:=λ_=>α) e (λ_ _ _=>d) (λ_ _ _=>d) (λ_ _ _ _=>d) (λ_ _ _=>d) (λ_ _ _ _=>d) (λ_ _ _ _=>d) (λ_ _ _=>d) (λ_ _ _=>d) (λ_ _ _ _=>d) (λ_ _ _ _=>d)
  (λ_ _ _ _ _=>d) (λ_ _ _ _=>d) (λ_ _=>d) (λ_ _=>d) (λ_ _=>d) (λ_ _ _ _=>d) (λf as ks _=>k f as ks) (λ_ _ _ _=>d) (λ_ _=>d) (λ_ _ _=>d) (λ_ _ _=>d) (λ_ _ _=>b) (λ_ _=>d) (λ_ _=>d) (λ_ _=>d) (λ_ _ _=>d) (λ_ _ _ _=>d)
theorem eY{P:Expr->Prop}(hc:∀c k p,P (.Constant c k p))(hn:∀x p,P (.Name x p))(ht:∀es k p,P (.Tuple es k p))(ha:∀o n p,P (.Attribute o n p))(hs:∀l u s p,P (.Slice l u s p))(hl:∀e g sc p,P (.ListComp e g sc p))(hk:∀f as ks p,P (.Call f as ks p))(hb:∀o i p,P (.Subscript o i p))
  (hd:∀e,(∀(α:Type) (d:α) c n t a s l,exc d c n t a s l e=d)->(∀(α:Type) (d:α) k b,zdD d k b e=d)->P e):∀e,P e:=by
 intro e
 cases e<;>first |exact hc _ _ _|exact hn _ _|exact ht _ _ _|exact ha _ _ _|exact hs _ _ _ _|exact hl _ _ _ _|exact hk _ _ _ _|exact hb _ _ _|exact hd _ (λ_ _ _ _ _ _ _ _=>rfl) (λ_ _ _ _=>rfl)
theorem iX{e:Expr}{x:Str}:nmE e=some x->∃p,e=.Name x p:=by
 refine eY (P:=λe=>nmE e=some x->∃p,e=.Name x p) ?_ ?_ ?_ ?_ ?_ ?_ ?_ ?_ (λe he _ h=>by rw[nmE,he]at h;(exfalso;cases h)) e
 ·intro c k p h;(exfalso;cases h)
 ·intro y p h;(have zq:=Option.some.inj h;subst zq);exact⟨p,rfl⟩
 all_goals(intros;rename_i h;(exfalso;cases h))
theorem rL{e:Expr}{es:List Expr}:zbd e=some es->∃k p,e=.Tuple es k p:=by
 refine eY (P:=λe=>zbd e=some es->∃k p,e=.Tuple es k p) ?_ ?_ ?_ ?_ ?_ ?_ ?_ ?_ (λe he _ h=>by rw[zbd,he]at h;(exfalso;cases h)) e
 ·intro c k p h;(exfalso;cases h)
 ·intro y p h;(exfalso;cases h)
 ·intro es k p h;(have zq:=Option.some.inj h;subst zq);exact ex2 k p rfl
 all_goals(intros;rename_i h;(exfalso;cases h))
theorem mC{e:Expr}{x:Str}:csE e=some x->∃k p,e=.Constant (.str x) k p:=by
 refine eY (P:=λe=>csE e=some x->∃k p,e=.Constant (.str x) k p) ?_ ?_ ?_ ?_ ?_ ?_ ?_ ?_ (λe he _ h=>by rw[csE,he]at h;(exfalso;cases h)) e
 ·intro c k p h
  have h:strC c=some x:=h
  cases c<;>cases h
  exact ex2 k p rfl
 all_goals(intros;rename_i h;(exfalso;cases h))
theorem rA{e:Expr}{n:Str}:atN e=some n->∃o p,e=.Attribute o n p:=by
 refine eY (P:=λe=>atN e=some n->∃o p,e=.Attribute o n p) ?_ ?_ ?_ ?_ ?_ ?_ ?_ ?_ (λe he _ h=>by rw[atN,he]at h;(exfalso;cases h)) e
 ·intro c k p h;(exfalso;cases h)
 ·intro y p h;(exfalso;cases h)
 ·intro es k p h;(exfalso;cases h)
 ·intro o n p h;(have zq:=Option.some.inj h;subst zq);exact ex2 o p rfl
 all_goals(intros;rename_i h;(exfalso;cases h))
noncomputable abbrev GM:=Nat->Option Obj
noncomputable def okStr(x:List Nat):Prop:=(∀c∈x,c<1114112)/\x.length<=bU
noncomputable def InstRel(G:GM)(v:Value)(c:Nat)(vs:List Value):Prop:=
 ∃x dx,v=.ref x/\G x=some {cls:=.ref c,dict:=some dx,data:=.plain,slots:=(vs.map some).toArray}/\G dx=some {cls:=.type "dict",data:=.dict #[]}
noncomputable def zaT(P:Params)(vs:List DictEntry):List (List Nat×List Nat)->Prop
 |[]=>vs=[]
 |(k,x) ::xs=>∃e r t t',vs=e ::r/\e.key=.str ⟨k.toArray⟩ t/\e.hash=PyData.keyHash P ⟨k.toArray⟩/\e.val=.str ⟨x.toArray⟩ t'/\okStr x/\zaT P r xs
noncomputable def zfY(v:Value)(d:DV):Prop:=DV.casesOn (motive:=λ_=>Prop) d (λx=>∃t,v=.str ⟨x.toArray⟩ t/\okStr x) λn=>∃t,v=.int n t
noncomputable def ziK(P:Params)(es':Array DictEntry)(es:List (List (List Nat)×DV)):Prop:=
 (∀e∈es',∃k:Str,Value.isStrOf k e.key=true/\e.hash=PyData.keyHash P k)/\∀k:List Nat,l5 (es.lookup [k]) (findBy Value.isStrOf es' ⟨k.toArray⟩=none) λd=>∃v,findBy Value.isStrOf es' ⟨k.toArray⟩=some v/\zfY v d
noncomputable def zll(P:Params)(G:GM)(a:Nat)(es:List (List (List Nat)×DV)):Prop:=∀(prog:Program) (w:World),w.params=P->∀h:Heap,(∀x o,G x=some o->h.get? x=some o)->
 ∃xs:List (List Str×Addr×Value),h.DictOfH (tupleKind (strKind prog w)) a xs/\∀x y:List Nat,l5 (es.lookup [x,y]) (atKey xs [⟨x.toArray⟩,⟨y.toArray⟩]=none) λd=>∃p,atKey xs [⟨x.toArray⟩,⟨y.toArray⟩]=some p/\zfY p.2 d
noncomputable def DictRel(P:Params)(G:GM)(b:Bool)(a:Nat)(es:List (List (List Nat)×DV)):Prop:=if b=true then zll P G a es else∃es' n,G a=some {cls:=.type "dict",data:=.dict es' n}/\ziK P es' es
mutual
noncomputable def VRel(P:Params)(G:GM)(v:Value):PV->Prop
 |.none=>v=.none
 |.bool b=>v=.bool b
 |.int i=>∃t,v=.int i t
 |.str x=>∃t,v=.str ⟨x.toArray⟩ t/\okStr x
 |.tup xs=>∃a o vs n,v=.ref a/\G a=some o/\o.cls=.type "tuple"/\ o.data=.seq vs n/\vs.size<=bU/\VRels P G vs.toList xs
 |.list xs=>∃a o vs n,v=.ref a/\G a=some o/\o.cls=.type "list"/\ o.dict=none/\o.data=.seq vs n/\vs.size<=bU/\VRels P G vs.toList xs
 |.inst c fs=>∃vs,InstRel G v c vs/\VRels P G vs fs
 |.rng lo hi=>∃a t u w,v=.ref a/\G a=some {cls:=.type "range",data:=.fields #[.int lo t,.int hi u,.int 1 w]}/\0<=lo/\lo<=16777216/\0<=hi/\hi<=16777216
 |.dict b es=>∃a,v=.ref a/\a≠sysModules/\DictRel P G b a es
 |.ptr a=>v=.ref a
noncomputable def VRels(P:Params)(G:GM)(vs:List Value):List PV->Prop
 |[]=>vs=[]
 |x ::xs=>∃v r,vs=v ::r/\VRel P G v x/\VRels P G r xs
end
noncomputable def Sub(G G':GM):Prop:=∀a o,G a=some o->G' a=some o
noncomputable def XS(a:Nat):Prop:=a=29\/a=36
theorem zhd{a P:Nat}(n:¬XS a)(p:XS P):P≠a:=λq=>n (q▸p)
noncomputable def TabX(h:Heap):Prop:=∀P,XS P->∃o ps,h.get? P=some o/\o.data=.fields ps/\TriplesOk ps.toList/\o={cls:=.none,data:=.fields ps}
theorem Heap.none_size(h:Heap):h.get? h.objs.size=none:=by
 cases e:h.get? h.objs.size with
 |none=>rfl
 |some o=>exact absurd (dy e) (em _)
theorem TabX.keeps{h h':Heap}(x:TabX h)(k:∀P o,XS P->h.get? P=some o->h'.get? P=some o):TabX h':=λP p=>e2 (λo ps h=>⟨k P o p h.1,h.2⟩) (x P p)
structure InH (G:GM) (h:Heap):Prop where
 at_:∀a o,G a=some o->h.get? a=some o
 px:∀P,XS P->G P=none
 tab:TabX h
theorem TabX.ne{h:Heap}(x:TabX h){a:Nat}(e:h.get? a=none):¬XS a:=λq=>by obtain⟨o,ps,h1,_⟩:=x a q;replace e:=h1▸e;cases e
theorem InH.keeps{G:GM}{h h':Heap}(x:InH G h)(k:∀a o,h.get? a=some o->h'.get? a=some o):InH G h':=⟨λa o e=>k a o (x.at_ a o e),x.px,x.tab.keeps λP o _=>k P o⟩
theorem InH.but{G:GM}{h h':Heap}{a:Nat}(x:InH G h)(k:∀b o,b≠a->h.get? b=some o->h'.get? b=some o)(ha:G a=none)(hx:¬XS a):InH G h':=
 ⟨λb o e=>k b o (λq=>by(replace e:=q▸e;replace e:=ha▸e);cases e) (x.at_ b o e),x.px,x.tab.keeps λP o p=>k P o (zhd hx p)⟩
theorem Sub.refl(G:GM):Sub G G:=λ_ _ e=>e
theorem Sub.trans{G G' G'':GM}(h:Sub G G')(h':Sub G' G''):Sub G G'':=λa o e=>h' a o (h a o e)
theorem InH.sub{G G':GM}{h:Heap}(x:InH G' h)(s:Sub G G'):InH G h:=
 ⟨λa o e=>x.at_ a o (s a o e),(λP p=>Option.eq_none_iff_forall_ne_some.mpr λo e=>by have:=s P o e;replace this:=(x.px P p)▸this;cases this),x.tab⟩
theorem InstRel.mono{G G':GM}(h:Sub G G'){v c vs}(r:InstRel G v c vs):InstRel G' v c vs:=by
 obtain⟨x,dx,h1,h2,h3⟩:=r;exact ex2 x dx ⟨h1,h _ _ h2,h _ _ h3⟩
theorem DictRel.mono{P:Params}{G G':GM}(h:Sub G G'){b:Bool}{a:Nat}{es:List (List (List Nat)×DV)}(r:DictRel P G b a es):DictRel P G' b a es:=by
 cases b with
 |false=>exact e2 (λ_ _ r=>⟨h _ _ r.1,r.2⟩) (show∃es' n,G a=some {cls:=.type "dict",data:=.dict es' n}/\ziK P es' es from r)
 |true=>exactλprog w e h' q=>r prog w e h' λx o g=>q x o (h x o g)
mutual
theorem VRel.mono{P:Params}{G G':GM}(h:Sub G G'){v:Value}:∀{p:PV},VRel P G v p->VRel P G' v p
 |.none,r=>r
 |.bool _,r=>r
 |.int _,r=>r
 |.str _,r=>r
 |.tup xs,r=>by
  simp only[VRel]at r ⊢
  refine x4 (λa o vs n=>a6 λh1 h2 h3 h4 h5 h6=>?_) r
  exact ex4 a o vs n ⟨h1,h _ _ h2,h3,h4,h5,VRels.mono h h6⟩
 |.list xs,r=>by
  simp only[VRel]at r ⊢
  refine x4 (λa o vs n=>a7 λh1 h2 h3 h3' h4 h5 h6=>?_) r
  exact ex4 a o vs n ⟨h1,h _ _ h2,h3,h3',h4,h5,VRels.mono h h6⟩
 |.inst c fs,r=>by
  simp only[VRel]at r ⊢
  refine x1 (λvs=>a2 λh1 h2=>?_) r
  exact⟨vs,h1.mono h,VRels.mono h h2⟩
 |.rng lo hi,r=>by
  simp only[VRel]at r ⊢
  refine x4 (λa t u w=>a3 λh1 h2 h3=>?_) r
  exact ex4 a t u w ⟨h1,h _ _ h2,h3⟩
 |.dict b es,r=>e1 (λa=>c2 (DictRel.mono h)) r
 |.ptr _,r=>r
theorem VRels.mono{P:Params}{G G':GM}(h:Sub G G'):∀{ps:List PV}{vs:List Value},VRels P G vs ps->VRels P G' vs ps
 |[]=>λr=>r
 |p ::ps=>λr=>by
  simp only[VRels]at r ⊢
  refine x2 (λv s=>a3 λh1 h2 h3=>?_) r
  exact ex2 v s ⟨h1,VRel.mono h h2,VRels.mono h h3⟩
end
theorem VRels.length{P:Params}{G:GM}:∀{ps:List PV}{vs:List Value},VRels P G vs ps->vs.length=ps.length
 |[]=>λr=>by simp only[VRels]at r;simp[r]
 |p ::ps=>λr=>by
  simp only[VRels]at r
  refine x2 (λv s=>a3 λzr2 _ h3=>?_) r;subst zr2
  simp[h3.length]
theorem VRels.get{P:Params}{G:GM}:∀{ps:List PV}{vs:List Value}{i:Nat}{p:PV},VRels P G vs ps->ps[i]?=some p->∃v,vs[i]?=some v/\VRel P G v p
 |[],_,_,_,_,e=>by simp at e
 |p ::ps,_,0,_,r,e=>by
  simp only[VRels]at r
  refine x2 (λv s=>a3 λzr2 h2 _=>?_) r;subst zr2
  simp at e;subst e
  exact⟨v,by simp,h2⟩
 |p ::ps,_,i+1,q,r,e=>by
  simp only[VRels]at r
  refine x2 (λv s=>a3 λzr2 _ h3=>?_) r;subst zr2
  refine x1 (λu=>a2 λhu hr=>?_) (h3.get (i:=i) (p:=q) (by simpa using e))
  exact⟨u,by simpa using hu,hr⟩
theorem VRels.get'{P:Params}{G:GM}:∀{ps:List PV}{vs:List Value}{i:Nat}{v:Value},VRels P G vs ps->vs[i]?=some v->∃p,ps[i]?=some p/\VRel P G v p:=by
 intro ps vs i v r e
 have hlen:=r.length
 have hi:i<ps.length:=by
  exact hlen▸(dg.mp e).1
 refine x1 (λu=>a2 λhu hr=>?_) (r.get (i:=i) (p:=ps[i]) (by simp[hi]))
 rw[e]at hu;(have zq:=Option.some.inj hu;subst zq)
 exact⟨_,by simp[hi],hr⟩
theorem VRels.append{P:Params}{G:GM}:∀{ps qs:List PV}{vs us:List Value},VRels P G vs ps->VRels P G us qs->VRels P G (vs++us) (ps++qs)
 |[],_,_,_,r,s=>by simp only[VRels]at r;subst r;simpa using s
 |p ::ps,qs,_,us,r,s=>by
  simp only[VRels]at r
  refine x2 (λv w=>a3 λzr2 h2 h3=>?_) r;subst zr2
  simp only[List.cons_append,VRels]
  exact ex2 v (w++us) ⟨rfl,h2,h3.append s⟩
theorem VRels.nil{P:Params}{G:GM}:VRels P G [] []:=by simp[VRels]
theorem VRels.cons{P:Params}{G:GM}{v:Value}{vs:List Value}{p:PV}{ps:List PV}(h:VRel P G v p)(hs:VRels P G vs ps):VRels P G (v ::vs) (p ::ps):=by
 simp only[VRels];exact ex2 v vs ⟨rfl,h,hs⟩
theorem VRels.one{P:Params}{G:GM}{v:Value}{p:PV}(h:VRel P G v p):VRels P G [v] [p]:=.cons h .nil
theorem VRels.drop{P:Params}{G:GM}:∀(n:Nat) {ps:List PV}{vs:List Value},VRels P G vs ps->VRels P G (vs.drop n) (ps.drop n)
 |0,_=>λr=>by simpa using r
 |n+1,[]=>λr=>by simp only[VRels]at r;subst r;simp[VRels]
 |n+1,p ::ps=>λr=>by
  simp only[VRels]at r
  refine x2 (λv w=>a3 λzr2 h2 h3=>?_) r;subst zr2
  simpa using h3.drop n
theorem VRels.take{P:Params}{G:GM}:∀(n:Nat) {ps:List PV}{vs:List Value},VRels P G vs ps->VRels P G (vs.take n) (ps.take n)
 |0,_=>λr=>by simp[VRels]
 |n+1,[]=>λr=>by simp only[VRels]at r;subst r;simp[VRels]
 |n+1,p ::ps=>λr=>by
  simp only[VRels]at r
  refine x2 (λv w=>a3 λzr2 h2 h3=>?_) r;subst zr2
  simpa using VRels.cons h2 (h3.take n)
theorem VRels.set{P:Params}{G:GM}:∀{ps:List PV}{vs:List Value}(i:Nat) {v:Value}{p:PV},VRels P G vs ps->VRel P G v p->VRels P G (vs.set i v) (ps.set i p)
 |[],_,_,_,_,r,_=>by simp only[VRels]at r;subst r;simp[VRels]
 |q ::ps,_,0,v,p,r,h=>by
  simp only[VRels]at r
  refine x2 (λu w=>a3 λzr2 h2 h3=>?_) r;subst zr2
  simpa using VRels.cons h h3
 |q ::ps,_,i+1,v,p,r,h=>by
  simp only[VRels]at r
  refine x2 (λu w=>a3 λzr2 h2 h3=>?_) r;subst zr2
  simpa using VRels.cons h2 (h3.set i h)
structure GS (G:GM) (s:Shared) (G':GM) (s':Shared):Prop where
 ext:Sub G G'
 inh:InH G' s'.heap
 new:∀a o,G' a=some o->G a=some o\/s.heap.get? a=none
 keep:∀a o,¬XS a->s.heap.get? a=some o->s'.heap.get? a=some o
 os:s'.os=s.os
 gens:AllBare s.gens->AllBare s'.gens
theorem GS.refl{G:GM}{s:Shared}(h:InH G s.heap):GS G s G s:=⟨.refl _,h,λ_ _ e=>.inl e,λ_ _ _ e=>e,rfl,λe=>e⟩
theorem GS.trans{G G' G'':GM}{s s' s'':Shared}(h:GS G s G' s')(h':GS G' s' G'' s''):GS G s G'' s'' where
 ext:=h.ext.trans h'.ext
 inh:=h'.inh
 new:=λa o e=>by
  rcases h'.new a o e with q|q
  ·exact h.new a o q
  ·right
   cases e':s.heap.get? a with
   |none=>rfl
   |some o'=>(replace q:=(h.keep a o' (λq=>by rw[h'.inh.px a q]at e;cases e) e')▸q);cases q
 keep:=λa o n e=>h'.keep a o n (h.keep a o n e)
 os:=h'.os.trans h.os
 gens:=λe=>h'.gens (h.gens e)
theorem GS.toks{G:GM}{s:Shared}(h:InH G s.heap)(k:Nat):GS G s G {s with toks:=k}:=⟨.refl _,h,λ_ _ e=>.inl e,λ_ _ _ e=>e,rfl,λe=>e⟩
noncomputable def rE(G:GM)(a:Nat)(o:Obj):GM:=λb=>if b=a then some o else G b
theorem InH.add{G:GM}{h:Heap}{a:Nat}{o:Obj}(x:InH G h)(e:h.get? a=some o)(n:¬XS a):InH (rE G a o) h:=
 ⟨λb o' q=>by
  unfold rE at q
  split at q
  ·rename_i r;subst r;(have zq:=Option.some.inj q;subst zq);exact e
  ·exact x.at_ _ _ q,λP p=>by unfold rE;rw[if_neg (zhd n p)];exact x.px P p,x.tab⟩
theorem GS.made{G:GM}{s:Shared}{h₁:Heap}{a:Nat}{o:Obj}(h:InH G s.heap)(ha:s.heap.get? a=none)(hg:h₁.get? a=some o)(kp:∀b o,s.heap.get? b=some o->h₁.get? b=some o)(k:Nat):
  GS G s (rE G a o) {s with heap:=h₁,toks:=k} where
 ext:=λb o' e=>by
  unfold rE
  rw[if_neg λq=>by have:=h.at_ _ _ e;(replace this:=q▸this;replace this:=ha▸this);cases this];exact e
 inh:=⟨λb o' e=>by
  unfold rE at e
  split at e
  ·rename_i q;subst q;(have zq:=Option.some.inj e;subst zq);exact hg
  ·exact kp _ _ (h.at_ _ _ e),λP p=>by
  unfold rE
  rw[if_neg (zhd (h.tab.ne ha) p)];exact h.px P p,h.tab.keeps λ_ _ _ e=>kp _ _ e⟩
 new:=λb o' e=>by
  unfold rE at e
  split at e
  ·rename_i q;subst q;exact .inr ha
  ·exact .inl e
 keep:=λb o' _ e=>kp _ _ e
 os:=rfl
 gens:=λe=>e
theorem GS.push{G:GM}{s:Shared}(h:InH G s.heap)(o:Obj)(hf:o.isFreed=false)(k:Nat):GS G s (rE G s.heap.objs.size o) {s with heap:=s.heap.push o,toks:=k}:=
 .made h (Heap.none_size _) (dc _ hf) (λ_ _ e=>di _ e) k
theorem fT{G:GM}{a:Nat}{o:Obj}:rE G a o a=some o:=by simp[rE]
noncomputable def GW(M:Model)(A:Around)(P:Params)(E:Value->Shared->Prop)(G:GM)(s:Shared)(t:Sem Value)(K:PV->Prop):Prop:=
 wpAny M A t (λv s'=>∃r G',K r/\GS G s G' s'/\VRel P G' v r) E s
theorem GW.mono{M:Model}{A:Around}{P:Params}{E:Value->Shared->Prop}{G:GM}{s:Shared}{t:Sem Value}{K K':PV->Prop}(h:GW M A P E G s t K)(hk:∀r,K r->K' r):GW M A P E G s t K':=
 wpAny_mono h (λ_ _ ⟨r,G',h1,h2,h3⟩=>⟨r,G',hk r h1,h2,h3⟩) λ_ _ e=>e
noncomputable def LView(P:Params)(G:GM)(h:Heap)(v:Value)(xs:List PV):Prop:=
 ∃a o vs n,v=.ref a/\h.get? a=some o/\o.cls=.type "list"/\ o.dict=none/\o.data=.seq vs n/\vs.size<=bU/\VRels P G vs.toList xs
noncomputable def lP(P:Params)(G:GM)(h:Heap)(v:Value):PV->Prop
 |.list xs=>LView P G h v xs
 |p=>VRel P G v p
theorem VRel.view{P:Params}{G:GM}{h:Heap}(hi:InH G h){v:Value}{p:PV}(r:VRel P G v p):lP P G h v p:=by
 cases p<;>try exact r
 simp only[VRel]at r
 refine x4 (λa o vs n=>a7 λh1 h2 h3 h3' h4 h5 h6=>?_) r
 exact ex4 a o vs n ⟨h1,hi.at_ _ _ h2,h3,h3',h4,h5,h6⟩
section
variable {prog:Program}{w:World}{A:Around}{E:Value->Shared->Prop}{s:Shared}{G:GM}{P:Params}{a b:Value}{K:PV->Prop}
theorem oV{t:Sem Value}{i:Int}(hi:InH G s.heap)(hk:K (.int i))(h:∀Q:Value->Shared->Prop,Q (.int i s.toks) {s with toks:=s.toks+1}->wpAny (model prog w) A t Q E s):GW (model prog w) A P E G s t K:=
 h _ ⟨.int i,G,hk,GS.toks hi _,by simp[VRel]⟩
theorem lK{x y:List Nat}(hx:okStr x)(hy:okStr y)(h:x.length+y.length<=bU):okStr (x++y):=
 ⟨λc hc=>(ig.mp hc).elim (hx.1 c) (hy.1 c),by simpa using h⟩
theorem oF(x y:List Nat):(⟨x.toArray⟩:Str)++⟨y.toArray⟩=⟨(x++y).toArray⟩:=by
 show Str.append _ _=_
 simp[Str.append]
theorem dO(x:List Nat):(⟨x.toArray⟩:Str).length=x.length:=by simp[ee]
theorem zce{vs:List Value}{xs:List PV}(hi:InH G s.heap)(hr:VRels P G vs xs)(hz:vs.length<=bU)(hk:K (.list xs)):GW (model prog w) A P E G s (newList vs) K:=by
 refine wpAny_newObj_type ?_ (by show vs.toArray.size<=sizeLine;rw[ir];exact hz)
 have g:=GS.push hi {cls:=.type "list",data:=.seq vs.toArray} rfl s.toks
 refine ex2 (.list xs) _ ⟨hk,g,?_⟩
 simp only[VRel]
 exact ex4 _ _ _ _ ⟨rfl,fT,rfl,rfl,rfl,by simpa using hz,by simpa using hr.mono g.ext⟩
theorem zV{vs:List Value}{xs:List PV}(hi:InH G s.heap)(hr:VRels P G vs xs)(hz:vs.length<=bU)(hk:K (.tup xs)):GW (model prog w) A P E G s (newTuple vs) K:=by
 refine wpAny_newObj_type ?_ (by show vs.toArray.size<=sizeLine;rw[ir];exact hz)
 have g:=GS.push hi {cls:=.type "tuple",data:=.seq vs.toArray} rfl s.toks
 refine ex2 (.tup xs) _ ⟨hk,g,?_⟩
 simp only[VRel]
 exact ex4 _ _ _ _ ⟨rfl,fT,rfl,rfl,by simpa using hz,by simpa using hr.mono g.ext⟩
theorem LView.isList{h:Heap}{v:Value}{xs:List PV}(r:LView P G h v xs):∃a vs,v=.ref a/\h.IsList a vs/\vs.size<=bU/\VRels P G vs.toList xs:=by
 refine x4 (λa o vs n=>a7 λh1 h2 h3 h3' h4 h5 h6=>?_) r
 exact ex2 a vs ⟨h1,⟨o,h2,h3,n,h4⟩,h5,h6⟩
theorem qZ{a b:Value}{i j:Int}(op:Operator)(r:Int)(ha:VRel P G a (.int i))(hb:VRel P G b (.int j))(hi:InH G s.heap)(hk:K (.int r))
  (h:∀(t u:Tok) (Q:Value->Shared->Prop),Q (.int r s.toks) {s with toks:=s.toks+1}->wpAny (model prog w) A (binaryOp op (.int i t) (.int j u)) Q E s):
  GW (model prog w) A P E G s (binaryOp op a b) K:=by
 simp only[VRel]at ha hb
 obtain⟨t,rfl⟩:=ha
 obtain⟨u,rfl⟩:=hb
 exact oV hi hk λQ q=>h t u Q q
theorem zfk(x:Nat):∀n (acc:Array Nat),List.foldl (λx1 x2=>x1++x2) acc (au n #[x])=acc++(au n x).toArray:=by
 intro n
 induction n with
 |zero=>intro acc;simp
 |succ n ih=>intro acc;rw[List.replicate_succ,List.foldl_cons,ih];apply Array.ext';simp[List.replicate_succ]
theorem u4(c:Nat)(n:Int)(h0:0<=n):Txt.mul ⟨#[c]⟩ n=⟨(au n.toNat c).toArray⟩:=by
 unfold Txt.mul
 by_cases h1:n<1
 ·rw[if_pos h1]
  have:n.toNat=0:=Int.toNat_of_nonpos (Int.le_of_lt_add_one h1)
  rw[this];rfl
 ·rw[if_neg h1]
  by_cases h2:n=1
  ·subst h2;rfl
  ·have:(n==1||ee (⟨#[c]⟩:Str)==0)=false:=by
    simp[ee,h2]
   rw[this]
   simp only[Bool.false_eq_true,if_false]
   rw[zfk];simp
theorem zjz{a b:Value}{x:List Nat}{y:Int}(hi:InH G s.heap)(ha:lP P G s.heap a (.str x))(hb:lP P G s.heap b (.int y))(h0:0<=y)(h1:y<=1000)(hl:x.length=1)(hk:K (.str (au y.toNat (x.headD 0)))):GW (model prog w) A P E G s (binaryOp .Mult a b) K:=by
  simp only[lP,VRel]at ha hb
  obtain⟨t,rfl,hx⟩:=ha
  obtain⟨u,rfl⟩:=hb
  obtain⟨c,rfl⟩:∃c,x=[c]:=io.mp hl
  refine SB.mul (x:=⟨#[c]⟩) ?_ λt' k=>⟨_,G,hk,GS.toks hi _,?_⟩
  ·refine⟨by simp;omega,λh2 h3=>?_,λh2 h3=>?_⟩
   ·have:(ee (⟨#[c]⟩:Str):Int)=1:=rfl
    rw[this]
    have h4:y*1000<=9223372036854775807:=by omega
    have:1<=(2^63 - 1)/ y:=(Int.le_ediv_iff_mul_le (by omega)).mpr (by omega)
    omega
   ·have:ee (⟨#[c]⟩:Str)=1:=rfl
    rw[this]
    unfold Builtin.Str.tooLong
    rw[sizeLine_eq]
    simp only[decide_eq_false_iff_not,gt_iff_lt,gv]
    omega
  ·simp only[VRel]
   refine⟨t',by rw[u4 _ _ h0];rfl,?_,?_⟩
   ·intro d hd
    have:d=c:=by simpa using List.eq_of_mem_replicate hd
    exact this▸hx.1 c (by simp)
   ·simp;unfold bU;omega
theorem zli{op:Operator}{a b:Value}{p q:PV}(hi:InH G s.heap)(ha:lP P G s.heap a p)(hb:lP P G s.heap b q)(h:zkg op p q K):
  GW (model prog w) A P E G s (binaryOp op a b) K:=by
 cases op<;>first |exact bq h|skip
 ·have h:(if isL p=true then addL p q K else zkn p q K):=h
  by_cases hl:isL p=true
  ·replace h:=(if_pos hl)▸h
   refine x1 (λx=>a2 λzr1 h=>?_) (y2 h);subst zr1
   refine x1 (λy=>a3 λzr1 hz hk=>?_) (y2 (v:=q) h);subst zr1
   obtain⟨l,⟨c1,d1,dt1,sl1⟩,vs,n1,rfl,ho1,hc1,hd1,hdt1,hs1,hr1⟩:=ha
   obtain⟨m,⟨c2,d2,dt2,sl2⟩,ws,n2,rfl,ho2,hc2,hd2,hdt2,hs2,hr2⟩:=hb
   simp only at hc1 hd1 hdt1 hc2 hd2 hdt2
   subst hc1 hd1 hdt1 hc2 hd2 hdt2
   have hz':vs.size+ws.size<=bU:=by rw[<- cn,<- cn,hr1.length,hr2.length];exact hz
   refine concat_meets ⟨_,ho1,rfl⟩ ⟨_,ho2,rfl⟩ noFill_list_add seq_list_add PySem.F.slot_list_add PySem.F.entry_list_add (PySem.F.args_list_add_2 _ _) (list_addW l m vs ws n1 n2 none none sl1 sl2 hz') ⟨ho1,ho2,?_⟩
   have g:=GS.push hi {cls:=.type "list",data:=.seq (vs++ws)} rfl s.toks
   refine ex2 _ _ ⟨hk,g,?_⟩
   simp only[VRel]
   exact ex4 _ _ _ _ ⟨rfl,fT,rfl,rfl,rfl,by rw[Array.size_append];exact hz',by rw[Array.toList_append];exact(hr1.append hr2).mono g.ext⟩
  ·replace h:=(if_neg hl)▸h
   cases p<;>first |exact bq h|skip
   ·refine x1 (λy=>a2 λzr1 h=>?_) (dH (v:=q) h);subst zr1
    exact qZ _ _ ha hb hi h λ_ _ _ q=>add_int q
   ·refine x1 (λy=>a3 λzr1 hz hk=>?_) (dW (v:=q) h);subst zr1
    simp only[lP,VRel]at ha hb
    refine x1 (λt=>a2 λzr1 hx=>?_) ha;subst zr1
    refine x1 (λu=>a2 λzr1 hy=>?_) hb;subst zr1
    refine KOpn.add (by rw[dO,dO];exact hz) λt' k _=>?_
    refine ex2 _ G ⟨hk,GS.toks hi _,?_⟩
    simp only[VRel]
    exact⟨t',by rw[oF],lK hx hy hz⟩
 ·refine x1 (λx=>a2 λzr1 h=>?_) (dH h);subst zr1
  refine x1 (λy=>a2 λzr1 h=>?_) (dH (v:=q) h);subst zr1
  exact qZ _ _ ha hb hi h λ_ _ _ q=>sub_int q
 ·cases p<;>first |exact bq h|skip
  ·refine x1 (λy=>a3 λe h0 hk=>?_) (dH (v:=q) h)
   subst e
   exact qZ _ _ ha hb hi hk λ_ _ _ q=>mul_int q (.of_right h0)
  ·rename_i x
   refine x1 (λy=>a5 λe h0 h1 hl hk=>?_) (dH (v:=q) h)
   subst e
   exact zjz hi ha hb h0 h1 hl hk
 ·refine x1 (λx=>a2 λzr1 h=>?_) (dH h);subst zr1
  obtain⟨y,rfl,h0,h⟩:=dH (v:=q) h
  refine qZ _ _ ha hb hi h λ_ _ _ q=>mod_int' (Int.ne_of_gt h0) ?_
  rw[Int.fmod_eq_emod_of_nonneg _ (Int.le_of_lt h0)];exact q
end
mutual
noncomputable def zku:PV->PyData
 |.none=>.none
 |.int i=>.int i
 |.str x=>.str ⟨x.toArray⟩
 |.tup xs=>.tuple (zE xs)
 |.list xs=>.list (zE xs)
 |.bool b=>.bool b
 |.inst _ _=>.none
 |.rng _ _=>.none
 |.ptr _=>.none
 |.dict _ _=>.none
noncomputable def zE:List PV->List PyData
 |[]=>[]
 |x ::xs=>zku x ::zE xs
end
noncomputable def nQ(P:Params)(G:GM)(h:Heap)(σ:Nat->Option Cell):Prop:=∀a xs,σ a=some (.lst xs)->LView P G h (.ref a) xs
theorem okStr.strOk{x:List Nat}(h:okStr x):PyData.strOk ⟨x.toArray⟩=true:=by
 simp only[PyData.strOk]
 rw[Array.all_eq_true]
 intro i hi
 simp only[decide_eq_true_eq]
 exact h.1 _ (by simp)
section
variable {P:Params}{G:GM}{h:Heap}{σ:Nat->Option Cell}
mutual
theorem pS(hi:InH G h)(hc:nQ P G h σ):∀{t:PV}{p:PV}{v:Value},VRel P G v p->Res σ p t->plain t=true->∃as,Reads h v (zku t) as/\(zku t).canLay0=true/\(zku t).depth<=dep t
 |.none,p,v,r,q,_=>by
  have q:p=.none:=q
  subst q
  have r:v=.none:=r
  subst r
  exact⟨_,.none,rfl,bh 0⟩
 |.int i,p,v,r,q,_=>by
  have q:p=.int i:=q
  subst q
  refine x1 (λt e=>?_) (show∃t,v=.int i t from r)
  subst e;exact⟨_,.int i t,rfl,bh 0⟩
 |.str x,p,v,r,q,_=>by
  have q:p=.str x:=q
  subst q
  refine x1 (λt=>a2 λe ok=>?_) (show∃t,v=.str ⟨x.toArray⟩ t/\okStr x from r)
  subst e;exact⟨_,.str _ t,ok.strOk,bh 0⟩
 |.tup ts,p,v,r,q,hp=>by
  refine x1 (λxs=>a2 λe q'=>?_) (show∃xs,p=.tup xs/\nM σ xs ts from q)
  subst e
  refine x4 (λa o vs n=>a6 λe h2 h3 h4 _ h5=>?_) r
  refine x1 (λas=>a3 λra cl d=>?_) (j8 hi hc h5 q' hp)
  exact e▸⟨_,reads_tuple_at (hi.at_ _ _ h2) h3 h4 ra,cl,df d⟩
 |.list ts,p,v,r,q,hp=>by
  refine Or.elim (show(∃xs,p=.list xs/\nM σ xs ts)\/(∃a xs,p=.ptr a/\σ a=some (.lst xs)/\nM σ xs ts)from q) (x1 λxs=>a2 λe q'=>?_) (x2 λa xs=>a3 λe hσ q'=>?_)
  ·subst e
   refine x4 (λa o vs n=>a7 λe h2 h3 _ h4 _ h5=>?_) r
   refine x1 (λas=>a3 λra cl d=>?_) (j8 hi hc h5 q' hp)
   exact e▸⟨_,reads_list_at (hi.at_ _ _ h2) h3 h4 ra,cl,df d⟩
  ·subst e
   refine x4 (λa' o vs n=>a7 λe h2 h3 _ h4 _ h5=>?_) (hc a xs hσ)
   refine x1 (λas=>a3 λra cl d=>?_) (j8 hi hc h5 q' hp)
   have zq:=Value.ref.inj e;subst zq
   exact(show v=.ref a from r)▸⟨_,reads_list_at h2 h3 h4 ra,cl,df d⟩
 |.bool b,p,v,r,q,hp=>fo hp
 |.inst _ _,p,v,r,q,hp=>fo hp
 |.rng _ _,p,v,r,q,hp=>fo hp
 |.ptr _,p,v,r,q,hp=>fo hp
 |.dict _ _,p,v,r,q,hp=>fo hp
theorem j8(hi:InH G h)(hc:nQ P G h σ):∀{ts:List PV}{ps:List PV}{vs:List Value},VRels P G vs ps->nM σ ps ts->xG ts=true->∃as,ReadsAll h vs (zE ts) as/\PyData.canLayAll0 (zE ts)=true/\PyData.depthAll (zE ts)<=zkz ts
 |[],ps,vs,r,q,_=>by
  have q:ps=[]:=q
  subst q
  have r:vs=[]:=r
  subst r
  exact⟨_,.nil,rfl,bh 0⟩
 |t ::ts,ps,vs,r,q,hp=>by
  refine x2 (λy ys=>a3 λe q1 q2=>?_) (show∃y ys,ps=y ::ys/\Res σ y t/\nM σ ys ts from q)
  subst e
  refine x2 (λv w=>a3 λe r1 r2=>?_) (show∃v w,vs=v ::w/\VRel P G v y/\VRels P G w ys from r)
  have hp:=ag.mp hp
  refine x1 (λas=>a3 λra c1 d1=>?_) (pS hi hc r1 q1 hp.1)
  refine x1 (λbs=>a3 λrb c2 d2=>?_) (j8 hi hc r2 q2 hp.2)
  exact e▸⟨_,.cons ra rb,zfV c1 c2,Nat.max_le.mpr ⟨af d1 (Nat.le_max_left _ _),af d2 (Nat.le_max_right _ _)⟩⟩
end
end
section
variable {prog:Program}{w:World}{A:Around}{E:Value->Shared->Prop}{s:Shared}{G:GM}{P:Params}{a b:Value}{K:PV->Prop}{σ:Nat->Option Cell}
theorem eK{t:Sem Value}{i:Bool}(hi:InH G s.heap)(hk:K (.bool i))(h:∀Q:Value->Shared->Prop,Q (.bool i) s->wpAny (model prog w) A t Q E s):GW (model prog w) A P E G s t K:=
 h _ ⟨.bool i,G,hk,GS.refl hi,by simp[VRel]⟩
structure Room (n:Nat) (A:Around):Prop where
 handled:A.handled=none
 depth:A.depth+n<=900
 units:A.units+20*n<=5000
theorem Room.le{n m:Nat}{A:Around}(h:Room n A)(hm:m<=n):Room m A:=⟨h.handled,af (cc hm _) h.depth,af (cc (ei 20 hm) _) h.units⟩
theorem Room.deeper{n:Nat}{A:Around}{env:Env}(h:Room (n+1) A):Room n (A.deeper env):=⟨h.handled,(dm _ 1 n▸h.depth:A.depth+1+n<=900),(af (dz (bl A.units 3 (20*n))) (af (cc (af (dz (bn 3 (20*n))) (cc (by decide:3<=20) (20*n))) A.units) h.units):A.units+3+20*n<=5000)⟩
theorem eq_G{n:Nat}(hA:Room n A)(ne:Bool)(hi:InH G s.heap)(hc:nQ P G s.heap σ){p q:PV}(ha:VRel P G a p)(hb:VRel P G b q)(h:eqW σ p q λr=>K (.bool (if ne then !r else r))):
  GW (model prog w) A P E G s (compareOp (if ne then .NotEq else .Eq) a b) K:=by
 have main:∀{da db:PyData}{as bs:List Addr}{r:Bool},Reads s.heap a da as->Reads s.heap b db bs->da.canLay0=true->db.canLay0=true->da.depth<=4001->PyData.eqv da db=r->K (.bool (if ne then !r else r))->
   GW (model prog w) A P E G s (compareOp (if ne then .NotEq else .Eq) a b) K:=by
  intro da db as bs r ra rb ca cb hd e hk
  have hu:A.units+min da.depth db.depth<cLine:=ai (ft (af (am _ _) hA.units) (af (fw _ _) hd)) (by decide:5000+4001<9900)
  subst e
  cases ne
  ·exact eK hi hk λQ q=>SeqAt.compareEq_reads ra rb ca cb hu q
  ·exact eK hi hk λQ q=>SeqAt.compareNe_reads ra rb ca cb hu q
 have gen:eqT σ p q (λr=>K (.bool (if ne then !r else r)))->GW (model prog w) A P E G s (compareOp (if ne then .NotEq else .Eq) a b) K:=by
  refine x1 λt=>a5 λra rb pl hd hk=>?_
  refine x1 (λas=>a3 λra ca da=>?_) (pS hi hc ha ra pl)
  refine x1 (λbs=>a3 λrb _ _=>?_) (pS hi hc hb rb pl)
  exact main ra rb ca ca (af da (af hd (ff _))) (SeqAt.eqv_refl _ ca) hk
 cases p<;>first |exact gen h|skip
 ·rename_i x
  cases q<;>first |exact bq h|skip
  rename_i y
  have ha:a=.bool x:=ha
  have hb:b=.bool y:=hb
  subst ha;subst hb;exact main (r:=decide (x=y)) (.bool _) (.bool _) rfl rfl (ed _ _) rfl h
 ·rename_i x
  cases q<;>first |exact bq h|skip
  rename_i y
  refine x1 (λt ea=>?_) ha
  refine x1 (λu eb=>?_) hb
  subst ea;subst eb;exact main (r:=decide (x=y)) (.int _ t) (.int _ u) rfl rfl (ed _ _) rfl h
 ·rename_i x
  refine x1 (λt=>a2 λea ok=>?_) ha
  subst ea
  cases q<;>first |exact bq h|skip
  ·have hb:b=.none:=hb
   subst hb;exact main (r:=false) (.str _ t) .none ok.strOk rfl (ed _ _) rfl h
  ·rename_i y
   refine x1 (λu=>a2 λeb ok'=>?_) hb
   subst eb
   exact main (r:=decide (x=y)) (.str _ t) (.str _ u) ok.strOk ok'.strOk (ed _ _) (decide_eq_decide.mpr ⟨λe=>congrArg (λs:Str=>s.cps.toList) e,λe=>congrArg (λx:List Nat=>(⟨x.toArray⟩:Str)) e⟩) h
end
end Mine
end
section
open PySem PySem.W PyProof.Rows
open Builtin Builtin.Str
set_option Elab.async false
set_option autoImplicit false
namespace Mine
noncomputable def lT(x p:List Nat)(hi:Nat):Nat->Nat->Nat->Nat->List Nat
 |0,_,_,_=>[]
 |n+1,i,lim,free=>if 0<lim/\free<=i/\i+p.length<=hi/\(x.drop i).take p.length=p then i ::lT x p hi n (i+1) (lim - 1) (i+p.length)else lT x p hi n (i+1) lim free
theorem zU(s sub:Str)(hi limit i:Nat)(acc:Array Nat)(free:Nat):
  StrLaws.occBody s sub hi limit i (acc,free)=pure (.yield (if acc.size<limit/\free<=i/\i+sub.cps.toList.length<=hi/\(s.cps.toList.drop i).take sub.cps.toList.length=sub.cps.toList then(acc.push i,i+sub.cps.toList.length)else(acc,free))):=by
 have e:sub.length=sub.cps.toList.length:=by simp[ee]
 have e2:(subAt s sub i=true)↔(s.cps.toList.drop i).take sub.cps.toList.length=sub.cps.toList:=by
  rw[StrLaws.subAt_eq,beq_iff_eq,e]
 unfold StrLaws.occBody
 simp only[dj]
 by_cases c:acc.size<limit/\free<=i/\i+sub.cps.toList.length<=hi/\(s.cps.toList.drop i).take sub.cps.toList.length=sub.cps.toList
 ·rw[if_pos c,if_pos ⟨⟨⟨c.1,c.2.1⟩,by rw[e];exact c.2.2.1⟩,e2.mpr c.2.2.2⟩,e]
 ·rw[if_neg c,if_neg (λh=>c ⟨h.1.1.1,h.1.1.2,by rw[<- e];exact h.1.2,e2.mp h.2⟩)]
theorem zhF(s sub:Str)(hi limit:Nat):∀(n i:Nat) (acc:Array Nat) (free:Nat),acc.size<=limit->
  (forIn (List.range' i n) (acc,free) (StrLaws.occBody s sub hi limit)).run.fst.toList=acc.toList++lT s.cps.toList sub.cps.toList hi n i (limit - acc.size) free:=by
 intro n
 induction n with
 |zero=>intro i acc free _;simp[lT]
 |succ n ih=>
  intro i acc free hz
  rw[jc,gk,zU]
  unfold lT
  by_cases c:acc.size<limit/\free<=i/\i+sub.cps.toList.length<=hi/\(s.cps.toList.drop i).take sub.cps.toList.length=sub.cps.toList
  ·rw[if_pos c,if_pos ⟨Nat.sub_pos_of_lt c.1,c.2⟩]
   show(forIn _ (acc.push i,i+sub.cps.toList.length) _:Id _).run.fst.toList=_
   rw[ih _ _ _ (by rw[Array.size_push];exact c.1)]
   simp only[Array.toList_push,dw,List.singleton_append,Array.size_push]
   congr 3
  ·rw[if_neg c,if_neg (λh=>c ⟨Nat.lt_of_sub_pos h.1,h.2⟩)]
   show(forIn _ (acc,free) _:Id _).run.fst.toList=_
   exact ih _ _ _ hz
theorem xJ(s sub:Str)(lo hi limit:Nat):occurrences s sub lo hi limit=lT s.cps.toList sub.cps.toList hi (hi+1 - lo) lo limit lo:=by
 rw[StrLaws.occ_eq,zhF _ _ _ _ _ _ _ _ (by simp)]
 simp
theorem iD(p x:List Nat):p.isPrefixOf x=true↔x.take p.length=p:=by
 rw[dn]
 constructor
 ·rintro⟨r,rfl⟩;simp
 ·intro h;exact⟨x.drop p.length,by conv=>rhs;rw[<- ef p.length x,h]⟩
theorem pU{p x:List Nat}(h:p.isPrefixOf x=true):p.length<=x.length:=by
 rw[dn]at h;exact h.length_le
theorem uS{p n i:Nat}(hi:i<=n)(h:p<=n - i):i+p<=n:=bp hi▸cc h i
theorem zh9(x p:List Nat):∀(n i f:Nat),f<=i->i+n=x.length+1->(match lT x p x.length n i 1 f with |k ::_=>(k:Int)|[]=>-1)=nB x p i n:=by
 intro n
 induction n with
 |zero=>intro i f _ _;rfl
 |succ n ih=>
  intro i f hf hn
  unfold lT nB
  by_cases c:p.isPrefixOf (x.drop i)=true
  ·have hl:=pU c
   rw[bv]at hl
   rw[if_pos c,if_pos ⟨by decide,hf,uS (iu (ii (bg (gz n)) hn)) hl,(iD _ _).mp c⟩]
  ·rw[if_neg c,if_neg (λh=>c ((iD _ _).mpr h.2.2.2))]
   exact ih (i+1) f (cq hf) (by rw[<- hn,bl,bn 1])
theorem d6(n:Nat)(i:Int)(h:0<=i):fromIndex n i=i.toNat:=by unfold fromIndex;rw[if_neg (fk.mpr h),Int.max_eq_right h]
theorem zfo(x p:List Nat)(i:Int)(h0:0<=i):Txt.find3 ⟨x.toArray⟩ ⟨p.toArray⟩ i=sX x p i.toNat:=by
 unfold Txt.find3 sX
 rw[d6 _ _ h0,xJ,dO]
 by_cases hi:i.toNat<=x.length
 ·exact zh9 x p _ _ _ (bh _) (bp (cq hi))
 ·have:x.length+1 - i.toNat=0:=eu (fc hi)
  simp only[this];rfl
theorem zhG(x p:List Nat)(f:Nat):∀(n i:Nat),f<=i->i+n=x.length+1->i<=x.length->(lT x p x.length n i 1 f≠[]↔uA p (x.drop i)=true):=by
 intro n
 induction n generalizing f with
 |zero=>
  intro i hf hn hx
  exact absurd hx (gh (ii (av _) (Eq.symm hn)))
 |succ n ih=>
  intro i hf hn hx
  unfold lT
  by_cases hl:i=x.length
  ·subst hl
   have:n=0:=Nat.succ.inj (Nat.add_left_cancel hn)
   subst this
   refine ia.symm▸?_
   by_cases hp:p=[]
   ·subst hp;simp[uA,hf]
   ·have:p.length≠0:=by simpa using hp
    rw[if_neg (λh=>this (Nat.eq_zero_of_le_zero (Nat.le_of_add_le_add_left (show x.length+p.length<=x.length+0 from h.2.2.1))))]
    simp[lT,uA,hp]
  ·have hl':i<x.length:=ij hx hl
   refine(ak hl').symm▸?_
   simp only[uA,ey]
   refine(ak hl')▸?_
   by_cases c:p.isPrefixOf (x.drop i)=true
   ·have hl:=pU c
    rw[bv]at hl
    rw[if_pos ⟨by decide,hf,uS (aq hl') hl,(iD _ _).mp c⟩]
    simp[c]
   ·rw[if_neg (λh=>c ((iD _ _).mpr h.2.2.2)),ih f (i+1) (cq hf) (by rw[<- hn,bl,bn 1]) hl']
    simp[c]
theorem nI(x p:List Nat):(!(occurrences ⟨x.toArray⟩ ⟨p.toArray⟩ 0 (ee ⟨x.toArray⟩) 1).isEmpty)=uA p x:=by
 rw[xJ,dO]
 have:=zhG x p 0 (x.length+1 - 0) 0 (bh _) (eg _) (dq _)
 simp only[List.drop_zero]at this
 by_cases c:uA p x=true
 ·rw[c];simpa using this.mpr c
 ·have h:lT x p x.length (x.length+1 - 0) 0 1 0=[]:=by
   by_cases h:lT x p x.length (x.length+1 - 0) 0 1 0=[]
   ·exact h
   ·exact absurd (this.mp h) c
  simp only[Bool.not_eq_true]at c
  rw[c]
  rw[h];rfl
noncomputable def ziQ(c:Nat)(x:List Nat):Nat->Nat->Nat
 |0,_=>0
 |n+1,i=>if x[i]?=some c then ziQ c x n (i+1)+1 else ziQ c x n (i+1)
theorem tJ(c:Nat)(x:List Nat):∀(n i:Nat),ziQ c x n i=((x.drop i).take n).count c
 |0,i=>by rw[List.take_zero];rfl
 |n+1,i=>by
  unfold ziQ
  rw[tJ c x n (i+1)]
  by_cases h:i<x.length
  ·rw[ak h,List.take_succ_cons,List.count_cons,ah h]
   by_cases e:x[i]=c
   ·rw[if_pos (congrArg some e),if_pos (beq_iff_eq.mpr e)]
   ·rw[if_neg (λq=>e (Option.some.inj q)),if_neg (λq=>e (beq_iff_eq.mp q))];rfl
  ·rw[bt (aw h),if_neg (λq=>by cases q),az (aw h),az (cq (aw h))]
   rw[List.take_nil,List.take_nil]
theorem zgt(x:List Nat)(c i:Nat):(x.drop i).take 1=[c]↔x[i]?=some c:=by
 by_cases h:i<x.length
 ·rw[ak h,ah h]
  exact⟨λq=>congrArg some (List.cons.inj q).1,λq=>congrArg (λd=>[d]) (Option.some.inj q)⟩
 ·rw[az (aw h),bt (aw h)]
  exact⟨λq=>(by cases q),λq=>(by cases q)⟩
theorem zdy(x:List Nat)(c hi:Nat):∀(n i lim f:Nat),f<=i->n<=lim->i+n=hi->(lT x [c] hi (n+1) i lim f).length=ziQ c x n i:=by
 intro n
 induction n with
 |zero=>
  intro i lim f _ _ hn
  have hn:i=hi:=hn
  subst hn
  unfold lT
  rw[if_neg (λh=>Nat.not_succ_le_self i h.2.2.1)];rfl
 |succ n ih=>
  intro i lim f hf hl hn
  have h1:i+1+n=hi:=by rw[<- hn,bl,bn 1]
  unfold lT ziQ
  by_cases c':x[i]?=some c
  ·rw[if_pos ⟨aj (gz n) hl,hf,h1▸am _ n,(zgt x c i).mpr c'⟩,if_pos c',jd,ih (i+1) (lim - 1) (i+[c].length) (bh _) (Nat.le_sub_one_of_lt hl) h1]
  ·rw[if_neg (λh=>c' ((zgt x c i).mp h.2.2.2)),if_neg c']
   exact ih (i+1) lim f (cq hf) (ej hl) h1
theorem zfy(x:List Nat)(c i j:Nat):(occurrences ⟨x.toArray⟩ ⟨#[c]⟩ i (min j x.length) (x.length+1)).length=((x.take j).drop i).count c:=by
 rw[xJ,List.drop_take,List.take_eq_take_min,bv]
 by_cases hi:i<=min j x.length
 ·rw[Nat.succ_sub hi]
  refine(zdy x c _ _ _ _ _ (bh _) ?_ (bp hi)).trans ((tJ c x _ i).trans ?_)
  ·exact af (Nat.sub_le _ _) (af (du _ _) (ff _))
  ·rw[gm]
 ·have h:min j x.length<=i:=fp hi
  rw[eu (fc hi),gm,eu h]
  rfl
theorem m7(s:Str)(c hi i:Nat)(J:Option Nat)(hh:hi<=s.cps.toList.length):
  StrLaws.lastBody s ⟨#[c]⟩ hi i J=pure (.yield (if i<hi/\s.cps.toList[i]?=some c then some i else J)):=by
 have e2:i<hi->((subAt s ⟨#[c]⟩ i=true)↔s.cps.toList[i]?=some c):=by
  intro hl
  have hlt:i<s.cps.toList.length:=by omega
  rw[StrLaws.subAt_eq,beq_iff_eq]
  show(s.cps.toList.drop i).take 1=[c]↔_
  rw[ak hlt,ah hlt]
  simp
 unfold StrLaws.lastBody
 by_cases q:i<hi/\s.cps.toList[i]?=some c
 ·rw[if_pos q,if_pos ⟨q.1,(e2 q.1).mpr q.2⟩]
 ·rw[if_neg q,if_neg (λh=>q ⟨h.1,(e2 h.1).mp h.2⟩)]
theorem zcQ(s:Str)(c hi:Nat)(hh:hi<=s.cps.toList.length):∀(n i:Nat) (J:Option Nat),i+n=hi->
  (forIn (List.range' i (n+1)) J (StrLaws.lastBody s ⟨#[c]⟩ hi)).run=sN c s.cps.toList n i J:=by
 intro n
 induction n with
 |zero=>
  intro i J hn
  have hn:i=hi:=hn
  subst hn
  rw[jc,gk,m7 _ _ _ _ _ hh,if_neg (λh=>em _ h.1)]
  rfl
 |succ n ih=>
  intro i J hn
  have h1:i+1+n=hi:=by rw[<- hn,bl,bn 1]
  rw[jc,gk,m7 _ _ _ _ _ hh]
  show(forIn (List.range' (i+1) (n+1)) (if i<hi/\s.cps.toList[i]?=some c then some i else J) _:Id _).run=sN c _ n (i+1) (if s.cps.toList[i]?=some c then some i else J)
  rw[ih (i+1) _ h1]
  by_cases q:s.cps.toList[i]?=some c
  ·rw[if_pos q,if_pos ⟨h1▸aj (av i) (am _ n),q⟩]
  ·rw[if_neg q,if_neg λh=>q h.2]
theorem zeH(x:List Nat)(c i j:Nat):(match lastOccurrence ⟨x.toArray⟩ ⟨#[c]⟩ i (min j x.length)with |some k=>(k:Int)|none=>-1)=fY c x i j:=by
 rw[StrLaws.last_eq]
 unfold fY
 by_cases hi:i<=min j x.length
 ·rw[Nat.succ_sub hi,zcQ ⟨x.toArray⟩ c _ (du _ _) _ _ _ (bp hi)]
  show(match sN c x (min j x.length - i) i none with |some k=>(k:Int)|none=>-1)=_
  cases sN c x (min j x.length - i) i none<;>rfl
 ·rw[eu (fc hi),eu (fp hi)]
  rfl
noncomputable def zeD(x z:List Nat)(w:Nat):Nat->List Nat->List Nat
 |J,[]=>x.drop J
 |J,c ::cs=>(x.drop J).take (c - J)++z++zeD x z w (c+w) cs
theorem rS(x:Str)(z:Str)(w:Nat):∀(cuts:List Nat) (J:Nat),
  (Str.join z (((J ::cuts.map (·+w)).zip (cuts++[x.length])).map λ(i,j)=>strSub x i j)).cps.toList=zeD x.cps.toList z.cps.toList w J cuts
 |[],J=>by
  simp only[jh,ik,List.zip_cons_cons,List.zip_nil_left,cf,Str.join,zeD]
  rw[StrLaws.strSub_toList]
  apply gi
  simp[ee]
 |c ::cs,J=>by
  have ih:=rS x z w cs (c+w)
  have e:(((J ::(c ::cs).map (·+w)).zip (c ::cs++[x.length])).map λ(i,j)=>strSub x i j)=strSub x J c ::((((c+w) ::cs.map (·+w)).zip (cs++[x.length])).map λ(i,j)=>strSub x i j):=by simp
  rw[e]
  cases hq:((((c+w) ::cs.map (·+w)).zip (cs++[x.length])).map λ(i,j)=>strSub x i j)with
  |nil=>
   exfalso
   have:=congrArg ip hq
   simp at this
  |cons y ys=>
   rw[hq]at ih
   simp only[Str.join,zeD]
   rw[Str.cps_append,Str.cps_append,Array.toList_append,Array.toList_append,ih,StrLaws.strSub_toList]
theorem zeC(x p z:List Nat)(hp:0<p.length):∀(n i lim f m:Nat),i+n=x.length+1->n<=lim->
  (∀J,f<=i->J<=i->i<=x.length->x.length<m+i->zeD x z p.length J (lT x p x.length n i lim f)=(x.drop J).take (i - J)++c9 p z m (x.drop i))/\
  (i<=f->f<=x.length->x.length<m+f->zeD x z p.length f (lT x p x.length n i lim f)=c9 p z m (x.drop f)):=by
 intro n
 induction n with
 |zero=>
  intro i lim f m hn _
  have no:¬i<=x.length:=gh (ii (av _) hn.symm)
  exact⟨λJ _ _ hi _=>absurd hi no,λhi hf _=>absurd (af hi hf) no⟩
 |succ n ih=>
  intro i lim f m hn hl
  have h1:i+1+n=x.length+1:=by rw[<- hn,bl,bn 1]
  have A:∀J,f<=i->J<=i->i<=x.length->x.length<m+i->zeD x z p.length J (lT x p x.length (n+1) i lim f)=(x.drop J).take (i - J)++c9 p z m (x.drop i):=by
   intro J hf hst hi hm
   unfold lT
   by_cases hlt:i<x.length
   ·obtain⟨m,rfl⟩:∃k,m=k+1:=Nat.exists_eq_succ_of_ne_zero λe=>absurd hm (gv.mpr (e▸(eg i).symm▸hi))
    have hm1:x.length<m+(i+1):=by rw[bn i,<- bl];exact hm
    have hr:c9 p z (m+1) (x.drop i)=if p.isPrefixOf (x.drop i)=true then z++c9 p z m ((x.drop i).drop p.length)else x[i] ::c9 p z m (x.drop (i+1)):=by
     rw[ak hlt];rfl
    rw[hr]
    by_cases c:p.isPrefixOf (x.drop i)=true
    ·have hlen:=pU c
     rw[bv]at hlen
     rw[if_pos c,if_pos ⟨aj (gz n) hl,hf,gp hi hlen,(iD _ _).mp c⟩,zeD,(ih (i+1) (lim - 1) (i+p.length) m h1 (Nat.le_sub_one_of_lt hl)).2 (cc hp i) (gp hi hlen) (aj hm1 (cc (cc hp i) m)),dk,dw]
    ·rw[if_neg c,if_neg (λh=>c ((iD _ _).mpr h.2.2.2)),(ih (i+1) lim f m h1 (ej hl)).1 J (cq hf) (cq hst) hlt hm1]
     have hls:i - J<(x.drop J).length:=by rw[bv];exact Nat.sub_lt_sub_right hst hlt
     have h2:(x.drop J)[i - J]=x[i]:=by rw[List.getElem_drop];congr 1;exact bp hst
     rw[Nat.succ_sub hst,fe hls,h2,dw];rfl
   ·have hi:i=x.length:=fx hi (aw hlt)
    subst hi
    obtain rfl:n=0:=Nat.succ.inj (Nat.add_left_cancel hn)
    rw[ia,if_neg]
    ·show x.drop J=_++c9 p z m []
     rw[show c9 p z m []=[]by cases m<;>rfl,ck,gi (dz bv)]
    ·intro h;exact absurd h.2.2.1 (gh (bg hp))
  refine⟨A,λhi hf hm=>?_⟩
  rcases Nat.eq_or_lt_of_le hi with rfl|hlt
  ·rw[A i (bh _) (bh _) hf hm,ji];rfl
  ·unfold lT
   rw[if_neg (λh=>absurd h.2.1 (gh hlt))]
   exact(ih (i+1) lim f m h1 (ej hl)).2 hlt hf hm
theorem zP(x p z:List Nat)(hp:p≠[]):Txt.replace ⟨x.toArray⟩ ⟨p.toArray⟩ ⟨z.toArray⟩=⟨(mP p z x).toArray⟩:=by
 apply Str.ext'
 apply Array.toList_inj.mp
 have hp':0<p.length:=by cases p with |nil=>exact absurd rfl hp|cons _ _=>simp
 have main:=(zeC x p z hp' (x.length+1) 0 (x.length+1) 0 (x.length+1) (eg _) (bh _)).1 0 (bh _) (bh _) (dq _) (av _)
 simp only[List.drop_zero,ji,List.take_zero,ik]at main
 refine(?_:(Txt.replace _ _ _).cps.toList=mP p z x)
 unfold mP
 rw[<- main]
 have ho:occurrences ⟨x.toArray⟩ ⟨p.toArray⟩ 0 (ee ⟨x.toArray⟩) (ee ⟨x.toArray⟩+1)=lT x p x.length (x.length+1) 0 (x.length+1) 0:=by
  rw[xJ,dO];rfl
 unfold Txt.replace
 rw[ho]
 by_cases hc:(lT x p x.length (x.length+1) 0 (x.length+1) 0).isEmpty=true
 ·have:lT x p x.length (x.length+1) 0 (x.length+1) 0=[]:=List.isEmpty_iff.mp hc
  rw[this]
  simp[zeD]
 ·have h0:(p.length==0)=false:=beq_eq_false_iff_ne.mpr (by omega)
  rw[if_neg (by simp only[Bool.not_eq_true]at hc;rw[hc,dO,h0];simp)]
  rw[StrLaws.glued_eq_join]
  have:=rS ⟨x.toArray⟩ ⟨z.toArray⟩ p.length (lT x p x.length (x.length+1) 0 (x.length+1) 0) 0
  rw[dO]
  exact this
theorem nU(a b:Nat):sliceRange (a:Int) (b:Int) 1=(fh (b - a)).map (λk=>a+k):=by
 unfold sliceRange
 by_cases h:(a:Int)<b
 ·have e:(((b:Int) - a+1 - 1)/ 1).toNat=b - a:=by rw[il,Int.ediv_one,Int.toNat_sub]
  simp only[show((1:Int)>0)=True from by simp,if_true,h,e]
  apply ic;intro k _;rw[Int.one_mul];rfl
 ·have:b - a=0:=eu (aw λq=>h (fy.mpr q))
  rw[this]
  simp[h]
theorem zcb{n:Nat}{i:Int}(h:i<0):i+(n:Int)<=n:=by
 have:=Int.add_le_add_right (Int.le_of_lt h) (n:Int)
 rwa [Int.zero_add]at this
theorem zdC(n:Nat)(i:Int):max 0 (min (if i<0 then i+(n:Int)else i) (n:Int))=(jF n i:Int):=by
 unfold jF
 by_cases h:i<0
 ·rw[if_pos h,if_pos h,Int.min_eq_left (zcb h),Int.max_comm,Int.ofNat_toNat]
 ·have h:=fk.mp h
  rw[if_neg (fk.mpr h),if_neg (fk.mpr h),Int.max_eq_right (Int.le_min.mpr ⟨h,cg n⟩)]
  by_cases k:i.toNat<=n
  ·rw[ce k,Int.min_eq_left (Int.toNat_le.mp k),Int.toNat_of_nonneg h]
  ·rw[ib (fp k),Int.min_eq_right (Int.le_of_lt (Int.lt_of_not_ge λq=>k (Int.toNat_le.mpr q)))]
theorem zeT(n:Nat)(i:Int):jF n i<=n:=by
 unfold jF
 by_cases h:i<0
 ·rw[if_pos h];exact Int.toNat_le.mpr (zcb h)
 ·rw[if_neg h];exact du _ _
theorem zgf(lo hi:Option Int)(n:Nat):strSliceIndices lo hi 1 n=(fh ((hi.map (jF n)).getD n - (lo.map (jF n)).getD 0)).map (λk=>(lo.map (jF n)).getD 0+k):=by
 rw[<- nU]
 unfold strSliceIndices
 simp only[show((1:Int)>0)=True from by simp,if_true]
 cases lo<;>cases hi<;>simp only[zdC,Option.map_none,Option.map_some,Option.getD_none,Option.getD_some]<;>rfl
theorem zjL(hi:Option Int)(n:Nat):(hi.map (jF n)).getD n<=n:=by
 cases hi with
 |none=>simp
 |some i=>simpa using zeT _ _
theorem oH{α:Type}(l:List α)(lo hi:Option Int):(strSliceIndices lo hi 1 l.length).filterMap (l[·]?)=slc l lo hi:=by
 rw[zgf]
 unfold slc
 by_cases h:(lo.map (jF l.length)).getD 0<=(hi.map (jF l.length)).getD l.length
 ·exact StrLaws.picks l _ _ (by rw[bp h];exact zjL hi l.length)
 ·have:(hi.map (jF l.length)).getD l.length - (lo.map (jF l.length)).getD 0=0:=eu (fp h)
  rw[this];simp
theorem zH(lo hi:Option Int){α:Type}(l:List α):(strSliceIndices lo hi 1 l.length).length=(slc l lo hi).length:=by
 rw[zgf]
 unfold slc
 rw[cz,iw,bz,bv]
 exact(ce (je (zjL hi l.length) _)).symm
theorem zex(l:Array Value)(lo hi:Option Int):(slicePick l lo hi none).toList=slc l.toList lo hi:=by
 rw[<- oH]
 simp only[Option.getD_none,cn,Array.getElem?_toList]
 rfl
theorem oJ{α:Type}(l:List α)(lo hi:Option Int):(slc l lo hi).length<=l.length:=by
 unfold slc;rw[bz,bv];exact af (du _ _) (Nat.sub_le _ _)
theorem zey{α:Type}{l:List α}{lo hi:Option Int}(h:(slc l lo hi).length=l.length):slc l lo hi=l:=((List.take_sublist _ _).trans (List.drop_sublist _ _)).eq_of_length h
theorem zht{α:Type}{l:List α}{lo hi:Option Int}{c:α}(h:c∈slc l lo hi):c∈l:=fz (jf h)
section
variable {prog:Program}{w:World}{A:Around}{E:Value->Shared->Prop}{s:Shared}{G:GM}{P:Params}{a b:Value}{K:PV->Prop}{σ:Nat->Option Cell}
theorem okStr.slc{x:List Nat}(h:okStr x)(lo hi:Option Int):okStr (slc x lo hi):=
 ⟨λc hc=>h.1 c (zht hc),af (oJ _ _ _) h.2⟩
theorem VRels.slc{vs:List Value}{ps:List PV}(h:VRels P G vs ps)(lo hi:Option Int):VRels P G (slc vs lo hi) (slc ps lo hi):=by
 have e:=h.length
 unfold Mine.slc
 refine e.symm▸?_
 exact(h.drop _).take _
theorem iG{v sl:Value}{p r:PV}{lo hi:Option Int}{q:Addr}{vl vu:Value}(hi':InH G s.heap)(hv:lP P G s.heap v p)
  (hs:s.heap.get? q=some {cls:=.type "slice",data:=.fields #[vl,vu,.none]}) (hl:∃t,vl=partValue (lo.map (·,t))) (hu:∃t,vu=partValue (hi.map (·,t)))
  (hr:(match p with |.str x=>r=.str (Mine.slc x lo hi)|.list xs=>r=.list (Mine.slc xs lo hi)|_=>False)) (hk:K r):
  GW (model prog w) A P E G s (getItem v (.ref q)) K:=by
 refine x1 (λt1 zr1=>?_) hl;subst zr1
 refine x1 (λt2 zr1=>?_) hu;subst zr1
 cases p<;>simp only at hr
 ·subst hr
  rename_i x
  simp only[lP,VRel]at hv
  refine x1 (λt=>a2 λzr1 ok=>?_) hv;subst zr1
  refine wpAny_getItem_str_slice (l:=lo.map (·,t1)) (u:=hi.map (·,t2)) (st:=none) ⟨_,hs,rfl,rfl⟩ rfl ?_
  have e1:(lo.map (·,t1)).map (·.1)=lo:=by cases lo<;>rfl
  have e2:(hi.map (·,t2)).map (·.1)=hi:=by cases hi<;>rfl
  have e3:(slicePicked ⟨x.toArray⟩ (lo.map (·,t1)) (hi.map (·,t2)) none).filterMap ((⟨x.toArray⟩:Str).cps[·]?)=slc x lo hi:=by
   unfold slicePicked
   rw[e1,e2,dO]
   rw[<- oH]
   simp
  unfold sliceMade
  have ok':=ok.slc lo hi
  split
  ·rename_i hc
   simp only[dj,beq_iff_eq]at hc
   have hlen:=hc.2
   have:slc x lo hi=x:=zey (by
    rw[dO]at hlen
    rw[<- zH]
    unfold slicePicked at hlen
    rw[e1,e2,dO]at hlen
    exact hlen)
   refine ex2 (.str x) G ⟨by rw[<- this];rw[this]at hk ⊢;exact hk,GS.refl hi',?_⟩
   simp only[VRel]
   exact⟨t,rfl,ok⟩
  ·rw[e3]
   refine⟨by rw[dO];exact ok'.2,_,G,hk,GS.toks hi' _,?_⟩
   simp only[VRel]
   exact⟨_,rfl,ok'⟩
 ·subst hr
  rename_i xs
  refine x4 (λa o vs n=>a7 λzr4 h2 h3 h3' h4 h5 h6=>?_) hv;subst zr4
  refine wpAny_getItem_list_slice (lo:=lo) (hi:=hi) (st:=none) (vs:=.none) ⟨o,h2,h3,n,h4⟩ ⟨_,hs,rfl,rfl⟩ ?_ ?_ IsPart.none (by simp) ?_ h5
  ·cases lo with
   |none=>exact IsPart.none
   |some i=>exact IsPart.int _ _
  ·cases hi with
   |none=>exact IsPart.none
   |some i=>exact IsPart.int _ _
  ·have g:=GS.push hi' {cls:=.type "list",data:=.seq (slicePick vs lo hi none)} rfl s.toks
   refine ex2 _ _ ⟨hk,g,?_⟩
   simp only[VRel]
   have el:(slicePick vs lo hi none).toList=slc vs.toList lo hi:=zex _ _ _
   refine ex4 _ _ _ _ ⟨rfl,fT,rfl,rfl,rfl,?_,by rw[el];exact(h6.slc lo hi).mono g.ext⟩
   rw[<- cn,el]
   exact af (oJ _ _ _) (by simpa using h5)
end
open PySem.NumText
theorem zdi{b c d:Nat}(h:eO b c=some d):c<103:=by
 unfold eO at h
 split at h
 ·rename_i q;exact ai q.2.1 (by decide)
 ·split at h
  ·rename_i q;exact Nat.lt_succ_of_le q.2.1
  ·split at h
   ·rename_i q;exact ai q.2.1 (by decide)
   ·cases h
theorem zib:((fh 103).all λc=>(eO 16 c).all λd=>(digit? c==some d)&&(decide (d<16)&&(c !=95&&(decide (33<=c)&&(c !=45&&(c !=43&&(c !=120&&c !=88)))))))=true:=by decide+kernel
theorem zdh:((fh 103).all λc=>(eO 10 c).all λd=>eO 16 c==some d&&decide (d<10))=true:=by decide+kernel
theorem zb3{α:Type}{o:Option α}{f:α->Bool}{d:α}(h:o.all f=true)(e:o=some d):f d=true:=by subst e;exact h
theorem nC{b c d:Nat}(hb:b=10\/b=16)(h:eO b c=some d):digit? c=some d/\d<b/\c≠95/\33<=c/\c<128/\c≠45/\c≠43/\c≠120/\c≠88:=by
 have hc:=zdi h
 have g:∀d,eO 16 c=some d->digit? c=some d/\d<16/\c≠95/\33<=c/\c<128/\c≠45/\c≠43/\c≠120/\c≠88:=λd h=>by
  have q:=zb3 (ay.mp zib c (fu.mpr hc)) h
  have q:=ag.mp q
  have q1:=ag.mp q.2
  have q2:=ag.mp q1.2
  have q3:=ag.mp q2.2
  have q4:=ag.mp q3.2
  have q5:=ag.mp q4.2
  have q6:=ag.mp q5.2
  exact⟨eq_of_beq q.1,of_decide_eq_true q1.1,bne_iff_ne.mp q2.1,of_decide_eq_true q3.1,ar hc (by decide),bne_iff_ne.mp q4.1,bne_iff_ne.mp q5.1,bne_iff_ne.mp q6.1,bne_iff_ne.mp q6.2⟩
 rcases hb with rfl|rfl
 ·have q:=ag.mp (zb3 (f:=λd=>eO 16 c==some d&&decide (d<10)) (ay.mp zdh c (fu.mpr hc)) h)
  have g:=g d (eq_of_beq q.1)
  exact⟨g.1,of_decide_eq_true q.2,g.2.2⟩
 ·exact g d h
theorem xM{b:Nat}(hb:b=10\/b=16):∀(cs:List Nat) (acc n:Nat) (ds:Array Nat) (fl:Bool),eD b acc cs=some n->ds.foldl (λa d=>a*b+d) 0=acc->
  ∃ds',cs.foldlM (NumText.step b) (ds,fl)=some (ds',if cs=[]then fl else true)/\ds'.foldl (λa d=>a*b+d) 0=n/\ds'.size=ds.size+cs.length
 |[]=>λacc n ds fl h e=>by
  simp only[eD,Option.some.injEq]at h
  exact⟨ds,rfl,by rw[e,h],rfl⟩
 |c ::cs=>λacc n ds fl h e=>by
  unfold eD at h
  split at h
  ·rename_i d hd
   refine a4 (λh1 h2 h3 _=>?_) (nC hb hd)
   have hs:NumText.step b (ds,fl) c=some (ds.push d,true):=by
    unfold NumText.step
    have:(c==95)=false:=beq_eq_false_iff_ne.mpr h3
    rw[this,h1]
    simp[h2]
   refine x1 (λds'=>a3 λq1 q2 q3=>?_) (xM hb cs (acc*b+d) n (ds.push d) true h (by rw[Array.foldl_push,e]))
   refine⟨ds',?_,q2,by simp at q3 ⊢;omega⟩
   rw[List.foldlM_cons,hs]
   simp only[Option.bind_eq_bind,Option.bind_some]
   rw[q1];simp
  ·exfalso;cases h
theorem zb6{b:Nat}:∀(cs:List Nat) (acc n:Nat),eD b acc cs=some n->∀c∈cs,∃d,eO b c=some d
 |[]=>λ_ _ _ _ h=>by simp at h
 |c ::cs=>λacc n h x hx=>by
  unfold eD at h
  split at h
  ·rename_i d hd
   rcases bb.mp hx with rfl|hx
   ·exact⟨d,hd⟩
   ·exact zb6 cs _ _ h x hx
  ·cases h
theorem oL{b n:Nat}{cs:List Nat}(hb:b=10\/b=16)(h:eD b 0 cs=some n)(hne:cs≠[]):∃ds,digits? b cs=some ds/\ds.foldl (λa d=>a*b+d) 0=n/\ds.size=cs.length:=by
 refine x1 (λds=>a3 λh1 h2 h3=>?_) (xM hb cs 0 n #[] false h rfl)
 refine⟨ds,?_,h2,by simpa using h3⟩
 unfold digits?
 rw[h1,if_neg hne];rfl
theorem zdG{b c d:Nat}(hb:b=10\/b=16)(h:eO b c=some d):blank c=false:=by
 refine a6 (λ_ _ _ h1 h2 _=>?_) (nC hb h)
 have:=(show((fh 128).all λc=>decide (c<33)||!blank c)=true by decide+kernel)
 have:=ay.mp this c (fu.mpr h2)
 rw[decide_eq_false (gv.mpr h1),gt]at this
 exact jm _▸this
theorem uY{b n:Nat}{cs:List Nat}(hb:b=10\/b=16)(h:eD b 0 cs=some n):∀c∈cs,blank c=false/\(c<128/\c≠0)/\c≠45/\c≠43/\c≠120/\c≠88:=λc hc=>by
 refine x1 (λd hd=>?_) (zb6 cs 0 n h c hc)
 have q:=nC hb hd
 exact⟨zdG hb hd,⟨q.2.2.2.2.1,ix (aj (by decide) q.2.2.2.1)⟩,q.2.2.2.2.2⟩
theorem rR{x:List Nat}(h:∀c∈x,c≠45/\c≠43):sign x=(false,x):=by
 match x,h with
 |[],_=>rfl
 |c ::r,h=>
  have:=h c bk
  unfold sign
  split
  ·rename_i q;cases q;exact absurd rfl this.1
  ·rename_i q;cases q;exact absurd rfl this.2
  ·rfl
theorem jA{cs:List Nat}(h:∀c∈cs,blank c=false):cs.dropWhile blank=cs:=by
 cases cs with
 |nil=>rfl
 |cons c cs=>rw[List.dropWhile_cons,h c (by simp)];rfl
theorem take_zero{cs:List Nat}(h:∀c∈cs,c≠0):cs.takeWhile (· !=0)=cs:=by
 induction cs with
 |nil=>rfl
 |cons c cs ih=>
  have:(c !=0)=true:=by have:=h c (by simp);simpa using this
  rw[dh,if_pos this,ih λd hd=>h d (by simp[hd])]
theorem o7{x:List Nat}(h:∀c∈x,c<128)(h0:∀c∈x,c≠0):numTextOf ⟨x.toArray⟩=x/\numSeenOf ⟨x.toArray⟩=x:=by
 have e:numTextOf ⟨x.toArray⟩=x:=by
  unfold numTextOf
  rw[if_pos]
  rw[Array.all_eq_true]
  intro i hi
  simp only[decide_eq_true_eq]
  exact h _ (by simp)
 refine⟨e,?_⟩
 unfold numSeenOf
 rw[e];exact take_zero h0
theorem zd0(neg:Bool)(ds:Array Nat)(n:Nat)(h:ds.foldl (λa d=>a*10+d) 0=n):worth neg ds=if neg then -(n:Int)else n:=by
 unfold worth;rw[h]
theorem jX{x:List Nat}{neg:Bool}{cs:List Nat}{n:Nat}(hx:(neg=true/\x=45 ::cs)\/(neg=false/\x=43 ::cs)\/(neg=false/\x=cs))(hne:cs≠[])(hn:eD 10 0 cs=some n)(hl:cs.length<=4300):
  PySem.intText? ⟨x.toArray⟩=some (if neg then -(n:Int)else n):=by
 have hm:=uY (.inl rfl) hn
 have hasc:∀c∈x,c<128/\c≠0:=λc hc'=>by
  rcases hx with⟨_,rfl⟩|⟨_,rfl⟩|⟨_,rfl⟩
  ·exact(bb.mp hc').elim (λe=>e▸by decide) λh=>(hm c h).2.1
  ·exact(bb.mp hc').elim (λe=>e▸by decide) λh=>(hm c h).2.1
  ·exact(hm c hc').2.1
 refine a2 (λe1 e2=>?_) (o7 (λc hc=>(hasc c hc).1) λc hc=>(hasc c hc).2)
 have hb:∀c∈cs,blank c=false:=λc hc=>(hm c hc).1
 have hbr:∀c∈cs.reverse,blank c=false:=λc hc=>hb c (List.mem_reverse.mp hc)
 have hsign:sign (x.dropWhile blank)=(neg,cs):=by
  rcases hx with⟨rfl,rfl⟩|⟨rfl,rfl⟩|⟨rfl,rfl⟩
  ·rfl
  ·rfl
  ·refine(jA hb).symm▸?_;exact rR λc hc=>⟨(hm c hc).2.2.1,(hm c hc).2.2.2.1⟩
 refine x1 (λds=>a3 λd1 d2 d3=>?_) (oL (.inl rfl) hn hne)
 have hcore:core x=cs:=by
  unfold core
  refine hsign.symm▸?_
  simp only
  rw[jA hbr,List.reverse_reverse]
 unfold PySem.intText?
 refine e1.symm▸?_;refine e2.symm▸?_
 simp only[beq_self_eq_true,if_true]
 refine hcore.symm▸?_;refine d1.symm▸?_
 simp only
 rw[if_pos (by omega),hsign,zd0 _ _ n d2]
section
variable {prog:Program}{w:World}{A:Around}{E:Value->Shared->Prop}{s:Shared}
theorem ziW{M:Model}{A:Around}{E:Value->Shared->Prop}{s:Shared}{Q:Value->Shared->Prop}{v:Value}{text:List Nat}{n:Int}
  (hs:(text.takeWhile (· !=0)).length<=640) (hr:(int_private%"readNumeral") 0 16 (text.takeWhile (· !=0))=(int_private%"Numeral.value") n)
  (ha:((text.takeWhile (· !=0)).length==text.length)=true) (h:Q (.int n s.toks) {s with toks:=s.toks+1}):
  wpAny M A ((int_private%"intFromText") v text 16) Q E s:=by
 obtain⟨hp,g,d,tk,os⟩:=s
 repeat(any_goals(first
  |assumption
  |(with_reducible refine wpAny_ite_true (decide_eq_true hs) ?_)
  |(with_reducible refine wpAny_ite_true (decide_eq_true ha) ?_)
  |wp_step))
 all_goals(try rw[hr])
 all_goals(try dsimp only)
 repeat(any_goals(first
  |assumption
  |(with_reducible refine wpAny_ite_true (decide_eq_true hs) ?_)
  |(with_reducible refine wpAny_ite_true (decide_eq_true ha) ?_)
  |wp_step))
theorem zeI{cs:List Nat}{n:Nat}(hn:eD 16 0 cs=some n)(hne:cs≠[]):(int_private%"readNumeral") 0 16 cs=(int_private%"Numeral.value") (n:Int):=by
 have hm:=uY (.inr rfl) hn
 have hb:∀c∈cs,blank c=false:=λc hc=>(hm c hc).1
 have hbr:∀c∈cs.reverse,blank c=false:=λc hc=>hb c (List.mem_reverse.mp hc)
 refine x1 (λds=>a3 λd1 d2 d3=>?_) (oL (.inr rfl) hn hne)
 rw[readNumeral_eq,jA hb]
 have hsign:sign cs=(false,cs):=rR λc hc=>⟨(hm c hc).2.2.1,(hm c hc).2.2.2.1⟩
 have hbased:based 16 cs=(16,false,cs):=by
  unfold based
  split
  ·rename_i p hp
   have:p≠16:=by
    rintro rfl
    unfold prefix? at hp
    split at hp
    ·rename_i c r
     have hd:=(hm c (bc _ bk)).2.2.2.2
     split at hp
     ·rename_i q
      exact(gg.mp q).elim (λq=>absurd (eq_of_beq q) hd.1) λq=>absurd (eq_of_beq q) hd.2
     ·split at hp
      ·cases hp
      ·split at hp<;>cases hp
    ·cases hp
   rw[if_neg]
   simp;omega
  ·rfl
 rw[hsign]
 simp only[hbased]
 rw[jA hbr,List.reverse_reverse,d1]
 unfold judge
 simp only[bne_self_eq_false,ew,iy,Bool.false_eq_true,if_false]
 rw[d2]
 rfl
set_option maxHeartbeats 4000000 in
theorem zc8{x:List Nat}{u v:Tok}{n:Nat}(hl:x.length<=640)(hne:x≠[])(hn:eD 16 0 x=some n):Gives (Builtin.«int.__new__» ⟨[.type "int",.str ⟨x.toArray⟩ u,.int 16 v],[]⟩) (.int n):=
 .of_wp λM A E s Q h=>by
  obtain⟨hp,g,d,tk,os⟩:=s
  have f1:=F.conv_sub_int
  have f2:=F.madeHere_int
  have f6:typeOf (.str ⟨x.toArray⟩ u)=pure (.type "str"):=rfl
  have hm:=uY (.inr rfl) hn
  have hasc:∀c∈x,c<128/\c≠0:=λc hc=>(hm c hc).2.1
  obtain⟨e1,e2⟩:=o7 (λc hc=>(hasc c hc).1) λc hc=>(hasc c hc).2
  have hs:(numSeenOf ⟨x.toArray⟩).length<=640:=by rw[e2];exact hl
  have hr:(int_private%"readNumeral") 0 16 (numSeenOf ⟨x.toArray⟩)=(int_private%"Numeral.value") (n:Int)/\((numSeenOf ⟨x.toArray⟩).length==(numTextOf ⟨x.toArray⟩).length)=true:=by
   rw[e1,e2];exact⟨zeI hn hne,by simp⟩
  have hk:=PySem.W.KIN.Hid.mk (And.intro hs hr)
  clear hs hr hl hn hm hasc e1 e2 hne
  repeat(any_goals(first
   |assumption
   |((with_reducible show wpAny _ _ ((int_private%"intFromText") _ _ _) _ _ _);refine ziW hk.out.1 hk.out.2.1 hk.out.2.2 ?_)
   |wp_step))
  all_goals first |exact⟨_,rfl,h⟩|skip
end
theorem mK{P:Params}{G:GM}:∀{ps:List PV}{vs:List Value}{zs:List (List Nat)},VRels P G vs ps->fN ps=some zs->StrsAre vs (zs.map λz=>⟨z.toArray⟩)/\∀z∈zs,okStr z
 |[],vs,zs,r,h=>by
  simp only[VRels]at r;subst r
  simp only[fN,Option.some.injEq]at h;subst h
  exact⟨.nil,by simp⟩
 |p ::ps,vs,zs,r,h=>by
  simp only[VRels]at r
  obtain⟨v,w,rfl,r1,r2⟩:=r
  obtain⟨x,hx,h⟩:=cu.mp h
  obtain⟨ys,hy,rfl⟩:=de.mp h
  cases p<;>first |(cases hx;done)|skip
  have zq:=Option.some.inj hx;subst zq
  simp only[VRel]at r1
  obtain⟨t,rfl,ok⟩:=r1
  obtain⟨q1,q2⟩:=mK r2 hy
  refine⟨.cons _ t q1,?_⟩
  intro z hz
  rcases bb.mp hz with rfl|hz
  ·exact ok
  ·exact q2 z hz
theorem rD(zs:List (List Nat))(x:List Nat):((zs.map λz=>(⟨z.toArray⟩:Str)).any λy=>y==⟨x.toArray⟩)=decide (x∈zs):=by
 rw[List.any_map]
 by_cases h:x∈zs
 ·rw[decide_eq_true h,List.any_eq_true]
  exact⟨x,h,by simp⟩
 ·rw[decide_eq_false h,List.any_eq_false]
  intro z hz
  simp only[Function.comp]
  intro e
  have e:=eq_of_beq e
  have:z=x:=by simpa using congrArg (λs:Str=>s.cps.toList) e
  exact h (this▸hz)
theorem zcN:∀(x y:List Nat),(!(decide (y<x)))=leS x y
 |[],y=>by cases y<;>rfl
 |a ::x,[]=>rfl
 |a ::x,b ::y=>by
  have ih:=zcN x y
  rw[StrLaws.lt_cons_cons]
  show _=if a=b then leS x y else decide (a<b)
  by_cases h:a=b
  ·subst h;simp only[em,decide_false,gt,beq_self_eq_true,eo,if_true];exact ih
  ·rw[if_neg h]
   have:(b==a)=false:=beq_eq_false_iff_ne.mpr (Ne.symm h)
   rw[this,iy,gu]
   by_cases h':a<b
   ·rw[decide_eq_true h',decide_eq_false (Nat.lt_asymm h')];rfl
   ·rw[decide_eq_false h',decide_eq_true (ij (aw h') (Ne.symm h))];rfl
section
variable {prog:Program}{w:World}{A:Around}{E:Value->Shared->Prop}{s:Shared}{G:GM}{a b:Value}{K:PV->Prop}{σ:Nat->Option Cell}
theorem zcV{b:Bool}{v:PV}{K:List (List Nat)->Prop}(h:zhV b v K):(b=false/\∃x,v=.str x/\K [x])\/(b=true/\∃x y,v=.tup [.str x,.str y]/\K [x,y]):=by
 cases b with
 |false=>exact .inl ⟨rfl,dW (show asS v λx=>K [x]from h)⟩
 |true=>
  refine .inr ⟨rfl,?_⟩
  refine x1 (λvs=>a2 λe h=>?_) (zg7 (show asT v λvs=>two vs λp q=>asS p λx=>asS q λy=>K [x,y]from h))
  refine x2 (λp q=>a2 λe1 h=>?_) (oB h)
  refine x1 (λx=>a2 λe2 h=>?_) (dW h)
  refine x1 (λy=>a2 λe3 h=>?_) (dW h)
  exact ex2 x y ⟨by rw[e,e1,e2,e3],h⟩
theorem zbc{v:Value}{x y:List Nat}(hi:InH G s.heap)(hv:VRel w.params G v (.tup [.str x,.str y])):∃a,v=.ref a/\IsTupleKey (strKind prog w) s.heap [⟨x.toArray⟩,⟨y.toArray⟩] a:=by
 refine x4 (λa o vs n=>a6 λe h2 h3 h4 _ h5=>?_) hv
 refine x2 (λp r=>a3 λf1 g1=>x2 λq r'=>a3 λf2 g2 f3=>?_) h5
 refine x1 (λt=>a2 λg1 _=>?_) g1
 refine x1 (λu=>a2 λg2 _=>?_) g2
 exact⟨a,e,o,vs,n,hi.at_ _ _ h2,h3,h4,by rw[f1,f2,f3,g1,g2];exact .cons (strKind_is prog w _ t) (.cons (strKind_is prog w _ u) .nil)⟩
theorem xR{a:Nat}{es':Array DictEntry}{n:Nat}{es:List (List (List Nat)×DV)}(hi:InH G s.heap)(hG:G a=some {cls:=.type "dict",data:=.dict es' n})(r:ziK w.params es' es):s.heap.MapOf (strKind prog w) a (λk=>findBy Value.isStrOf es' k):=
 ⟨_,es',n,hi.at_ _ _ hG,⟨rfl,rfl,rfl⟩,rfl,r.1,λ_=>rfl⟩
theorem zbw{α β:Type}{o:Option α}{u:Option β}{R:β->α->Prop}(h:l5 o (u=none) λd=>∃v,u=some v/\R v d):u.isSome=o.isSome:=by
 cases o with
 |none=>rw[show u=none from h];rfl
 |some d=>
  refine x1 (λv=>a2 λe _=>?_) (show∃v,u=some v/\R v d from h)
  rw[e];rfl
theorem zh0{n:Nat}(hA:Room n A)(neg:Bool){p:PV}{t:Bool}{es:List (List (List Nat)×DV)}(hi:InH G s.heap)(ha:VRel w.params G a p)(hb:VRel w.params G b (.dict t es))(h:zhV t p λk=>K (.bool (if neg then !(es.lookup k).isSome else(es.lookup k).isSome))):
  GW (model prog w) A w.params E G s (compareOp (if neg then .NotIn else .In) a b) K:=by
 refine x1 (λd=>a3 λeb hne hd=>?_) hb
 subst eb
 have hne:(d==sysModules)=false:=beq_eq_false_iff_ne.mpr hne
 refine(zcV h).elim (a2 λet=>x1 λx=>a2 λep hk=>?_) (a2 λet=>x2 λx y=>a2 λep hk=>?_)
 ·subst et;subst ep
  refine x1 (λu=>a2 λea _=>?_) ha
  refine x2 (λes' m=>a2 λhG r=>?_) hd
  rw[<- zbw (r.2 x)]at hk
  subst ea
  cases neg
  ·exact wpAny_in_of (strKind_is prog w _ u) hne (xR hi hG r) ⟨_,G,hk,GS.toks hi _,rfl⟩
  ·exact wpAny_notIn_of (strKind_is prog w _ u) hne (xR hi hG r) ⟨_,G,hk,GS.toks hi _,rfl⟩
 ·subst et;subst ep
  refine x1 (λu=>a2 λea hkey=>?_) (zbc (prog:=prog) hi ha)
  refine x1 (λxs=>a2 λhD r=>?_) (hd prog w rfl s.heap hi.at_)
  rw[<- zbw (r x y)]at hk
  subst ea
  have hu:(tupleKind (strKind prog w)).room A.in1:=tupleKind_room_in1 (ai (df (af (am _ _) hA.units)) (by decide))
  cases neg
  ·exact wpAny_in_heap (knd:=tupleKind (strKind prog w)) hu hkey hne hD ⟨_,G,hk,GS.toks hi _,rfl⟩
  ·exact wpAny_notIn_heap (knd:=tupleKind (strKind prog w)) hu hkey hne hD ⟨_,G,hk,GS.toks hi _,rfl⟩
theorem za3{v:Value}{d:DV}{P:Params}(h:zfY v d):VRel P G v (dvP d):=by cases d<;>exact h
theorem zff{n:Nat}(hA:Room n A){i:PV}{t:Bool}{es:List (List (List Nat)×DV)}(hi:InH G s.heap)(ha:VRel w.params G a i)(hb:VRel w.params G b (.dict t es))(h:zhV t i λk=>opt (es.lookup k) λd=>K (dvP d)):
  GW (model prog w) A w.params E G s (getItem b a) K/\∃T id,s.TypeIs b T/\typeLookup (.type T) "__getitem__"=pure (some (.builtin id)):=by
 refine x1 (λd=>a3 λeb hne hd=>?_) hb
 subst eb
 refine(zcV h).elim (a2 λet=>x1 λx=>a2 λep hk=>?_) (a2 λet=>x2 λx y=>a2 λep hk=>?_)
 ·subst et;subst ep
  refine x1 (λu=>a2 λea _=>?_) ha
  refine x2 (λes' m=>a2 λhG r=>?_) hd
  refine x1 (λdv=>a2 λel hk=>?_) (dP hk)
  have r2:=r.2 x
  rw[el]at r2
  refine x1 (λv=>a2 λev hv=>?_) r2
  subst ea
  exact⟨wpAny_getItem_of (strKind_is prog w _ u) (xR (prog:=prog) hi hG r) ev ⟨_,G,hk,GS.toks hi _,za3 hv⟩,"dict",_,(xR (prog:=prog) hi hG r).typeIs,slot_dict_getitem.lookup⟩
 ·subst et;subst ep
  refine x1 (λu=>a2 λea hkey=>?_) (zbc (prog:=prog) hi ha)
  refine x1 (λxs=>a2 λhD r=>?_) (hd prog w rfl s.heap hi.at_)
  refine x1 (λdv=>a2 λel hk=>?_) (dP hk)
  have r2:=r x y
  rw[el]at r2
  refine x1 (λv=>a2 λev hv=>?_) r2
  subst ea
  have hu:(tupleKind (strKind prog w)).room A.in1:=tupleKind_room_in1 (ai (df (af (am _ _) hA.units)) (by decide))
  exact⟨wpAny_getItem_heap (knd:=tupleKind (strKind prog w)) hu hkey hD ev ⟨_,G,hk,GS.toks hi _,za3 hv⟩,"dict",_,hD.typeIs,slot_dict_getitem.lookup⟩
theorem in_G{n:Nat}(hA:Room n A)(neg:Bool){p q:PV}(hi:InH G s.heap)(ha:VRel w.params G a p)(hb:VRel w.params G b q)(h:inW p q λr=>K (.bool (if neg then !r else r))):
  GW (model prog w) A w.params E G s (compareOp (if neg then .NotIn else .In) a b) K:=by
 cases q<;>first |exact bq h|skip
 ·refine x1 (λx=>a2 λep hk=>?_) (dW h)
  subst ep
  refine x1 (λt=>a2 λea _=>?_) ha
  refine x1 (λu=>a2 λeb _=>?_) hb
  subst ea;subst eb
  cases neg
  ·exact eK hi hk λQ q=>P.in_str (by rw[nI];exact q)
  ·exact eK hi hk λQ q=>P.notIn_str (by rw[nI];exact q)
 ·refine x1 (λx=>a2 λep=>x1 λzs=>a2 λhz hk=>?_) (dW h)
  subst ep
  refine x1 (λt=>a2 λea _=>?_) ha
  refine x4 (λy o vs n=>a6 λeb h2 h3 h4 h5 h6=>?_) hb
  subst ea;subst eb
  have q1:=(mK h6 hz).1
  have ht:IsTup s.heap y vs:=⟨o,hi.at_ _ _ h2,h3,n,h4⟩
  cases neg
  ·exact eK hi hk λQ q=>in_tuple_strs ht q1 (by rw[rD];exact q)
  ·exact eK hi hk λQ q=>notin_tuple_strs ht q1 (by rw[rD];exact q)
 ·refine x1 (λx=>a2 λep=>x1 λzs=>a2 λhz hk=>?_) (dW h)
  subst ep
  refine x1 (λt=>a2 λea _=>?_) ha
  refine x2 (λy vs=>a4 λzr2 h2 h5 h6=>?_) (LView.isList (show LView w.params G s.heap b _ from VRel.view hi hb));subst zr2
  have q1:=(mK h6 hz).1
  subst ea
  cases neg
  ·exact eK hi hk λQ q=>in_list_strs (vs:=vs.toList) h2 q1 (by rw[rD];exact q)
  ·exact eK hi hk λQ q=>notin_list_strs (vs:=vs.toList) h2 q1 (by rw[rD];exact q)
 ·exact zh0 hA neg hi ha hb h
theorem is_G(neg:Bool){p q:PV}(hi:InH G s.heap)(ha:VRel w.params G a p)(hb:VRel w.params G b q)(h:isW p q λr=>K (.bool (if neg then !r else r))):
  GW (model prog w) A w.params E G s (compareOp (if neg then .IsNot else .Is) a b) K:=by
 have main:∀{a b:Value}{r:Bool},plainIs a b=true->(a==b)=r->K (.bool (if neg then !r else r))->GW (model prog w) A w.params E G s (compareOp (if neg then .IsNot else .Is) a b) K:=by
  intro a b r h1 h2 hk
  subst h2
  cases neg
  ·exact eK hi hk λQ q=>wpAny_is_plain h1 q
  ·exact eK hi hk λQ q=>wpAny_isNot_plain h1 q
 cases q<;>first |exact bq h|skip
 ·simp only[VRel]at hb
  subst hb
  cases p<;>first |exact bq h|skip
  ·simp only[VRel]at ha
   subst ha;exact main rfl rfl h
  ·simp only[VRel]at ha
   obtain⟨t,rfl⟩:=ha;exact main rfl rfl h
  ·simp only[VRel]at ha
   obtain⟨t,rfl,_⟩:=ha;exact main rfl rfl h
  ·simp only[VRel]at ha
   obtain⟨a,o,vs,m,rfl,_⟩:=ha;exact main rfl rfl h
 ·rename_i y
  cases p<;>first |exact bq h|skip
  rename_i x
  simp only[VRel]at ha hb
  subst ha hb;exact main rfl (by cases x<;>cases y<;>rfl) h
theorem zk6{n:Nat}(hA:Room n A){op:CmpOp}{p q:PV}(hi:InH G s.heap)(hc:nQ w.params G s.heap σ)(ha:VRel w.params G a p)(hb:VRel w.params G b q)
  (h:zaX σ op p q λr=>K (.bool r)):GW (model prog w) A w.params E G s (compareOp op a b) K:=by
 have twoI:∀{c:Int->Int->Bool}{op:CmpOp},(asI p λx=>asI q λy=>K (.bool (c x y)))->(∀x t y u (Q:Value->Shared->Prop),Q (.bool (c x y)) s->wpAny (model prog w) A (compareOp op (.int x t) (.int y u)) Q E s)->GW (model prog w) A w.params E G s (compareOp op a b) K:=by
  intro c op h k
  refine x1 (λx=>a2 λzr1 h=>?_) (dH h);subst zr1
  refine x1 (λy=>a2 λzr1 h=>?_) (dH (v:=q) h);subst zr1
  simp only[VRel]at ha hb
  obtain⟨t,rfl⟩:=ha;obtain⟨u,rfl⟩:=hb
  exact eK hi h λQ q=>k x t y u Q q
 cases op
 ·exact eq_G hA false hi hc ha hb h
 ·exact eq_G hA true hi hc ha hb h
 ·exact twoI h λ_ _ _ _ Q q=>lt_int q
 ·have h:leP p q λr=>K (.bool r):=h
  cases p<;>first |exact bq h|skip
  ·exact twoI (c:=λx y=>decide (x<=y)) h λ_ _ _ _ Q q=>le_int q
  ·refine x1 (λy=>a2 λzr1 h=>?_) (dW (v:=q) h);subst zr1
   simp only[VRel]at ha hb
   obtain⟨t,rfl,_⟩:=ha;obtain⟨u,rfl,_⟩:=hb
   exact eK hi h λQ q=>P.le_str (by simpa[zcN]using q)
 ·exact twoI h λ_ _ _ _ Q q=>gt_int q
 ·exact twoI (c:=λx y=>decide (y<=x)) h λ_ _ _ _ Q q=>PyProof.Rows.ge_int q
 ·exact is_G false hi ha hb h
 ·exact is_G true hi ha hb h
 ·exact in_G hA false hi ha hb h
 ·exact in_G hA true hi ha hb h
theorem zhi{v:Value}{p:PV}{b:Bool}(hi:InH G s.heap)(hv:lP w.params G s.heap v p)(h:uH p=some b):
  wpAny (model prog w) A (truthy v) (λc s'=>c=b/\GS G s G s') E s:=by
 have ziN:∀n:Nat,n<=bU->(n:Int)<2^63:=by intro n hn;unfold bU at hn;omega
 cases p<;>first |(cases h;done)|skip
 all_goals(have zq:=Option.some.inj h;subst zq)
 ·simp only[lP,VRel]at hv;subst hv;exact truthy_none ⟨rfl,GS.refl hi⟩
 ·simp only[lP,VRel]at hv;subst hv;exact wpAny_truthy_bool ⟨rfl,GS.refl hi⟩
 ·simp only[lP,VRel]at hv;obtain⟨t,rfl⟩:=hv
  rename_i i
  exact truthy_int ⟨by by_cases e:i=0<;>simp[e],GS.refl hi⟩
 ·simp only[lP,VRel]at hv;obtain⟨t,rfl,ok⟩:=hv
  rename_i x
  refine P.truthy_str (by rw[dO];exact Int.not_le.mpr (ziN _ ok.2)) ⟨?_,GS.toks hi _⟩
  rw[dO]
  cases x<;>rfl
 ·simp only[lP,VRel]at hv
  refine x4 (λx o vs n=>a6 λzr4 h2 h3 h4 h5 h6=>?_) hv;subst zr4
  rename_i xs
  refine truthy_tuple (items:=vs) ⟨o,hi.at_ _ _ h2,h3,n,h4⟩ (ziN _ h5) ⟨?_,GS.toks hi _⟩
  have e:=h6.length
  cases xs<;>simp at e<;>simp[Array.isEmpty,e]
 ·refine x2 (λx vs=>a4 λzr2 h2 h5 h6=>?_) (LView.isList hv);subst zr2
  rename_i xs
  refine wpAny_truthy_list h2 (ziN _ h5) ⟨?_,GS.toks hi _⟩
  have e:=h6.length
  cases xs<;>simp at e<;>simp[Array.isEmpty,e]
end
theorem qU{P:Params}:∀{es:List (List Nat×List Nat)}{vs:List DictEntry},zaT P vs es->
  (∀e∈vs,∃k:List Nat,(∃t,e.key=.str ⟨k.toArray⟩ t)/\e.hash=PyData.keyHash P ⟨k.toArray⟩)/\
  (∀k:List Nat,(∃p t,es.lookup k=some p/\(vs.find? λd=>Value.isStrOf ⟨k.toArray⟩ d.key).map (·.val)=some (.str ⟨p.toArray⟩ t)/\okStr p)\/(es.lookup k=none/\(vs.find? λd=>Value.isStrOf ⟨k.toArray⟩ d.key).map (·.val)=none))
 |[],vs,r=>by
  have r:vs=[]:=r
  subst r
  exact⟨λe h=>(nomatch h),λk=>.inr ⟨rfl,rfl⟩⟩
 |(k₀,p) ::es,vs,r=>by
  refine x4 (λe w t t'=>a6 λzr4 h1 h2 h3 h5 h4=>?_) (show∃e r t t',vs=e ::r/\e.key=.str ⟨k₀.toArray⟩ t/\e.hash=PyData.keyHash P ⟨k₀.toArray⟩/\e.val=.str ⟨p.toArray⟩ t'/\okStr p/\zaT P r es from r);subst zr4
  refine a2 (λq1 q2=>?_) (qU h4)
  refine⟨λd hd=>?_,λk=>?_⟩
  ·rcases bb.mp hd with rfl|hd
   ·exact⟨k₀,⟨t,h1⟩,h2⟩
   ·exact q1 d hd
  ·rw[List.find?_cons,cy]
   by_cases hk:k=k₀
   ·subst hk
    have:Value.isStrOf ⟨k.toArray⟩ e.key=true:=by refine h1.symm▸?_;simp[Value.isStrOf]
    rw[this,beq_self_eq_true]
    exact .inl ⟨p,t',rfl,congrArg some h3,h5⟩
   ·have a:Value.isStrOf ⟨k.toArray⟩ e.key=false:=by
     refine h1.symm▸?_
     simp only[Value.isStrOf]
     apply ek.mpr
     intro h
     have h:=eq_of_beq h
     have:k₀=k:=by simpa using congrArg (λs:Str=>s.cps.toList) h
     exact hk this.symm
    have b:(k==k₀)=false:=beq_eq_false_iff_ne.mpr hk
    refine a.symm▸?_;refine b.symm▸?_
    exact q2 k
section
variable {prog:Program}{w:World}{G:GM}
theorem zfn{es':Array DictEntry}{es:List (List Nat×List Nat)}(hr:zaT w.params es'.toList es)(k:List Nat):
  (∃p t,es.lookup k=some p/\findBy Value.isStrOf es' ⟨k.toArray⟩=some (.str ⟨p.toArray⟩ t)/\okStr p)\/(es.lookup k=none/\findBy Value.isStrOf es' ⟨k.toArray⟩=none):=by
 obtain⟨l⟩:=es'
 unfold findBy
 rw[List.find?_toArray]
 rcases(qU hr).2 k with⟨p,t,h1,h2,h3⟩|⟨h1,h2⟩
 ·exact .inl ⟨p,t,h1,h2,h3⟩
 ·exact .inr ⟨h1,h2⟩
end
noncomputable def jP:Obj:={cls:=.type "dict",data:=.dict #[]}
noncomputable def zfZ(P:Params)(G:GM)(sl:Array (Option Value))(fs:List (Option PV)):Prop:=
 sl.size<=fs.length/\∀(i:Nat) (p:PV),fs[i]?=some (some p)->∃v,sl[i]?=some (some v)/\VRel P G v p
noncomputable def CellRel(P:Params)(G:GM)(h:Heap)(a:Nat):Cell->Prop
 |.lst xs=>∃vs n,h.get? a=some {cls:=.type "list",data:=.seq vs n}/\vs.size<=bU/\VRels P G vs.toList xs
 |.ins c fs=>∃dx sl,h.get? a=some {cls:=.ref c,dict:=some dx,data:=.plain,slots:=sl}/\G dx=some jP/\zfZ P G sl fs
theorem CellRel.mono{P:Params}{G G':GM}{h h':Heap}{a:Nat}{c:Cell}(r:CellRel P G h a c)(hs:Sub G G')(hk:∀o,h.get? a=some o->h'.get? a=some o):CellRel P G' h' a c:=by
 cases c with
 |lst xs=>obtain⟨vs,n,h1,h2,h3⟩:=r;exact ex2 vs n ⟨hk _ h1,h2,h3.mono hs⟩
 |ins c fs=>
  refine x2 (λdx sl=>a4 λh1 h2 h3 h4=>?_) r
  exact ex2 dx sl ⟨hk _ h1,hs _ _ h2,h3,λi p e=>e1 (λv=>c1 λe2=>e2.mono hs) (h4 i p e)⟩
structure Rep (P:Params) (G:GM) (env:Env) (J:St) (s:Shared):Prop where
 inh:InH G s.heap
 tk:1<=s.toks
 ns:∃m,s.heap.Ns env.locals m/\∀x p,J.ρ x=some p->env.kindOf x=some .local->∃v,m x=some v/\VRel P G v p
 kind:∀x p,J.ρ x=some p->env.kindOf x=some .local\/env.kindOf x=some .cell\/env.kindOf x=some .free
 cel:∀x p,J.ρ x=some p->env.kindOf x≠some .local->∃c v,env.cells.lookup x=some c/\s.heap.IsCell c (some v)/\VRel P G v p
 cell0:∀x,env.kindOf x=some .cell->∃c v,env.cells.lookup x=some c/\s.heap.IsCell c v
 gl:G env.locals=none
 gc:∀x c,env.cells.lookup x=some c->G c=none/\c≠env.locals
 cinj:∀x y c,env.cells.lookup x=some c->env.cells.lookup y=some c->x=y
 cells:∀a c,J.σ a=some c->CellRel P G s.heap a c/\G a=none/\a≠env.locals/\∀x,env.cells.lookup x≠some a
structure Tr (cw:Bool) (env:Env) (G:GM) (J:St) (s:Shared) (G':GM) (st':St) (s':Shared):Prop where
 ext:Sub G G'
 new:∀a o,G' a=some o->G a=some o\/s.heap.get? a=none
 keep:∀a o,¬XS a->s.heap.get? a=some o->a≠env.locals->(cw=true->∀x,env.cells.lookup x≠some a)->J.σ a=none->s'.heap.get? a=some o
 alive:∀a,(s.heap.get? a).isSome=true->(s'.heap.get? a).isSome=true
 dom:∀a,(J.σ a).isSome=true->(st'.σ a).isSome=true
 fresh:∀a,(st'.σ a).isSome=true->(J.σ a).isSome=true\/s.heap.get? a=none
 os:s'.os=s.os
 gens:AllBare s.gens->AllBare s'.gens
section
variable {P:Params}{G G' G'':GM}{env:Env}{J st' st'':St}{s s' s'':Shared}{cw:Bool}
theorem Tr.refl:Tr cw env G J s G J s:=⟨.refl _,λ_ _ e=>.inl e,λ_ _ _ e _ _ _=>e,λ_ e=>e,λ_ e=>e,λ_ e=>.inl e,rfl,λe=>e⟩
theorem Tr.trans(h:Tr cw env G J s G' st' s')(h':Tr cw env G' st' s' G'' st'' s''):Tr cw env G J s G'' st'' s'' where
 ext:=h.ext.trans h'.ext
 new:=λa o e=>by
  rcases h'.new a o e with q|q
  ·exact h.new a o q
  ·right
   cases e':s.heap.get? a with
   |none=>rfl
   |some o'=>have:=h.alive a (by rw[e'];rfl);replace this:=q▸this;cases this
 keep:=λa o n e h1 h2 h3=>h'.keep a o n (h.keep a o n e h1 h2 h3) h1 h2 (by
  cases q:st'.σ a with
  |none=>rfl
  |some c=>
   rcases h.fresh a (by rw[q];rfl)with r|r
   ·replace r:=h3▸r;cases r
   ·replace r:=e▸r;cases r)
 alive:=λa e=>h'.alive a (h.alive a e)
 dom:=λa e=>h'.dom a (h.dom a e)
 fresh:=λa e=>by
  rcases h'.fresh a e with q|q
  ·exact h.fresh a q
  ·right
   cases e':s.heap.get? a with
   |none=>rfl
   |some o'=>have:=h.alive a (by rw[e'];rfl);replace this:=q▸this;cases this
 os:=h'.os.trans h.os
 gens:=λe=>h'.gens (h.gens e)
theorem TabX.nd{h:Heap}(x:TabX h){a:Nat}{o:Obj}(e:h.get? a=some o)(hd:∀ps,o.data≠.fields ps):¬XS a:=λq=>by
 refine x2 (λo' ps=>a3 λh1 h2 _=>?_) (x a q)
 rw[h1]at e;(have zq:=Option.some.inj e;subst zq);exact hd ps h2
theorem TabX.ns{h:Heap}(x:TabX h){a:Nat}{m:Str->Option Value}(n:h.Ns a m):¬XS a:=by
 refine x3 (λo es ep=>a3 λh1 h2 _=>?_) n
 exact x.nd h1 λps q=>by replace q:=h2▸q;cases q
theorem TabX.cell{h:Heap}(x:TabX h){a:Nat}{v:Option Value}(n:h.IsCell a v):¬XS a:=by
 refine x1 (λo=>a2 λh1 h2=>?_) n
 exact x.nd h1 λps q=>by replace q:=h2▸q;cases q
theorem CellRel.nx{h:Heap}(x:TabX h){a:Nat}{c:Cell}(r:CellRel P G h a c):¬XS a:=by
 cases c with
 |lst xs=>obtain⟨vs,n,h1,_⟩:=r;exact x.nd h1 λps q=>by cases q
 |ins c fs=>obtain⟨dx,sl,h1,_⟩:=r;exact x.nd h1 λps q=>by cases q
theorem ziE{h h':Heap}(t:TabX h')(k:∀a o,¬XS a->h.get? a=some o->h'.get? a=some o)(a:Nat)(e:(h.get? a).isSome=true):(h'.get? a).isSome=true:=by
 by_cases q:XS a
 ·obtain⟨o,ps,h1,_⟩:=t a q;rw[h1];rfl
 ·obtain⟨o,ho⟩:=cj.mp e
  rw[k a o q ho];rfl
theorem GS.alive(g:GS G s G' s')(a:Nat)(e:(s.heap.get? a).isSome=true):(s'.heap.get? a).isSome=true:=ziE g.inh.tab g.keep a e
theorem GS.tr(g:GS G s G' s'):Tr cw env G J s G' J s':=
 ⟨g.ext,g.new,λa o n e _ _ _=>g.keep a o n e,g.alive,λ_ e=>e,λ_ e=>.inl e,g.os,g.gens⟩
theorem GS.none_stays(g:GS G s G' s'){a:Nat}{o:Obj}(ha:s.heap.get? a=some o)(h:G a=none):G' a=none:=by
 cases e:G' a with
 |none=>rfl
 |some o'=>
  rcases g.new a o' e with q|q
  ·replace q:=h▸q;cases q
  ·replace q:=ha▸q;cases q
theorem dY{h h':Heap}{c:Addr}{v:Option Value}(x:h.IsCell c v)(k:∀o,h.get? c=some o->h'.get? c=some o):h'.IsCell c v:=e1 (λo h=>⟨k o h.1,h.2⟩) x
theorem CellRel.alive{h:Heap}{a:Nat}{c:Cell}(r:CellRel P G h a c):∃o,h.get? a=some o:=by
 cases c with
 |lst xs=>obtain⟨vs,n,h1,_⟩:=r;exact⟨_,h1⟩
 |ins c fs=>obtain⟨dx,sl,h1,_⟩:=r;exact⟨_,h1⟩
theorem Rep.lx(R:Rep P G env J s):¬XS env.locals:=by obtain⟨m,h1,_⟩:=R.ns;exact R.inh.tab.ns h1
theorem Rep.cx{x:Str}{c:Addr}(R:Rep P G env J s)(hk:env.kindOf x=some .cell)(h:env.cells.lookup x=some c):¬XS c:=by
 refine x2 (λc' v=>a2 λh1 h2=>?_) (R.cell0 x hk)
 rw[h]at h1;(have zq:=Option.some.inj h1;subst zq);exact R.inh.tab.cell h2
noncomputable def CellsThere(env:Env)(h:Heap):Prop:=∀x c,env.cells.lookup x=some c->∃o,h.get? c=some o
theorem Rep.grow(R:Rep P G env J s)(hct:CellsThere env s.heap)(g:GS G s G' s')(tk:1<=s'.toks):Rep P G' env J s' where
 inh:=g.inh
 tk:=tk
 ns:=by
  refine x1 (λm=>a2 λh1 h2=>?_) R.ns
  exact⟨m,h1.at' λo=>g.keep _ o (R.inh.tab.ns h1),λx p e k=>e1 (λv=>c1 λb=>b.mono g.ext) (h2 x p e k)⟩
 kind:=R.kind
 cel:=λx p e k=>e2 (λc v h=>⟨h.1,dY h.2.1 (λo=>g.keep c o (R.inh.tab.cell h.2.1)),h.2.2.mono g.ext⟩) (R.cel x p e k)
 cell0:=λx e=>e2 (λc v=>c1 λh2=>dY h2 (λo=>g.keep c o (R.inh.tab.cell h2))) (R.cell0 x e)
 gl:=by
  obtain⟨m,⟨o,es,ep,h1,_⟩,h2⟩:=R.ns
  exact g.none_stays h1 R.gl
 gc:=λx c e=>by
  refine x1 (λo ho=>?_) (hct x c e)
  exact⟨g.none_stays ho (R.gc x c e).1,(R.gc x c e).2⟩
 cinj:=R.cinj
 cells:=λa c e=>by
  refine a3 (λh1 h2 h3=>?_) (R.cells a c e)
  refine x1 (λo ho=>?_) h1.alive
  exact⟨h1.mono g.ext (λo=>g.keep a o (h1.nx R.inh.tab)),g.none_stays ho h2,h3⟩
theorem CellsThere.grow(h:CellsThere env s.heap)(hk:∀a,(s.heap.get? a).isSome=true->(s'.heap.get? a).isSome=true):CellsThere env s'.heap:=λx c e=>by
 obtain⟨o,ho⟩:=h x c e
 exact cj.mp (hk c (by rw[ho];rfl))
theorem Rep.cellsOk(R:Rep P G env J s):nQ P G s.heap J.σ:=λa xs e=>by
 obtain⟨⟨vs,n,h1,h2,h3⟩,_⟩:=R.cells a _ e
 exact ex4 a _ vs n ⟨rfl,h1,rfl,rfl,rfl,h2,h3⟩
theorem Rep.view(R:Rep P G env J s){v:Value}{p:PV}(h:VRel P G v p):lP P G s.heap v (der J.σ p):=by
 cases p with
 |ptr a=>
  refine(?_:lP P G s.heap v (Option.casesOn (motive:=λ_=>PV) (gP (J.σ a)) (.ptr a) .list))
  cases e:J.σ a with
  |none=>exact h
  |some c=>cases c with
   |lst xs=>simp only[VRel]at h;subst h;exact R.cellsOk a xs e
   |ins c fs=>exact h
 |_=>exact h.view R.inh
end
section
variable {prog:Program}{w:World}{A:Around}{E:Value->Shared->Prop}{s:Shared}{G:GM}{env:Env}{J:St}{cw:Bool}{K:PV->Prop}
noncomputable def zdZ(P:Params)(cw:Bool)(env:Env)(G:GM)(J:St)(s:Shared)(Q:PV->St->Prop)(v:Value)(s':Shared):Prop:=
 ∃p G' st',Q p st'/\Rep P G' env st' s'/\CellsThere env s'.heap/\Tr cw env G J s G' st' s'/\VRel P G' v p
theorem kT{t:Sem Value}{Q:PV->St->Prop}(R:Rep w.params G env J s)(hct:CellsThere env s.heap)(h:GW (model prog w) A w.params E G s t λp=>Q p J):
  wpAny (model prog w) A t (zdZ w.params cw env G J s Q) E s:=by
 refine wpAny_mono (wpAny_toks_of R.tk h) (λv s' ⟨tk,p,G',hq,g,r⟩=>?_) λ_ _ e=>e.2
 exact ex3 p G' J ⟨hq,R.grow hct g tk,hct.grow g.alive,g.tr,r⟩
end
noncomputable def nL(P:Params)(G:GM)(h:Heap)(vs:List Value):List PV->Prop
 |[]=>vs=[]
 |x ::xs=>∃v r,vs=v ::r/\lP P G h v x/\nL P G h r xs
noncomputable def iO(name:Str):Value:=
 if name="int"then .type "int"else if name="range"then .type "range"else if name="len"then .builtin "len"else if name="ord"then .builtin "ord"
 else .builtin "min"
section
variable {prog:Program}{w:World}{A:Around}{E:Value->Shared->Prop}{s:Shared}{G:GM}{K:PV->Prop}
theorem GS.heap{G:GM}{s:Shared}(hi:InH G s.heap){h':Heap}(k:Nat)(hk:∀a o,s.heap.get? a=some o->h'.get? a=some o):GS G s G {s with heap:=h',toks:=k}:=
 ⟨.refl _,hi.keeps hk,λ_ _ e=>.inl e,λa o _=>hk a o,rfl,λe=>e⟩
theorem pZ{c:Nat}(h:c<1114112):okStr [c]:=⟨by simpa using h,by simp[bU]⟩
theorem nT(a b:Value):checkTypeCall "int" ⟨[a,b],[]⟩=pure ():=by kernel_rfl
theorem qB(a b:Value):checkBuiltinCall "int.__new__" ⟨[.type "int",a,b],[]⟩=pure ():=by kernel_rfl
theorem l7{P:Params}{h:Heap}{vs:List Value}{p:PV}(hv:nL P G h vs [p]):∃v,vs=[v]/\lP P G h v p:=by
 obtain⟨v,r,rfl,h1,rfl⟩:=hv;exact⟨v,rfl,h1⟩
theorem za2{P:Params}{h:Heap}{v:Value}{i:Int}(hv:lP P G h v (.int i)):∃t,v=.int i t:=by simpa only[lP,VRel]using hv
theorem zd3{P:Params}{h:Heap}{v:Value}{x:List Nat}(hv:lP P G h v (.str x)):∃t,v=.str ⟨x.toArray⟩ t/\okStr x:=by simpa only[lP,VRel]using hv
theorem g8{a:Prop} [Decidable a] {P Q R:Prop}(h:if a then P else Q) (hp:a->P->R) (hq:Q->R):R:=by
 by_cases q:a
 ·exact hp q ((if_pos q).mp h)
 ·exact hq ((if_neg q).mp h)
theorem vK{k:Nat}(hi:InH G s.heap){i:Int}{t:Tok}(hk:K (.int i)):∃r G',K r/\GS G s G' {s with toks:=k}/\VRel w.params G' (.int i t) r:=⟨_,G,hk,GS.toks hi _,t,rfl⟩
theorem ziN{n:Nat}(hn:n<=bU):(n:Int)<2^63:=Int.lt_of_le_of_lt (ga.mpr hn) (by decide)
theorem zkj{vs:List Value}{ps:List PV}(hi:InH G s.heap)(hv:nL w.params G s.heap vs ps)(h:one ps λv=>zkx v K):GW (model prog w) A w.params E G s (call (iO "len") vs) K:=by
 refine(show iO "len"=.builtin "len"by decide+kernel).symm▸?_
 refine x1 (λp=>a2 λzr1 ha=>?_) (jM h);subst zr1
 refine x1 (λv=>a2 λzr1 hw=>?_) (l7 hv);subst zr1
 cases p<;>first |exact bq ha|skip
 ·refine x1 (λt=>a2 λzr1 ok=>?_) (zd3 hw);subst zr1
  exact P.len_str (by rw[dO];exact Int.not_le.mpr (ziN ok.2)) (by rw[dO];exact vK hi ha)
 ·refine x2 (λa its=>a4 λzr2 h1 h2 h3=>?_) (LView.isList hw);subst zr2
  exact len_list h1 (ziN h2) (by(refine cn▸?_;refine h3.length.symm▸?_);exact vK hi ha)
theorem zkh{vs:List Value}{ps:List PV}(hi:InH G s.heap)(hv:nL w.params G s.heap vs ps)(h:one ps λv=>asS v λx=>one x λc=>K (.int c)):GW (model prog w) A w.params E G s (call (iO "ord") vs) K:=by
 rw[show iO "ord"=.builtin "ord"by decide+kernel]
 refine x1 (λp=>a2 λzr1 ha=>?_) (jM h);subst zr1
 refine x1 (λx=>a2 λzr1 hb=>?_) (dW ha);subst zr1
 refine x1 (λc=>a2 λzr1 hc=>?_) (jM hb);subst zr1
 refine x1 (λv=>a2 λzr1 hw=>?_) (l7 hv);subst zr1
 refine x1 (λt=>a2 λzr1 ok=>?_) (zd3 hw);subst zr1
 exact P.ord_of_char (vK hi hc)
theorem zki{n:Nat}(hA:Room n A){vs:List Value}{ps:List PV}(hi:InH G s.heap)(hv:nL w.params G s.heap vs ps)(h:two ps λp q=>asI p λx=>asI q λy=>K (.int (if y<x then y else x))):GW (model prog w) A w.params E G s (call (iO "min") vs) K:=by
 rw[show iO "min"=.builtin "min"by decide+kernel]
 refine x2 (λp q=>a2 λe h=>?_) (oB h)
 refine x1 (λx=>a2 λe1 h=>?_) (dH h)
 refine x1 (λy=>a2 λe2 hk=>?_) (dH h)
 subst e;subst e1;subst e2
 refine x2 (λv r=>a3 λf1 g1=>x2 λv' r'=>a3 λf2 g2 f3=>?_) hv
 refine x1 (λt g1=>?_) (za2 g1)
 refine x1 (λu g2=>?_) (za2 g2)
 subst f3;subst f2;subst f1;subst g1;subst g2
 refine min_two_ints hA.handled λh' tk kp=>?_
 refine ex2 _ G ⟨hk,GS.heap hi tk kp,?_⟩
 split
 ·exact⟨u,rfl⟩
 ·exact⟨t,rfl⟩
theorem zfR{v:Value}{x:List Nat}(hi:InH G s.heap)(hv:lP w.params G s.heap v (.str x))(h:zdX x K):GW (model prog w) A w.params E G s (call (.type "int") [v]) K:=by
 refine x1 (λt=>a2 λzr1 ok=>?_) (zd3 hv);subst zr1
 cases x with
 |nil=>exact bq h
 |cons c x=>
  refine a2 (λhl h=>?_) h
  have hlen:ee ⟨(c ::x).toArray⟩<=640:=hl
  rcases h with⟨rfl,hne,m,hm,hk⟩|⟨rfl,hne,m,hm,hk⟩|⟨m,hm,hk⟩
  ·exact PySem.W.KIN.call_text (jX (neg:=true) (.inl ⟨rfl,rfl⟩) hne hm (af (aq hl) (by decide))) hlen (vK hi hk)
  ·exact PySem.W.KIN.call_text (jX (neg:=false) (.inr (.inl ⟨rfl,rfl⟩)) hne hm (af (aq hl) (by decide))) hlen (vK hi hk)
  ·exact PySem.W.KIN.call_text (jX (neg:=false) (.inr (.inr ⟨rfl,rfl⟩)) (List.cons_ne_nil c x) hm (af hlen (by decide))) hlen (vK hi hk)
theorem zkk{vs:List Value}{ps:List PV}(hi:InH G s.heap)(hv:nL w.params G s.heap vs ps)(h:List.casesOn (motive:=λ_=>Prop) ps False λv r=>asS v λx=>List.casesOn (motive:=λ_=>Prop) r (zdX x K) λb r=>one (b ::r) λb=>asI b λb=>b=16/\x≠[]/\x.length<=640/\∃n,eD 16 0 x=some n/\K (.int n)):GW (model prog w) A w.params E G s (call (iO "int") vs) K:=by
 rw[show iO "int"=.type "int"by decide+kernel]
 cases ps with
 |nil=>exact bq h
 |cons p ps=>
  refine x1 (λx=>a2 λzr1 hb=>?_) (dW (v:=p) h);subst zr1
  cases ps with
  |nil=>
   refine x1 (λv=>a2 λzr1 hw=>?_) (l7 hv);subst zr1
   exact zfR hi hw hb
  |cons q ps=>
   refine x1 (λb=>a2 λe hc=>?_) (jM hb)
   refine a2 (λzq zp=>?_) (List.cons.inj e);subst zq;subst zp
   obtain⟨i,rfl,rfl,hne,hl,m,hm,hk⟩:=dH hc
   obtain⟨v,r,rfl,hv1,v',r',rfl,hv2,rfl⟩:=hv
   refine x1 (λt=>a2 λzr1 ok=>?_) (zd3 hv1);subst zr1
   refine x1 (λu zr1=>?_) (za2 hv2);subst zr1
   refine callType_new F.called_int F.newNe_int (nT _ _) (qB _ _) (λobj=>F.initArgs_range_2 obj _ _) F.entry_int_new (zc8 (v:=u) hl hne hm).meets ?_
   exact(show(Made.int (m:Int)).post _ s from⟨rfl,vK hi hk⟩)
theorem zfQ{vs:List Value}{ps:List PV}(hi:InH G s.heap)(hv:nL w.params G s.heap vs ps)(h:one ps λa=>asI a λlo=>rngP 0 lo K):GW (model prog w) A w.params E G s (call (iO "range") vs) K:=by
 rw[show iO "range"=.type "range"by decide+kernel]
 refine x1 (λp=>a2 λzr1 ha=>?_) (jM h);subst zr1
 refine x1 (λlo=>a6 λzr1 _ _ h0 h1 hk=>?_) (dH ha);subst zr1
 refine x1 (λv=>a2 λzr1 hw=>?_) (l7 hv);subst zr1
 refine x1 (λt zr1=>?_) (za2 hw);subst zr1
 exact call_range_1 ⟨_,_,hk,GS.push hi {cls:=.type "range",data:=.fields #[.int 0 s.toks,.int lo t,.int 1 (s.toks+1)]} rfl (s.toks+1+1),_,_,_,_,rfl,fT,Int.le_refl _,by decide,h0,h1⟩
theorem bi_G{n:Nat}(hA:Room n A){name:Str}{vs:List Value}{ps:List PV}(hi:InH G s.heap)(hv:nL w.params G s.heap vs ps)(h:biP name ps K):
  GW (model prog w) A w.params E G s (call (iO name) vs) K:=
 g8 h (λq h=>q▸zkj hi hv h) λh=>g8 h (λq h=>q▸zkh hi hv h) λh=>g8 h (λq h=>q▸zkk hi hv h) λh=>g8 h (λq h=>q▸zki hA hi hv h) λh=>g8 h (λq h=>q▸zfQ hi hv h) bq
theorem m8{α:Type}{xs:List α}{k:Int}{c:α}(h:sU xs k=some c):seqIndex? k xs.length=some (if k<0 then k+xs.length else k).toNat/\xs[(if k<0 then k+xs.length else k).toNat]?=some c/\-(xs.length:Int)<=k/\k<xs.length:=by
 unfold sU at h
 unfold seqIndex?
 by_cases h1:k<0
 ·replace h:=(if_pos h1)▸h
  simp only[if_pos h1]
  split at h
  ·rename_i h2
   have h3:=(dg.mp h).1
   exact⟨by rw[if_pos (by simp;omega)],h,by omega,by omega⟩
  ·exfalso;cases h
 ·replace h:=(if_neg h1)▸h
  simp only[if_neg h1]
  have h3:=(dg.mp h).1
  exact⟨by rw[if_pos (by simp;omega)],h,by omega,by omega⟩
theorem zh2{v iv:Value}{x:List Nat}{k:Int}{c:Nat}(hi:InH G s.heap)(hv:VRel w.params G v (.str x))(hk:VRel w.params G iv (.int k))(h:sU x k=some c)(hK:K (.str [c])):
  GW (model prog w) A w.params E G s (getItem v iv) K:=by
 simp only[VRel]at hv hk
 refine x1 (λt=>a2 λzr1 ok=>?_) hv;subst zr1
 refine x1 (λu zr1=>?_) hk;subst zr1
 refine a4 (λh1 h2 h3 h4=>?_) (m8 h)
 have hz:=ok.2
 unfold bU at hz
 refine P.getItem_str (c:=c) (by simp only[gb,decide_eq_false_iff_not];omega) ?_ ⟨_,G,hK,GS.toks hi _,?_⟩
 ·rw[dO,h1];simpa using h2
 ·simp only[VRel]
  exact⟨_,rfl,pZ (ok.1 c (fi h2))⟩
theorem zfe{v iv:Value}{xs:List PV}{k:Int}{p:PV}(hi:InH G s.heap)(hv:LView w.params G s.heap v xs)(hk:VRel w.params G iv (.int k))(h:sU xs k=some p)(hK:K p):
  GW (model prog w) A w.params E G s (getItem v iv) K:=by
 simp only[VRel]at hk
 refine x1 (λu zr1=>?_) hk;subst zr1
 refine x2 (λa vs=>a4 λzr2 g1 g2 g3=>?_) hv.isList;subst zr2
 refine a4 (λh1 h2 h3 h4=>?_) (m8 h)
 have hl:=g3.length
 simp only[cn]at hl
 unfold bU at g2
 refine x1 (λv=>a2 λe1 e2=>?_) (g3.get h2)
 have e1':vs[(if k<0 then k+xs.length else k).toNat]?=some v:=by simpa using e1
 by_cases h0:k<0
 ·rw[if_pos h0]at e1'
  exact wpAny_getItem_list_neg g1 h0 (by omega) (by omega) (by rw[hl];exact e1') ⟨p,G,hK,GS.refl hi,e2⟩
 ·rw[if_neg h0]at e1'
  exact wpAny_getItem_list g1 (by omega) (by omega) e1' ⟨p,G,hK,GS.refl hi,e2⟩
theorem zh1{v iv:Value}{xs:List PV}{k:Int}{p:PV}(hi:InH G s.heap)(hv:VRel w.params G v (.tup xs))(hk:VRel w.params G iv (.int k))(h:sU xs k=some p)(hK:K p):
  GW (model prog w) A w.params E G s (getItem v iv) K:=by
 simp only[VRel]at hk hv
 obtain⟨u,rfl⟩:=hk
 obtain⟨a,o,vs,n,rfl,g2,g3,g4,g5,g6⟩:=hv
 obtain⟨h1,h2,h3,h4⟩:=m8 h
 have hl:=g6.length
 simp only[cn]at hl
 unfold bU at g5
 obtain⟨v,e1,e2⟩:=g6.get h2
 exact getItem_tuple (items:=vs) ⟨o,hi.at_ _ _ g2,g3,n,g4⟩ (by omega) (by omega) (by rw[hl];exact h1) (by simpa using e1) ⟨p,G,hK,GS.refl hi,e2⟩
end
theorem sS(x y:Str)(i j:Int)(t u v z:Tok):Gives («str.rfind» ⟨[.str x t,.str y u,.int i v,.int j z],[]⟩) (.int (match lastOccurrence x y (fromIndex x.length i) (min (fromIndex x.length j) x.length)with |some k=>(k:Int)|none=>-1)):=by
 show Gives (match lastOccurrence x y (fromIndex x.length i) (min (fromIndex x.length j) x.length)with |some k=>retInt k|none=>(do rule "str.rfind.not-found";retInt (-1))) _
 cases lastOccurrence x y (fromIndex x.length i) (min (fromIndex x.length j) x.length)with
 |none=>exact .rule (.of_eq rfl)
 |some k=>exact .of_eq rfl
theorem sT(x y:Str)(i j:Int)(t u v z:Tok):Gives («str.count» ⟨[.str x t,.str y u,.int i v,.int j z],[]⟩) (.int (occurrences x y (fromIndex x.length i) (min (fromIndex x.length j) x.length) (x.length+1)).length):=by
 exact .of_eq rfl
theorem zi9(x p:List Nat)(i:Nat):(decide (i+ee ⟨p.toArray⟩<=ee ⟨x.toArray⟩)&&subAt ⟨x.toArray⟩ ⟨p.toArray⟩ i)=(decide (i<=x.length)&&p.isPrefixOf (x.drop i)):=by
 rw[StrLaws.subAt_eq,dO,dO]
 show(decide (i+p.length<=x.length)&&((x.drop i).take p.length==p))=_
 by_cases c:p.isPrefixOf (x.drop i)=true
 ·have h1:=pU c
  rw[bv]at h1
  have h2:=(iD _ _).mp c
  rw[c,h2,beq_self_eq_true,fm,fm]
  exact decide_eq_decide.mpr ⟨λq=>af (am _ _) q,λq=>uS q h1⟩
 ·have h2:¬(x.drop i).take p.length=p:=λh=>c ((iD _ _).mpr h)
  have h3:((x.drop i).take p.length==p)=false:=beq_eq_false_iff_ne.mpr h2
  simp only[Bool.not_eq_true]at c
  rw[h3,c,ew,ew]
section
variable {prog:Program}{w:World}{A:Around}{E:Value->Shared->Prop}{s:Shared}{G:GM}{K:PV->Prop}
theorem zi8{M:Model}{x:Str}{t v:Tok}{a:Addr}{i:Int}{items:Array Value}{ys:List Str}{Q:Value->Shared->Prop}(ht:IsTup s.heap a items)(hs:StrsAre items.toList ys)
  (h:Q (.bool (ys.any λp=>decide (fromIndex x.length i+p.length<=x.length)&&subAt x p (fromIndex x.length i))) s):
  wpAny M A (Builtin.«str.startswith» ⟨[.str x t,.ref a,.int i v],[]⟩) (λfin s'=>∃v,fin=Fin.done (Flow.ret v)/\Q v s') E s:=by
 refine x1 (λo=>a3 λho hc=>x1 λn hd=>?_) ht
 unfold Builtin.«str.startswith» affixEntry
 have e1:strSomeArgs "startswith" 1 3 ⟨[.str x t,.ref a,.int i v],[]⟩=pure (.str x t,x,[.ref a,.int i v]):=rfl
 have e2:searchRange x.length [.int i v]=pure (fromIndex x.length i,min x.length x.length):=rfl
 rw[e1]
 refine wpAny_bind (wpAny_pure ?_)
 dsimp only[List.drop,List.headD]
 rw[e2]
 refine wpAny_bind (wpAny_pure ?_)
 refine wpAny_bind (PySem.W.KPt.asStr_ref ho hd ?_)
 refine wpAny_bind (wpAny_isInstance (T:="tuple") ⟨o,ho,hc⟩ isSubtype_tuple_tuple ?_)
 simp only[if_true]
 refine wpAny_bind (wpAny_rule (wpAny_bind (wpAny_seqItems ho hd ?_)))
 rw[Nat.min_self]
 refine wpAny_bind ?_
 refine wpAny_forIn_array' _ (λrest (b:Option Fin×Unit) s'=>s'=s/\b=(none,())/\∃pre post,ys=pre++post/\StrsAre rest post/\(pre.any λp=>decide (fromIndex x.length i+p.length<=x.length)&&subAt x p (fromIndex x.length i))=false) _ ?_ ?_ items _ ⟨rfl,rfl,[],ys,rfl,hs,rfl⟩
 ·rintro y rest b s' ⟨rfl,rfl,pre,post,hy,hr,hp⟩
  cases hr with
  |cons z u hr=>
  rename_i post
  refine wpAny_bind (wpAny_pure ?_)
  dsimp only
  split
  ·rename_i hc'
   refine wpAny_bind (wpAny_pure (wpAny_pure ?_))
   refine wpAny_pure ⟨_,rfl,?_⟩
   have:(ys.any λp=>decide (fromIndex x.length i+p.length<=x.length)&&subAt x p (fromIndex x.length i))=true:=by
    rw[hy,List.any_append,List.any_cons,hc'];simp
   rw[this]at h;exact h
  ·rename_i hc'
   refine wpAny_pure ⟨rfl,rfl,pre++[z],post,by rw[hy];simp,hr,?_⟩
   rw[List.any_append,hp]
   simp only[Bool.not_eq_true]at hc'
   simp[hc']
 ·rintro b s' ⟨rfl,rfl,pre,post,hy,hr,hp⟩
  cases hr
  rw[ck]at hy;subst hy
  rw[hp]at h
  exact wpAny_pure ⟨_,rfl,h⟩
theorem SW{x:Str}{t v:Tok}{a:Addr}{i:Int}{items:Array Value}{ys:List Str}{Q:Value->Shared->Prop}(ht:IsTup s.heap a items)(hs:StrsAre items.toList ys)
  (h:Q (.bool (ys.any λp=>decide (fromIndex x.length i+p.length<=x.length)&&subAt x p (fromIndex x.length i))) s):
  wpAny (model prog w) A (call (.builtin "str.startswith") [.str x t,.ref a,.int i v]) Q E s:=
 wpAny_call_entry F.slot_str_startswith (typeIs_str _ _ _) F.entry_str_startswith (zi8 ht hs h) (F.args_str_startswith_3 _ _ _)
theorem l9:∀zs:List (List Nat),(Str.join ⟨#[]⟩ (zs.map λz=>⟨z.toArray⟩))=⟨zs.flatten.toArray⟩
 |[]=>rfl
 |[x]=>by simp[Str.join]
 |x ::y ::r=>by
  have ih:=l9 (y ::r)
  simp only[cf]at ih ⊢
  simp only[Str.join,ih]
  apply Str.ext'
  simp[Str.cps_append]
theorem zbt{vs:List Value}{ys:List Str}(h:StrsAre vs ys):∃l:List (Str×Tok),vs=strValues l/\l.map (·.1)=ys:=by
 induction h with
 |nil=>exact⟨[],rfl,rfl⟩
 |cons y t _ ih=>
  refine x1 (λl=>a2 λh1 h2=>?_) ih
  exact⟨(y,t) ::l,by rw[h1];rfl,by rw[<- h2];rfl⟩
theorem zjG{v l:Value}{xs:List PV}{zs:List (List Nat)}(hi:InH G s.heap)(hv:VRel w.params G v (.str []))(hl:LView w.params G s.heap l xs)(hz:fN xs=some zs)(hs:zs.flatten.length<=bU)(hK:K (.str zs.flatten)):
  GW (model prog w) A w.params E G s (call (.builtin "str.join") [v,l]) K:=by
 simp only[VRel]at hv
 refine x1 (λt=>a2 λzr1 _=>?_) hv;subst zr1
 refine x2 (λa vs=>a4 λzr2 g1 g2 g3=>?_) hl.isList;subst zr2
 refine a2 (λq1 q2=>?_) (mK g3 hz)
 refine x1 (λls=>a2 λe1 e2=>?_) (zbt q1)
 have hl':s.heap.IsList a (strValues ls).toArray:=by rw[<- e1];simpa using g1
 refine SC.join hl' e2 ?_ λt' k=>⟨_,G,hK,GS.toks hi _,?_⟩
 ·unfold JoinOk tooLong
  rw[StrLaws.joinTotal]
  simp only[jm,decide_eq_false_iff_not,gt_iff_lt,gv]
  have:((zs.map λz=>(⟨z.toArray⟩:Str)).map (·.length)).sum=zs.flatten.length:=by
   rw[List.length_flatten,List.map_map]
   exact congrArg List.sum (ic λz _=>by simp[ee])
  rw[this]
  have h0:(⟨([]:List Nat).toArray⟩:Str).length=0:=rfl
  rw[h0,Nat.mul_zero,Nat.add_zero]
  exact hs
 ·simp only[VRel]
  refine⟨t',?_,?_,hs⟩
  ·unfold Txt.join
   rw[StrLaws.glued_eq_join]
   exact congrArg (λx=>Value.str x t') (l9 zs)
  ·intro c hc
   refine x1 (λz=>a2 λhz1 hz2=>?_) (List.mem_flatten.mp hc)
   exact(q2 z hz1).1 c hz2
noncomputable def eN(name:Str):String:=if name="startswith"then"str.startswith"else if name="find"then"str.find"else if name="rfind"then"str.rfind"else if name="count"then"str.count"else"str.join"
noncomputable def dK(name:Str)(o:PV):String:=if sP o=true then(if name="append"then"list.append"else"list.pop")else eN name
end
section
variable {P:Params}{G:GM}{env:Env}{J:St}{s:Shared}{cw:Bool}
theorem Rep.setCell(R:Rep P G env J s){a:Nat}{c c':Cell}(hσ:J.σ a=some c){h':Heap}(hs:Heap.SameBut a s.heap h')(hr:CellRel P G h' a c'){k:Nat}(hk:1<=k):
  Rep P G env ⟨J.ρ,bE J.σ a c'⟩ {s with heap:=h',toks:=k}/\Tr cw env G J s G ⟨J.ρ,bE J.σ a c'⟩ {s with heap:=h',toks:=k}:=by
 refine a4 (λh1 h2 h3 h4=>?_) (R.cells a c hσ)
 have other:∀b o,b≠a->s.heap.get? b=some o->h'.get? b=some o:=λb o hb e=>(hs.2 b hb).trans e
 refine⟨⟨?_,hk,?_,R.kind,?_,?_,R.gl,R.gc,R.cinj,?_⟩,⟨.refl _,λ_ _ e=>.inl e,?_,?_,?_,?_,rfl,λe=>e⟩⟩
 ·exact R.inh.but other h2 (h1.nx R.inh.tab)
 ·refine x1 (λm=>a2 λg1 g2=>?_) R.ns
  exact⟨m,g1.at' λo e=>other _ o (Ne.symm h3) e,g2⟩
 ·intro x p e kk
  refine x2 (λc v=>a3 λg1 g2 g3=>?_) (R.cel x p e kk)
  exact ex2 c v ⟨g1,dY g2 λo e=>other _ o (by rintro rfl;exact h4 x g1) e,g3⟩
 ·intro x e
  refine x2 (λc v=>a2 λg1 g2=>?_) (R.cell0 x e)
  exact ex2 c v ⟨g1,dY g2 λo e=>other _ o (by rintro rfl;exact h4 x g1) e⟩
 ·intro b d e
  simp only[bE]at e
  split at e
  ·rename_i q;subst q;(have zq:=Option.some.inj e;subst zq);exact⟨hr,h2,h3,h4⟩
  ·rename_i q
   refine a2 (λg1 g2=>?_) (R.cells b d e)
   exact⟨g1.mono (.refl _) λo e=>other b o q e,g2⟩
 ·intro b o _ e _ _ hb
  refine other b o ?_ e
  rintro rfl;replace hb:=hσ▸hb;cases hb
 ·intro b e
  by_cases q:b=a
  ·subst q;obtain⟨o,ho⟩:=hr.alive;show(h'.get? b).isSome=true;rw[ho];rfl
  ·show(h'.get? b).isSome=true;rw[hs.2 b q];exact e
 ·intro b e;show(bE J.σ a c' b).isSome=true;unfold bE;split;rfl;exact e
 ·intro b e
  left
  simp only[bE]at e
  split at e
  ·rename_i q;subst q;rw[hσ];rfl
  ·exact e
theorem CellsThere.same{h h':Heap}(hc:CellsThere env h){a:Nat}(hs:Heap.SameBut a h h')(ha:(h'.get? a).isSome=true):CellsThere env h':=λx c e=>by
 obtain⟨o,ho⟩:=hc x c e
 by_cases q:c=a
 ·subst q;exact cj.mp ha
 ·exact⟨o,(hs.2 c q).trans ho⟩
theorem Rep.newCell(R:Rep P G env J s)(hct:CellsThere env s.heap){vs:List Value}{xs:List PV}(hr:VRels P G vs xs)(hz:vs.length<=bU){k:Nat}(hk:1<=k):
  J.σ s.heap.objs.size=none/\Rep P G env ⟨J.ρ,bE J.σ s.heap.objs.size (.lst xs)⟩ {s with heap:=s.heap.push {cls:=.type "list",data:=.seq vs.toArray},toks:=k}/\
   CellsThere env (s.heap.push {cls:=.type "list",data:=.seq vs.toArray})/\
   Tr cw env G J s G ⟨J.ρ,bE J.σ s.heap.objs.size (.lst xs)⟩ {s with heap:=s.heap.push {cls:=.type "list",data:=.seq vs.toArray},toks:=k}:=by
 have nw:∀o,s.heap.get? s.heap.objs.size≠some o:=λo e=>absurd (dy e) (em _)
 have nw':s.heap.get? s.heap.objs.size=none:=by
  cases e:s.heap.get? s.heap.objs.size with
  |none=>rfl
  |some o=>exact absurd e (nw o)
 have hσ:J.σ s.heap.objs.size=none:=by
  cases e:J.σ s.heap.objs.size with
  |none=>rfl
  |some c=>obtain⟨h1,_⟩:=R.cells _ c e;obtain⟨o,ho⟩:=h1.alive;exact absurd ho (nw o)
 have kp:∀b o,s.heap.get? b=some o->(s.heap.push {cls:=.type "list",data:=.seq vs.toArray}).get? b=some o:=λb o e=>di _ e
 refine⟨hσ,⟨R.inh.keeps kp,hk,?_,R.kind,?_,?_,R.gl,R.gc,R.cinj,?_⟩,?_,⟨.refl _,λ_ _ e=>.inl e,λb o _ e _ _ _=>kp b o e,?_,?_,?_,rfl,λe=>e⟩⟩
 ·refine x1 (λm=>a2 λg1 g2=>?_) R.ns
  exact⟨m,g1.at' λo e=>kp _ o e,g2⟩
 ·intro x p e kk
  refine x2 (λc v=>a3 λg1 g2 g3=>?_) (R.cel x p e kk)
  exact ex2 c v ⟨g1,dY g2 λo e=>kp _ o e,g3⟩
 ·intro x e
  refine x2 (λc v=>a2 λg1 g2=>?_) (R.cell0 x e)
  exact ex2 c v ⟨g1,dY g2 λo e=>kp _ o e⟩
 ·intro b d e
  simp only[bE]at e
  split at e
  ·rename_i q;subst q;(have zq:=Option.some.inj e;subst zq)
   refine⟨⟨vs.toArray,0,dc _ rfl,by simpa using hz,by simpa using hr⟩,?_,?_,?_⟩
   ·cases e:G s.heap.objs.size with
    |none=>rfl
    |some o=>exact absurd (R.inh.at_ _ _ e) (nw o)
   ·obtain⟨m,⟨o,_,_,g1,_⟩,_⟩:=R.ns
    intro q;rw[<- q]at g1;exact nw o g1
   ·intro x e
    refine x1 (λo ho=>?_) (hct x _ e)
    exact nw o ho
  ·refine a2 (λg1 g2=>?_) (R.cells b d e)
   exact⟨g1.mono (.refl _) λo e=>kp b o e,g2⟩
 ·intro x c e
  refine x1 (λo ho=>?_) (hct x c e)
  exact⟨o,kp c o ho⟩
 ·intro b e
  refine x1 (λo ho=>?_) (cj.mp e)
  refine(?_:((s.heap.push _).get? b).isSome=true)
  rw[kp b o ho];rfl
 ·intro b e;show(bE J.σ _ _ b).isSome=true;unfold bE;split;rfl;exact e
 ·intro b e
  simp only[bE]at e
  split at e
  ·rename_i q;subst q;exact .inr nw'
  ·exact .inl e
end
section
variable {prog:Program}{w:World}{A:Around}{E:Value->Shared->Prop}{s:Shared}{G:GM}{env:Env}{J:St}{cw:Bool}{Q:PV->St->Prop}
theorem zdv(R:Rep w.params G env J s):∀{vs:List Value}{ps:List PV},VRels w.params G vs ps->nL w.params G s.heap vs (ps.map (der J.σ))
 |vs,[],h=>by simp only[VRels]at h;subst h;simp[nL]
 |vs,p ::ps,h=>by
  simp only[VRels]at h
  refine x2 (λv r=>a3 λzr2 h1 h2=>?_) h;subst zr2
  simp only[cf,nL]
  exact ex2 v r ⟨rfl,R.view h1,zdv R h2⟩
theorem vS{P:Params}{v:Value}{x:List Nat}(h:VRel P G v (.str x)):∃t,v=.str ⟨x.toArray⟩ t:=e1 (λ_ h=>h.1) (show∃t,v=.str ⟨x.toArray⟩ t/\okStr x from h)
theorem vI{P:Params}{v:Value}{i:Int}(h:VRel P G v (.int i)):∃t,v=.int i t:=h
theorem dec0(i:Int)(n:Nat)(h:0<=i):decide (i.toNat<=n)=decide (i<=n):=decide_eq_decide.mpr Int.toNat_le
theorem zbs{K:Nat->Int->Int->Prop}{vs:List Value}{ps:List PV}(hs:VRels w.params G vs ps)(h:zhl ps K):∃c i j t u z,vs=[.str ⟨#[c]⟩ t,.int i u,.int j z]/\0<=i/\0<=j/\K c i j:=by
 refine x3 (λp a b=>a2 λe ha=>?_) (pE h)
 refine x1 (λp'=>a2 λe1 hb=>?_) (dW ha)
 refine x1 (λc=>a2 λe2 hc=>?_) (jM hb)
 refine x1 (λi=>a2 λe3 hd=>?_) (dH hc)
 refine x1 (λj=>a6 λe4 h0 _ h1 _ hq=>?_) (dH hd)
 subst e3;subst e4;subst e2;subst e1;subst e
 refine x2 (λu r=>a3 λe k1=>x2 λu' r'=>a3 λe' k2=>x2 λu'' r''=>a3 λe'' k3 e3=>?_) hs
 refine x1 (λt f=>?_) (vS k1)
 refine x1 (λt' f'=>?_) (vI k2)
 refine x1 (λt'' f''=>?_) (vI k3)
 exact ex6 c i j t t' t'' ⟨by(refine e.symm▸?_;refine e'.symm▸?_;refine e''.symm▸?_;refine e3.symm▸?_;refine f.symm▸?_;refine f'.symm▸?_;exact f''.symm▸rfl),h0,h1,hq⟩
theorem u5(R:Rep w.params G env J s)(hct:CellsThere env s.heap){v:Value}{o:PV}{vs:List Value}{ps:List PV}(hv:VRel w.params G v o)(hs:VRels w.params G vs ps)(h:asP o λa=>one ps λv=>∃xs,J.σ a=some (.lst xs)/\xs.length<bU/\Q .none ⟨J.ρ,bE J.σ a (.lst (xs++[v]))⟩):
  wpAny (model prog w) A (call (.builtin (dK "append" o)) (v ::vs)) (zdZ w.params cw env G J s Q) E s:=by
 refine x1 (λa=>a2 λzr1 ha=>?_) (tN h);subst zr1
 refine x1 (λp=>a2 λzr1=>x1 λxs=>a3 λh1 h2 hq=>?_) (jM ha);subst zr1
 simp only[VRel]at hv;subst hv
 refine x2 (λu r=>a3 λzr2 hu zr4=>?_) hs;subst zr2;subst zr4
 obtain⟨⟨its,m,g1,g2,g3⟩,g4,g5,g6⟩:=R.cells a _ h1
 have hl:=g3.length
 rw[cn]at hl
 refine(show dK "append" (.ptr a)="list.append"from(if_pos rfl).trans (if_pos rfl)).symm▸?_
 refine wpAny_list_append_plain ⟨m,g1⟩ (λh' hp hsb=>?_) g2
 refine x1 (λm' hp=>?_) hp
 have cr:CellRel w.params G h' a (.lst (xs++[p])):=⟨_,m',hp,by rw[Array.size_push,hl];exact h2,by refine Array.toList_push.symm▸?_;exact g3.append (VRels.one hu)⟩
 refine a2 (λR' T'=>?_) (R.setCell (cw:=cw) h1 hsb cr R.tk)
 exact ex3 .none G _ ⟨hq,R',hct.same hsb (by obtain⟨o,ho⟩:=cr.alive;refine ho.symm▸?_;rfl),T',by simp only[VRel]⟩
theorem mS(R:Rep w.params G env J s)(hct:CellsThere env s.heap){v:Value}{o:PV}{vs:List Value}{ps:List PV}(hv:VRel w.params G v o)(hs:VRels w.params G vs ps)(h:asS o λx=>two ps λp i=>asI i λi=>okI i (swP x p i λb=>Q (.bool b) ⟨J.ρ,J.σ⟩)):
  wpAny (model prog w) A (call (.builtin (dK "startswith" o)) (v ::vs)) (zdZ w.params cw env G J s Q) E s:=by
 refine x1 (λx=>a2 λzr1 ha=>?_) (dW h);subst zr1
 refine x2 (λp j=>a2 λzr2 hb=>?_) (oB ha);subst zr2
 refine x1 (λi=>a4 λzr1 h0 h1 hq=>?_) (dH hb);subst zr1
 rw[show dK "startswith" (.str x)="str.startswith"from(by decide+kernel:eN "startswith"="str.startswith")]
 refine x1 (λt zr1=>?_) (vS hv);subst zr1
 obtain⟨u,r,rfl,hu,u',r',rfl,hi,rfl⟩:=hs
 refine x1 (λt' zr1=>?_) (vI hi);subst zr1
 cases p<;>first |exact bq hq|skip
 ·rename_i p
  refine x1 (λt'' zr1=>?_) (vS hu);subst zr1
  refine kT R hct (eK R.inh hq λQ q=>SC.startswith3 ?_)
  unfold Txt.startswith3
  rw[d6 _ _ h0,zi9,dec0 _ _ h0];exact q
 ·refine x1 (λzs=>a2 λhz hq=>?_) hq
  simp only[VRel]at hu
  refine x4 (λa ob its m=>a6 λzr4 g2 g3 g4 g5 g6=>?_) hu;subst zr4
  refine a2 (λq1 _=>?_) (mK g6 hz)
  refine kT R hct (eK R.inh hq λQ q=>SW (items:=its) ⟨ob,R.inh.at_ _ _ g2,g3,m,g4⟩ q1 ?_)
  rw[d6 _ _ h0,List.any_map]
  have e:((λp=>decide (i.toNat+ee p<=ee ⟨x.toArray⟩)&&subAt ⟨x.toArray⟩ p i.toNat)∘λz:List Nat=>(⟨z.toArray⟩:Str))=λp=>decide (i<=x.length)&&p.isPrefixOf (x.drop i.toNat):=by
   funext p
   refine(?_:(decide (i.toNat+ee ⟨p.toArray⟩<=ee ⟨x.toArray⟩)&&subAt ⟨x.toArray⟩ ⟨p.toArray⟩ i.toNat)=_)
   rw[zi9,dec0 _ _ h0]
  rw[e,<- List.and_any_distrib_left];exact q
theorem zci(R:Rep w.params G env J s)(hct:CellsThere env s.heap){v:Value}{o:PV}{vs:List Value}{ps:List PV}(hv:VRel w.params G v o)(hs:VRels w.params G vs ps)(h:asS o λx=>two ps λp i=>asS p λp=>asI i λi=>okI i (Q (.int (sX x p i.toNat)) ⟨J.ρ,J.σ⟩)):
  wpAny (model prog w) A (call (.builtin (dK "find" o)) (v ::vs)) (zdZ w.params cw env G J s Q) E s:=by
 refine x1 (λx=>a2 λzr1 ha=>?_) (dW h);subst zr1
 refine x2 (λp j=>a2 λzr2 hb=>?_) (oB ha);subst zr2
 refine x1 (λp=>a2 λzr1 hc=>?_) (dW hb);subst zr1
 refine x1 (λi=>a4 λzr1 h0 h1 hq=>?_) (dH hc);subst zr1
 refine(show dK "find" (.str x)="str.find"from(by decide+kernel:eN "find"="str.find")).symm▸?_
 refine x1 (λt zr1=>?_) (vS hv);subst zr1
 obtain⟨u,r,rfl,hu,u',r',rfl,hi,rfl⟩:=hs
 refine x1 (λt' zr1=>?_) (vI hi);subst zr1
 refine x1 (λt'' zr1=>?_) (vS hu);subst zr1
 exact kT R hct (oV R.inh hq λQ q=>SC.find3 (by refine(zfo _ _ _ h0).symm▸?_;exact q))
theorem zX(R:Rep w.params G env J s)(hct:CellsThere env s.heap){v:Value}{o:PV}{vs:List Value}{ps:List PV}(hv:VRel w.params G v o)(hs:VRels w.params G vs ps)(h:asS o λx=>zhl ps λc i j=>Q (.int (fY c x i.toNat j.toNat)) ⟨J.ρ,J.σ⟩):
  wpAny (model prog w) A (call (.builtin (dK "rfind" o)) (v ::vs)) (zdZ w.params cw env G J s Q) E s:=by
 refine x1 (λx=>a2 λzr1 ha=>?_) (dW h);subst zr1
 refine x6 (λc i j _ _ _=>a4 λzr6 h0 h1 hq=>?_) (zbs hs ha);subst zr6
 rw[show dK "rfind" (.str x)="str.rfind"from(by decide+kernel:eN "rfind"="str.rfind")]
 refine x1 (λt zr1=>?_) (vS hv);subst zr1
 refine kT R hct (oV R.inh hq λQ q=>call_gives F.slot_str_rfind (typeIs_str _ _ _) F.entry_str_rfind (F.args_str_rfind_4 _ _ _ _) (sS _ _ _ _ _ _ _ _) ?_)
 rw[d6 _ _ h0,d6 _ _ h1,dO]
 rw[<- zeH x c i.toNat j.toNat]at q
 exact q
theorem zY(R:Rep w.params G env J s)(hct:CellsThere env s.heap){v:Value}{o:PV}{vs:List Value}{ps:List PV}(hv:VRel w.params G v o)(hs:VRels w.params G vs ps)(h:asS o λx=>zhl ps λc i j=>Q (.int ((((x.take j.toNat).drop i.toNat).count c:Nat):Int)) ⟨J.ρ,J.σ⟩):
  wpAny (model prog w) A (call (.builtin (dK "count" o)) (v ::vs)) (zdZ w.params cw env G J s Q) E s:=by
 refine x1 (λx=>a2 λzr1 ha=>?_) (dW h);subst zr1
 refine x6 (λc i j _ _ _=>a4 λzr6 h0 h1 hq=>?_) (zbs hs ha);subst zr6
 rw[show dK "count" (.str x)="str.count"from(by decide+kernel:eN "count"="str.count")]
 refine x1 (λt zr1=>?_) (vS hv);subst zr1
 refine kT R hct (oV R.inh hq λQ q=>call_gives F.slot_str_count (typeIs_str _ _ _) F.entry_str_count (F.args_str_count_4 _ _ _ _) (sT _ _ _ _ _ _ _ _) ?_)
 rw[d6 _ _ h0,d6 _ _ h1,dO]
 rw[zfy x c i.toNat j.toNat]
 exact q
theorem zch(R:Rep w.params G env J s)(hct:CellsThere env s.heap){v:Value}{o:PV}{vs:List Value}{ps:List PV}(hv:VRel w.params G v o)(hs:VRels w.params G vs ps)(h:asS o λx=>x=[]/\one ps λl=>asL (der J.σ l) λxs=>∃zs,fN xs=some zs/\zs.flatten.length<=bU/\Q (.str zs.flatten) ⟨J.ρ,J.σ⟩):
  wpAny (model prog w) A (call (.builtin (dK "join" o)) (v ::vs)) (zdZ w.params cw env G J s Q) E s:=by
 refine x1 (λx=>a3 λzr1 zr2 ha=>?_) (dW h);subst zr1;subst zr2
 refine x1 (λl=>a2 λzr1 hb=>?_) (jM ha);subst zr1
 refine x1 (λxs=>a2 λe=>x1 λzs=>a3 λhz hl hq=>?_) (y2 hb)
 rw[show dK "join" (.str [])="str.join"from(by decide+kernel:eN "join"="str.join")]
 refine x2 (λu r=>a3 λzr2 hl' zr4=>?_) hs;subst zr2;subst zr4
 have hl':=R.view hl'
 rw[e]at hl'
 exact kT R hct (zjG R.inh hv hl' hz hl hq)
theorem zeW(R:Rep w.params G env J s)(hct:CellsThere env s.heap){v:Value}{o:PV}{vs:List Value}{ps:List PV}(hv:VRel w.params G v o)(hs:VRels w.params G vs ps)(h:asP o λa=>ps=[]/\∃xs v,J.σ a=some (.lst (xs++[v]))/\Q v ⟨J.ρ,bE J.σ a (.lst xs)⟩):
  wpAny (model prog w) A (call (.builtin (dK "pop" o)) (v ::vs)) (zdZ w.params cw env G J s Q) E s:=by
 obtain⟨a,rfl,rfl,xs,p,h1,hq⟩:=tN h
 simp only[VRel]at hv;subst hv
 have hs:vs=[]:=hs
 subst hs
 rw[show dK "pop" (.ptr a)="list.pop"from(by decide+kernel:(if ae "pop"=ae "append"then"list.append"else"list.pop")="list.pop")]
 obtain⟨⟨its,m,g1,g2,g3⟩,g4,g5,g6⟩:=R.cells a _ h1
 have hl:=g3.length
 simp only[cn,bj,jd,List.length_nil]at hl
 have hz:its.size - 1=xs.length:=congrArg (· - 1) hl
 refine x1 (λy=>a2 λhy ry=>?_) (g3.get (i:=xs.length) (p:=p) (by simp))
 have hy':its[its.size - 1]?=some y:=by
  rw[hz];simpa using hy
 refine call_meets F.slot_list_pop ⟨_,g1,rfl⟩ F.entry_list_pop (F.args_list_pop_1 _) (MeetsSeq.list_pop_last a its m y hy' g2) ⟨g1,?_⟩
 have hsz:its.eraseIdxIfInBounds (its.size - 1)=its.pop:=by
  unfold Array.eraseIdxIfInBounds
  rw[dif_pos (Nat.sub_lt (hl▸gz _) Nat.one_pos)]
  apply Array.toList_inj.mp
  rw[Array.toList_eraseIdx,Array.toList_pop,List.dropLast_eq_take]
  simp only[cn]
  rw[List.eraseIdx_eq_take_drop_succ]
  rw[List.drop_eq_nil_of_le (by rw[cn,hz,hl];exact bh _),ck]
 have hsb:Heap.SameBut a s.heap (s.heap.update a (Obj.mapSeq λxs=>xs.eraseIdxIfInBounds (its.size - 1))):=Heap.SameBut.update ..
 have cr:CellRel w.params G (s.heap.update a (Obj.mapSeq λxs=>xs.eraseIdxIfInBounds (its.size - 1))) a (.lst xs):=by
  refine ex2 its.pop (if its.pop.size==its.size then m else m+1) ⟨?_,?_,?_⟩
  ·rw[Heap.get?_update_self _ g1 (by simp only[Obj.mapSeq];rfl)]
   simp only[Obj.mapSeq,hsz]
  ·rw[Array.size_pop];exact af (Nat.sub_le _ _) g2
  ·have:=g3.take xs.length
   rw[List.take_left']at this
   ·rw[Array.toList_pop,List.dropLast_eq_take]
    simp only[cn]
    rw[hz];exact this
   ·rfl
 refine a2 (λR' T'=>?_) (R.setCell (cw:=cw) h1 hsb cr R.tk)
 exact ex3 p G _ ⟨hq,R',hct.same hsb (by obtain⟨o,ho⟩:=cr.alive;rw[ho];rfl),T',ry⟩
theorem zhM{n:Nat}(hA:Room n A)(R:Rep w.params G env J s)(hct:CellsThere env s.heap){name:Str}{v:Value}{o:PV}{vs:List Value}{ps:List PV}
  (hv:VRel w.params G v o) (hs:VRels w.params G vs ps) (h:jG J.σ name o ps λr σ'=>Q r ⟨J.ρ,σ'⟩):
  wpAny (model prog w) A (call (.builtin (dK name o)) (v ::vs)) (zdZ w.params cw env G J s Q) E s:=
 g8 h (λq h=>q▸u5 R hct hv hs h) λh=>g8 h (λq h=>q▸mS R hct hv hs h) λh=>g8 h (λq h=>q▸zci R hct hv hs h) λh=>g8 h (λq h=>q▸zX R hct hv hs h) λh=>
 g8 h (λq h=>q▸zY R hct hv hs h) λh=>g8 h (λq h=>q▸zch R hct hv hs h) λh=>g8 h (λq h=>q▸zeW R hct hv hs h) bq
end
noncomputable def aW(F:Fn):Prop:=∀ps (K K':PV->Prop),(∀p,K p->K' p)->F ps K->F ps K'
structure CtxMono (C:Ctx):Prop where
 fn:∀x F,C.fn x=some F->aW F
 cls:∀x F,C.cls x=some F->aW F
theorem dZ{d n:Prop}{b:Bool->Prop}{i:Int->Prop}{s:List Nat->Prop}{t l:List PV->Prop}{p:Nat->Prop}{d' n':Prop}{b':Bool->Prop}{i':Int->Prop}{s':List Nat->Prop}{t' l':List PV->Prop}{p':Nat->Prop}
  (hd:d->d') (hn:n->n') (hb:∀x,b x->b' x) (hi:∀x,i x->i' x) (hs:∀x,s x->s' x) (ht:∀x,t x->t' x) (hl:∀x,l x->l' x) (hp:∀x,p x->p' x) {v:PV}(x:pvc d n b i s t l p v):pvc d' n' b' i' s' t' l' p' v:=by
 cases v
 ·exact hn x
 ·exact hb _ x
 ·exact hi _ x
 ·exact hs _ x
 ·exact ht _ x
 ·exact hl _ x
 ·exact hd x
 ·exact hd x
 ·exact hp _ x
 ·exact hd x
theorem tP{a b:PV}{K K':PV->Prop}(h:∀p,K p->K' p):zkn a b K->zkn a b K':=
 dZ id id (λ_=>id) (λ_=>bF λ_=>h _) (λ_=>b3 λ_ x=>⟨x.1,h _ x.2⟩) (λ_=>id) (λ_=>id) λ_=>id
theorem rN{a b:PV}{K K':PV->Prop}(h:∀p,K p->K' p):zkv a b K->zkv a b K':=bF λ_=>bF λ_=>h _
theorem bO{c:Prop} [Decidable c] {A B A' B':Prop}(h:A->A') (k:B->B') (x:if c then A else B):if c then A' else B':=by
 by_cases q:c
 ·rw[if_pos q]at x ⊢;exact h x
 ·rw[if_neg q]at x ⊢;exact k x
theorem zdH{op:Operator}{a b:PV}{K K':PV->Prop}(h:∀p,K p->K' p)(x:zkg op a b K):zkg op a b K':=by
 cases op<;>first |exact bq x|skip
 ·exact bO (rB λ_=>rB λ_ y=>⟨y.1,h _ y.2⟩) (tP h) x
 ·exact rN h x
 ·exact dZ id id (λ_=>id) (λ_=>bF λ_=>c1 (h _)) (λ_=>bF λ_=>c3 (h _)) (λ_=>id) (λ_=>id) (λ_=>id) x
 ·exact bF (λ_=>bF λ_ y=>⟨y.1,h _ y.2⟩) x
theorem zfd{op:Operator}{a b:PV}{K K':PV->Prop}(h:∀p,K p->K' p)(x:inP op a b K):inP op a b K':=by
 cases op<;>first |exact bq x|skip
 ·exact tP h x
 ·exact rN h x
theorem yL{σ:Nat->Option Cell}{a b:PV}{K K':Bool->Prop}(h:∀p,K p->K' p)(x:eqW σ a b K):eqW σ a b K':=by
 have g:eqT σ a b K->eqT σ a b K':=e1 λ_=>c4 (h _)
 exact dZ g g (λ_=>dZ id id (λ_=>h _) (λ_=>id) (λ_=>id) (λ_=>id) (λ_=>id) λ_=>id) (λ_=>bF λ_=>h _)
  (λ_=>dZ id (h _) (λ_=>id) (λ_=>id) (λ_=>h _) (λ_=>id) (λ_=>id) λ_=>id) (λ_=>g) (λ_=>g) (λ_=>g) x
theorem xV{a b:PV}{K K':Bool->Prop}(h:∀p,K p->K' p):isW a b K->isW a b K':=
 dZ id (dZ id (h _) (λ_=>id) (λ_=>h _) (λ_=>h _) (λ_=>h _) (λ_=>id) λ_=>id) (λ_=>dZ id id (λ_=>h _) (λ_=>id) (λ_=>id) (λ_=>id) (λ_=>id) λ_=>id)
  (λ_=>id) (λ_=>id) (λ_=>id) (λ_=>id) λ_=>id
theorem sO{b:Bool}{v:PV}{K K':List (List Nat)->Prop}(h:∀k,K k->K' k):zhV b v K->zhV b v K':=
 bO (zfU λ_=>lX λ_ _=>b3 λ_=>b3 λ_=>h _) (b3 λ_=>h _)
theorem xY{a b:PV}{K K':Bool->Prop}(h:∀p,K p->K' p)(x:inW a b K):inW a b K':=by
 cases b<;>first |exact bq x|skip
 ·exact b3 (λ_=>h _) x
 ·exact b3 (λ_=>e1 λ_=>c1 (h _)) x
 ·exact b3 (λ_=>e1 λ_=>c1 (h _)) x
 ·rename_i t es;exact sO (K:=λk=>K (es.lookup k).isSome) (λ_=>h _) x
theorem nJ{σ:Nat->Option Cell}{op:CmpOp}{a b:PV}{K K':Bool->Prop}(h:∀p,K p->K' p)(x:zaX σ op a b K):zaX σ op a b K':=by
 cases op
 ·exact yL h x
 ·exact yL (λ_=>h _) x
 ·exact bF (λ_=>bF λ_=>h _) x
 ·exact dZ id id (λ_=>id) (λ_=>bF λ_=>h _) (λ_=>b3 λ_=>h _) (λ_=>id) (λ_=>id) (λ_=>id) x
 ·exact bF (λ_=>bF λ_=>h _) x
 ·exact bF (λ_=>bF λ_=>h _) x
 ·exact xV h x
 ·exact xV (λ_=>h _) x
 ·exact xY h x
 ·exact xY (λ_=>h _) x
theorem zcM{v:PV}{K K':PV->Prop}(h:∀p,K p->K' p):zkx v K->zkx v K':=dZ id id (λ_=>id) (λ_=>id) (λ_=>h _) (λ_=>id) (λ_=>h _) λ_=>id
theorem zc2{x:List Nat}{K K':PV->Prop}(h:∀p,K p->K' p)(y:zdX x K):zdX x K':=by
 cases x with
 |nil=>exact y
 |cons c x=>exact c1 (Or.imp (c2 (e1 λ_=>c1 (h _))) (Or.imp (c2 (e1 λ_=>c1 (h _))) (e1 λ_=>c1 (h _)))) y
theorem yZ{name:Str}{ps:List PV}{K K':PV->Prop}(h:∀p,K p->K' p):biP name ps K->biP name ps K':=
 bO (fZ λ_=>zcM h) (bO (fZ λ_=>b3 λ_=>fZ λ_=>h _) (bO (λx=>by
  cases ps with
  |nil=>exact x
  |cons a r=>exact b3 (λ_ x=>by
    cases r with
    |nil=>exact zc2 h x
    |cons b r=>exact fZ (λ_=>bF λ_=>c3 (e1 λ_=>c1 (h _))) x) x) (bO (lX λ_ _=>bF λ_=>bF λ_=>h _) (bO (fZ λ_=>bF λ_=>c4 (h _)) id))))
theorem oQ{σ:Nat->Option Cell}{name:Str}{o:PV}{ps:List PV}{K K':PV->(Nat->Option Cell)->Prop}(h:∀p s,K p s->K' p s):jG σ name o ps K->jG σ name o ps K':=by
 have s3:∀{K K':Nat->Int->Int->Prop},(∀c i j,K c i j->K' c i j)->zhl ps K->zhl ps K':=λk=>oC λ_ _ _=>b3 λ_=>fZ λ_=>bF λ_=>bF λ_=>a5 λa b c d e=>⟨a,b,c,d,k _ _ _ e⟩
 exact bO (mF λ_=>fZ λ_=>x1 λxs=>a3 λh1 h2 h3=>⟨xs,h1,h2,h _ _ h3⟩)
  (bO (b3 λ_=>lX λ_ _=>bF λ_=>a3 λa b c=>⟨a,b,dZ id id (λ_=>id) (λ_=>id) (λ_=>h _ _) (λ_ ⟨z,h1,h2⟩=>⟨z,h1,h _ _ h2⟩) (λ_=>id) (λ_=>id) c⟩)
  (bO (b3 λ_=>lX λ_ _=>b3 λ_=>bF λ_=>a3 λa b c=>⟨a,b,h _ _ c⟩)
  (bO (b3 λ_=>s3 λ_ _ _=>h _ _) (bO (b3 λ_=>s3 λ_ _ _=>h _ _) (bO (b3 λ_=>a2 λe x=>⟨e,fZ (λ_=>rB λ_=>x1 λz=>a3 λh1 h2 h3=>⟨z,h1,h2,h _ _ h3⟩) x⟩) (bO (mF λ_ ⟨e,xs,v,h1,h2⟩=>⟨e,xs,v,h1,h _ _ h2⟩) id))))))
theorem qA{C:Ctx}{pos:Pos}{vs:List PV}{Q Q':PV->St->Prop}{J:St}(h:∀p s,Q p s->Q' p s):eI C pos vs Q J->eI C pos vs Q' J:=
 bO (λx a e=>h _ _ (x a e)) (h _ _)
theorem iU{K K':Bool->St->Prop}(h:∀b s,K b s->K' b s)(v:PV)(J:St):tst K v J->tst K' v J:=bY λ_=>h _ _
theorem zd7{op:UnaryOp}{v:PV}{K K':PV->Prop}(h:∀p,K p->K' p)(x:unP op v K):unP op v K':=by
 cases op
 ·exact x
 ·exact bY (λ_=>h _) x
 ·exact x
 ·exact bF (λ_=>h _) x
theorem zQ{name p q:Str}{v:PV}{K K':PV->Prop}(h:∀p,K p->K' p):zbX name p q v K->zbX name p q v K':=
 b3 λ_ x=>⟨x.1,x.2.1,x.2.2.1,x.2.2.2.1,x.2.2.2.2.1,h _ x.2.2.2.2.2⟩
theorem zaD{C:Ctx}{n:Str}{v:PV}{K K':PV->Prop}(h:∀p,K p->K' p)(x:zdJ C n v K):zdJ C n v K':=by
 cases v<;>first |exact bq x|skip
 exact gK (bY h) (λ_=>bY h) x
theorem zbM{v:PV}{lo hi:Option Int}{K K':PV->Prop}(h:∀p,K p->K' p):zhu v lo hi K->zhu v lo hi K':=
 dZ id id (λ_=>id) (λ_=>id) (λ_=>h _) (λ_=>id) (λ_=>h _) λ_=>id
theorem sQ{v i:PV}{K K':PV->Prop}(h:∀p,K p->K' p)(x:zh3 v i K):zh3 v i K':=by
 cases v<;>first |exact bq x|skip
 ·exact bF (λ_=>bY λ_=>h _) x
 ·exact bF (λ_=>bY h) x
 ·exact bF (λ_=>bY h) x
 ·rename_i t es;exact sO (K:=λk=>opt (es.lookup k) λd=>K (dvP d)) (λ_=>bY λ_=>h _) x
theorem zaC{C:Ctx}(M:CtxMono C){f:Str}{vs:List PV}{J:St}{K K':PV->Prop}(h:∀p,K p->K' p)(x:iM C f vs J K):iM C f vs J K':=by
 unfold iM at x ⊢
 cases e:C.fn f with
 |some F=>rw[e]at x;exact M.fn _ _ e _ _ _ (λp q=>⟨q.1,h _ q.2⟩) x
 |none=>
  rw[e]at x
  cases e:C.cls f with
  |some F=>rw[e]at x;exact M.cls _ _ e _ _ _ h x
  |none=>rw[e]at x;exact⟨x.1,yZ h x.2⟩
mutual
theorem bG{C:Ctx}(M:CtxMono C):∀(e:Expr) {H:Kn}{Q Q':PV->St->Prop}{J:St},(∀p s,Q p s->Q' p s)->wE C e H Q J->wE C e H Q' J
 |.BoolOp _ vs _=>λh x=>wV M vs h x
 |.NamedExpr _ _ _=>λ_ x=>x
 |.BinOp l _ r _=>λh x=>bG M l (λ_ _=>bG M r λ_ _=>zdH λ_=>h _ _) x
 |.UnaryOp _ y _=>λh x=>bG M y (λ_ _=>zd7 λ_=>h _ _) x
 |.Lambda _ _ _ _=>λ_ x=>x
 |.IfExp t b o _=>λh x=>bG M t (iU λ_ _=>bO (bG M b h) (bG M o h)) x
 |.Dict _ _ _=>λ_ x=>x
 |.Set _ _ _=>λ_ x=>x
 |.ListComp _ _ _ _=>λ_ x=>x
 |.SetComp _ _ _ _=>λ_ x=>x
 |.DictComp _ _ _ _ _=>λ_ x=>x
 |.GeneratorExp _ _ _ _=>λ_ x=>x
 |.Await _ _=>λ_ x=>x
 |.Yield _ _=>λ_ x=>x
 |.YieldFrom _ _=>λ_ x=>x
 |.Compare l _ cs _=>λh x=>bG M l (λ_ _=>wU M cs h) x
 |.Call f args _ _=>λh x=>⟨x.1,gK (bY λ_=>a3 λa b c=>⟨a,b,dB M args (λ_ _=>zaC M λ_=>h _ _) c⟩)
   (λ_=>gK (za1 M f λ_ _ ⟨a,b⟩=>⟨a,dB M args (λ_ _=>oQ λ_ _=>h _ _) b⟩) λ_=>za1 M f λ_ _=>zQ λ_=>h _ _) x.2⟩
 |.FormattedValue e _ _ _=>λh x=>⟨x.1,x.2.1,bG M e (λ_ _=>b3 λ_=>h _ _) x.2.2⟩
 |.JoinedStr vs _=>λh x=>⟨x.1,za0 M vs h x.2⟩
 |.Constant _ _ _=>λh x=>bY (λ_=>h _ _) x
 |.Attribute o _ _=>λh x=>bG M o (λ_ _=>zaD λ_=>h _ _) x
 |.Subscript o i _=>λh x=>bG M o (λ_ _=>bO (zd1 M i λ_ _ _=>zbM λ_=>h _ _) (bG M i λ_ _=>sQ λ_=>h _ _)) x
 |.Starred _ _=>λ_ x=>x
 |.Name _ _=>λh x=>bO (bY λ_=>h _ _) (bY λ_=>h _ _) x
 |.List es _=>λh x=>dB M es (λ_ _=>qA h) x
 |.Tuple es _ _=>λh x=>dB M es (λ_ _=>h _ _) x
 |.Slice _ _ _ _=>λ_ x=>x
theorem za0{C:Ctx}(M:CtxMono C):∀(es:List Expr) {H:Kn}{acc:List Nat}{Q Q':PV->St->Prop}{J:St},(∀p s,Q p s->Q' p s)->wJ C es H acc Q J->wJ C es H acc Q' J
 |[]=>λh x=>h _ _ x
 |e ::es=>λh x=>bG M e (λ_ _=>b3 λ_ y=>⟨y.1,za0 M es h y.2⟩) x
theorem dB{C:Ctx}(M:CtxMono C):∀(es:List Expr) {H:Kn}{Q Q':List PV->St->Prop}{J:St},(∀p s,Q p s->Q' p s)->wEs C es H Q J->wEs C es H Q' J
 |[]=>λh x=>h _ _ x
 |e ::es=>λh x=>bG M e (λ_ _=>dB M es λ_ _=>h _ _) x
theorem wT{C:Ctx}(M:CtxMono C):∀(e:Option Expr) {H:Kn}{Q Q':Option Int->St->Prop}{J:St},(∀p s,Q p s->Q' p s)->wOp C e H Q J->wOp C e H Q' J
 |none=>λh x=>h _ _ x
 |some e=>λh x=>bG M e (λ_ _=>bF λ_ y=>⟨y.1,y.2.1,h _ _ y.2.2⟩) x
theorem za1{C:Ctx}(M:CtxMono C):∀(e:Expr) {H:Kn}{Q Q':PV->St->Prop}{J:St},(∀p s,Q p s->Q' p s)->wA C e H Q J->wA C e H Q' J
 |.BoolOp _ _ _=>λ_ x=>x
 |.NamedExpr _ _ _=>λ_ x=>x
 |.BinOp _ _ _ _=>λ_ x=>x
 |.UnaryOp _ _ _=>λ_ x=>x
 |.Lambda _ _ _ _=>λ_ x=>x
 |.IfExp _ _ _ _=>λ_ x=>x
 |.Dict _ _ _=>λ_ x=>x
 |.Set _ _ _=>λ_ x=>x
 |.ListComp _ _ _ _=>λ_ x=>x
 |.SetComp _ _ _ _=>λ_ x=>x
 |.DictComp _ _ _ _ _=>λ_ x=>x
 |.GeneratorExp _ _ _ _=>λ_ x=>x
 |.Await _ _=>λ_ x=>x
 |.Yield _ _=>λ_ x=>x
 |.YieldFrom _ _=>λ_ x=>x
 |.Compare _ _ _ _=>λ_ x=>x
 |.Call _ _ _ _=>λ_ x=>x
 |.FormattedValue _ _ _ _=>λ_ x=>x
 |.JoinedStr _ _=>λ_ x=>x
 |.Constant _ _ _=>λ_ x=>x
 |.Attribute o _ _=>λh x=>bG M o h x
 |.Subscript _ _ _=>λ_ x=>x
 |.Starred _ _=>λ_ x=>x
 |.Name _ _=>λ_ x=>x
 |.List _ _=>λ_ x=>x
 |.Tuple _ _ _=>λ_ x=>x
 |.Slice _ _ _ _=>λ_ x=>x
theorem zd1{C:Ctx}(M:CtxMono C):∀(e:Expr) {H:Kn}{Q Q':Option Int->Option Int->St->Prop}{J:St},(∀p q s,Q p q s->Q' p q s)->wSl C e H Q J->wSl C e H Q' J
 |.BoolOp _ _ _=>λ_ x=>x
 |.NamedExpr _ _ _=>λ_ x=>x
 |.BinOp _ _ _ _=>λ_ x=>x
 |.UnaryOp _ _ _=>λ_ x=>x
 |.Lambda _ _ _ _=>λ_ x=>x
 |.IfExp _ _ _ _=>λ_ x=>x
 |.Dict _ _ _=>λ_ x=>x
 |.Set _ _ _=>λ_ x=>x
 |.ListComp _ _ _ _=>λ_ x=>x
 |.SetComp _ _ _ _=>λ_ x=>x
 |.DictComp _ _ _ _ _=>λ_ x=>x
 |.GeneratorExp _ _ _ _=>λ_ x=>x
 |.Await _ _=>λ_ x=>x
 |.Yield _ _=>λ_ x=>x
 |.YieldFrom _ _=>λ_ x=>x
 |.Compare _ _ _ _=>λ_ x=>x
 |.Call _ _ _ _=>λ_ x=>x
 |.FormattedValue _ _ _ _=>λ_ x=>x
 |.JoinedStr _ _=>λ_ x=>x
 |.Constant _ _ _=>λ_ x=>x
 |.Attribute _ _ _=>λ_ x=>x
 |.Subscript _ _ _=>λ_ x=>x
 |.Starred _ _=>λ_ x=>x
 |.Name _ _=>λ_ x=>x
 |.List _ _=>λ_ x=>x
 |.Tuple _ _ _=>λ_ x=>x
 |.Slice l u _ _=>λh x=>⟨x.1,wT M l (λ_ _=>wT M u λ_ _=>h _ _ _) x.2⟩
theorem wV{C:Ctx}(M:CtxMono C){op:BoolOp}:∀(es:List Expr) {H:Kn}{Q Q':PV->St->Prop}{J:St},(∀p s,Q p s->Q' p s)->wBo C op es H Q J->wBo C op es H Q' J
 |[]=>λ_ x=>x
 |e ::es=>λh x=>bO (bG M e h) (bG M e λ_ _=>bY λ_=>bO (h _ _) (wV M es h)) x
theorem wU{C:Ctx}(M:CtxMono C):∀(es:List Expr) {ops:List CmpOp}{H:Kn}{a:PV}{Q Q':PV->St->Prop}{J:St},(∀p s,Q p s->Q' p s)->wCh C es ops H a Q J->wCh C es ops H a Q' J
 |[]=>λ_ x=>x
 |r ::rs=>λh x=>bY (λ_=>bG M r λ_ _=>nJ λ_=>bO (λy=>⟨y.1,h _ _ y.2⟩) (bO (wU M rs h) (h _ _))) x
end
end Mine
end
section
open PySem PySem.W PyProof.Rows
open Builtin Builtin.Str
set_option Elab.async false
set_option autoImplicit false
set_option linter.unusedVariables false
namespace Mine
theorem gS{K:Bool->St->Prop}{v:PV}{J:St}{b:Bool}(e:uH (der J.σ v)=some b):tst K v J=K b J:=by unfold tst;rw[e];rfl
structure Bs where
 K:Frag
 h₀:Heap
 mg:Str->Option Value
 mb:Str->Option Value
structure BsOk (B:Bs):Prop where
 kin:B.K.In B.h₀
 g:B.h₀.Ns mainGlobals B.mg
 b:B.h₀.Ns builtinsNs B.mb
 lim:B.h₀.NoLimit
noncomputable def Over(B:Bs)(G:GM):Prop:=∀a o,B.h₀.get? a=some o->G a=some o
theorem Over.ext{B:Bs}{G G':GM}(h:Over B G)(e:Sub G G'):Over B G':=λa o x=>e _ _ (h a o x)
structure EnvOk (env:Env):Prop where
 kind:env.scope.kind=.function
 glob:env.globals=mainGlobals
 bi:env.builtins=builtinsNs
noncomputable def KOk(H:Kn)(env:Env):Prop:=∀x,env.kindOf x=if H x=some .free then some .cell else H x
theorem KOk.glob{H:Kn}{env:Env}(h:KOk H env){x:Str}(e:H x=some .globalImplicit):env.kindOf x=some .globalImplicit:=by rw[h x,e];rfl
theorem KOk.loc{H:Kn}{env:Env}(h:KOk H env){x:Str}(e:H x=some .local):env.kindOf x=some .local:=by rw[h x,e];rfl
theorem KOk.cell{H:Kn}{env:Env}(h:KOk H env){x:Str}(e:H x=some .cell\/H x=some .free):env.kindOf x=some .cell:=by rw[h x];rcases e with e|e<;>rw[e]<;>rfl
structure Ok (B:Bs) (P:Params) (G:GM) (env:Env) (J:St) (s:Shared):Prop where
 over:Over B G
 rep:Rep P G env J s
 ct:CellsThere env s.heap
noncomputable def Lands{α:Type}(B:Bs)(P:Params)(cw:Bool)(env:Env)(G:GM)(J:St)(s:Shared)(X:GM->St->α->Prop)(a:α)(s':Shared):Prop:=
 ∃G' st',X G' st' a/\Ok B P G' env st' s'/\Tr cw env G J s G' st' s'
noncomputable def VX(P:Params)(Q:PV->St->Prop):GM->St->Value->Prop:=λG' st' v=>∃p,Q p st'/\VRel P G' v p
noncomputable def VsX(P:Params)(Q:List PV->St->Prop):GM->St->List Value->Prop:=λG' st' vs=>∃ps,Q ps st'/\VRels P G' vs ps
noncomputable def BX(K:Bool->St->Prop):GM->St->Bool->Prop:=λ_ st' b=>K b st'
section
variable {prog:Program}{w:World}{A:Around}{E:Value->Shared->Prop}{s:Shared}{G:GM}{env:Env}{J:St}{cw:Bool}{B:Bs}{P:Params}{α β:Type}
theorem Lands.after{G₁:GM}{st₁:St}{s₁:Shared}{X:GM->St->α->Prop}{a:α}{s':Shared}(T:Tr cw env G J s G₁ st₁ s₁)(h:Lands B P cw env G₁ st₁ s₁ X a s'):Lands B P cw env G J s X a s':=
 e2 (λG' st'=>c2 λh3=>T.trans h3) h
theorem zcS{X:GM->St->α->Prop}{Y:GM->St->β->Prop}{m:Sem α}{f:α->Sem β}
  (h:wpAny (model prog w) A m (Lands B P cw env G J s X) E s)
  (k:∀a G' st' s',X G' st' a->Ok B P G' env st' s'->Sub G G'->wpAny (model prog w) A (f a) (Lands B P cw env G' st' s' Y) E s'):
  wpAny (model prog w) A m (λa s'=>wpAny (model prog w) A (f a) (Lands B P cw env G J s Y) E s') E s:=
 wpAny_mono h (λa s'=>x2 λG' st'=>a3 λh1 h2 h3=>wpAny_mono (k a G' st' s' h1 h2 h3.ext) (λ_ _ x=>x.after h3) λ_ _ e=>e) λ_ _ e=>e
theorem aJ{X:GM->St->α->Prop}{R:α->Shared->Prop}{m:Sem α}(h:wpAny (model prog w) A m (Lands B P cw env G J s X) E s)
  (k:∀a G' st' s',X G' st' a->Ok B P G' env st' s'->Tr cw env G J s G' st' s'->R a s'):wpAny (model prog w) A m R E s:=
 wpAny_mono h (λa s'=>x2 λG' st'=>a3 λh1 h2 h3=>k a G' st' s' h1 h2 h3) λ_ _ e=>e
theorem aT{X:GM->St->α->Prop}{m:Sem α}{G₁:GM}{st₁:St}{s₁:Shared}(T:Tr cw env G J s G₁ st₁ s₁)
  (h:wpAny (model prog w) A m (Lands B P cw env G₁ st₁ s₁ X) E s₁):wpAny (model prog w) A m (Lands B P cw env G J s X) E s₁:=
 wpAny_mono h (λ_ _ x=>x.after T) λ_ _ e=>e
theorem zcT{X:GM->St->α->Prop}{Y:GM->St->α->Prop}{m:Sem α}
  (h:wpAny (model prog w) A m (Lands B P cw env G J s X) E s) (k:∀a G' st',X G' st' a->Y G' st' a):wpAny (model prog w) A m (Lands B P cw env G J s Y) E s:=
 wpAny_mono h (λa s' ⟨G',st',h1,h2,h3⟩=>⟨G',st',k a G' st' h1,h2,h3⟩) λ_ _ e=>e
theorem aL{X:GM->St->α->Prop}{a:α}(O:Ok B P G env J s)(h:X G J a):Lands B P cw env G J s X a s:=⟨G,J,h,O,.refl⟩
theorem Ok.grow(O:Ok B P G env J s){G':GM}{s':Shared}(g:GS G s G' s')(tk:1<=s'.toks):Ok B P G' env J s':=
 ⟨O.over.ext g.ext,O.rep.grow O.ct g tk,O.ct.grow g.alive⟩
theorem fH{X:GM->St->α->Prop}{a:α}{s':Shared}{G':GM}(O:Ok B P G env J s)(g:GS G s G' s')(tk:1<=s'.toks)(h:X G' J a):Lands B P cw env G J s X a s':=
 ⟨G',J,h,O.grow g tk,g.tr⟩
theorem cK{t:Sem Value}{Q:PV->St->Prop}(O:Ok B P G env J s)(h:GW (model prog w) A P E G s t λp=>Q p J):
  wpAny (model prog w) A t (Lands B P cw env G J s (VX P Q)) E s:=
 wpAny_mono (wpAny_toks_of O.rep.tk h) (λv s' ⟨tk,p,G',hq,g,r⟩=>fH O g tk ⟨p,hq,r⟩) λ_ _ e=>e.2
theorem zat{t:Sem Value}{Q:PV->St->Prop}(O:Ok B w.params G env J s)(h:wpAny (model prog w) A t (zdZ w.params cw env G J s Q) E s):
  wpAny (model prog w) A t (Lands B w.params cw env G J s (VX w.params Q)) E s:=
 wpAny_mono h (λv s'=>x3 λp G' st'=>a5 λhq h1 h2 h3 h4=>⟨G',st',⟨p,hq,h4⟩,⟨O.over.ext h3.ext,h1,h2⟩,h3⟩) λ_ _ e=>e
theorem zcR{v:Value}{p:PV}{K:Bool->St->Prop}(O:Ok B w.params G env J s)(hv:VRel w.params G v p)(h:tst K p J):
  wpAny (model prog w) A (truthy v) (Lands B w.params cw env G J s (BX K)) E s:=by
 refine x1 (λb=>a2 λe h=>?_) (dP h)
 refine wpAny_mono (wpAny_toks_of O.rep.tk (zhi O.rep.inh (O.rep.view hv) e)) (λc s'=>a3 λtk hc g=>?_) λ_ _ e=>e.2
 subst hc
 exact fH O g tk h
end
noncomputable def KeepsAt(prog:Program)(w:World)(h:Heap)(f:Value):Prop:=∃k,Looks (model prog w) h (keeperOf f) k
noncomputable def Meets(prog:Program)(w:World)(B:Bs)(n:Nat)(v:Value)(F:Fn):Prop:=
 KeepsAt prog w B.h₀ v/\∀(A:Around) (E:Value->Shared->Prop) (G:GM) (s:Shared) (args:List Value) (ps:List PV) (K:PV->Prop),
  Room n A->InH G s.heap->1<=s.toks->Over B G->VRels w.params G args ps->F ps K->GW (model prog w) A w.params E G s (call v args) K
theorem Meets.le{prog:Program}{w:World}{B:Bs}{n m:Nat}{v:Value}{F:Fn}(h:Meets prog w B n v F)(hm:n<=m):Meets prog w B m v F:=
 ⟨h.1,λA E G s args ps K hA=>h.2 A E G s args ps K (hA.le hm)⟩
noncomputable def zg9(K:Frag)(c:Nat)(name:Str)(i:Nat):Prop:=
 findIn K (.ref c) "__getattribute__"=some (some (.builtin "object.__getattribute__"))/\findIn K (.ref c) "__getattr__"=some none/\
 ∃p,findObj K c (some jP) name=some (.bind (.builtin "member_descriptor.__get__") (.ref p))/\slotIn K p c=some i/\
  findIn K (.ref c) "__setattr__"=some (some (.builtin "object.__setattr__"))/\plainOver K c=true/\takerIn K c name=some (some (.ref p))/\typeIn K (.ref p)=some (.type "member_descriptor")/\i<1000
noncomputable def zkt(P:Params)(B:Bs)(c:Nat)(name:Str)(v:PV):Prop:=
 findIn B.K (.ref c) "__getattribute__"=some (some (.builtin "object.__getattribute__"))/\
 ∃u,findObj B.K c (some jP) name=some (.value u)/\handedIn u=true/\VRel P (λa=>B.h₀.get? a) u v
noncomputable def y4(prog:Program)(w:World)(B:Bs)(C:Ctx)(n:Nat):Prop:=
 ∃nodeV fV,B.mg "Node"=some nodeV/\KeepsAt prog w B.h₀ fV/\
  (∀(A:Around) (E:Value->Shared->Prop) (s:Shared) (Q:Value×List Value->Shared->Prop) (pl:Sem Bool) (b:Bool),(∀a o,B.h₀.get? a=some o->s.heap.get? a=some o)->Looks (model prog w) B.h₀ pl b->
   (∀k,s.toks<=k->Q (fV,[]) {s with toks:=k})->wpAny (model prog w) A (getMethod nodeV "__init__" pl) Q E s)/\
  (∀(A:Around) (E:Value->Shared->Prop) (cw:Bool) (env:Env) (G:GM) (J:St) (s:Shared) (ad:Nat) (va vb:Value) (pa pb:PV) (K:St->Prop),Room n A->Ok B w.params G env J s->VRel w.params G va pa->VRel w.params G vb pb->
   (setCell C ad "source_line" pa J λst1=>setCell C ad "source_column" pb st1 K)->
   wpAny (model prog w) A (call fV [.ref ad,va,vb]) (Lands B w.params cw env G J s (λ_ st' _=>K st')) E s)
structure CtxOk (prog:Program) (w:World) (B:Bs) (C:Ctx) (n:Nat):Prop where
 mono:CtxMono C
 val:∀x v,C.val x=some v->∃u,B.mg x=some u/\VRel w.params (λa=>B.h₀.get? a) u v
 fn:∀x F,C.fn x=some F->∃u,B.mg x=some u/\Meets prog w B n u F
 cls:∀x F,C.cls x=some F->∃u,B.mg x=some u/\Meets prog w B n u F
 bi:∀x,C.bi x=true->B.mg x=none/\B.mb x=some (iO x)
 slot:∀c x i,C.slot c x=some i->zg9 B.K c x i
 cval:∀c x v,C.cval c x=some v->zkt w.params B c x v
 ini:C.ini=true->y4 prog w B C n
noncomputable def d5(prog:Program)(w:World)(B:Bs)(C:Ctx)(n:Nat)(e:Expr):Prop:=
 ∀(A:Around) (E:Value->Shared->Prop) (cw:Bool) (env:Env) (H:Kn) (G:GM) (J:St) (s:Shared) (Q:PV->St->Prop),Room n A->EnvOk env->KOk H env->Ok B w.params G env J s->
  wE C e H Q J->wpAny (model prog w) A (eval e env) (Lands B w.params cw env G J s (VX w.params Q)) E s
noncomputable def uB(prog:Program)(w:World)(B:Bs)(C:Ctx)(n:Nat)(e:Expr):Prop:=
 ∀(A:Around) (E:Value->Shared->Prop) (cw:Bool) (env:Env) (H:Kn) (G:GM) (J:St) (s:Shared) (K:Bool->St->Prop),Room n A->EnvOk env->KOk H env->Ok B w.params G env J s->
  wE C e H (tst K) J->
  wpAny (model prog w) A (isTrue e env (eval e env)) (Lands B w.params cw env G J s (BX K)) E s
section
variable {prog:Program}{w:World}{B:Bs}{C:Ctx}{n:Nat}
theorem oG{e:Expr}(h:d5 prog w B C n e)(he:∀env whole,isTrue e env whole=(do let v <- whole;standAt e.pos;holding [v] (truthy v))):uB prog w B C n e:=by
 intro A E cw env H G J s K hA hE hκ O hw
 refine isTrue_plain (zcS (h A E cw env H G J s _ hA hE hκ O hw) λv G' st' s'=>x1 λp=>a2 λhq hv O' _=>?_) (he env _)
 exact zcR O' hv hq
noncomputable def okC:Const->Bool
 |.str s=>s.cps.toList.all (· <1114112)&&decide (s.cps.toList.length<=16777216)
 |_=>true
theorem zbG{c:Const}{k:Nat}{p:Pos}(ok:okC c=true):d5 prog w B C n (.Constant c k p):=by
 intro A E cw env H G J s Q hA hE hκ O hw
 refine x1 (λv=>a2 λhv hw=>?_) (dP hw)
 refine cK O ?_
 cases c<;>first |(cases hv;done)|skip
 all_goals(have zq:=Option.some.inj hv;subst zq)
 ·exact Constant_none ⟨.none,G,hw,GS.refl O.rep.inh,by simp[VRel]⟩
 ·exact Constant_bool ⟨.bool _,G,hw,GS.refl O.rep.inh,by simp[VRel]⟩
 ·rw[arm_eval_Constant]
  exact wpAny_mkInt ⟨.int _,G,hw,GS.toks O.rep.inh _,by simp[VRel]⟩
 ·rename_i x
  refine Calls.Constant_str ⟨.str _,G,hw,GS.toks O.rep.inh _,?_⟩
  simp only[okC,dj,ay,decide_eq_true_eq]at ok
  simp only[VRel]
  exact⟨_,rfl,ok.1,ok.2⟩
theorem eQ{A:Around}{E:Value->Shared->Prop}{env:Env}{G:GM}{s:Shared}{x:Str}{u:Value}{Q:Value->Shared->Prop}(hB:BsOk B)(hE:EnvOk env)(hi:InH G s.heap)(ho:Over B G)(hv:B.mg x=some u)(h:Q u s):
  wpAny (model prog w) A (loadGlobal env x) Q E s:=
 Calls.loadGlobal_global (mg:=B.mg) (by rw[hE.glob];exact hB.g.keeps λb o e=>hi.at_ _ _ (ho _ _ e)) hv h
theorem qC{A:Around}{E:Value->Shared->Prop}{env:Env}{G:GM}{s:Shared}{x:Str}{u:Value}{Q:Value->Shared->Prop}(hB:BsOk B)(hE:EnvOk env)(hi:InH G s.heap)(ho:Over B G)(hn:B.mg x=none)(hv:B.mb x=some u)(h:Q u s):
  wpAny (model prog w) A (loadGlobal env x) Q E s:=
 Calls.loadGlobal_builtin (mg:=B.mg) (mb:=B.mb) (by rw[hE.glob];exact hB.g.keeps λb o e=>hi.at_ _ _ (ho _ _ e)) hn (by rw[hE.bi];exact hB.b.keeps λb o e=>hi.at_ _ _ (ho _ _ e)) hv h
end
section
variable {prog:Program}{w:World}{B:Bs}{C:Ctx}{n:Nat}
theorem vF{x:Str}{p:Pos}(hB:BsOk B)(hC:CtxOk prog w B C n)(ok2:(x==("__classdict__":Str))=false)(A:Around)(E:Value->Shared->Prop)(cw:Bool)(env:Env)(H:Kn)(G:GM)(J:St)(s:Shared)(Q:PV->St->Prop)
  (hE:EnvOk env) (hκ:KOk H env) (O:Ok B w.params G env J s) (hw:wE C (.Name x p) H Q J):wpAny (model prog w) A (loadName env x) (Lands B w.params cw env G J s (VX w.params Q)) E s:=by
 have R:=O.rep
 rw[kL]at hw
 by_cases hk:H x=some .globalImplicit
 ·rw[if_pos hk]at hw
  refine x1 (λv=>a2 λhv hq=>?_) (dP hw)
  refine x1 (λu=>a2 λh1 h2=>?_) (hC.val x v hv)
  rw[loadName_read hE.kind (hκ.glob hk)]
  exact eQ hB hE R.inh O.over h1 (aL O ⟨v,hq,h2.mono λa o e=>O.over a o e⟩)
 ·rw[if_neg hk]at hw
  refine x1 (λv=>a2 λe hw=>?_) (dP hw)
  ·by_cases hl:env.kindOf x=some .local
   ·refine x1 (λm=>a2 λhm hx=>?_) R.ns
    refine x1 (λu=>a2 λh1 h2=>?_) (hx x v e hl)
    exact wpAny_loadName_local hE.kind hl hm h1 (aL O ⟨v,hw,h2⟩)
   ·refine x2 (λc u=>a3 λh1 h2 h3=>?_) (R.cel x v e hl)
    rcases R.kind x v e with h|h|h
    ·exact absurd h hl
    ·exact wpAny_loadName_cell hE.kind h h1 h2 (aL O ⟨v,hw,h3⟩)
    ·exact wpAny_loadName_free hE.kind h h1 h2 (aL O ⟨v,hw,h3⟩) ok2
theorem zem{x:Str}{p:Pos}(hB:BsOk B)(hC:CtxOk prog w B C n)(ok:(x==("__debug__":Str))=false)(ok2:(x==("__classdict__":Str))=false):d5 prog w B C n (.Name x p):=by
 intro A E cw env H G J s Q hA hE hκ O hw
 exact wpAny_Name (vF hB hC ok2 A E cw env H G J s Q hE hκ O hw) ok
theorem zhr{l r:Expr}{op:Operator}{p:Pos}(hl:d5 prog w B C n l)(hr:d5 prog w B C n r):d5 prog w B C n (.BinOp l op r p):=by
 intro A E cw env H G J s Q hA hE hκ O hw
 exact wpAny_BinOp (aJ (hl A E cw env H G J s _ hA hE hκ O hw) λa G1 st1 s1 ⟨u,hq,hv⟩ O1 T1=>
  aJ (hr A E cw env H G1 st1 s1 _ hA hE hκ O1 hq) λb G2 st2 s2 ⟨u2,hq2,hv2⟩ O2 T2=>
   aT (T1.trans T2) (cK O2 (zli O2.rep.inh (O2.rep.view (hv.mono T2.ext)) (O2.rep.view hv2) hq2)))
theorem zgh{x:Expr}{op:UnaryOp}{p:Pos}(hx:d5 prog w B C n x):d5 prog w B C n (.UnaryOp op x p):=by
 intro A E cw env H G J s Q hA hE hκ O hw
 refine wpAny_UnaryOp (aJ (hx A E cw env H G J s _ hA hE hκ O hw) λa G1 st1 s1=>x1 λu=>a2 λhq hv O1 T1=>aT T1 ?_)
 cases op<;>first |exact bq hq|skip
 ·refine x1 (λb=>a2 λhb hq=>?_) (dP hq)
  refine not_of (wpAny_mono (wpAny_toks_of O1.rep.tk (zhi O1.rep.inh (O1.rep.view hv) hb)) (λc s'=>a3 λtk hc g=>?_) λ_ _ e=>e.2)
  subst hc
  exact fH O1 g tk ⟨_,hq,by simp only[VRel]⟩
 ·refine x1 (λi=>a2 λhi hq=>?_) (dH hq)
  have hv':=O1.rep.view hv
  replace hv':=hi▸hv'
  refine x1 (λt zr1=>?_) (za2 hv');subst zr1
  exact cK O1 (oV O1.rep.inh hq λQ q=>neg_int q)
theorem zbF{t b o:Expr}{p:Pos}(ht:uB prog w B C n t)(hb:d5 prog w B C n b)(ho:d5 prog w B C n o):d5 prog w B C n (.IfExp t b o p):=by
 intro A E cw env H G J s Q hA hE hκ O hw
 refine IfExp_ (aJ (ht A E cw env H G J s _ hA hE hκ O hw) λc G1 st1 s1 hq O1 T1=>?_)
 simp only[BX]at hq
 cases c
 ·exact aT T1 (ho A E cw env H G1 st1 s1 _ hA hE hκ O1 (by simpa using hq))
 ·exact aT T1 (hb A E cw env H G1 st1 s1 _ hA hE hκ O1 (by simpa using hq))
theorem zes{x:Expr}{p:Pos}(hM:CtxMono C)(hx:uB prog w B C n x):uB prog w B C n (.UnaryOp .Not x p):=by
 intro A E cw env H G J s K hA hE hκ O hw
 refine isTrue_not (wpAny_mono (hx A E cw env H G J s (λb st1=>K (!b) st1) hA hE hκ O (bG hM x (λu st1 h=>?_) hw)) (λc s1 x=>x) λ_ _ e=>e)
 refine x1 (λb=>a2 λe h=>?_) (dP h)
 rw[gS e]
 have h':tst K (.bool (!b)) st1:=h
 rwa [gS (b:=!b) rfl]at h'
theorem zM{t b o:Expr}{p:Pos}(ht:uB prog w B C n t)(hb:uB prog w B C n b)(ho:uB prog w B C n o):uB prog w B C n (.IfExp t b o p):=by
 intro A E cw env H G J s K hA hE hκ O hw
 refine isTrue_IfExp (aJ (ht A E cw env H G J s _ hA hE hκ O hw) λc G1 st1 s1 hq O1 T1=>?_)
 simp only[BX]at hq
 cases c
 ·exact aT T1 (ho A E cw env H G1 st1 s1 K hA hE hκ O1 (by simpa using hq))
 ·exact aT T1 (hb A E cw env H G1 st1 s1 K hA hE hκ O1 (by simpa using hq))
theorem zgj{op:BoolOp}{p:Pos}:∀(es:List Expr),(∀e∈es,d5 prog w B C n e)->d5 prog w B C n (.BoolOp op es p)
 |[],_=>λA E cw env H G J s Q hA hE hκ O hw=>bq hw
 |[e],h=>λA E cw env H G J s Q hA hE hκ O hw=>BoolOp_one (h e (by simp) A E cw env H G J s Q hA hE hκ O hw)
 |e ::e' ::es,h=>by
  intro A E cw env H G J s Q hA hE hκ O hw
  have ih:=zgj (p:=p) (op:=op) (e' ::es) λx hx=>h x (bc _ hx)
  have he:=h e (by simp) A E cw env H G J s _ hA hE hκ O (show wE C e H (λv st1=>opt (uH (der st1.σ v)) λb=>if b=(op==.Or)then Q v st1 else wBo C op (e' ::es) H Q st1) J from hw)
  have main:∀{G1:GM}{st1:St}{s1:Shared}{a:Value}{u:PV}{R:Bool->Shared->Prop},Tr cw env G J s G1 st1 s1->(opt (uH (der st1.σ u)) λb=>if b=(op==.Or)then Q u st1 else wBo C op (e' ::es) H Q st1)->VRel w.params G1 a u->Ok B w.params G1 env st1 s1->
    (∀s',Lands B w.params cw env G J s (VX w.params Q) a s'->R (op==.Or) s')->(∀b s',b≠(op==.Or)->wpAny (model prog w) A (eval (.BoolOp op (e' ::es) p) env) (Lands B w.params cw env G J s (VX w.params Q)) E s'->R b s')->wpAny (model prog w) A (truthy a) R E s1:=by
   intro G1 st1 s1 a u R T1 hq hv O1 k1 k2
   refine x1 (λb=>a2 λe1 hq=>?_) (dP hq)
   refine wpAny_mono (wpAny_toks_of O1.rep.tk (zhi O1.rep.inh (O1.rep.view hv) e1)) (λc s'=>a3 λtk hc g=>?_) λ_ _ e=>e.2
   subst hc
   by_cases hb:c=(op==.Or)
   ·rw[if_pos hb]at hq;rw[hb]
    exact k1 s' ((fH (X:=VX w.params Q) O1 g tk ⟨u,hq,hv.mono g.ext⟩).after T1)
   ·rw[if_neg hb]at hq
    exact k2 c s' hb (aT (T1.trans g.tr) (ih A E cw env H G1 st1 s' Q hA hE hκ (O1.grow g tk) hq))
  cases op
  ·refine BoolOp_and (aJ he λa G1 st1 s1=>x1 λu=>a2 λhq hv O1 T1=>main T1 hq hv O1 (λs' h=>h) λb s' hb h=>?_)
   cases b
   ·exact absurd rfl hb
   ·exact h
  ·refine BoolOp_or (aJ he λa G1 st1 s1=>x1 λu=>a2 λhq hv O1 T1=>main T1 hq hv O1 (λs' h=>h) λb s' hb h=>?_)
   cases b
   ·exact h
   ·exact absurd rfl hb
theorem zbJ{op:BoolOp}{p:Pos}:∀(es:List Expr),(∀e∈es,uB prog w B C n e)->es≠[]->uB prog w B C n (.BoolOp op es p)
 |[]=>λ_ ne=>absurd rfl ne
 |[e]=>λh _=>by
  intro A E cw env H G J s K hA hE hκ O hw
  have he:=h e (by simp) A E cw env H G J s K hA hE hκ O hw
  cases op
  ·refine isTrue_and (aJ he λc G1 st1 s1 hq O1 T1=>?_)
   cases c
   ·exact(aL (X:=BX K) O1 hq).after T1
   ·exact isTrue_and_nil ((aL (X:=BX K) O1 hq).after T1)
  ·refine isTrue_or (aJ he λc G1 st1 s1 hq O1 T1=>?_)
   cases c
   ·exact isTrue_or_nil ((aL (X:=BX K) O1 hq).after T1)
   ·exact(aL (X:=BX K) O1 hq).after T1
 |e ::e' ::es=>λh _=>by
  intro A E cw env H G J s K hA hE hκ O hw
  have ih:=zbJ (p:=p) (op:=op) (e' ::es) (λx hx=>h x (bc _ hx)) (by simp)
  have he:=h e (by simp) A E cw env H G J s (λb st1=>if b=(op==.Or)then K b st1 else wBo C op (e' ::es) H (tst K) st1) hA hE hκ O (by
   refine cast (congrArg (λq=>wE C e H q J) ?_) hw
   funext v st1
   refine(?_:(opt (uH (der st1.σ v)) λb=>if b=(op==.Or)then tst K v st1 else _)=opt (uH (der st1.σ v)) λb=>if b=(op==.Or)then K b st1 else _)
   cases e1:uH (der st1.σ v)with
   |none=>rfl
   |some b=>show(if b=(op==.Or)then tst K v st1 else _)=_;rw[gS e1];rfl)
  have go:∀{G1:GM}{st1:St}{s1:Shared}(c:Bool),c≠(op==.Or)->(if c=(op==.Or)then K c st1 else wBo C op (e' ::es) H (tst K) st1)->Ok B w.params G1 env st1 s1->wpAny (model prog w) A (isTrue (.BoolOp op (e' ::es) p) env (eval (.BoolOp op (e' ::es) p) env)) (Lands B w.params cw env G1 st1 s1 (BX K)) E s1:=
   λc hc hq O1=>ih A E cw env H _ _ _ K hA hE hκ O1 (by rw[if_neg hc]at hq;exact hq)
  cases op
  ·refine isTrue_and (aJ he λc G1 st1 s1 hq O1 T1=>?_)
   cases c
   ·exact(aL (X:=BX K) O1 hq).after T1
   ·exact aT T1 (go true (by decide) hq O1)
  ·refine isTrue_or (aJ he λc G1 st1 s1 hq O1 T1=>?_)
   cases c
   ·exact aT T1 (go false (by decide) hq O1)
   ·exact(aL (X:=BX K) O1 hq).after T1
end
section
variable {prog:Program}{w:World}{B:Bs}{C:Ctx}{n:Nat}
theorem mE{A:Around}{E:Value->Shared->Prop}{cw:Bool}{env:Env}{G:GM}{J:St}{s:Shared}{a b:Value}{pa pb:PV}{op:CmpOp}{K:Bool->St->Prop}{R:Value->Shared->Prop}
  (hA:Room n A) (O:Ok B w.params G env J s) (ha:VRel w.params G a pa) (hb:VRel w.params G b pb) (h:zaX J.σ op pa pb λc=>K c J)
  (k:∀(c:Bool) (G':GM) (st':St) (s':Shared),K c st'->Ok B w.params G' env st' s'->Tr cw env G J s G' st' s'->R (.bool c) s'):wpAny (model prog w) A (compareOp op a b) R E s:=by
 refine aJ (cw:=cw) (cK (Q:=λv st'=>∃c,v=.bool c/\K c st') O
   (zk6 hA O.rep.inh O.rep.cellsOk ha hb (nJ (λc hc=>⟨c,rfl,hc⟩) h))) λcv G2 st2 s2 ⟨v,⟨c,hc,hq2⟩,hv2⟩ O2 T2=>?_
 subst hc
 simp only[VRel]at hv2;subst hv2
 exact k c G2 st2 s2 hq2 O2 T2
theorem zgi{p:Pos}:∀(cs:List Expr) (ops:List CmpOp),(∀e∈cs,d5 prog w B C n e)->cs.length=ops.length->
  ∀(A:Around) (E:Value->Shared->Prop) (cw:Bool) (env:Env) (H:Kn) (G:GM) (J:St) (s:Shared) (Q:PV->St->Prop) (a:Value) (pa:PV),Room n A->EnvOk env->KOk H env->Ok B w.params G env J s->
   VRel w.params G a pa->wCh C cs ops H pa Q J->wpAny (model prog w) A (compareChain p a ops (evalEach cs env)) (Lands B w.params cw env G J s (VX w.params Q)) E s
 |[],ops,_,_=>by
  intro A E cw env H G J s Q a pa hA hE hκ O ha hw
  exact bq hw
 |[r],[op],h,_=>by
  intro A E cw env H G J s Q a pa hA hE hκ O ha hw
  exact chain_last (aJ (h r (by simp) A E cw env H G J s _ hA hE hκ O hw) λb G1 st1 s1 ⟨u,hq,hv⟩ O1 T1=>
   aT T1 (mE (K:=λc st'=>([]:List CmpOp).isEmpty=true/\Q (.bool c) st') hA O1 (ha.mono T1.ext) hv hq λc G2 st2 s2 hq2 O2 T2=>(aL (X:=VX w.params Q) O2 ⟨_,hq2.2,by simp only[VRel]⟩).after T2))
 |r ::r' ::rs,op ::op' ::ops,h,hl=>by
  intro A E cw env H G J s Q a pa hA hE hκ O ha hw
  have ih:=zgi (p:=p) (r' ::rs) (op' ::ops) (λx hx=>h x (bc _ hx)) (by simpa using hl)
  refine chain_link (aJ (h r (by simp) A E cw env H G J s _ hA hE hκ O hw) λb G1 st1 s1=>x1 λu=>a2 λhq hv O1 T1=>?_)
  refine mE (cw:=cw) (K:=λc st'=>if c=true then wCh C (r' ::rs) (op' ::ops) H u Q st' else Q (.bool false) st') hA O1 (ha.mono T1.ext) hv hq λc G2 st2 s2 hq2 O2 T2=>?_
  refine wpAny_truthy_bool ?_
  cases c
  ·exact(aL (X:=VX w.params Q) O2 ⟨.bool false,hq2,by simp only[VRel]⟩).after (T1.trans T2)
  ·exact aT (T1.trans T2) (ih A E cw env H G2 st2 s2 Q b u hA hE hκ O2 (hv.mono T2.ext) hq2)
theorem zbI{p:Pos}:∀(cs:List Expr) (ops:List CmpOp),(∀e∈cs,d5 prog w B C n e)->cs.length=ops.length->
  ∀(A:Around) (E:Value->Shared->Prop) (cw:Bool) (env:Env) (H:Kn) (G:GM) (J:St) (s:Shared) (K:Bool->St->Prop) (a:Value) (pa:PV),Room n A->EnvOk env->KOk H env->Ok B w.params G env J s->
   VRel w.params G a pa->wCh C cs ops H pa (tst K) J->wpAny (model prog w) A (testChain p a ops (evalEach cs env)) (Lands B w.params cw env G J s (BX K)) E s
 |[],ops,_,_=>by
  intro A E cw env H G J s Q a pa hA hE hκ O ha hw
  exact bq hw
 |[r],[op],h,_=>by
  intro A E cw env H G J s K a pa hA hE hκ O ha hw
  exact test_last (aJ (h r (by simp) A E cw env H G J s _ hA hE hκ O hw) λb G1 st1 s1 ⟨u,hq,hv⟩ O1 T1=>
   mE (cw:=cw) (K:=λc st'=>([]:List CmpOp).isEmpty=true/\tst K (.bool c) st') hA O1 (ha.mono T1.ext) hv hq λc G2 st2 s2 hq2 O2 T2=>
    wpAny_truthy_bool ((aL (X:=BX K) O2 (by have hq2:=hq2.2;rwa [gS (b:=c) rfl]at hq2)).after (T1.trans T2)))
 |r ::r' ::rs,op ::op' ::ops,h,hl=>by
  intro A E cw env H G J s K a pa hA hE hκ O ha hw
  have ih:=zbI (p:=p) (r' ::rs) (op' ::ops) (λx hx=>h x (bc _ hx)) (by simpa using hl)
  refine test_link (aJ (h r (by simp) A E cw env H G J s _ hA hE hκ O hw) λb G1 st1 s1=>x1 λu=>a2 λhq hv O1 T1=>?_)
  refine mE (cw:=cw) (K:=λc st'=>if c=true then wCh C (r' ::rs) (op' ::ops) H u (tst K) st' else tst K (.bool false) st') hA O1 (ha.mono T1.ext) hv hq λc G2 st2 s2 hq2 O2 T2=>?_
  refine wpAny_truthy_bool ?_
  cases c
  ·exact(aL (X:=BX K) O2 hq2).after (T1.trans T2)
  ·exact aT (T1.trans T2) (ih A E cw env H G2 st2 s2 K b u hA hE hκ O2 (hv.mono T2.ext) hq2)
theorem zhq{l:Expr}{ops:List CmpOp}{cs:List Expr}{p:Pos}(hl:d5 prog w B C n l)(h:∀e∈cs,d5 prog w B C n e)(hlen:cs.length=ops.length)(hm:lastMarks ops cs=false):
  d5 prog w B C n (.Compare l ops cs p):=by
 intro A E cw env H G J s Q hA hE hκ O hw
 rw[arm_eval_Compare,markedEach_of_false _ _ _ hm]
 exact wpAny_bind (aJ (hl A E cw env H G J s _ hA hE hκ O hw) λa G1 st1 s1 ⟨u,hq,hv⟩ O1 T1=>
  aT T1 (zgi cs ops h hlen A E cw env H G1 st1 s1 Q a u hA hE hκ O1 hv hq))
theorem zet{l:Expr}{ops:List CmpOp}{cs:List Expr}{p:Pos}(hl:d5 prog w B C n l)(h:∀e∈cs,d5 prog w B C n e)(hlen:cs.length=ops.length)(hm:lastMarks ops cs=false):
  uB prog w B C n (.Compare l ops cs p):=by
 intro A E cw env H G J s K hA hE hκ O hw
 refine(?_:wpAny _ _ (do testChain p (<- PySem.eval l env) ops (markedEach ops cs (evalEach cs env))) _ _ _)
 refine(markedEach_of_false _ _ _ hm).symm▸?_
 exact wpAny_bind (aJ (hl A E cw env H G J s _ hA hE hκ O hw) λa G1 st1 s1 ⟨u,hq,hv⟩ O1 T1=>
  aT T1 (zbI cs ops h hlen A E cw env H G1 st1 s1 K a u hA hE hκ O1 hv hq))
theorem zhp{e:Expr}{conv:Int}{sp:Option Expr}{p:Pos}(he:d5 prog w B C n e):d5 prog w B C n (.FormattedValue e conv sp p):=by
 intro A E cw env H G J s Q hA hE hκ O hw
 obtain⟨rfl,h2,hw⟩:=hw
 cases gw.mp h2
 refine FormattedValue_plain (aJ (he A E cw env H G J s _ hA hE hκ O hw) λv G1 st1 s1=>x1 λu=>a2 λhq hv O1 T1=>?_)
 obtain⟨y,rfl,hq⟩:=dW hq
 obtain⟨t,rfl,oky⟩:=(show∃t,v=.str ⟨y.toArray⟩ t/\okStr y from hv)
 have tk:=O1.rep.tk
 refine wpAny_formatField_str ?_ ?_ (show y.length<=sizeLine from oky.2)
 ·exact(aL (X:=VX w.params Q) O1 ⟨.str y,hq,t,rfl,oky⟩).after T1
 ·exact(fH (X:=VX w.params Q) O1 (GS.toks O1.rep.inh (s1.toks+1)) (cq tk) ⟨.str y,hq,_,rfl,oky⟩).after T1
theorem rQ:∀(es:List Expr),(∀e∈es,d5 prog w B C n e)->∀(A:Around) (E:Value->Shared->Prop) (cw:Bool) (env:Env) (H:Kn) (G:GM) (J:St) (s:Shared) (acc:List Nat) (Q:PV->St->Prop),Room n A->EnvOk env->KOk H env->Ok B w.params G env J s->okStr acc->
  wJ C es H acc Q J->wpAny (model prog w) A (joinParts ⟨acc.toArray⟩ (evalEach es env)) (Lands B w.params cw env G J s (VX w.params Q)) E s
 |[],_=>by
  intro A E cw env H G J s acc Q hA hE hκ O ha hw
  exact joinParts_nil (fH (X:=VX w.params Q) O (GS.toks O.rep.inh (s.toks+1)) (cq O.rep.tk) ⟨.str acc,hw,_,rfl,ha⟩) (show acc.length<=sizeLine from ha.2)
 |e ::es,h=>by
  intro A E cw env H G J s acc Q hA hE hκ O ha hw
  refine joinParts_cons (aJ (h e bk A E cw env H G J s _ hA hE hκ O hw) λv G1 st1 s1=>x1 λu=>a2 λhq hv O1 T1=>?_)
  obtain⟨y,rfl,hl,hq⟩:=dW hq
  obtain⟨t,rfl,oky⟩:=(show∃t,v=.str ⟨y.toArray⟩ t/\okStr y from hv)
  have e:(⟨acc.toArray⟩:Str)++⟨y.toArray⟩=⟨(acc++y).toArray⟩:=by apply Str.ext';simp[Str.cps_append]
  refine(?_:((⟨acc.toArray⟩:Str)++⟨y.toArray⟩).length<=sizeLine/\_)
  refine e.symm▸?_
  refine⟨hl,aT T1 (rQ es (λx hx=>h x (bc _ hx)) A E cw env H G1 st1 s1 (acc++y) Q hA hE hκ O1 ⟨λc hc=>(ig.mp hc).elim (ha.1 c) (oky.1 c),hl⟩ hq)⟩
theorem zep{es:List Expr}{p:Pos}(h:∀e∈es,d5 prog w B C n e):d5 prog w B C n (.JoinedStr es p):=by
 intro A E cw env H G J s Q hA hE hκ O hw
 obtain⟨h2,hw⟩:=hw
 match es,h2,hw,h with
 |e1 ::e2 ::es,_,hw,h=>exact JoinedStr_many (rQ _ h A E cw env H G J s [] Q hA hE hκ O ⟨λc h=>(by cases h),dq _⟩ hw)
theorem j6{e:Expr}(h:eB e=true)(es:List Expr)(env:Env):starEach (e ::es) env=(false,PySem.eval e env) ::starEach es env:=by
 cases e<;>first |rfl|(exfalso;cases h)
theorem gU{p:Pos}:∀(es:List Expr),(∀e∈es,d5 prog w B C n e)->es.all eB=true->
  ∀(A:Around) (E:Value->Shared->Prop) (cw:Bool) (env:Env) (H:Kn) (G:GM) (J:St) (s:Shared) (Q:List PV->St->Prop),Room n A->EnvOk env->KOk H env->Ok B w.params G env J s->
   wEs C es H Q J->wpAny (model prog w) A (spliced (backTo p (starEach es env))) (Lands B w.params cw env G J s (VsX w.params Q)) E s
 |[]=>λ_ _=>by
  intro A E cw env H G J s Q hA hE hκ O hw
  exact Calls.spliced_nil (aL O ⟨[],hw,.nil⟩)
 |e ::es=>λh hs=>by
  intro A E cw env H G J s Q hA hE hκ O hw
  simp only[jp,dj]at hs
  rw[j6 hs.1]
  show wpAny _ _ (spliced ((false,PySem.eval e env) ::backTo p (starEach es env))) _ _ _
  exact Calls.spliced_cons (aJ (h e (by simp) A E cw env H G J s _ hA hE hκ O hw) λa G1 st1 s1 ⟨u,hq,hv⟩ O1 T1=>
   aJ (gU es (λx hx=>h x (bc _ hx)) hs.2 A E cw env H G1 st1 s1 _ hA hE hκ O1 hq) λvs G2 st2 s2 ⟨us,hq2,hv2⟩ O2 T2=>
    (aL (X:=VsX w.params Q) O2 ⟨u ::us,hq2,.cons (hv.mono T2.ext) hv2⟩).after (T1.trans T2))
theorem pH{p:Pos}{f:Value}(es:List Expr)(h:∀e∈es,d5 prog w B C n e)(hs:es.all eB=true)
  (A:Around) (E:Value->Shared->Prop) (cw:Bool) (env:Env) (H:Kn) (G:GM) (J:St) (s:Shared) (Q:List PV->St->Prop) (hA:Room n A) (hE:EnvOk env) (hκ:KOk H env) (O:Ok B w.params G env J s)
  (hw:wEs C es H Q J):wpAny (model prog w) A (evalArgs f true (backTo p (starEach es env)) []) (λa s'=>∃vs,a=⟨vs,[]⟩/\Lands B w.params cw env G J s (VsX w.params Q) vs s') E s:=by
 have hh:=gU (p:=p) es h hs A E cw env H G J s Q hA hE hκ O hw
 cases es with
 |nil=>
  exact PySem.evalArgs_none ⟨[],rfl,aL O ⟨[],hw,.nil⟩⟩
 |cons e es=>
  simp only[jp,dj]at hs
  rw[j6 hs.1]at hh ⊢
  exact Calls.evalArgs_plain (wpAny_mono hh (λvs s' x=>⟨vs,rfl,x⟩) λ_ _ e=>e)
theorem mG{p:Pos}:∀(es:List Expr) (env:Env),es.all eB=true->(backTo p (starEach es env)).any (·.1)=false
 |[]=>λ_ _=>rfl
 |e ::es=>λenv h=>by
  simp only[jp,dj]at h
  rw[j6 h.1]
  exact mG es env h.2
theorem jW{p:Pos}:∀(es:List Expr) (env:Env),es.all eB=true->(backTo p (starEach es env)).all (λx=>!x.1)=true
 |[]=>λ_ _=>rfl
 |e ::es=>λenv h=>by
  simp only[jp,dj]at h
  rw[j6 h.1]
  exact jW es env h.2
theorem cU{A:Around}{E:Value->Shared->Prop}{s:Shared}{pos:Pos}{f:Value}{first:List Value}{args:List (Bool×Sem Value)}{Q:Value->Shared->Prop}(hst:args.any (·.1)=false)
  (h:wpAny (model prog w) A (evalArgs f true args []) (λa s₁=>KeepsAt prog w s₁.heap f/\wpAny (model prog w) A (call f (first ++a.pos) a.kw) Q E s₁) E s):
  wpAny (model prog w) A (callWith pos f first args []) Q E s:=by
 unfold callWith
 refine wpAny_bind (wpAny_holding (wpAny_mono h (λa s₁ h₁=>wpAny_bind (wpAny_standAt ?_)) λ_ _ x=>x))
 obtain⟨⟨k,hk⟩,hc⟩:=h₁
 refine(show(args.any (·.1)||([]:List (Option Str×Sem Value)).any (·.1.isNone))=false from(gu _).trans hst).symm▸?_
 have fin:∀t:Sem Value,wpAny (model prog w) A t Q E s₁->wpAny (model prog w) A (t>>=λr=>holding [r] point>>=λ_=>pure r) Q E s₁:=
  λt ht=>wpAny_bind (wpAny_mono ht (λr s₂ hr=>wpAny_bind (wpAny_holding (wpAny_point (wpAny_pure hr)))) λ_ _ x=>x)
 refine wpAny_bind (hk.here ?_)
 cases k<;>dsimp only
 ·refine wpAny_ite ?_
  split
  ·exact fin _ hc
  ·exact fin _ (by unfold callMarked;exact Calls.wpAny_keep hc)
 ·refine wpAny_ite ?_
  split
  ·exact fin _ hc
  ·exact fin _ (by unfold callMarked;exact Calls.wpAny_keep hc)
 ·exact fin _ hc
 ·exact fin _ (wpAny_operate' hc)
theorem cM(h:Heap)(id:String):KeepsAt prog w h (.builtin id):=⟨.machine,Looks.of_pure rfl⟩
theorem zau(h:Heap)(id:String):KeepsAt prog w h (.type id):=⟨.machine,Looks.of_pure rfl⟩
theorem KeepsAt.keeps{h h':Heap}{f:Value}(x:KeepsAt prog w h f)(k:∀b o,h.get? b=some o->h'.get? b=some o):KeepsAt prog w h' f:=e1 (λr hr=>hr.keeps k) x
theorem ze9(h:Heap)(x:Str):KeepsAt prog w h (iO x):=by
 unfold iO
 (repeat' split)<;>first |exact zau _ _|exact cM _ _
end
theorem tI{σ:Nat->Option Cell}:∀{ps:List PV},ps.any sP=false->ps.map (der σ)=ps
 |[],_=>rfl
 |p ::ps,h=>by
  simp only[List.any_cons,gb]at h
  rw[cf,tI h.2]
  cases p<;>first |rfl|cases h.1
theorem VRel.scalar{P:Params}{G G':GM}{v:Value}{p:PV}(h:VRel P G v p)(hs:jU p=true):VRel P G' v p:=by
 cases p<;>first |(cases hs;done)|(simp only[VRel]at h ⊢;exact h)
noncomputable def frz(G:GM)(σ:Nat->Option Cell)(h:Heap):GM:=λa=>if(gP (σ a)).isSome=true then h.get? a else G a
noncomputable def za7(G:GM)(σ:Nat->Option Cell):GM:=λa=>if(gP (σ a)).isSome=true then none else G a
theorem jC{c:Option Cell}(h:(gP c).isSome=true):∃xs,c=some (.lst xs):=by
 cases c with
 |none=>cases h
 |some c=>cases c with
  |lst xs=>exact⟨xs,rfl⟩
  |ins c fs=>cases h
section
variable {prog:Program}{w:World}{B:Bs}{C:Ctx}{n:Nat}{P:Params}{G G':GM}{env:Env}{J:St}{s s':Shared}
theorem x9{σ:Nat->Option Cell}{h:Heap}(hc:∀a c,σ a=some c->G a=none):Sub G (frz G σ h):=λa o e=>by
 unfold frz
 by_cases q:(gP (σ a)).isSome=true
 ·refine x1 (λxs q=>?_) (jC q)
  rw[hc a _ q]at e;(exfalso;cases e)
 ·rw[if_neg q];exact e
theorem m9(R:Rep P G env J s):Sub G (frz G J.σ s.heap):=x9 λa c e=>(R.cells a c e).2.1
theorem zgC(R:Rep P G env J s):InH (frz G J.σ s.heap) s.heap where
 at_:=λa o e=>by
  unfold frz at e
  by_cases q:(gP (J.σ a)).isSome=true
  ·rw[if_pos q]at e;exact e
  ·rw[if_neg q]at e;exact R.inh.at_ a o e
 px:=λP p=>by
  unfold frz
  rw[if_neg λq=>by
   refine x1 (λxs q=>?_) (jC q)
   exact(R.cells _ _ q).1.nx R.inh.tab p]
  exact R.inh.px P p
 tab:=R.inh.tab
theorem zh6(R:Rep P G env J s){v:Value}{p:PV}(h:VRel P G v p):VRel P (frz G J.σ s.heap) v (der J.σ p):=by
 cases p with
 |ptr a=>
  refine(?_:VRel P (frz G J.σ s.heap) v (Option.casesOn (motive:=λ_=>PV) (gP (J.σ a)) (.ptr a) .list))
  by_cases q:(gP (J.σ a)).isSome=true
  ·obtain⟨xs,e⟩:=jC q
   simp only[VRel]at h;subst h
   obtain⟨⟨vs,m,h1,h2,h3⟩,_⟩:=R.cells a _ e
   have hf:frz G J.σ s.heap a=s.heap.get? a:=if_pos q
   rw[e]
   simp only[gP,VRel]
   exact ex4 a _ vs m ⟨rfl,hf.trans h1,rfl,rfl,rfl,h2,h3.mono (m9 R)⟩
  ·cases e:gP (J.σ a)with
   |none=>exact h.mono (m9 R)
   |some xs=>rw[e]at q;exact absurd rfl q
 |_=>exact h.mono (m9 R)
theorem yA(R:Rep P G env J s):∀{vs:List Value}{ps:List PV},VRels P G vs ps->VRels P (frz G J.σ s.heap) vs (ps.map (der J.σ))
 |vs,[],h=>h
 |vs,p ::ps,h=>let⟨v,r,e,h1,h2⟩:=h;e▸ .cons (zh6 R h1) (yA R h2)
theorem zd6(R:Rep P G env J s)(g:GS (frz G J.σ s.heap) s G' s'):GS G s (za7 G' J.σ) s' where
 ext:=λa o e=>by
  unfold za7
  by_cases q:(gP (J.σ a)).isSome=true
  ·refine x1 (λxs q=>?_) (jC q)
   rw[(R.cells a _ q).2.1]at e;(exfalso;cases e)
  ·rw[if_neg q];exact g.ext a o (m9 R a o e)
 inh:=⟨λa o e=>by
  unfold za7 at e
  by_cases q:(gP (J.σ a)).isSome=true
  ·rw[if_pos q]at e;(exfalso;cases e)
  ·rw[if_neg q]at e;exact g.inh.at_ a o e,λP p=>by
  unfold za7
  split
  ·rfl
  ·exact g.inh.px P p,g.inh.tab⟩
 new:=λa o e=>by
  unfold za7 at e
  by_cases q:(gP (J.σ a)).isSome=true
  ·rw[if_pos q]at e;(exfalso;cases e)
  ·rw[if_neg q]at e
   rcases g.new a o e with h|h
   ·unfold frz at h
    rw[if_neg q]at h;exact .inl h
   ·exact .inr h
 keep:=g.keep
 os:=g.os
 gens:=g.gens
theorem zis{A:Around}{E:Value->Shared->Prop}{cw:Bool}{f:Value}{F:Fn}{vs:List Value}{ps:List PV}{Q:PV->St->Prop}(hA:Room n A)(hF:Meets prog w B n f F)(O:Ok B w.params G env J s)
  (hv:VRels w.params G vs ps) (h:F (ps.map (der J.σ)) λr=>(ps.any sP=false\/jU r=true)/\Q r J):
  wpAny (model prog w) A (call f vs) (Lands B w.params cw env G J s (VX w.params Q)) E s:=by
 refine cK O ?_
 by_cases hp:ps.any sP=false
 ·rw[tI hp]at h
  exact(hF.2 A E G s vs ps _ hA O.rep.inh O.rep.tk O.over hv h).mono λr x=>x.2
 ·have hg:=hF.2 A E (frz G J.σ s.heap) s vs _ _ hA (zgC O.rep) O.rep.tk (O.over.ext (m9 O.rep)) (yA O.rep hv) h
  exact wpAny_mono hg (λv s'=>x2 λr G'=>a3<|a2 λh1 h2 h3 h4=>⟨r,_,h2,zd6 O.rep h3,h4.scalar (h1.resolve_left hp)⟩) λ_ _ e=>e
theorem zfC{A:Around}{E:Value->Shared->Prop}{cw:Bool}{f:Value}{F:Fn}{vs:List Value}{ps:List PV}{Q:PV->St->Prop}(hA:Room n A)(hF:Meets prog w B n f F)(O:Ok B w.params G env J s)
  (hv:VRels w.params G vs ps) (h:F ps λr=>Q r J):wpAny (model prog w) A (call f vs) (Lands B w.params cw env G J s (VX w.params Q)) E s:=
 cK O (hF.2 A E G s vs ps _ hA O.rep.inh O.rep.tk O.over hv h)
theorem zit{A:Around}{E:Value->Shared->Prop}{cw:Bool}{x:Str}{vs:List Value}{ps:List PV}{Q:PV->St->Prop}(hA:Room n A)(O:Ok B w.params G env J s)
  (hv:VRels w.params G vs ps) (h:biP x (ps.map (der J.σ)) λr=>Q r J):wpAny (model prog w) A (call (iO x) vs) (Lands B w.params cw env G J s (VX w.params Q)) E s:=
 cK O (bi_G hA O.rep.inh (zdv O.rep hv) h)
theorem Ok.keepsAt{f:Value}(O:Ok B P G env J s)(h:KeepsAt prog w B.h₀ f):KeepsAt prog w s.heap f:=h.keeps λa o e=>O.rep.inh.at_ a o (O.over a o e)
theorem zeq{x:Str}{np p:Pos}{args:List Expr}(hB:BsOk B)(hC:CtxOk prog w B C n)(h:∀e∈args,d5 prog w B C n e)(hs:args.all eB=true)(ok:(x==("__debug__":Str))=false):
  d5 prog w B C n (.Call (.Name x np) args [] p):=by
 intro A E cw env H G J s Q hA hE hκ O hw
 rw[uE]at hw
 refine a4 (λ_ hk hn hw=>?_) hw
 have go:∀(f:Value),KeepsAt prog w B.h₀ f->(∀G' st' s' vs ps,Ok B w.params G' env st' s'->VRels w.params G' vs ps->iM C x ps st' (λr=>Q r st')->wpAny (model prog w) A (call f vs) (Lands B w.params cw env G' st' s' (VX w.params Q)) E s')->
   wpAny (model prog w) A (loadGlobal env x) (λv s'=>v=f/\s'=s) E s->wpAny (model prog w) A (PySem.eval (.Call (.Name x np) args [] p) env) (Lands B w.params cw env G J s (VX w.params Q)) E s:=by
  intro f hf k hl
  refine wpAny_Call_NameR (wpAny_Name ?_ ok)
  rw[loadName_read hE.kind (hκ.glob hk)]
  refine wpAny_mono hl (λv s'=>a2 λe1 e2=>?_) λ_ _ e=>e
  subst e1 e2
  refine cU (mG args env hs) (wpAny_mono (pH args h hs A E cw env H G J s' _ hA hE hκ O hw) (λa s1=>x1 λvs=>a2 λha=>x2 λG1 st1=>a3<|x1 λps=>a2 λhq hv O1 T1=>?_) λ_ _ e=>e)
  subst ha
  exact⟨O1.keepsAt hf,aT T1 (k G1 st1 s1 vs ps O1 hv hq)⟩
 cases e1:C.fn x with
 |some F=>
  refine x1 (λu=>a2 λh1 h2=>?_) (hC.fn x F e1)
  exact go u h2.1 (λG' st' s' vs ps O' hv hq=>zis hA h2 O' hv (by unfold iM at hq;rw[e1]at hq;exact hq)) (eQ hB hE O.rep.inh O.over h1 ⟨rfl,rfl⟩)
 |none=>
  cases e2:C.cls x with
  |some F=>
   refine x1 (λu=>a2 λh1 h2=>?_) (hC.cls x F e2)
   exact go u h2.1 (λG' st' s' vs ps O' hv hq=>zfC hA h2 O' hv (by unfold iM at hq;rw[e1,e2]at hq;exact hq)) (eQ hB hE O.rep.inh O.over h1 ⟨rfl,rfl⟩)
  |none=>
   by_cases e3:C.bi x=true
   ·refine a2 (λh1 h2=>?_) (hC.bi x e3)
    exact go (iO x) (ze9 _ x) (λG' st' s' vs ps O' hv hq=>zit hA O' hv (by unfold iM at hq;rw[e1,e2]at hq;exact hq.2)) (qC hB hE O.rep.inh O.over h1 h2 ⟨rfl,rfl⟩)
   ·unfold nX at hn
    rw[e1,e2]at hn
    exact absurd (by simpa using hn) e3
end
noncomputable def j9(o:Expr):Bool:=zdD (exc false (λ_=>true) (λ_=>true) (λ_=>false) (λ_ _ _=>true) (λ_ _=>false) (λ_ _=>false) o) (λf _ _=>(atN f).isSome||(nmE f).any λx=>x !=("super":Str)) true o
theorem zdI{id:Str}{q pos:Pos}{args:List Expr}{kws:List Keyword}(h:(id !=("super":Str))=true)(attr:Str)(env:Env)(t:Sem Value):attributeBase (.Call (.Name id q) args kws pos) attr env t=t:=by
 cases args with
 |cons=>rfl
 |nil=>
  cases kws with
  |cons=>rfl
  |nil=>
   unfold attributeBase
   dsimp only
   rw[h,Bool.true_or,Bool.true_or,Bool.true_or,if_pos rfl]
theorem vX{o:Expr}:j9 o=true->∀(attr:Str) (env:Env) (t:Sem Value),attributeBase o attr env t=t:=by
 refine eY (P:=λo=>j9 o=true->∀(attr:Str) (env:Env) (t:Sem Value),attributeBase o attr env t=t) (λ_ _ _ _ _ _ _=>rfl) (λ_ _ _ _ _ _=>rfl) (λ_ _ _ _ _ _ _=>rfl) (λ_ _ _ _ _ _ _=>rfl) (λ_ _ _ _ _ _ _ _=>rfl) (λ_ _ _ _ _ _ _ _=>rfl) (λf as ks p h attr env t=>?_) (λ_ _ _ _ _ _ _=>rfl) (λe h1 h2 h=>?_) o
 ·have h:((atN f).isSome||(nmE f).any λx=>x !=("super":Str))=true:=h
  cases hf:atN f with
  |some n=>
   refine x2 (λo p zr2=>?_) (rA hf);subst zr2
   rfl
  |none=>
   replace h:=hf▸h
   cases hn:nmE f with
   |none=>replace h:=hn▸h;(exfalso;cases h)
   |some id=>
    refine x1 (λq zr1=>?_) (iX hn);subst zr1
    exact zdI h attr env t
 ·rw[j9,h2,h1]at h
  exfalso;cases h
section
variable {prog:Program}{w:World}{B:Bs}{C:Ctx}{n:Nat}
theorem iL{A:Around}{E:Value->Shared->Prop}{s:Shared}{env:Env}{o:Expr}{name:Str}{apos pos:Pos}{args:List Expr}{Q:Value->Shared->Prop}
  (hb:j9 o=true) (hs:args.all eB=true) (hlen:args.length<30) (hline:(apos.endLine==pos.line)=true)
  (h:wpAny (model prog w) A (PySem.eval o env) (λov s₁=>∃T mid,PlainAttrs T/\Slot T name mid/\typeOf (.builtin mid)=pure (.type "method_descriptor")/\s₁.TypeIs ov T/\(∀a,ov=.ref a->∃ob,s₁.heap.get? a=some ob/\ob.dict=none)/\
   wpAny (model prog w) A (callWith pos (.builtin mid) [ov] (backTo pos (starEach args env)) []) Q E s₁) E s):
  wpAny (model prog w) A (PySem.eval (.Call (.Attribute o name apos) args [] pos) env) Q E s:=by
 have hform:methodCallForm (args.length+([]:List Keyword).length) (backTo pos (starEach args env)) (backToKw pos (keywordEach [] env))=true:=by
  unfold methodCallForm
  refine(jW args env hs).symm▸?_
  exact zfV rfl (decide_eq_true hlen)
 have hpos:methodCallPos true o env apos pos=pure pos:=by unfold methodCallPos;simp[hline]
 rw[arm_eval_Call,vX hb]
 refine wpAny_bind (wpAny_mono h (λov s₁=>x2 λT mid=>a6 λh1 h2 h3 h4 h5 h6=>?_) λ_ _ e=>e)
 refine wpAny_bind (wpAny_standAt ?_)
 unfold methodCall
 refine hform.symm▸?_
 refine wpAny_bind (wpAny_holding (getMethod_builtin h4 h1 h2 h3 h5 ?_))
 exact wpAny_bind (wpAny_of_eq hpos h6)
theorem pC{s:Shared}{v:Value}{x:List Nat}{P:Params}{G:GM}(h:VRel P G v (.str x)):s.TypeIs v "str"/\ ∀a,v=.ref a->∃ob,s.heap.get? a=some ob/\ob.dict=none:=by
 simp only[VRel]at h
 refine x1 (λt=>a2 λzr1 _=>?_) h;subst zr1
 exact⟨typeIs_str _ _ _,λa e=>by cases e⟩
theorem zcg{G:GM}{env:Env}{J:St}{s:Shared}{name:Str}{o:PV}{v:Value}(O:Ok B w.params G env J s)(hv:VRel w.params G v o)(h:mOk J.σ name o=true):
  ∃T,PlainAttrs T/\Slot T name (dK name o)/\typeOf (.builtin (dK name o))=pure (.type "method_descriptor")/\s.TypeIs v T/\(∀a,v=.ref a->∃ob,s.heap.get? a=some ob/\ob.dict=none):=by
 cases o<;>first |((exfalso;cases h);done)|skip
 ·rename_i x
  obtain⟨t1,t2⟩:=pC (s:=s) hv
  refine⟨"str",PySem.F.plainAttrs_str,?_⟩
  refine(?_:Slot "str" name (eN name)/\typeOf (.builtin (eN name))=_/\_)
  have h:(name=="startswith"||name=="find"||name=="rfind"||name=="count"||name=="join")=true:=h
  rw[ey,ey,ey,ey,beq_iff_eq,beq_iff_eq,beq_iff_eq,beq_iff_eq,beq_iff_eq]at h
  rcases h with(((h|h)|h)|h)|h<;>subst h
  ·refine(show eN "startswith"="str.startswith"by decide+kernel).symm▸?_;exact⟨PySem.F.slot_str_startswith,PySem.F.type_str_startswith,t1,t2⟩
  ·refine(show eN "find"="str.find"by decide+kernel).symm▸?_;exact⟨PySem.F.slot_str_find,PySem.F.type_str_find,t1,t2⟩
  ·refine(show eN "rfind"="str.rfind"by decide+kernel).symm▸?_;exact⟨PySem.F.slot_str_rfind,PySem.F.type_str_rfind,t1,t2⟩
  ·refine(show eN "count"="str.count"by decide+kernel).symm▸?_;exact⟨PySem.F.slot_str_count,PySem.F.type_str_count,t1,t2⟩
  ·refine(show eN "join"="str.join"by decide+kernel).symm▸?_;exact⟨PySem.F.slot_str_join,PySem.F.type_str_join,t1,t2⟩
 ·rename_i a
  have h:((name=="append"||name=="pop")&&(gP (J.σ a)).isSome)=true:=h
  rw[dj,ey,beq_iff_eq,beq_iff_eq]at h
  obtain⟨hn,h2⟩:=h
  obtain⟨xs,e⟩:=jC h2
  simp only[VRel]at hv;subst hv
  obtain⟨⟨vs,m,g1,g2,g3⟩,_⟩:=O.rep.cells a _ e
  have t2:∀b,Value.ref a=.ref b->∃ob,s.heap.get? b=some ob/\ob.dict=none:=λb e=>by(have zq:=Value.ref.inj e;subst zq);exact⟨_,g1,rfl⟩
  refine⟨"list",PySem.F.plainAttrs_list,?_⟩
  refine(?_:Slot "list" name (if name="append"then"list.append"else"list.pop")/\typeOf (.builtin (if name="append"then"list.append"else"list.pop"))=_/\_)
  rcases hn with hn|hn<;>subst hn
  ·refine(if_pos rfl).symm▸?_;exact⟨PySem.F.slot_list_append,PySem.F.type_list_append,⟨_,g1,rfl⟩,t2⟩
  ·rw[if_neg (by decide+kernel)];exact⟨PySem.F.slot_list_pop,PySem.F.type_list_pop,⟨_,g1,rfl⟩,t2⟩
theorem zen{o:Expr}{name:Str}{apos p:Pos}{args:List Expr}(ho:d5 prog w B C n o)(h:∀e∈args,d5 prog w B C n e)(hs:args.all eB=true)(hb:j9 o=true)(hlen:args.length<30)
  (hline:(apos.endLine==p.line)=true) (hr:dM args=none):d5 prog w B C n (.Call (.Attribute o name apos) args [] p):=by
 intro A E cw env H G J s Q hA hE hκ O hw
 rw[kM,hr]at hw
 refine iL hb hs hlen hline (aJ (ho A E cw env H G J s _ hA hE hκ O hw.2) λov G1 st1 s1 ⟨u,⟨hm,hq⟩,hv⟩ O1 T1=>?_)
 refine x1 (λT=>a5 λh1 h2 h3 h4 h5=>?_) (zcg O1 hv hm)
 refine ex2 T (dK name u) ⟨h1,h2,h3,h4,h5,?_⟩
 refine cU (mG args env hs) (wpAny_mono (pH args h hs A E cw env H G1 st1 s1 _ hA hE hκ O1 hq) (λa s2=>x1 λvs=>a2 λha=>x2 λG2 st2=>a3<|x1 λps=>a2 λhq2 hv2 O2 T2=>?_) λ_ _ e=>e)
 subst ha
 exact⟨cM _ _,aT (T1.trans T2) (zat O2 (zhM hA O2.rep O2.ct (hv.mono T2.ext) hv2 hq2))⟩
theorem rT{as:List Expr}{x y:Str}(h:dM as=some (x,y)):∃k1 p1 k2 p2,as=[.Constant (.str x) k1 p1,.Constant (.str y) k2 p2]:=by
 match as,h with
 |[a,b],h=>
  refine x1 (λp=>a2 λh1 h=>?_) (cu.mp h)
  refine x1 (λq=>a2 λh2 e=>?_) (de.mp h)
  cases e
  refine x2 (λk1 p1 zr2=>?_) (mC h1);subst zr2
  refine x2 (λk2 p2 zr2=>?_) (mC h2);subst zr2
  exact ex4 _ _ _ _ rfl
theorem pR{p q:List Nat}(hp:p≠[])(hq:q.length=1):∀(n:Nat) (x:List Nat),(c9 p q n x).length<=x.length
 |0,x=>by simp[c9]
 |n+1,[]=>by simp[c9]
 |n+1,c ::x=>by
  unfold c9
  have h1:0<p.length:=List.length_pos_iff.mpr hp
  split
  ·have:=pR hp hq n ((c ::x).drop p.length)
   rw[bj,hq,bn]
   exact df (af this (by rw[bv];exact iu (Nat.sub_lt (gz _) h1)))
  ·exact df (pR hp hq n x)
theorem pQ{p q:List Nat}:∀(n:Nat) (x:List Nat) (c:Nat),c∈c9 p q n x->c∈x\/c∈q
 |0,x=>λc h=>.inl (by simpa[c9]using h)
 |n+1,[]=>λc h=>by simp[c9]at h
 |n+1,d ::x=>λc h=>by
  unfold c9 at h
  split at h
  ·rcases ig.mp h with h|h
   ·exact .inr h
   ·rcases pQ n _ c h with h|h
    ·exact .inl (fz h)
    ·exact .inr h
  ·rcases bb.mp h with h|h
   ·subst h;exact .inl (by simp)
   ·rcases pQ n _ c h with h|h
    ·exact .inl (bc _ h)
    ·exact .inr h
theorem zel{o:Expr}{name:Str}{apos p:Pos}{args:List Expr}{x y:Str}(ho:d5 prog w B C n o)(hb:j9 o=true)
  (hline:(apos.endLine==p.line)=true) (hr:dM args=some (x,y)) (hoy:okC (.str y)=true):d5 prog w B C n (.Call (.Attribute o name apos) args [] p):=by
 intro A E cw env H G J s Q hA hE hκ O hw
 rw[kM,hr]at hw
 obtain⟨k1,p1,k2,p2,rfl⟩:=rT hr
 refine iL hb rfl (show 2<30 by decide) hline (aJ (ho A E cw env H G J s _ hA hE hκ O hw.2) λov G1 st1 s1=>x1 λu=>a2 λhq hv O1 T1=>?_)
 obtain⟨z,rfl,rfl,hz,hx,hy,hxy,hq⟩:=dW hq
 obtain⟨t1,t2⟩:=pC (s:=s1) hv
 refine ex2 ("str") ("str.replace") ⟨PySem.F.plainAttrs_str,PySem.F.slot_str_replace,PySem.F.type_str_replace,t1,t2,?_⟩
 refine cU rfl (Calls.evalArgs_plain (Calls.spliced_cons (Calls.Constant_str (k:=k1) (pos:=p1) (Calls.spliced_cons (Calls.Constant_str (k:=k2) (pos:=p2) (Calls.spliced_nil ?_))))))
 have g:=GS.toks O1.rep.inh (s1.toks+1+1)
 have O2:=O1.grow g (ed 1 _)
 refine⟨cM _ _,aT (T1.trans g.tr) (cK O2 ?_)⟩
 simp only[VRel]at hv
 obtain⟨t,rfl,okz⟩:=hv
 have tk:=O1.rep.tk
 simp only[okC,dj,ay,decide_eq_true_eq]at hoy
 have okr:okStr (mP x.cps.toList y.cps.toList z):=by
  refine⟨λc hc=>?_,af (pR hx hy _ _) okz.2⟩
  rcases pQ _ _ c hc with h|h
  ·exact okz.1 c h
  ·exact hoy.1 c h
 have ly:y.length=1:=by rw[<- hy];exact(cn).symm
 refine SC.replace (ix tk) (Nat.succ_ne_zero _) (iz (av _)) (beq_eq_false_iff_ne.mpr hxy) (by rw[dO,ly];omega) λt' k=>⟨_,G1,hq,GS.toks O2.rep.inh k,?_⟩
 have main:=zP z x.cps.toList y.cps.toList hx
 rw[show(⟨x.cps.toList.toArray⟩:Str)=x by simp,show(⟨y.cps.toList.toArray⟩:Str)=y by simp]at main
 rw[main]
 simp only[VRel]
 exact⟨t',rfl,okr⟩
end
section
variable {prog:Program}{w:World}{B:Bs}{C:Ctx}{n:Nat}
theorem zay{P:Params}{G:GM}{v:Value}{p:PV}(h:VRel P G v p):handedIn v=true:=by
 cases p
 ·exact(show v=.none from h)▸rfl
 ·exact(show v=.bool _ from h)▸rfl
 ·refine x1 (λt e=>?_) h;refine e.symm▸?_;rfl
 ·refine x1 (λt=>a2 λe _=>?_) h;refine e.symm▸?_;rfl
 ·refine x4 (λa _ _ _=>a2 λe _=>?_) h;refine e.symm▸?_;rfl
 ·refine x4 (λa _ _ _=>a2 λe _=>?_) h;refine e.symm▸?_;rfl
 ·refine x1 (λvs=>a2 λi _=>x2 (λx dx=>a2 λe _=>?_) i) h;refine e.symm▸?_;rfl
 ·refine x4 (λa _ _ _=>a2 λe _=>?_) h;refine e.symm▸?_;rfl
 ·exact(show v=.ref _ from h)▸rfl
 ·refine x1 (λa=>a2 λe _=>?_) h;refine e.symm▸?_;rfl
theorem zkl{A:Around}{E:Value->Shared->Prop}{G:GM}{s:Shared}{name:Str}{v:Value}{p:PV}{K:PV->Prop}{x:Bool}(hB:BsOk B)(hC:CtxOk prog w B C n)(hi:InH G s.heap)(ho:Over B G)
  (hv:VRel w.params G v p) (h:zdJ C name p K):GW (model prog w) A w.params E G s (getAttr v name x) K:=by
 cases p<;>first |exact bq h|skip
 rename_i c fs
 simp only[VRel]at hv
 obtain⟨vs,⟨a,dx,rfl,h1,h2⟩,h3⟩:=hv
 have I:PySem.W.InstAt s.heap a _ c (some jP):=⟨hi.at_ _ _ h1,rfl,rfl,hi.at_ _ _ h2⟩
 have X:B.K.In s.heap:=hB.kin.keeps λb o e=>hi.at_ _ _ (ho _ _ e)
 have h:l5 (C.slot c name) (opt (C.cval c name) K) λi=>opt fs[i]? K:=h
 cases hs:C.slot c name with
 |some i=>
  rw[hs]at h
  refine a3 (λs1 s2=>x1 λq=>a3 λs3 s4 _=>?_) (hC.slot c name i hs)
  refine x1 (λu=>a2 λhu h=>?_) (dP h)
  refine x1 (λuv=>a2 λe1 e2=>?_) (h3.get hu)
  refine get_bind X I s1 s3 s2 ?_
  refine wpAny_call (slot_get (v:=uv) (od:=some jP) (X.keeps λ_ _ e=>e) ⟨I.at_,I.cls,I.no,hi.at_ _ _ h2⟩ s4 ?_ ?_)
  ·refine(?_:((vs.map some).toArray[i]?).join=_)
   rw[gq,fj,e1];rfl
  ·dsimp only
   rw[handedOut_of (zay e2)]
   exact wpAny_pure ⟨u,G,h,GS.toks hi _,e2⟩
 |none=>
  rw[hs]at h
  refine x1 (λu=>a2 λhu h=>?_) (dP h)
  refine a2 (λs1=>x1 λuv=>a3 λs2 s3 s4=>?_) (hC.cval c name u hu)
  exact get_value X I s1 s2 s3 ⟨u,G,h,GS.toks hi _,s4.mono ho⟩
theorem zer{o:Expr}{name:Str}{p:Pos}(hB:BsOk B)(hC:CtxOk prog w B C n)(ho:d5 prog w B C n o)(hb:j9 o=true):d5 prog w B C n (.Attribute o name p):=by
 intro A E cw env H G J s Q hA hE hκ O hw
 rw[arm_eval_Attribute,vX hb]
 refine wpAny_bind (aJ (ho A E cw env H G J s _ hA hE hκ O hw) λov G1 st1 s1=>x1 λu=>a2 λhq hv O1 T1=>?_)
 refine wpAny_bind (wpAny_standAt (wpAny_bind (wpAny_holding ?_)))
 refine aJ (cw:=cw) (cK (Q:=Q) O1 (zkl hB hC O1.rep.inh O1.over hv hq)) λr G2 st2 s2 hr O2 T2=>?_
 exact wpAny_bind (wpAny_letTemporaryGo (wpAny_pure ((aL (X:=VX w.params Q) O2 hr).after (T1.trans T2))))
theorem zk0{n:Nat}{A:Around}{E:Value->Shared->Prop}{G:GM}{s:Shared}{v iv:Value}{p i:PV}{K:PV->Prop}(hA:Room n A)(hi:InH G s.heap)(hv:lP w.params G s.heap v p)(hiv:VRel w.params G iv i)(h:zh3 p i K):
  GW (model prog w) A w.params E G s (getItem v iv) K/\∃T id,s.TypeIs v T/\typeLookup (.type T) "__getitem__"=pure (some (.builtin id)):=by
 cases p<;>first |exact bq h|skip
 ·refine x1 (λk=>a2 λe h=>?_) (dH h)
  subst e
  refine x1 (λc=>a2 λhc h=>?_) (dP h)
  exact⟨zh2 hi hv hiv hc h,"str",_,(pC (P:=w.params) (G:=G) hv).1,PySem.F.slot_str_getitem.lookup⟩
 ·refine x1 (λk=>a2 λe h=>?_) (dH h)
  subst e
  refine x1 (λc=>a2 λhc h=>?_) (dP h)
  refine⟨zh1 hi hv hiv hc h,"tuple",_,?_,PySem.F.slot_tuple_getitem.lookup⟩
  refine x4 (λa o vs m=>a6 λe h1 h2 _ _ _=>?_) hv
  subst e;exact⟨o,hi.at_ _ _ h1,h2⟩
 ·refine x1 (λk=>a2 λe h=>?_) (dH h)
  subst e
  refine x1 (λc=>a2 λhc h=>?_) (dP h)
  refine⟨zfe hi hv hiv hc h,"list",_,?_,PySem.F.slot_list_getitem.lookup⟩
  refine x4 (λa o vs m=>a7 λe h1 h2 _ _ _ _=>?_) hv
  subst e;exact⟨o,h1,h2⟩
 ·exact zff hA hi hiv hv h
theorem zho{o i:Expr}{p:Pos}(ho:d5 prog w B C n o)(hi:d5 prog w B C n i)(hs:∀a b,subscripted i false a b=operate [a,b] (getItem a b))(hu:xW i=false):d5 prog w B C n (.Subscript o i p):=by
 intro A E cw env H G J s Q hA hE hκ O hw
 rw[ziZ,hu]at hw
 refine Subscript_ (aJ (ho A E cw env H G J s _ hA hE hκ O hw) λov G1 st1 s1=>x1 λu=>a2 λhq hv O1 T1=>?_)
 refine aJ (hi A E cw env H G1 st1 s1 _ hA hE hκ O1 hq) λiv G2 st2 s2=>x1 λu2=>a2 λhq2 hv2 O2 T2=>?_
 refine a2 (λg=>x2 λT id=>a2 λt1 t2=>?_) (zk0 (prog:=prog) (A:=A) (E:=E) hA O2.rep.inh (O2.rep.view (hv.mono T2.ext)) hv2 hq2)
 exact tail_any t1 t2 (aT (T1.trans T2) (cK O2 g)) (hs ov iv)
theorem xH{l:Option Expr}(h:∀e,l=some e->d5 prog w B C n e)(A:Around)(E:Value->Shared->Prop)(cw:Bool)(env:Env)(H:Kn)(G:GM)(J:St)(s:Shared)(Q:Option Int->St->Prop)(hA:Room n A)(hE:EnvOk env)(hκ:KOk H env)(O:Ok B w.params G env J s)
  (hw:wOp C l H Q J):wpAny (model prog w) A (PySem.evalPart l env) (Lands B w.params cw env G J s (λ_ st' v=>∃i,Q i st'/\∃t,v=partValue (i.map (·,t)))) E s:=by
 cases l with
 |none=>
  rw[evalPart_none]
  exact wpAny_pure (aL O ⟨none,hw,s.toks,rfl⟩)
 |some e=>
  rw[evalPart_some]
  refine zcT (h e rfl A E cw env H G J s _ hA hE hκ O hw) λv G' st'=>x1 λp=>a2 λhq hv=>?_
  obtain⟨i,rfl,hq⟩:=dH hq
  simp only[VRel]at hv
  obtain⟨t,rfl⟩:=hv
  exact⟨some i,hq.2.2,t,rfl⟩
theorem zhs{A:Around}{E:Value->Shared->Prop}{G:GM}{s:Shared}{v vl vu:Value}{y:PV}{q:Addr}{lo hi:Option Int}{K:PV->Prop}(hi':InH G s.heap)(hv:lP w.params G s.heap v y)
  (hs:s.heap.get? q=some {cls:=.type "slice",data:=.fields #[vl,vu,.none]}) (hl:∃t,vl=partValue (lo.map (·,t))) (hu:∃t,vu=partValue (hi.map (·,t))) (h:zhu y lo hi K):
  ∃T ci,s.TypeIs v T/\typeLookup (.type T) "__getitem__"=pure (some (.builtin ci))/\GW (model prog w) A w.params E G s (getItem v (.ref q)) K:=by
 cases y<;>first |exact bq h|skip
 ·rename_i y
  exact ex2 ("str") _ ⟨(pC (P:=w.params) (G:=G) hv).1,PySem.F.slot_str_getitem.lookup,iG (sl:=.none) (lo:=lo) (hi:=hi) (r:=.str (slc y lo hi)) hi' hv hs hl hu rfl h⟩
 ·rename_i y
  have t3:=iG (prog:=prog) (w:=w) (A:=A) (E:=E) (K:=K) (sl:=.none) (lo:=lo) (hi:=hi) (r:=.list (slc y lo hi)) hi' hv hs hl hu rfl h
  refine x4 (λa ob vs m=>a4 λzr4 h1 h2 _=>?_) hv;subst zr4
  exact ex2 ("list") _ ⟨⟨ob,h1,h2⟩,PySem.F.slot_list_getitem.lookup,t3⟩
theorem zbE{o:Expr}{l u:Option Expr}{sp p:Pos}(ho:d5 prog w B C n o)(hl:∀e,l=some e->d5 prog w B C n e)(hu:∀e,u=some e->d5 prog w B C n e):
  d5 prog w B C n (.Subscript o (.Slice l u none sp) p):=by
 intro A E cw env H G J s Q hA hE hκ O hw
 rw[zi0]at hw
 refine Subscript_ (aJ (ho A E cw env H G J s _ hA hE hκ O hw) λov G1 st1 s1=>x1 λx=>a2 λhq hv O1 T1=>?_)
 refine PySem.wpAny_Slice (aJ (xH hl A E cw env H G1 st1 s1 _ hA hE hκ O1 hq.2) λlv G2 st2 s2=>x1 λlo=>a2 λhq2 hlv O2 T2=>?_)
 refine aJ (xH hu A E cw env H G2 st2 s2 _ hA hE hκ O2 hq2) λuv G3 st3 s3=>x1 λhi=>a2 λhq3 huv O3 T3=>?_
 refine wpAny_pure ?_
 have g:GS G3 s3 G3 {s3 with heap:=s3.heap.push {cls:=.type "slice",data:=.fields #[lv,uv,.none]}}:=GS.heap O3.rep.inh s3.toks λa o e=>di _ e
 have O4:=O3.grow g O3.rep.tk
 have hv4:=O4.rep.view (hv.mono (T2.ext.trans T3.ext))
 have hat:(s3.heap.push {cls:=.type "slice",data:=.fields #[lv,uv,.none]}).get? s3.heap.objs.size=some {cls:=.type "slice",data:=.fields #[lv,uv,.none]}:=dc _ rfl
 refine x2 (λT ci=>a3 λt1 t2 t3=>?_) (zhs (prog:=prog) (A:=A) (E:=E) O4.rep.inh hv4 hat hlv huv hq3)
 exact tail_any (ops:=[.ref s3.heap.objs.size,ov]) t1 t2 (aT (T1.trans (T2.trans (T3.trans g.tr))) (cK O4 t3)) rfl
theorem zW{A:Around}{E:Value->Shared->Prop}{cw:Bool}{env:Env}{G:GM}{J:St}{s:Shared}{pos:Pos}{vs:List Value}{ps:List PV}{Q:PV->St->Prop}(O:Ok B w.params G env J s)(hv:VRels w.params G vs ps)(hz:vs.length<=bU)
  (h:eI C pos ps Q J):wpAny (model prog w) A (newList vs) (Lands B w.params cw env G J s (VX w.params Q)) E s:=by
 unfold eI at h
 by_cases q:C.mutL pos.line=true
 ·rw[if_pos q]at h
  refine a4 (λh1 h2 h3 h4=>?_) (O.rep.newCell (cw:=cw) O.ct hv hz (k:=s.toks) O.rep.tk)
  refine wpAny_newObj_type ⟨G,_,⟨.ptr s.heap.objs.size,h _ h1,by simp[VRel]⟩,⟨O.over,h2,h3⟩,h4⟩ (by show vs.toArray.size<=sizeLine;rw[ir];exact hz)
 ·rw[if_neg q]at h
  exact cK O (zce O.rep.inh hv hz h)
theorem uD:∀(es:List Expr) {H:Kn}{Q:List PV->St->Prop}{J:St},CtxMono C->wEs C es H Q J->wEs C es H (λps st'=>ps.length=es.length/\Q ps st') J
 |[]=>λ_ h=>⟨rfl,h⟩
 |e ::es=>λhM h=>bG hM e (λv st1 h1=>dB hM es (λps st2 h2=>⟨congrArg Nat.succ h2.1,h2.2⟩) (uD es hM h1)) h
theorem zeo{es:List Expr}{p:Pos}(hM:CtxMono C)(h:∀e∈es,d5 prog w B C n e)(hs:es.all eB=true)(hz:es.length<=1000):d5 prog w B C n (.List es p):=by
 intro A E cw env H G J s Q hA hE hκ O hw
 rw[arm_eval_List]
 refine wpAny_bind (wpAny_standAt (wpAny_bind (aJ (gU es h hs A E cw env H G J s _ hA hE hκ O (uD es hM hw)) λvs G1 st1 s1 ⟨ps,⟨hl,hq⟩,hv⟩ O1 T1=>?_)))
 exact aT T1 (zW O1 hv (by rw[hv.length,hl];unfold bU;omega) hq)
theorem zbD{es:List Expr}{x:Nat}{p:Pos}(hM:CtxMono C)(h:∀e∈es,d5 prog w B C n e)(hs:es.all eB=true)(hz:es.length<=1000):d5 prog w B C n (.Tuple es x p):=by
 intro A E cw env H G J s Q hA hE hκ O hw
 rw[arm_eval_Tuple]
 refine wpAny_bind (wpAny_standAt (wpAny_bind (aJ (gU es h hs A E cw env H G J s _ hA hE hκ O (uD es hM hw)) λvs G1 st1 s1 ⟨ps,⟨hl,hq⟩,hv⟩ O1 T1=>?_)))
 exact aT T1 (cK O1 (zV O1.rep.inh hv (by rw[hv.length,hl];unfold bU;omega) hq))
end
structure Itr (prog:Program) (w:World) (A:Around) (P:Params) (I:Addr) (G:GM) (items:List PV) (Ws:Nat->Heap->Prop):Prop where
 frame:∀i h h',Ws i h->(∀o,h.get? I=some o->h'.get? I=some o)->InH G h'->Ws i h'
 item:∀i p (s:Shared) (Q:Option Value->Shared->Prop) (E:Value->Shared->Prop),items[i]?=some p->Ws i s.heap->
  (∀v h' tk,VRel P G v p->Ws (i+1) h'->(∀b o,b≠I->s.heap.get? b=some o->h'.get? b=some o)->
   (∀(target:Expr) (E':Value->Shared->Prop) (Q':Unit->Shared->Prop),Q' () {s with heap:=h',toks:=tk}->wpAny (model prog w) A (letOwnedTupleGo target (.ref I) v) Q' E' {s with heap:=h',toks:=tk})->
   Q (some v) {s with heap:=h',toks:=tk})->wpAny (model prog w) A (pyNext (.ref I)) Q E s
 done:∀(s:Shared) (Q:Option Value->Shared->Prop) (E:Value->Shared->Prop),Ws items.length s.heap->
  (∀h' tk,(∀b o,b≠I->s.heap.get? b=some o->h'.get? b=some o)->Q none {s with heap:=h',toks:=tk})->wpAny (model prog w) A (pyNext (.ref I)) Q E s
 alive:∀i h,Ws i h->∃o,h.get? I=some o
 self:∀i (s:Shared) (Q:Value->Shared->Prop) (E:Value->Shared->Prop),Ws i s.heap->Q (.ref I) s->wpAny (model prog w) A (pyIter (.ref I)) Q E s
section
variable {prog:Program}{w:World}{A:Around}{E:Value->Shared->Prop}{s:Shared}{G:GM}{P:Params}
theorem m0{target:Expr}{I:Addr}{v:Value}{Q:Unit->Shared->Prop}(hv:∀a,v≠.ref a)(h:Q () s):wpAny (model prog w) A (letOwnedTupleGo target (.ref I) v) Q E s:=by
 have:letOwnedTupleGo target (.ref I) v=pure ():=by cases target<;>first |rfl|(cases v<;>first |rfl|exact absurd rfl (hv _))
 rw[this];exact wpAny_pure h
theorem eW{h:Heap}:h.get? h.objs.size=none:=by
 cases e:h.get? h.objs.size with
 |none=>rfl
 |some o=>exact absurd (dy e) (em _)
theorem zfb(hh:A.handled=none){I ax:Addr}{vs:Array Value}{items:List PV}(hne:ax≠I)(hl:∀h,InH G h->h.IsList ax vs)(hr:VRels P G vs.toList items):
  Itr prog w A P I G items (λi h=>h.IsListIter I ax i/\h.IsList ax vs):=by
 have W:=Walks.list (prog:=prog) (w:=w) hh I ax hne vs
 have hlen:=hr.length
 simp only[cn]at hlen
 refine⟨λi h h' J hk hi=>⟨J.1.at λo e=>hk o e,hl h' hi⟩,λi p s Q E hp J hQ=>?_,λs Q E J hQ=>?_,λi h J=>let⟨o,ho,_⟩:=J.1;⟨o,ho⟩,λi s Q E J hQ=>W.self i s Q E J hQ⟩
 ·have hi:i<items.length:=(dg.mp hp).1
  refine W.item i s Q E (by omega) J λv h' tk hv st' hk=>?_
  refine x1 (λq=>a2 λhq hvq=>?_) (hr.get' (i:=i) (v:=v) (by simpa using hv))
  rw[hp]at hq;(have zq:=Option.some.inj hq;subst zq)
  exact hQ v h' tk hvq st' (λb o hb e=>hk b o (by simpa using hb) e) λtarget E' Q' hq=>letGo_listiter st'.1 hq
 ·exact W.done s Q E (by rw[hlen];exact J) λh' tk hk=>hQ h' tk λb o hb e=>hk b o (by simpa using hb) e
theorem zcY{I:Addr}{x:List Nat}{St:Nat->Heap->Prop}(W:Walks prog w A I [I] [I] x.length (SignAt ⟨x.toArray⟩) St)(al:∀i h,St i h->∃o,h.get? I=some o)(ok:okStr x):
  Itr prog w A P I G (x.map λc=>.str [c]) St:=by
 refine⟨λi h h' J hk hi=>W.frame i h h' J λb hb o e=>by simp only[be]at hb;subst hb;exact hk o e,λi p s Q E hp J hQ=>?_,λs Q E J hQ=>?_,al,λi s Q E J hQ=>W.self i s Q E J hQ⟩
 ·rw[fj,de]at hp
  obtain⟨c,hc,rfl⟩:=hp
  refine W.item i s Q E (dg.mp hc).1 J λv h' tk hv st' hk=>?_
  obtain⟨d,u,hd,rfl⟩:=hv
  have:d=c:=by
   have hd':x[i]?=some d:=by simpa using hd
   rw[hc]at hd';(have zq:=Option.some.inj hd';subst zq);rfl
  subst this
  refine hQ _ h' tk ?_ st' (λb o hb e=>hk b o (by simpa using hb) e) λtarget E' Q' hq=>m0 (λa e=>by cases e) hq
  simp only[VRel]
  exact⟨u,rfl,pZ (ok.1 d (fi hc))⟩
 ·exact W.done s Q E (by simpa using J) λh' tk hk=>hQ h' tk λb o hb e=>hk b o (by simpa using hb) e
theorem zcZ(hh:A.handled=none){I:Addr}{lo hi:Int}:
  Itr prog w A P I G ((fh (hi - lo).toNat).map λ(k:Nat)=>.int (lo+k)) (λi h=>IsRangeIter h I (lo+(i:Nat)*1) (((hi - lo).toNat:Int) - (i:Nat)) 1):=by
 have W:=Walks.range (prog:=prog) (w:=w) hh I lo 1 (hi - lo).toNat
 refine⟨λi h h' J hk hi=>W.frame i h h' J λb hb o e=>by simp only[be]at hb;subst hb;exact hk o e,λi p s Q E hp J hQ=>?_,λs Q E J hQ=>?_,λi h J=>⟨_,J⟩,λi s Q E J hQ=>W.self i s Q E J hQ⟩
 ·rw[fj,de]at hp
  obtain⟨c,hc,rfl⟩:=hp
  have hlt:=(dg.mp hc).1
  replace hlt:=iw▸hlt
  have:c=i:=by replace hc:=(List.getElem?_range hlt)▸hc;(have zq:=Option.some.inj hc;subst zq);rfl
  subst this
  refine W.item c s Q E hlt J λv h' tk hv st' hk=>?_
  obtain⟨u,rfl⟩:=hv
  refine hQ _ h' tk ?_ st' (λb o hb e=>hk b o (by simpa using hb) e) λtarget E' Q' hq=>m0 (λa e=>by cases e) hq
  simp only[VRel]
  exact⟨u,by simp⟩
 ·exact W.done s Q E (by simpa using J) λh' tk hk=>hQ h' tk λb o hb e=>hk b o (by simpa using hb) e
theorem zgo(lo hj:Int):Builtin.Range.rangeSize lo hj 1=((hj - lo).toNat:Int):=by
 unfold Builtin.Range.rangeSize
 rw[if_pos (by decide)]
 split
 ·rename_i h;rw[Int.ediv_one,Int.sub_add_cancel];exact(Int.toNat_of_nonneg (Int.sub_nonneg_of_le (Int.le_of_lt h))).symm
 ·rename_i h;rw[Int.toNat_of_nonpos (Int.sub_nonpos_of_le (fk.mp h))];rfl
theorem zbS{lo hj:Int}(h:0<=lo/\lo<=16777216/\0<=hj/\hj<=16777216):Builtin.Range.small lo hj 1=true:=by
 have f:∀i:Int,0<=i->i<=16777216->Builtin.Range.rangeFitsLong i=true:=by
  intro i h0 h1
  unfold Builtin.Range.rangeFitsLong
  simp
  omega
 have e:0<=Builtin.Range.rangeSize lo hj 1/\Builtin.Range.rangeSize lo hj 1<=16777216:=by
  rw[zgo]
  exact⟨cg _,(ga (n:=16777216)).mpr (Int.toNat_le.mpr (Int.le_trans (Int.sub_le_self hj h.1) h.2.2.2))⟩
 simp only[Builtin.Range.small,dj,ey]
 refine⟨⟨⟨⟨f _ h.1 h.2.1,f _ h.2.2.1 h.2.2.2⟩,f _ (by omega) (by omega)⟩,f _ e.1 e.2⟩,.inr ?_⟩
 rw[if_pos (by decide)]
 exact f _ (by omega) (by omega)
theorem zhW{v:Value}{p:PV}{items:List PV}{Q:Value->Shared->Prop}(hi:InH G s.heap)(hv:VRel P G v p)(e:lL p=some items)
  (h:∀I h' Ws,GS G s G {s with heap:=h'}->s.heap.get? I=none->I<h'.objs.size->(∀A',A'.handled=none->Itr prog w A' P I G items Ws)->Ws 0 h'->Q (.ref I) {s with heap:=h'}):
  wpAny (model prog w) A (pyIter v) Q E s:=by
 have push:∀o:Obj,GS G s G {s with heap:=s.heap.push o}/\s.heap.get? s.heap.objs.size=none/\s.heap.objs.size<(s.heap.push o).objs.size:=λo=>
  ⟨GS.heap hi s.toks λa o' e=>di _ e,eW,by rw[jk];omega⟩
 cases p<;>first |(cases e;done)|skip
 all_goals(have zq:=Option.some.inj e;subst zq)
 ·rename_i x
  simp only[VRel]at hv
  refine x1 (λt=>a2 λzr1 ok=>?_) hv;subst zr1
  cases ha:(⟨x.toArray⟩:Str).cps.all (· <128)
  ·refine wpAny_pyIter_wide ha ?_
   refine a3 (λp1 p2 p3=>?_) (push {cls:=.type "str_iterator",data:=.fields #[.str ⟨x.toArray⟩ t,.int 0 0]})
   exact h _ _ _ p1 p2 p3 (λA' hA=>zcY (St:=λi h=>h.IsStrIter s.heap.objs.size "str_iterator" ⟨x.toArray⟩ t i) (by simpa using Walks.strWide hA _ ⟨x.toArray⟩ t) (λi h J=>let⟨o,ho,_⟩:=J;⟨o,ho⟩) ok) ⟨_,dc _ rfl,rfl,rfl⟩
  ·refine wpAny_pyIter_ascii ha ?_
   refine a3 (λp1 p2 p3=>?_) (push {cls:=.type "str_ascii_iterator",data:=.fields #[.str ⟨x.toArray⟩ t,.int 0 0]})
   exact h _ _ _ p1 p2 p3 (λA' hA=>zcY (St:=λi h=>h.IsStrIter s.heap.objs.size "str_ascii_iterator" ⟨x.toArray⟩ t i) (by simpa using Walks.strAscii hA _ ⟨x.toArray⟩ t) (λi h J=>let⟨o,ho,_⟩:=J;⟨o,ho⟩) ok) ⟨_,dc _ rfl,rfl,rfl⟩
 ·simp only[VRel]at hv
  obtain⟨ax,⟨c,d,dt,sl⟩,vs,m,rfl,h1,h2,h3,h4,h5,h6⟩:=hv
  simp only at h2 h3 h4;subst h2 h3 h4
  have hl:∀h,InH G h->h.IsList ax vs:=λh ih=>⟨_,ih.at_ _ _ h1,rfl,m,rfl⟩
  have hne:ax≠s.heap.objs.size:=λq=>by have:=hi.at_ _ _ h1;(replace this:=q▸this;replace this:=eW▸this);cases this
  refine wpAny_pyIter_list (hl _ hi) ?_
  refine a3 (λp1 p2 p3=>?_) (push {cls:=.type "list_iterator",data:=.fields #[.ref ax,.int 0 0]})
  exact h _ _ _ p1 p2 p3 (λA' hA=>zfb hA hne hl h6) ⟨⟨_,dc _ rfl,rfl,rfl⟩,hl _ p1.inh⟩
 ·rename_i lo hj
  simp only[VRel]at hv
  refine x4 (λr t u z=>a3 λzr4 h1 h2=>?_) hv;subst zr4
  refine wpAny_pyIter_range (hi.at_ _ _ h1) (zbS h2) ?_
  refine a3 (λp1 p2 p3=>?_) (push {cls:=.type "range_iterator",data:=.fields #[rawInt lo,rawInt (Builtin.Range.rangeSize lo hj 1),rawInt 1]})
  refine h _ _ _ p1 p2 p3 (λA' hA=>zcZ hA) ?_
  have e1:Builtin.Range.rangeSize lo hj 1=((hj - lo).toNat:Int):=zgo lo hj
  have e2:rawInt (lo+((0:Nat):Int)*1)=rawInt lo:=by simp
  have e3:rawInt (((hj - lo).toNat:Int) - ((0:Nat):Int))=rawInt (Builtin.Range.rangeSize lo hj 1):=by rw[e1];simp
  refine(?_:Heap.get? _ _=_)
  rw[e2,e3]
  exact dc _ rfl
end
section
variable {prog:Program}{w:World}{A:Around}{E:Value->Shared->Prop}{s:Shared}{G:GM}{P:Params}{env:Env}{J:St}{cw:Bool}{B:Bs}
theorem Rep.storeLocal(R:Rep P G env J s){x:Str}{p:PV}{v:Value}{m:Str->Option Value}{h':Heap}{k:Nat}(hl:env.kindOf x=some .local)(hv:VRel P G v p)
  (hx:∀y q,J.ρ y=some q->env.kindOf y=some .local->∃u,m y=some u/\VRel P G u q)
  (hn:h'.Ns env.locals (λy=>if y=x then some v else m y)) (hs:Heap.SameBut env.locals s.heap h') (hk:1<=k):
  Rep P G env ⟨upd J.ρ x p,J.σ⟩ {s with heap:=h',toks:=k} where
 inh:=R.inh.but (λb o h e=>(hs.2 b h).trans e) R.gl R.lx
 tk:=hk
 ns:=⟨_,hn,λy q e hy=>by
  simp only[upd]at e
  by_cases q1:y=x
  ·rw[if_pos q1]at e;(have zq:=Option.some.inj e;subst zq)
   exact⟨v,by rw[if_pos q1],hv⟩
  ·rw[if_neg q1]at e
   refine x1 (λu=>a2 λh1 h2=>?_) (hx y q e hy)
   exact⟨u,by rw[if_neg q1];exact h1,h2⟩⟩
 kind:=λy q e=>by
  simp only[upd]at e
  by_cases q1:y=x
  ·subst q1;exact .inl hl
  ·rw[if_neg q1]at e;exact R.kind y q e
 cel:=λy q e hy=>by
  simp only[upd]at e
  by_cases q1:y=x
  ·subst q1;exact absurd hl hy
  ·rw[if_neg q1]at e
   refine x2 (λc u=>a3 λh1 h2 h3=>?_) (R.cel y q e hy)
   exact ex2 c u ⟨h1,h2.sameBut hs (R.gc y c h1).2,h3⟩
 cell0:=λy e=>by
  refine x2 (λc u=>a2 λh1 h2=>?_) (R.cell0 y e)
  exact ex2 c u ⟨h1,h2.sameBut hs (R.gc y c h1).2⟩
 gl:=R.gl
 gc:=R.gc
 cinj:=R.cinj
 cells:=λa c e=>by
  refine a4 (λh1 h2 h3 h4=>?_) (R.cells a c e)
  refine⟨?_,h2,h3,h4⟩
  exact h1.mono (.refl _) λo ho=>(hs.2 a h3).trans ho
theorem Ok.storeLocal(O:Ok B P G env J s){x:Str}{p:PV}{v:Value}{m:Str->Option Value}{h':Heap}{k:Nat}(hl:env.kindOf x=some .local)(hv:VRel P G v p)
  (hx:∀y q,J.ρ y=some q->env.kindOf y=some .local->∃u,m y=some u/\VRel P G u q) (hm:s.heap.Ns env.locals m)
  (hn:h'.Ns env.locals (λy=>if y=x then some v else m y)) (hs:Heap.SameBut env.locals s.heap h') (hk:1<=k):
  Ok B P G env ⟨upd J.ρ x p,J.σ⟩ {s with heap:=h',toks:=k}/\Tr cw env G J s G ⟨upd J.ρ x p,J.σ⟩ {s with heap:=h',toks:=k}:=by
 have al:(h'.get? env.locals).isSome=true:=by obtain⟨o,_,_,h1,_⟩:=hn;rw[h1];rfl
 refine⟨⟨O.over,O.rep.storeLocal hl hv hx hn hs hk,O.ct.same hs al⟩,⟨.refl _,λ_ _ e=>.inl e,λa o _ e h1 _ _=>(hs.2 a h1).trans e,λa e=>?_,λ_ e=>e,λ_ e=>.inl e,rfl,λe=>e⟩⟩
 by_cases q:a=env.locals
 ·subst q;exact al
 ·refine(?_:(h'.get? a).isSome=true)
  rw[hs.2 a q];exact e
theorem Rep.storeCell(R:Rep P G env J s){x:Str}{p:PV}{v:Value}{c:Addr}{h':Heap}{k:Nat}(hl:env.kindOf x=some .cell)(hc:env.cells.lookup x=some c)(hv:VRel P G v p)
  (hn:h'.IsCell c (some v)) (hs:Heap.SameBut c s.heap h') (hk:1<=k):
  Rep P G env ⟨upd J.ρ x p,J.σ⟩ {s with heap:=h',toks:=k} where
 inh:=R.inh.but (λb o h e=>(hs.2 b h).trans e) (R.gc x c hc).1 (R.cx hl hc)
 tk:=hk
 ns:=by
  refine x1 (λm=>a2 λh1 h2=>?_) R.ns
  refine⟨m,h1.sameBut hs (Ne.symm (R.gc x c hc).2),λy q e hy=>?_⟩
  simp only[upd]at e
  by_cases q1:y=x
  ·subst q1;replace hy:=hl▸hy;(exfalso;cases hy)
  ·replace e:=(if_neg q1)▸e;exact h2 y q e hy
 kind:=λy q e=>by
  simp only[upd]at e
  by_cases q1:y=x
  ·subst q1;exact .inr (.inl hl)
  ·replace e:=(if_neg q1)▸e;exact R.kind y q e
 cel:=λy q e hy=>by
  simp only[upd]at e
  by_cases q1:y=x
  ·subst q1;replace e:=(if_pos rfl)▸e;(have zq:=Option.some.inj e;subst zq)
   exact ex2 c v ⟨hc,hn,hv⟩
  ·replace e:=(if_neg q1)▸e
   refine x2 (λd u=>a3 λh1 h2 h3=>?_) (R.cel y q e hy)
   exact ex2 d u ⟨h1,h2.sameBut hs λq2=>q1 (R.cinj y x c (q2▸h1) hc),h3⟩
 cell0:=λy e=>by
  by_cases q1:y=x
  ·subst q1;exact ex2 c (some v) ⟨hc,hn⟩
  ·refine x2 (λd u=>a2 λh1 h2=>?_) (R.cell0 y e)
   exact ex2 d u ⟨h1,h2.sameBut hs λq2=>q1 (R.cinj y x c (q2▸h1) hc)⟩
 gl:=R.gl
 gc:=R.gc
 cinj:=R.cinj
 cells:=λa d e=>by
  refine a4 (λh1 h2 h3 h4=>?_) (R.cells a d e)
  refine⟨?_,h2,h3,h4⟩
  exact h1.mono (.refl _) λo ho=>(hs.2 a λq=>h4 x (q▸hc)).trans ho
theorem Ok.storeCell(O:Ok B P G env J s){x:Str}{p:PV}{v:Value}{c:Addr}{h':Heap}{k:Nat}(hl:env.kindOf x=some .cell)(hc:env.cells.lookup x=some c)(hv:VRel P G v p)
  (hn:h'.IsCell c (some v)) (hs:Heap.SameBut c s.heap h') (hk:1<=k):
  Ok B P G env ⟨upd J.ρ x p,J.σ⟩ {s with heap:=h',toks:=k}/\Tr true env G J s G ⟨upd J.ρ x p,J.σ⟩ {s with heap:=h',toks:=k}:=by
 have al:(h'.get? c).isSome=true:=by obtain⟨o,h1,_⟩:=hn;rw[h1];rfl
 refine⟨⟨O.over,O.rep.storeCell hl hc hv hn hs hk,O.ct.same hs al⟩,⟨.refl _,λ_ _ e=>.inl e,λa o _ e h1 h2 _=>(hs.2 a λq=>h2 rfl x (q▸hc)).trans e,λa e=>?_,λ_ e=>e,λ_ e=>.inl e,rfl,λe=>e⟩⟩
 by_cases q:a=c
 ·subst q;exact al
 ·refine(?_:(h'.get? a).isSome=true)
  rw[hs.2 a q];exact e
noncomputable def ziT(cw:Bool)(env:Env)(x:Str):Prop:=env.kindOf x=some .local\/(cw=true/\env.kindOf x=some .cell)
theorem pF{x:Str}{p:PV}{v:Value}(hE:EnvOk env)(O:Ok B P G env J s)(hx:ziT cw env x)(hv:VRel P G v p):
  wpAny (model prog w) A (storeName env x v) (Lands B P cw env G J s (λ_ st' _=>st'=⟨upd J.ρ x p,J.σ⟩)) E s:=by
 have hp:(env.scope.kind==.class||(env.scope.kind==.module&&env.locals !=env.globals))=false:=by rw[hE.kind];rfl
 rcases hx with hl|⟨rfl,hl⟩
 ·refine x1 (λm=>a2 λh1 h2=>?_) O.rep.ns
  refine wpAny_storeName_local hl h1 (λh' hn hs=>?_) hp
  refine a2 (λO' T'=>?_) (O.storeLocal (cw:=cw) (k:=s.toks+1) hl hv h2 h1 hn hs (by omega))
  exact ex2 G _ ⟨rfl,O',T'⟩
 ·refine x2 (λc u=>a2 λh1 h2=>?_) (O.rep.cell0 x hl)
  refine wpAny_storeName_cell hE.kind hl h1 h2 λh' hn hs=>?_
  refine a2 (λO' T'=>?_) (O.storeCell (k:=s.toks) hl h1 hv hn hs O.rep.tk)
  exact ex2 G _ ⟨rfl,O',T'⟩
theorem sF{vs:List PV}{ρ ρ':fD}(h:dS [] vs ρ=some ρ'):vs=[]/\ρ'=ρ:=by
 cases vs with
 |nil=>(have zq:=Option.some.inj h;subst zq);exact⟨rfl,rfl⟩
 |cons v vs=>cases h
theorem oN{e:Expr}{es:List Expr}{vs:List PV}{ρ ρ':fD}(h:dS (e ::es) vs ρ=some ρ'):∃x px v us,e=.Name x px/\vs=v ::us/\dS es us (upd ρ x v)=some ρ':=by
 refine x1 (λx=>a2 λhx h=>?_) (cu.mp h)
 refine x1 (λpx zr1=>?_) (iX hx);subst zr1
 cases vs with
 |nil=>(exfalso;cases h)
 |cons v us=>exact ex4 x px v us ⟨rfl,rfl,h⟩
theorem yX(hE:EnvOk env):∀(es:List Expr) (ps:List PV) (vs:List Value) (ρ':fD) (G:GM) (J:St) (s:Shared),Ok B P G env J s->(∀x∈es.filterMap nmE,ziT cw env x)->VRels P G vs ps->
  dS es ps J.ρ=some ρ'->wpAny (model prog w) A (assignInOrder ((assignEach es env).map (·.2)) vs) (Lands B P cw env G J s (λ_ st' _=>st'=⟨ρ',J.σ⟩)) E s
 |[]=>λps vs ρ' G J s O hx hr h=>by
  refine a2 (λzr0 zr1=>?_) (sF h);subst zr0;subst zr1
  subst hr
  exact wpAny_pure (aL O rfl)
 |e ::es=>λps vs ρ' G J s O hx hr h=>by
  refine x4 (λx px p ps=>a3 λzr4 zr5 h=>?_) (oN h);subst zr4;subst zr5
  refine x2 (λv us=>a3 λzr2 h1 h2=>?_) hr;subst zr2
  refine(?_:wpAny _ _ (do holding us (assign (.Name x px) env v);assignInOrder ((assignEach es env).map (·.2)) us) _ _ _)
  refine wpAny_bind (wpAny_holding (wpAny_assign_Name (aJ (pF (p:=p) hE O (hx x bk) h1) λ_ G1 st1 s1 e1 O1 T1=>?_)))
  subst e1
  exact aT T1 (yX hE es ps us ρ' G1 _ s1 O1 (λy hy=>hx y (bc _ hy)) (h2.mono T1.ext) h)
theorem jS(env:Env):∀(es:List Expr) (ps:List PV) (ρ ρ':fD),dS es ps ρ=some ρ'->(assignEach es env).length=ps.length/\(assignEach es env).findIdx? (·.1)=none
 |[]=>λps _ _ h=>by obtain⟨rfl,_⟩:=sF h;exact⟨rfl,rfl⟩
 |e ::es=>λps ρ ρ' h=>by
  refine x4 (λx px v us=>a3 λzr4 zr5 h=>?_) (oN h);subst zr4;subst zr5
  refine a2 (λh1 h2=>?_) (jS env es us _ _ h)
  refine⟨congrArg Nat.succ h1,?_⟩
  show((false,assign (.Name x px) env) ::assignEach es env).findIdx? (·.1)=none
  rw[List.findIdx?_cons,h2];rfl
theorem vV(hh:A.handled=none)(hE:EnvOk env){t:Expr}{p:PV}{v:Value}{ρ':fD}(O:Ok B P G env J s)(hx:∀x∈cZ t,ziT cw env x)(hv:VRel P G v p)(h:k0 t p J.ρ=some ρ'):
  wpAny (model prog w) A (assign t env v) (Lands B P cw env G J s (λ_ st' _=>st'=⟨ρ',J.σ⟩)) E s:=by
 unfold k0 at h
 unfold cZ at hx
 cases hn:nmE t with
 |some x=>
  rw[hn]at h hx
  refine x1 (λpx zr1=>?_) (iX hn);subst zr1
  have zq:=Option.some.inj h;subst zq
  exact wpAny_assign_Name (pF hE O (hx x bk) hv)
 |none=>
  rw[hn]at h hx
  refine x1 (λes=>a2 λhe hb=>?_) (cu.mp h)
  clear h
  refine x2 (λk ppos zr2=>?_) (rL he);subst zr2
  cases p<;>first |((exfalso;cases hb);done)|skip
  rename_i ps
  have h:dS es ps J.ρ=some ρ':=hb
  clear hb
  simp only[VRel]at hv
  obtain⟨a,⟨c,d,dt,sl⟩,vs,m,rfl,h1,h2,h3,h4,h5⟩:=hv
  simp only at h2 h3;subst h2 h3
  refine a2 (λl1 l2=>?_) (jS env es ps _ _ h)
  have l3:=h5.length
  replace l3:=cn▸l3
  refine wpAny_assign_Tuple hh ⟨_,O.rep.inh.at_ _ _ h1,rfl,m,rfl⟩ (by rw[l1,l3]) l2 λh' hx'=>?_
  have g:GS G s G {s with heap:=h'}:=GS.heap O.rep.inh s.toks λa o e=>hx' a o (λq=>by(replace e:=q▸e;replace e:=eW▸e);(exfalso;cases e)) e
  exact aT g.tr (yX hE es ps vs.toList ρ' G J _ (O.grow g O.rep.tk) hx h5 h)
end
theorem mem_of_lookup{α:Type}:∀{l:List (Str×α)}{x:Str}{a:α},gy x l=some a->(x,a)∈l
 |[],_,_,h=>by simp at h
 |(n,k) ::r,x,a,h=>by
  rw[cy]at h
  cases hx:x==n with
  |true=>replace h:=hx▸h;(have zq:=Option.some.inj h;subst zq);have:=beq_iff_eq.mp hx;subst this;simp
  |false=>replace h:=hx▸h;exact bc _ (mem_of_lookup h)
theorem u0{h:Heap}{a:Addr}(e:h.objs.size<=a):h.get? a=none:=by
 cases q:h.get? a with
 |none=>rfl
 |some o=>exact absurd (dy q) (gv.mpr e)
noncomputable def TE(prog:Program)(w:World)(A:Around)(R:Result->Shared->Prop)(env:Env):=notedBy (model prog w) A env λe s'=>R (.error e) s'
structure Fr (G:GM) (σ:Nat->Option Cell) (s:Shared) (G':GM) (σ':Nat->Option Cell) (s':Shared):Prop where
 ext:Sub G G'
 new:∀a o,G' a=some o->G a=some o\/s.heap.get? a=none
 keep:∀a o,¬XS a->s.heap.get? a=some o->σ a=none->s'.heap.get? a=some o
 alive:∀a,(s.heap.get? a).isSome=true->(s'.heap.get? a).isSome=true
 dom:∀a,(σ a).isSome=true->(σ' a).isSome=true
 fresh:∀a,(σ' a).isSome=true->(σ a).isSome=true\/s.heap.get? a=none
 os:s'.os=s.os
 gens:AllBare s.gens->AllBare s'.gens
section
variable {P:Params}{G G' G'':GM}{env cenv:Env}{J st' st'':St}{s s' s'':Shared}{cw:Bool}{σ σ' σ'':Nat->Option Cell}{B:Bs}{ρ:fD}
theorem Fr.tr{ρ ρ':fD}(F:Fr G σ s G' σ' s'):Tr cw env G ⟨ρ,σ⟩ s G' ⟨ρ',σ'⟩ s':=⟨F.ext,F.new,λa o n e _ _ h=>F.keep a o n e h,F.alive,F.dom,F.fresh,F.os,F.gens⟩
theorem sE{a:Addr}(k:(s.heap.get? a).isSome=true->(s'.heap.get? a).isSome=true)(h:s'.heap.get? a=none):s.heap.get? a=none:=by
 cases e:s.heap.get? a with
 |none=>rfl
 |some o=>have:=k (by rw[e];rfl);replace this:=h▸this;cases this
theorem Ok.at1{ρ:fD}(O:Ok B P G env ⟨ρ,σ⟩ s){I:Addr}(h1:G I=none)(h2:σ I=none)(h3:I≠env.locals)(h4:∀x,env.cells.lookup x≠some I)(h5:¬XS I){h':Heap}{k:Nat}(hk:1<=k)
  (kp:∀b o,b≠I->s.heap.get? b=some o->h'.get? b=some o):Ok B P G env ⟨ρ,σ⟩ {s with heap:=h',toks:=k}:=by
 have R:=O.rep
 refine x1 (λm=>a2 λhn hx=>?_) R.ns
 refine⟨O.over,⟨R.inh.but kp h1 h5,hk,⟨m,hn.at' λo e=>kp _ o (Ne.symm h3) e,hx⟩,R.kind,?_,?_,R.gl,R.gc,R.cinj,?_⟩,?_⟩
 ·intro x p e hk
  refine x2 (λc v=>a3 λg1 g2 g3=>?_) (R.cel x p e hk)
  exact ex2 c v ⟨g1,dY g2 λo e=>kp c o (λq=>h4 x (q▸g1)) e,g3⟩
 ·intro x e
  refine x2 (λc v=>a2 λg1 g2=>?_) (R.cell0 x e)
  exact ex2 c v ⟨g1,dY g2 λo e=>kp c o (λq=>h4 x (q▸g1)) e⟩
 ·intro a c e
  refine a3 (λg1 g2 g3=>?_) (R.cells a c e)
  exact⟨g1.mono (.refl _) λo ho=>kp a o (λq=>by rw[q]at e;dsimp only at e;rw[h2]at e;cases e) ho,g2,g3⟩
 ·intro x c e
  refine x1 (λo ho=>?_) (O.ct x c e)
  exact⟨o,kp c o (λq=>h4 x (q▸e)) ho⟩
theorem Ok.g0(O:Ok B P G env ⟨ρ,σ⟩ s){a:Addr}(h:s.heap.get? a=none):G a=none:=by
 cases e:G a with
 |none=>rfl
 |some o=>have:=O.rep.inh.at_ a o e;replace this:=h▸this;cases this
theorem Ok.s0(O:Ok B P G env ⟨ρ,σ⟩ s){a:Addr}(h:s.heap.get? a=none):σ a=none:=by
 cases e:σ a with
 |none=>rfl
 |some c=>obtain⟨o,ho⟩:=(O.rep.cells a c e).1.alive;replace ho:=h▸ho;cases ho
theorem Ok.c0(O:Ok B P G env ⟨ρ,σ⟩ s){a:Addr}(h:s.heap.get? a=none):∀x,env.cells.lookup x≠some a:=λx e=>by
 obtain⟨o,ho⟩:=O.ct x a e;replace ho:=h▸ho;cases ho
theorem Ok.l0(O:Ok B P G env ⟨ρ,σ⟩ s){a:Addr}(h:s.heap.get? a=none):a≠env.locals:=λe=>by
 obtain⟨m,⟨o,_,_,h1,_⟩,_⟩:=O.rep.ns;(replace h1:=e.symm▸h1;replace h1:=h▸h1);cases h1
theorem zhj{cenv:Env}{G G':GM}{J st':St}{s s':Shared}{cw:Bool}(T:Tr cw cenv G J s G' st' s'){a:Addr}{o:Obj}(h:s.heap.get? a=some o)(g:G a=none):G' a=none:=by
 cases e:G' a with
 |none=>rfl
 |some o'=>
  rcases T.new a o' e with q|q
  ·replace q:=g▸q;cases q
  ·replace q:=h▸q;cases q
theorem zbh{cenv:Env}{G G':GM}{J st':St}{s s':Shared}{cw:Bool}(T:Tr cw cenv G J s G' st' s'){a:Addr}{o:Obj}(h:s.heap.get? a=some o)(g:J.σ a=none):st'.σ a=none:=by
 cases e:st'.σ a with
 |none=>rfl
 |some c=>
  rcases T.fresh a (by rw[e];rfl)with q|q
  ·replace q:=g▸q;cases q
  ·replace q:=h▸q;cases q
end
noncomputable def zhK(e:Expr):Bool:=Expr.casesOn (motive_1:=λ_=>Bool) e (λ_ _ _=>true) (λ_ _ _=>true) (λ_ _ _ _=>true) (λ_ _ _=>true) (λ_ _ _ _=>true) (λ_ _ _ _=>true) (λ_ _ _=>true) (λ_ _ _=>false) (λ_ _ _ _=>true) (λ_ _ _ _=>true) (λ_ _ _ _ _=>true) (λ_ _ _ _=>true) (λ_ _=>true) (λ_ _=>true) (λ_ _=>true) (λ_ _ _ _=>true) (λ_ _ _ _=>true) (λ_ _ _ _=>true) (λ_ _=>true) (λ_ _ _=>true) (λ_ _ _=>true) (λ_ _ _=>true) (λ_ _=>true) (λ_ _=>true) (λ_ _=>true) (λ_ _ _=>true) (λ_ _ _ _=>true)
theorem zde{e:Expr}(h:zhK e=true)(env:Env)(x:Value):foldedSetIterable e env x=pure x:=by
 cases e<;>first |rfl|(exfalso;cases h)
noncomputable def okN(x:Str):Bool:=!(x==("__debug__":Str))&&!(x==("__classdict__":Str))
noncomputable def zg6(f:Expr)(p:Pos):Bool:=exc true (λ_=>true) (λ_=>true) (λ_=>true) (λ_ _ ap=>ap.endLine==p.line) (λ_ _=>true) (λ_ _=>true) f
mutual
noncomputable def okE:Expr->Bool
 |.Constant c _ _=>okC c
 |.Name x _=>okN x
 |.BoolOp _ vs _=>zeN vs&&!vs.isEmpty
 |.BinOp l _ r _=>okE l&&okE r
 |.UnaryOp _ x _=>okE x
 |.IfExp t b o _=>okE t&&(okE b&&okE o)
 |.Compare l ops cs _=>okE l&&(zeN cs&&((cs.length==ops.length)&&!(lastMarks ops cs)))
 |.Call f args _ p=>okE f&&(zeN args&&(args.all eB&&(decide (args.length<30)&&zg6 f p)))
 |.Attribute o _ _=>j9 o&&okE o
 |.Subscript o i _=>okE o&&okE i
 |.List es _=>zeN es&&(es.all eB&&decide (es.length<=1000))
 |.Tuple es _ _=>zeN es&&(es.all eB&&decide (es.length<=1000))
 |.Slice l u sp _=>sp.isNone&&(okO l&&okO u)
 |.FormattedValue e _ _ _=>okE e
 |.JoinedStr vs _=>zeN vs
 |.NamedExpr _ _ _=>true
 |.Lambda _ _ _ _=>true
 |.Dict _ _ _=>true
 |.Set _ _ _=>true
 |.ListComp _ _ _ _=>true
 |.SetComp _ _ _ _=>true
 |.DictComp _ _ _ _ _=>true
 |.GeneratorExp _ _ _ _=>true
 |.Await _ _=>true
 |.Yield _ _=>true
 |.YieldFrom _ _=>true
 |.Starred _ _=>true
noncomputable def okO:Option Expr->Bool
 |none=>true
 |some e=>okE e
noncomputable def zeN:List Expr->Bool
 |[]=>true
 |e ::es=>okE e&&zeN es
end
theorem zef{i:Expr}(h:xW i=false)(a b:Value):subscripted i false a b=operate [a,b] (getItem a b):=by
 cases i<;>first |(cases h;done)|rfl
section
variable {prog:Program}{w:World}{B:Bs}{C:Ctx}{n:Nat}
theorem bQ{a b:Bool}(h:(a&&b)=true):a=true/\b=true:=ag.mp h
theorem f7{b:Bool}(h:(!b)=true):b=false:=by cases b<;>first |rfl|cases h
noncomputable def zkA(prog:Program)(w:World)(B:Bs)(C:Ctx)(n:Nat)(e:Expr):Prop:=exc True (λ_=>True) (λ_=>True) (λ_=>True) (λo _ _=>j9 o=true/\d5 prog w B C n o) (λl u=>(∀e,l=some e->d5 prog w B C n e)/\∀e,u=some e->d5 prog w B C n e)
 (λ_ _=>True) e
noncomputable def ziU(prog:Program)(w:World)(B:Bs)(C:Ctx)(n:Nat)(e:Expr):Prop:=d5 prog w B C n e/\uB prog w B C n e/\zkA prog w B C n e
theorem zdY{e:Expr}(a:d5 prog w B C n e)(b:∀env whole,isTrue e env whole=(do let v <- whole;standAt e.pos;holding [v] (truthy v)))(c:zkA prog w B C n e):ziU prog w B C n e:=⟨a,oG a b,c⟩
theorem bad{e:Expr}(h:∀H Q J,¬wE C e H Q J)(c:zkA prog w B C n e):ziU prog w B C n e:=
 ⟨λ_ _ _ _ _ _ _ _ _ _ _ _ _ hw=>(h _ _ _ hw).elim,λ_ _ _ _ _ _ _ _ _ _ _ _ _ hw=>(h _ _ _ hw).elim,c⟩
theorem zbH{f:Expr}{args:List Expr}{kws:List Keyword}{p:Pos}(hB:BsOk B)(hC:CtxOk prog w B C n)(hf:okE f=true)(hf':zkA prog w B C n f)(ha:∀e∈args,ziU prog w B C n e)(hoks:zeN args=true)(hs:args.all eB=true)(hl:args.length<30)(hp:zg6 f p=true):d5 prog w B C n (.Call f args kws p):=by
 intro A E cw env H G J s Q hA hE hκ O hw
 have hk:kws=[]:=by have:=hw.1;cases kws<;>first |rfl|cases this
 subst hk
 cases f<;>first |exact bq hw.2|skip
 ·refine a2 (λh1 h2=>?_) hf'
  cases hr:dM args with
  |none=>exact zen h2 (λe he=>(ha e he).1) hs h1 hl hp hr A E cw env H G J s Q hA hE hκ O hw
  |some xy=>
   have hy:okC (.str xy.2)=true:=by
    refine x4 (λk1 p1 k2 p2 q=>?_) (rT (x:=xy.1) (y:=xy.2) hr)
    subst q
    exact(bQ (bQ hoks).2).1
   exact zel h2 h1 hp hr hy A E cw env H G J s Q hA hE hκ O hw
 ·exact zeq hB hC (λe he=>(ha e he).1) hs (f7 (bQ hf).1) A E cw env H G J s Q hA hE hκ O hw
theorem zek{o i:Expr}{p:Pos}(ho:d5 prog w B C n o)(hk:okE i=true)(hi:ziU prog w B C n i):d5 prog w B C n (.Subscript o i p):=by
 cases h:xW i with
 |false=>exact zho ho hi.1 (zef h) h
 |true=>
  cases i<;>first |(cases h;done)|skip
  rename_i l u sp q
  cases sp with
  |none=>exact zbE ho hi.2.2.1 hi.2.2.2
  |some sp=>(exfalso;cases hk)
mutual
theorem fW(hB:BsOk B)(hC:CtxOk prog w B C n):∀e:Expr,okE e=true->ziU prog w B C n e
 |.Constant _ _ _,h=>zdY (zbG h) (λ_ _=>rfl) trivial
 |.Name _ _,h=>zdY (zem hB hC (f7 (bQ h).1) (f7 (bQ h).2)) (λ_ _=>rfl) trivial
 |.BoolOp _ vs _,h=>⟨zgj vs λe he=>(jL hB hC vs (bQ h).1 e he).1,zbJ vs (λe he=>(jL hB hC vs (bQ h).1 e he).2.1) (λq=>by subst q;cases(bQ h).2),trivial⟩
 |.BinOp l _ r _,h=>zdY (zhr (fW hB hC l (bQ h).1).1 (fW hB hC r (bQ h).2).1) (λ_ _=>rfl) trivial
 |.UnaryOp op x _,h=>⟨zgh (fW hB hC x h).1,by
   have hx:=fW hB hC x h
   cases op with
   |Not=>exact zes hC.mono hx.2.1
   |_=>exact oG (zgh hx.1) λ_ _=>rfl,trivial⟩
 |.IfExp t b o _,h=>⟨zbF (fW hB hC t (bQ h).1).2.1 (fW hB hC b (bQ (bQ h).2).1).1 (fW hB hC o (bQ (bQ h).2).2).1,zM (fW hB hC t (bQ h).1).2.1 (fW hB hC b (bQ (bQ h).2).1).2.1 (fW hB hC o (bQ (bQ h).2).2).2.1,trivial⟩
 |.Compare l _ cs _,h=>⟨zhq (fW hB hC l (bQ h).1).1 (λe he=>(jL hB hC cs (bQ (bQ h).2).1 e he).1) (beq_iff_eq.mp (bQ (bQ (bQ h).2).2).1) (f7 (bQ (bQ (bQ h).2).2).2),
   zet (fW hB hC l (bQ h).1).1 (λe he=>(jL hB hC cs (bQ (bQ h).2).1 e he).1) (beq_iff_eq.mp (bQ (bQ (bQ h).2).2).1) (f7 (bQ (bQ (bQ h).2).2).2),trivial⟩
 |.Call f args _ _,h=>zdY (zbH hB hC (bQ h).1 (fW hB hC f (bQ h).1).2.2 (jL hB hC args (bQ (bQ h).2).1) (bQ (bQ h).2).1 (bQ (bQ (bQ h).2).2).1 (of_decide_eq_true (bQ (bQ (bQ (bQ h).2).2).2).1) (bQ (bQ (bQ (bQ h).2).2).2).2) (λ_ _=>rfl) trivial
 |.Attribute o _ _,h=>zdY (zer hB hC (fW hB hC o (bQ h).2).1 (bQ h).1) (λ_ _=>rfl) ⟨(bQ h).1,(fW hB hC o (bQ h).2).1⟩
 |.Subscript o i _,h=>zdY (zek (fW hB hC o (bQ h).1).1 (bQ h).2 (fW hB hC i (bQ h).2)) (λ_ _=>rfl) trivial
 |.List es _,h=>zdY (zeo hC.mono (λe he=>(jL hB hC es (bQ h).1 e he).1) (bQ (bQ h).2).1 (of_decide_eq_true (bQ (bQ h).2).2)) (λ_ _=>rfl) trivial
 |.Tuple es _ _,h=>zdY (zbD hC.mono (λe he=>(jL hB hC es (bQ h).1 e he).1) (bQ (bQ h).2).1 (of_decide_eq_true (bQ (bQ h).2).2)) (λ_ _=>rfl) trivial
 |.ListComp _ _ _ _,_=>bad (λ_ _ _ h=>h) trivial
 |.Slice l u _ _,h=>bad (λ_ _ _ h=>h) ⟨zjd hB hC l (bQ (bQ h).2).1,zjd hB hC u (bQ (bQ h).2).2⟩
 |.NamedExpr _ _ _,_=>bad (λ_ _ _ h=>h) trivial
 |.Lambda _ _ _ _,_=>bad (λ_ _ _ h=>h) trivial
 |.Dict _ _ _,_=>bad (λ_ _ _ h=>h) trivial
 |.Set _ _ _,_=>bad (λ_ _ _ h=>h) trivial
 |.SetComp _ _ _ _,_=>bad (λ_ _ _ h=>h) trivial
 |.DictComp _ _ _ _ _,_=>bad (λ_ _ _ h=>h) trivial
 |.GeneratorExp _ _ _ _,_=>bad (λ_ _ _ h=>h) trivial
 |.Await _ _,_=>bad (λ_ _ _ h=>h) trivial
 |.Yield _ _,_=>bad (λ_ _ _ h=>h) trivial
 |.YieldFrom _ _,_=>bad (λ_ _ _ h=>h) trivial
 |.FormattedValue e _ _ _,h=>zdY (zhp (fW hB hC e h).1) (λ_ _=>rfl) trivial
 |.JoinedStr vs _,h=>zdY (zep λe he=>(jL hB hC vs h e he).1) (λ_ _=>rfl) trivial
 |.Starred _ _,_=>bad (λ_ _ _ h=>h) trivial
theorem jL(hB:BsOk B)(hC:CtxOk prog w B C n):∀es:List Expr,zeN es=true->∀e∈es,ziU prog w B C n e
 |[],_=>λ_ h=>nomatch h
 |a ::es,h=>List.forall_mem_cons.mpr ⟨fW hB hC a (bQ h).1,jL hB hC es (bQ h).2⟩
theorem zjd(hB:BsOk B)(hC:CtxOk prog w B C n):∀e:Option Expr,okO e=true->∀x,e=some x->d5 prog w B C n x
 |none,_=>λ_ h=>nomatch h
 |some a,h=>λ_ e=>by(have zq:=Option.some.inj e;subst zq);exact(fW hB hC a h).1
end
theorem snd(hB:BsOk B)(hC:CtxOk prog w B C n){e:Expr}(h:okE e=true):d5 prog w B C n e:=(fW hB hC e h).1
theorem zkJ(hB:BsOk B)(hC:CtxOk prog w B C n){e:Expr}(h:okE e=true):uB prog w B C n e:=(fW hB hC e h).2.1
end
noncomputable section
noncomputable abbrev nW(K:St->Prop)(Q:Fl->St->Prop)(fl:Fl)(J:St):Prop:=Fl.casesOn (motive:=λ_=>Prop) fl (K J) (Q .next J) (K J) λr=>Q (.ret r) J
noncomputable def fJ(T:(PV->St->Prop)->St->Prop)(B:(Fl->St->Prop)->St->Prop)(O:(Fl->St->Prop)->St->Prop)(Q:Fl->St->Prop):Nat->St->Prop
 |0,_=>False
 |n+1,J=>T (tst λb st1=>if b=true then B (nW (fJ T B O Q n) Q) st1 else O Q st1) J
noncomputable def d7(tgt:Expr)(B:(Fl->St->Prop)->St->Prop)(O:(Fl->St->Prop)->St->Prop)(Q:Fl->St->Prop):List PV->St->Prop
 |[],J=>O Q J
 |v ::vs,J=>opt (k0 tgt v J.ρ) λρ1=>B (nW (d7 tgt B O Q vs) Q) ⟨ρ1,J.σ⟩
noncomputable def cY(H:Kn)(x:Str):Bool:=H x==some .local||H x==some .cell
noncomputable def n0(ts:List Expr):Option (Str×Str):=List.casesOn (motive:=λ_=>Option (Str×Str)) ts none λt r=>List.casesOn (motive:=λ_=>Option (Str×Str)) r
 (exc none (λ_=>none) (λ_=>none) (λ_=>none) (λo n _=>(nmE o).map λx=>(x,n)) (λ_ _=>none) (λ_ _=>none) t) λ_ _=>none
noncomputable def d9(C:Ctx)(H:Kn)(targets:List Expr)(v:PV)(J:St)(K:St->Prop):Prop:=
 l5 (n0 targets) (targets.all (λt=>(cZ t).all (cY H))=true/\opt (jZ targets v J.ρ) λρ'=>K ⟨ρ',J.σ⟩)
  λxn=>opt (J.ρ xn.1) λp=>asP p λa=>setCell C a xn.2 v J K
noncomputable def dN(e:Expr):Option (List Expr):=zdD none (λf args kws=>exc none (λ_=>none) (λ_=>none) (λ_=>none) (λo m _=>if nmE o=some "Node"/\ m="__init__"/\ kws.isEmpty=true then some args else none) (λ_ _=>none) (λ_ _=>none) f) none e
noncomputable def vL(C:Ctx)(vs:List PV)(J:St)(K:St->Prop):Prop:=zbm vs λp va vb=>asP p λad=>setCell C ad "source_line" va J λst3=>setCell C ad "source_column" vb st3 K
noncomputable def kC(e:Expr):Bool:=Expr.casesOn (motive_1:=λ_=>Bool) e (λ_ _ _=>false) (λ_ _ _=>false) (λ_ _ _ _=>false) (λ_ _ _=>false) (λ_ _ _ _=>false) (λ_ _ _ _=>false) (λ_ _ _=>false) (λ_ _ _=>false) (λ_ _ _ _=>true) (λ_ _ _ _=>true) (λ_ _ _ _ _=>true) (λ_ _ _ _=>false) (λ_ _=>false) (λ_ _=>false) (λ_ _=>false) (λ_ _ _ _=>false) (λ_ _ _ _=>false) (λ_ _ _ _=>false) (λ_ _=>false) (λ_ _ _=>false) (λ_ _ _=>false) (λ_ _ _=>false) (λ_ _=>false) (λ_ _=>false) (λ_ _=>false) (λ_ _ _=>false) (λ_ _ _ _=>false)
noncomputable def cG(K:St->Prop)(Q:Fl->St->Prop)(fl:Fl)(J:St):Prop:=Fl.casesOn (motive:=λ_=>Prop) fl (K J) (Q .brk J) (Q .cont J) λv=>Q (.ret v) J
mutual
noncomputable def wS(C:Ctx)(H:Kn):Stmt->(Fl->St->Prop)->St->Prop
 |.Expr v _,Q,J=>l5 (dN v) (kC v=false/\wE C v H (λ_ st1=>Q .next st1) J) λargs=>C.ini=true/\H "Node"=some .globalImplicit/\wEs C args H (λvs st1=>vL C vs st1 λst2=>Q .next st2) J
 |.Break _,Q,J=>Q .brk J
 |.Continue _,Q,J=>Q .cont J
 |.Return e _,Q,J=>opt e λe=>wE C e H (λv st1=>Q (.ret v) st1) J
 |.Assign ts e _,Q,J=>wE C e H (λv st1=>d9 C H ts v st1 λst2=>Q .next st2) J
 |.AugAssign t op e _,Q,J=>opt (nmE t) λx=>cY H x=true/\opt (J.ρ x) λold=>wE C e H (λv st1=>inP op old v λr=>Q .next ⟨upd st1.ρ x r,st1.σ⟩) J
 |.If t b o _,Q,J=>wE C t H (tst λc st1=>if c=true then wSs C H b Q st1 else wSs C H o Q st1) J
 |.While t b o _,Q,J=>∃n,fJ (wE C t H) (wSs C H b) (wSs C H o) Q n J
 |.For tgt iter b o _,Q,J=>(cZ tgt).all (cY H)=true/\wE C iter H (λv st1=>opt (lL v) λitems=>items.length<=bU/\d7 tgt (wSs C H b) (wSs C H o) Q items st1) J
 |.Assert t _ _,Q,J=>wE C t H (tst λc st1=>c=true/\Q .next st1) J
 |.Try b hs o fin _,Q,J=>hs.isEmpty=false/\fin.isEmpty=true/\wSs C H b (cG (λst1=>wSs C H o Q st1) Q) J
 |.FunctionDef _ _ _ _ _ _ _ _ _ _,_,_=>False
 |.AsyncFunctionDef _ _ _ _ _ _ _ _ _ _,_,_=>False
 |.ClassDef _ _ _ _ _ _ _ _ _ _ _,_,_=>False
 |.Delete _ _,_,_=>False
 |.TypeAlias _ _ _ _ _ _ _,_,_=>False
 |.AnnAssign _ _ _ _ _,_,_=>False
 |.AsyncFor _ _ _ _ _,_,_=>False
 |.With _ _ _,_,_=>False
 |.AsyncWith _ _ _,_,_=>False
 |.Match _ _ _,_,_=>False
 |.Raise _ _ _,_,_=>False
 |.TryStar _ _ _ _ _,_,_=>False
 |.Import _ _,_,_=>False
 |.ImportFrom _ _ _ _,_,_=>False
 |.Global _ _,_,_=>False
 |.Nonlocal _ _,_,_=>False
 |.Pass _,_,_=>False
noncomputable def wSs(C:Ctx)(H:Kn):List Stmt->(Fl->St->Prop)->St->Prop
 |[],Q,J=>Q .next J
 |s ::ss,Q,J=>wS C H s (cG (λst1=>wSs C H ss Q st1) Q) J
end
end
theorem mI{C:Ctx}{H:Kn}{v:Expr}{p:Pos}{Q:Fl->St->Prop}{J:St}:wS C H (.Expr v p) Q J=l5 (dN v) (kC v=false/\wE C v H (λ_ st1=>Q .next st1) J) λargs=>C.ini=true/\H "Node"=some .globalImplicit/\wEs C args H (λvs st1=>vL C vs st1 λst2=>Q .next st2) J:=rfl
section mono
variable {C:Ctx}
theorem iZ{K K':St->Prop}{Q Q':Fl->St->Prop}(h:∀s,K s->K' s)(hq:∀f s,Q f s->Q' f s)(f:Fl)(s:St)(x:nW K Q f s):nW K' Q' f s:=by
 cases f
 ·exact h s x
 ·exact hq _ s x
 ·exact h s x
 ·exact hq _ s x
theorem mL{K K':St->Prop}{Q Q':Fl->St->Prop}(h:∀s,K s->K' s)(hq:∀f s,Q f s->Q' f s)(f:Fl)(s:St)(x:cG K Q f s):cG K' Q' f s:=by
 cases f
 ·exact h s x
 ·exact hq _ s x
 ·exact hq _ s x
 ·exact hq _ s x
theorem iA{a:Nat}{name:Str}{v:PV}{J:St}{K K':St->Prop}(h:∀s,K s->K' s):setCell C a name v J K->setCell C a name v J K':=x3 λc fs i=>a4 λh1 h2 h3 h4=>⟨c,fs,i,h1,h2,h3,h _ h4⟩
theorem tM{H:Kn}{ts:List Expr}{v:PV}{J:St}{K K':St->Prop}(h:∀s,K s->K' s):d9 C H ts v J K->d9 C H ts v J K':=
 gK (λx=>⟨x.1,bY (λ_=>h _) x.2⟩) λ_=>bY λ_=>mF λ_=>iA h
theorem zaw{vs:List PV}{J:St}{K K':St->Prop}(h:∀s,K s->K' s):vL C vs J K->vL C vs J K':=
 oC λ_ _ _=>mF λ_=>iA λ_=>iA h
theorem jH{T:(PV->St->Prop)->St->Prop}{B O:(Fl->St->Prop)->St->Prop}{Q Q':Fl->St->Prop}
  (hT:∀K K' s,(∀b s,K b s->K' b s)->T K s->T K' s) (hB:∀K K' s,(∀b s,K b s->K' b s)->B K s->B K' s) (hO:∀K K' s,(∀b s,K b s->K' b s)->O K s->O K' s) (h:∀f s,Q f s->Q' f s):
  ∀n J,fJ T B O Q n J->fJ T B O Q' n J
 |0,_,x=>x
 |n+1,_,x=>hT _ _ _ (iU λ_ _=>bO (hB _ _ _ (iZ (jH hT hB hO h n) h)) (hO _ _ _ h)) x
theorem lM{tgt:Expr}{B O:(Fl->St->Prop)->St->Prop}{Q Q':Fl->St->Prop}
  (hB:∀K K' s,(∀b s,K b s->K' b s)->B K s->B K' s) (hO:∀K K' s,(∀b s,K b s->K' b s)->O K s->O K' s) (h:∀f s,Q f s->Q' f s):
  ∀items J,d7 tgt B O Q items J->d7 tgt B O Q' items J
 |[],_,x=>hO _ _ _ h x
 |_ ::vs,_,x=>bY (λ_=>hB _ _ _ (iZ (lM hB hO h vs) h)) x
mutual
theorem zaZ(M:CtxMono C):∀(s:Stmt) {H:Kn}{Q Q':Fl->St->Prop}{J:St},(∀f s,Q f s->Q' f s)->wS C H s Q J->wS C H s Q' J
 |.Expr v _=>λh x=>gK (λx=>⟨x.1,bG M v (λ_ _=>h _ _) x.2⟩) (λ_ x=>⟨x.1,x.2.1,dB M _ (λ_ _=>zaw λ_=>h _ _) x.2.2⟩) x
 |.Break _=>λh x=>h _ _ x
 |.Continue _=>λh x=>h _ _ x
 |.Return _ _=>λh x=>bY (λe=>bG M e λ_ _=>h _ _) x
 |.Assign _ e _=>λh x=>bG M e (λ_ _=>tM λ_=>h _ _) x
 |.AugAssign _ _ e _=>λh x=>bY (λ_ x=>⟨x.1,bY (λ_=>bG M e λ_ _=>zfd λ_=>h _ _) x.2⟩) x
 |.If t b o _=>λh x=>bG M t (iU λ_ _=>bO (eE M b h) (eE M o h)) x
 |.While t b o _=>λh x=>x.imp λn=>jH (T:=wE C t _) (B:=wSs C _ b) (O:=wSs C _ o) (λ_ _ _ hk=>bG M t hk) (λ_ _ _ hk=>eE M b hk) (λ_ _ _ hk=>eE M o hk) h n _
 |.For _ iter b o _=>λh x=>⟨x.1,bG M iter (λ_ _=>bY λ_ y=>⟨y.1,lM (B:=wSs C _ b) (O:=wSs C _ o) (λ_ _ _ hk=>eE M b hk) (λ_ _ _ hk=>eE M o hk) h _ _ y.2⟩) x.2⟩
 |.Try b _ o _ _=>λh x=>⟨x.1,x.2.1,eE M b (mL (λ_=>eE M o h) h) x.2.2⟩
 |.FunctionDef _ _ _ _ _ _ _ _ _ _=>λ_ x=>x
 |.AsyncFunctionDef _ _ _ _ _ _ _ _ _ _=>λ_ x=>x
 |.ClassDef _ _ _ _ _ _ _ _ _ _ _=>λ_ x=>x
 |.Delete _ _=>λ_ x=>x
 |.TypeAlias _ _ _ _ _ _ _=>λ_ x=>x
 |.AnnAssign _ _ _ _ _=>λ_ x=>x
 |.AsyncFor _ _ _ _ _=>λ_ x=>x
 |.With _ _ _=>λ_ x=>x
 |.AsyncWith _ _ _=>λ_ x=>x
 |.Match _ _ _=>λ_ x=>x
 |.Raise _ _ _=>λ_ x=>x
 |.TryStar _ _ _ _ _=>λ_ x=>x
 |.Assert t _ _=>λh x=>bG M t (iU λ_ _ y=>⟨y.1,h _ _ y.2⟩) x
 |.Import _ _=>λ_ x=>x
 |.ImportFrom _ _ _ _=>λ_ x=>x
 |.Global _ _=>λ_ x=>x
 |.Nonlocal _ _=>λ_ x=>x
 |.Pass _=>λ_ x=>x
theorem eE(M:CtxMono C):∀(ss:List Stmt) {H:Kn}{Q Q':Fl->St->Prop}{J:St},(∀f s,Q f s->Q' f s)->wSs C H ss Q J->wSs C H ss Q' J
 |[]=>λh x=>h _ _ x
 |s ::ss=>λh x=>zaZ M s (mL (λ_=>eE M ss h) h) x
end
end mono
end Mine
end
section
set_option maxRecDepth 100000
open PySem PySem.W PyProof.Rows
open Builtin Builtin.Str
set_option Elab.async false
set_option autoImplicit false
set_option linter.unusedVariables false
namespace Mine
section
open PySem.Calls Builtin.ObjectAttr Builtin.Getset_descriptor
variable {prog:Program}{w:World}{A:Around}{K:Frag}{x C:Addr}{s:Shared}{R:Result->Shared->Prop}
theorem zev{ox:Obj}{od:Option Obj}{v:Value}{p i:Nat}(X:K.In s.heap)(I:PySem.W.InstAt s.heap x ox C od)
  (hp:slotIn K p C=some i) (hi:i<1000) (hf:ox.isFreed=false)
  (h:∀h',h'.get? x=some {ox with slots:=(ox.slots++Array.replicate (i+1 - ox.slots.size) none).setIfInBounds i (some v)}->Heap.SameBut x s.heap h'->R (.ok (.ret .none)) {s with heap:=h'}):
  codeAny (model prog w) A (.call (.builtin "member_descriptor.__set__") ⟨[.ref p,.ref x,v],[]⟩) R s:=by
 obtain⟨n,tn,owner,behind,tb,d,sl,cd,ho,hc,hm,hb,rfl⟩:=slot_of X hp
 obtain⟨hh,g,dr,t,os⟩:=s
 have L0:=I.type (M:=model prog w)
 have L1:=looks_mroIn (M:=model prog w) X hm
 have L2:Looks (model prog w) hh (Slots.slotNamesOf (.ref C)) cd.slotNames:=(looks_clsIn X hc).andThen .now
 have hx:=I.at_
 dsimp only at ho hx L0 L1
 have f0:=looks_field (M:=model prog w) ho 0 (v:=.str n tn) rfl
 have f1:=looks_field (M:=model prog w) ho 1 (v:=owner) rfl
 have f3:=looks_field (M:=model prog w) ho 3 (v:=.builtin "proto.slot#set") rfl
 have f4:=looks_field (M:=model prog w) ho 4 (v:=.int behind tb) rfl
 refine codeAny_call_builtin KF.slot_mset.plain KF.entry_mset (KF.slot_mset.check _ _ _ _ _ _ _ _ ⟨_,ho,rfl⟩ (KF.args_mset _ _ _) ?_)
 unfold Builtin.«member_descriptor.__set__» descrSet descrStoreThrough descrCheckInstance descrNameAndClass isInstance
 have f5:Looks (model prog w) hh (descrItself (.ref p)) [.ref p]:=((Looks.ld (part:=none) ho).andThen .now).andThen (Looks.of_pure ∅)
 repeat lk
 refine⟨Code.quiet_builtin _ (by decide+kernel),codeAny_builtin KF.entry_slotset ?_⟩
 unfold Builtin.«proto.slot#set» Slots.target
 repeat lk
 rw[if_neg hb]
 refine wpAny_pure (wpAny_bind ?_)
 unfold setSlotAt
 dsimp only
 rw[if_neg (by rw[sizeLine_eq];omega)]
 refine wpAny_updatePart hx (wpAny_pure (h _ (Heap.get?_update_self _ hx ?_) (Heap.SameBut.update ..)))
 obtain⟨a,b,c,d⟩:=ox
 cases c<;>first |rfl|(exfalso;cases hf)
end
section
variable {prog:Program}{w:World}{B:Bs}{C:Ctx}{n:Nat}
theorem zfB{A:Around}{E:Value->Shared->Prop}{cw:Bool}{env:Env}{G:GM}{J:St}{s:Shared}{a c i:Nat}{fs:List (Option PV)}{name:Str}{v:Value}{p:PV}(hB:BsOk B)(hC:CtxOk prog w B C n)(O:Ok B w.params G env J s)
  (hσ:J.σ a=some (.ins c fs)) (hs:C.slot c name=some i) (hi:i<fs.length) (hv:VRel w.params G v p):
  wpAny (model prog w) A (setAttr (.ref a) name v) (Lands B w.params cw env G J s (λ_ st' _=>st'=⟨J.ρ,bE J.σ a (.ins c (fs.set i (some p)))⟩)) E s:=by
 obtain⟨_,_,q,_,s4,s5,s6,s7,s8,s9⟩:=hC.slot c name i hs
 obtain⟨⟨dx,sl,h1,h2,h3,h4⟩,g1,g2,g3⟩:=O.rep.cells a _ hσ
 have X:B.K.In s.heap:=hB.kin.keeps λb o e=>O.rep.inh.at_ _ _ (O.over _ _ e)
 have I:PySem.W.InstAt s.heap a _ c (some jP):=⟨h1,rfl,rfl,O.rep.inh.at_ _ _ h2⟩
 refine set_plain X I s5 (osa_descr (s:={s with toks:=s.toks+1}) (od:=some jP) KF.slot_mset X ⟨I.at_,I.cls,I.no,O.rep.inh.at_ _ _ h2⟩ s6 s7 s8 ?_)
 refine zev (s:={s with toks:=s.toks+1}) (od:=some jP) X ⟨I.at_,I.cls,I.no,O.rep.inh.at_ _ _ h2⟩ s4 s9 rfl λh' hx hsb=>?_
 have cr:CellRel w.params G h' a (.ins c (fs.set i (some p))):=by
  refine ex2 dx _ ⟨hx,h2,?_,λj q hj=>?_⟩
  ·simp only[Array.size_setIfInBounds,Array.size_append,Array.size_replicate,List.length_set];omega
  ·by_cases e:j=i
   ·subst e
    replace hj:=(List.getElem?_set_self hi)▸hj
    cases hj
    refine⟨v,?_,hv⟩
    rw[Array.getElem?_setIfInBounds_self_of_lt]
    simp only[Array.size_append,Array.size_replicate];omega
   ·replace hj:=(List.getElem?_set_ne (Ne.symm e))▸hj
    obtain⟨u,e1,e2⟩:=h4 j q hj
    refine⟨u,?_,e2⟩
    rw[Array.getElem?_setIfInBounds_ne (Ne.symm e)]
    have hlt:=(Array.getElem?_eq_some_iff.mp e1).1
    rw[Array.getElem?_append_left hlt];exact e1
 obtain⟨R',T'⟩:=O.rep.setCell (cw:=cw) hσ hsb cr (show 1<=s.toks+1 by omega)
 exact ex2 G _ ⟨rfl,⟨O.over,R',O.ct.same hsb (by rw[hx];rfl)⟩,T'⟩
end
end Mine
end
section
open PySem PySem.W PyProof.Rows
open Builtin Builtin.Str
set_option Elab.async false
set_option autoImplicit false
set_option linter.unusedVariables false
namespace Mine
noncomputable def FX(P:Params)(Q:Fl->St->Prop):GM->St->Flow->Prop:=λG' st' f=>match f with
 |.next=>Q .next st'
 |.brk=>Q .brk st'
 |.cont=>Q .cont st'
 |.ret v=>∃p,Q (.ret p) st'/\VRel P G' v p
noncomputable def rF(prog:Program)(w:World)(B:Bs)(C:Ctx)(n:Nat)(s:Stmt):Prop:=
 ∀(A:Around) (E:Value->Shared->Prop) (env:Env) (H:Kn) (G:GM) (J:St) (sh:Shared) (Q:Fl->St->Prop),Room n A->EnvOk env->KOk H env->Ok B w.params G env J sh->
  wS C H s Q J->wpAny (model prog w) A (exec s env) (Lands B w.params true env G J sh (FX w.params Q)) E sh
noncomputable def iQ(prog:Program)(w:World)(B:Bs)(C:Ctx)(n:Nat)(ss:List Stmt):Prop:=
 ∀(A:Around) (E:Value->Shared->Prop) (env:Env) (H:Kn) (G:GM) (J:St) (sh:Shared) (Q:Fl->St->Prop),Room n A->EnvOk env->KOk H env->Ok B w.params G env J sh->
  wSs C H ss Q J->wpAny (model prog w) A (execs ss env) (Lands B w.params true env G J sh (FX w.params Q)) E sh
section
variable {prog:Program}{w:World}{B:Bs}{C:Ctx}{n:Nat}
theorem zeh:iQ prog w B C n []:=by
 intro A E env H G J s Q hA hE hκ O hw
 exact wpAny_execs_nil (aL O hw)
theorem zbB{s:Stmt}{ss:List Stmt}(h:rF prog w B C n s)(hs:iQ prog w B C n ss):iQ prog w B C n (s ::ss):=by
 intro A E env H G J sh Q hA hE hκ O hw
 refine wpAny_execs_cons (aJ (h A E env H G J sh _ hA hE hκ O hw) λf G1 st1 s1 hq O1 T1=>?_)
 cases f with
 |next=>exact aT T1 (hs A E env H G1 st1 s1 Q hA hE hκ O1 hq)
 |brk=>exact(aL (X:=FX w.params Q) (a:=Flow.brk) O1 hq).after T1
 |cont=>exact(aL (X:=FX w.params Q) (a:=Flow.cont) O1 hq).after T1
 |ret v=>exact(aL (X:=FX w.params Q) (a:=Flow.ret v) O1 (by obtain⟨p,h1,h2⟩:=hq;exact⟨p,h1,h2⟩)).after T1
theorem zK{p:Pos}:rF prog w B C n (.Break p):=by
 intro A E env H G J s Q hA hE hκ O hw
 exact wpAny_Break (aL (X:=FX w.params Q) (a:=Flow.brk) O hw)
theorem zbA{p:Pos}:rF prog w B C n (.Continue p):=by
 intro A E env H G J s Q hA hE hκ O hw
 refine(show exec (.Continue p) env=(do standAt p;pure .cont)from rfl).symm▸?_
 exact wpAny_bind (wpAny_standAt (wpAny_pure (aL (X:=FX w.params Q) (a:=Flow.cont) O hw)))
theorem uL{e:Expr}{p:Pos}(he:d5 prog w B C n e):rF prog w B C n (.Return (some e) p):=by
 intro A E env H G J s Q hA hE hκ O hw
 exact wpAny_Return_some (aJ (he A E true env H G J s _ hA hE hκ O hw) λv G1 st1 s1 ⟨u,hq,hv⟩ O1 T1=>
  (aL (X:=FX w.params Q) (a:=Flow.ret v) O1 ⟨u,hq,hv⟩).after T1)
theorem uN{t:Expr}{m:Option Expr}{p:Pos}(ht:uB prog w B C n t):rF prog w B C n (.Assert t m p):=by
 intro A E env H G J s Q hA hE hκ O hw
 exact wpAny_Assert_holds (aJ (ht A E true env H G J s _ hA hE hκ O hw) λc G1 st1 s1 hq O1 T1=>
  ⟨hq.1,(aL (X:=FX w.params Q) (a:=Flow.next) O1 hq.2).after T1⟩)
theorem xN{env:Env}(hE:EnvOk env):interactive env=false:=by unfold interactive;rw[hE.kind];rfl
theorem zG{e:Expr}(h:kC e=false)(line:Nat)(env:Env):swapsWith e none line env=pure false:=by
 cases e<;>first |rfl|(exfalso;cases h)
theorem zbz{e:Expr}{p:Pos}(he:d5 prog w B C n e)(hi:dN e=none):rF prog w B C n (.Expr e p):=by
 intro A E env H G J s Q hA hE hκ O hw
 rw[mI,hi]at hw
 exact wpAny_Expr_any (aJ (he A E true env H G J s _ hA hE hκ O hw.2) λv G1 st1 s1 ⟨u,hq,hv⟩ O1 T1=>
  (aL (X:=FX w.params Q) (a:=Flow.next) O1 hq).after T1) (xN hE) (zG hw.1 _ _)
theorem zhn{t:Expr}{b o:List Stmt}{p:Pos}(ht:uB prog w B C n t)(hb:iQ prog w B C n b)(ho:iQ prog w B C n o):rF prog w B C n (.If t b o p):=by
 intro A E env H G J s Q hA hE hκ O hw
 refine wpAny_If (aJ (ht A E true env H G J s _ hA hE hκ O hw) λc G1 st1 s1 hq O1 T1=>?_)
 cases c
 ·exact aT T1 (ho A E env H G1 st1 s1 Q hA hE hκ O1 hq)
 ·exact aT T1 (hb A E env H G1 st1 s1 Q hA hE hκ O1 hq)
theorem zeg{b o:List Stmt}{h₀:ExceptHandler}{hs:List ExceptHandler}{p:Pos}(hb:iQ prog w B C n b)(ho:iQ prog w B C n o):rF prog w B C n (.Try b (h₀ ::hs) o [] p):=by
 intro A E env H G J s Q hA hE hκ O hw
 refine(show exec (.Try b (h₀ ::hs) o [] p) env=(do standAt p;tryStmt false (execs b env) (h₀ ::hs) (execs o env) [] env)from rfl).symm▸?_
 refine wpAny_bind (wpAny_standAt (wpAny_tryStmt_except (aJ (hb A _ env H G J s _ hA hE hκ O hw.2.2) λf G1 st1 s1 hq O1 T1=>?_)))
 cases f with
 |next=>exact aT T1 (ho A E env H G1 st1 s1 Q hA hE hκ O1 hq)
 |brk=>exact(aL (X:=FX w.params Q) (a:=Flow.brk) O1 hq).after T1
 |cont=>exact(aL (X:=FX w.params Q) (a:=Flow.cont) O1 hq).after T1
 |ret v=>exact(aL (X:=FX w.params Q) (a:=Flow.ret v) O1 (by obtain⟨p,h1,h2⟩:=hq;exact⟨p,h1,h2⟩)).after T1
theorem zjI{A:Around}{E:Value->Shared->Prop}{G:GM}{s:Shared}{op:Operator}{a b:Value}{p q:PV}{K:PV->Prop}(hi:InH G s.heap)(ha:VRel w.params G a p)(hb:VRel w.params G b q)(h:inP op p q K):
  GW (model prog w) A w.params E G s (inplaceOp op a b) K:=by
 have twoI:∀{r:Int->Int->Int},(asI p λx=>asI q λy=>K (.int (r x y)))->(∀x t y u (Q:Value->Shared->Prop),Q (.int (r x y) s.toks) {s with toks:=s.toks+1}->wpAny (model prog w) A (inplaceOp op (.int x t) (.int y u)) Q E s)->GW (model prog w) A w.params E G s (inplaceOp op a b) K:=by
  intro r h k
  refine x1 (λx=>a2 λzr1 h1=>?_) (dH (v:=p) h);subst zr1
  refine x1 (λy=>a2 λzr1 h2=>?_) (dH (v:=q) h1);subst zr1
  simp only[VRel]at ha hb
  obtain⟨t,rfl⟩:=ha;obtain⟨u,rfl⟩:=hb
  exact oV hi h2 λQ q=>k x t y u Q q
 cases op<;>first |exact bq h|skip
 ·cases p<;>first |exact bq h|skip
  ·exact twoI (r:=λx y=>x+y) h λ_ _ _ _ Q q=>iadd_int q
  ·refine x1 (λy=>a3 λzr1 hz hk=>?_) (dW (v:=q) h);subst zr1
   simp only[VRel]at ha hb
   refine x1 (λt=>a2 λzr1 hx=>?_) ha;subst zr1
   refine x1 (λu=>a2 λzr1 hy=>?_) hb;subst zr1
   refine SB.iadd (λt' k=>?_) (by rw[dO,dO];exact hz)
   refine ex2 _ G ⟨hk,GS.toks hi _,?_⟩
   simp only[VRel]
   exact⟨t',by rw[oF],lK hx hy hz⟩
 ·exact twoI (r:=λx y=>x - y) h λ_ _ _ _ Q q=>isub_int q
theorem pG{H:Kn}{env:Env}(hκ:KOk H env){x:Str}(h:cY H x=true):ziT true env x:=by
 unfold cY at h
 simp only[ey,beq_iff_eq]at h
 rcases h with h|h
 ·exact .inl (hκ.loc h)
 ·exact .inr ⟨rfl,hκ.cell (.inl h)⟩
theorem zej{x:Str}{px p:Pos}{op:Operator}{e:Expr}(hB:BsOk B)(hC:CtxOk prog w B C n)(he:d5 prog w B C n e)(ok2:(x==("__classdict__":Str))=false):rF prog w B C n (.AugAssign (.Name x px) op e p):=by
 intro A E env H G J s Q hA hE hκ O hw
 refine a2 (λhst hw=>?_) (show cY H x=true/\opt (J.ρ x) _ from hw)
 have hst':=hst
 unfold cY at hst
 refine x1 (λold=>a2 λe0 hw=>?_) (dP hw)
 refine wpAny_AugAssign_Name ?_
 have hN':=vF (p:=px) hB hC ok2 A E true env H G J s (λv st'=>v=old/\st'=J) hE hκ O (by rw[kL,if_neg (λq=>by replace hst:=q▸hst;cases hst),e0];exact⟨rfl,rfl⟩)
 refine aJ hN' λov G1 st1 s1 ⟨u,⟨hu,hst1⟩,hv⟩ O1 T1=>?_
 subst hu hst1
 refine aJ (he A E true env H G1 st1 s1 _ hA hE hκ O1 hw) λv G2 st2 s2=>x1 λu2=>a2 λhq2 hv2 O2 T2=>?_
 refine aJ (cw:=true) (cK (Q:=λr st'=>Q .next ⟨upd st'.ρ x r,st'.σ⟩) O2 (zjI O2.rep.inh (hv.mono T2.ext) hv2 hq2)) λr G3 st3 s3=>x1 λu3=>a2 λhq3 hv3 O3 T3=>?_
 refine aJ (pF (cw:=true) hE O3 (pG hκ hst') hv3) λ_ G4 st4 s4 e4 O4 T4=>?_
 subst e4
 exact(aL (X:=FX w.params Q) (a:=Flow.next) O4 hq3).after (T1.trans (T2.trans (T3.trans T4)))
end
section
variable {prog:Program}{w:World}{B:Bs}{C:Ctx}{n:Nat}
theorem Tr.at1{cw:Bool}{env:Env}{G G':GM}{J st':St}{s s':Shared}(T:Tr cw env G J s G' st' s'){I:Addr}(hI:s.heap.get? I=none){h':Heap}{k:Nat}(hk:∀b o,b≠I->s'.heap.get? b=some o->h'.get? b=some o):Tr cw env G J s G' st' {s' with heap:=h',toks:=k} where
 ext:=T.ext
 new:=T.new
 keep:=λa o n e h1 h2 h3=>hk a o (λq=>by(replace e:=q▸e;replace e:=hI▸e);cases e) (T.keep a o n e h1 h2 h3)
 alive:=λa e=>by
  obtain⟨o,ho⟩:=cj.mp (T.alive a e)
  refine(?_:(h'.get? a).isSome=true)
  rw[hk a o (λq=>by(replace e:=q▸e;replace e:=hI▸e);cases e) ho];rfl
 dom:=T.dom
 fresh:=T.fresh
 os:=T.os
 gens:=T.gens
theorem zI{t:Expr}{b o:List Stmt}{p:Pos}(ht:uB prog w B C n t)(hb:iQ prog w B C n b)(ho:iQ prog w B C n o):rF prog w B C n (.While t b o p):=by
 intro A E env H G J s Q hA hE hκ O hw
 refine x1 (λm hw=>?_) hw
 refine wpAny_While (codeAny_whileLoop (λk s'=>∃Gj stj,Ok B w.params Gj env stj s'/\fJ (wE C t H) (wSs C H b) (wSs C H o) Q k stj/\Tr true env G J s Gj stj s') ?_ m ⟨G,J,O,hw,.refl⟩)
 rintro k s' ⟨Gj,stj,Oj,hwj,Tj⟩
 cases k with
 |zero=>exact hwj.elim
 |succ k=>
  refine aJ (ht A _ true env H Gj stj s' _ hA hE hκ Oj hwj) λc G1 st1 s1 hq O1 T1=>?_
  cases c with
  |false=>
   refine aJ (ho A _ env H G1 st1 s1 Q hA hE hκ O1 hq) λf G2 st2 s2 hq2 O2 T2=>?_
   exact(aL (X:=FX w.params Q) (a:=f) O2 hq2).after (Tj.trans (T1.trans T2))
  |true=>
   refine aJ (hb A _ env H G1 st1 s1 _ hA hE hκ O1 hq) λf G2 st2 s2 hq2 O2 T2=>?_
   have T:=Tj.trans (T1.trans T2)
   cases f with
   |next=>exact⟨k,av _,G2,st2,O2,hq2,T⟩
   |cont=>exact⟨k,av _,G2,st2,O2,hq2,T⟩
   |brk=>exact(aL (X:=FX w.params Q) (a:=Flow.next) O2 hq2).after T
   |ret v=>exact(aL (X:=FX w.params Q) (a:=Flow.ret v) O2 (by obtain⟨p,h1,h2⟩:=hq2;exact⟨p,h1,h2⟩)).after T
noncomputable def F3(R:Result->Shared->Prop)(N:Shared->Prop)(f:Flow)(s:Shared):Prop:=match f with
 |.next|.cont=>N s
 |.brk=>R (.ok .next) s
 |.ret v=>R (.ok (.ret v)) s
noncomputable def F1(prog:Program)(w:World)(A:Around)(R:Result->Shared->Prop)(env:Env)(tgt:Expr)(b:List Stmt)(N:Shared->Prop)(v:Value):Unit->Shared->Prop:=λ_ s=>
 wpAny (model prog w) A (assign tgt env v) (λ_ s=>wpAny (model prog w) A (execs b env) (F3 R N) (TE prog w A R env) s) (TE prog w A R env) s
noncomputable def F0(prog:Program)(w:World)(A:Around)(R:Result->Shared->Prop)(env:Env)(it:Value)(tgt:Expr)(b o:List Stmt)(N:Shared->Prop)(r:Option Value)(s:Shared):Prop:=match r with
 |none=>wpAny (model prog w) A (execs o env) (λf s=>R (.ok f) s) (TE prog w A R env) s
 |some v=>wpAny (model prog w) A (letOwnedTupleGo tgt it v) (F1 prog w A R env tgt b N v) (TE prog w A R env) s
theorem zdd{A:Around}{R:Result->Shared->Prop}{s:Shared}{tgt:Expr}{b o:List Stmt}{it:Value}{env:Env}(I:Nat->Shared->Prop)
  (turn:∀n s,I n s->wpAny (model prog w) A (pyNext it) (F0 prog w A R env it tgt b o λs=>∃m,m<n/\I m s) (TE prog w A R env) s) (n:Nat) (h:I n s):codeAny (model prog w) A (.forLoop tgt it b o env) R s:=
 codeAny_forLoop_any I (λn s h=>wpAny_mono (turn n s h) (λr _ x=>by cases r<;>exact x) λ_ _ e=>e) n h
theorem zei{tgt iter:Expr}{b o:List Stmt}{p:Pos}(hi:d5 prog w B C n iter)(hb:iQ prog w B C n b)(ho:iQ prog w B C n o)(hs:zhK iter=true):rF prog w B C n (.For tgt iter b o p):=by
 intro A E env H G J s Q hA hE hκ O hw
 refine a2 (λhn hw=>?_) hw
 have hn':∀x∈cZ tgt,ziT true env x:=λx hx=>pG hκ (ay.mp hn x hx)
 refine wpAny_For (aJ (hi A E true env H G J s _ hA hE hκ O hw) λxv G1 st1 s1=>x1 λu=>a2 λhq hv O1 T1=>?_) (λx=>zde hs env x)
 refine x1 (λitems=>a3 λhit hz hq=>?_) (dP hq)
 obtain⟨ρ1,σ1⟩:=st1
 refine zhW O1.rep.inh hv hit λI h' Ws g hI hlt hT hws=>?_
 have hTA:=hT A hA.handled
 have O2:=O1.grow g O1.rep.tk
 have i1:=O1.g0 hI
 have i2:=O1.s0 hI
 have i3:=O1.l0 hI
 have i4:=O1.c0 hI
 have i5:=O1.rep.inh.tab.ne hI
 let ac:Nat->Shared->Prop:=(λk s'=>∃done rest Gj ρj σj,items=done++rest/\k=rest.length+1/\Ws done.length s'.heap/\Ok B w.params Gj env ⟨ρj,σj⟩ s'/\d7 tgt (wSs C H b) (wSs C H o) Q rest ⟨ρj,σj⟩/\
  Tr true env G1 ⟨ρ1,σ1⟩ s1 Gj ⟨ρj,σj⟩ s'/\Gj I=none/\σj I=none)
 refine zdd ac ?_ (items.length+1) ⟨[],items,G1,ρ1,σ1,rfl,rfl,hws,O2,hq,g.tr,i1,i2⟩
 refineλk s'=>x5 λdone rest Gj ρj σj=>a8 λhit' hk' hwsj Oj hqj Tj j1 j2=>?_
 cases rest with
 |nil=>
  rw[ck]at hit'
  subst hit'
  refine wpAny_with_toks (n:=1) Oj.rep.tk (hTA.done s' _ _ hwsj λh2 tk hk htk=>?_)
  refine aJ (ho A _ env H Gj _ _ Q hA hE hκ (Oj.at1 j1 j2 i3 i4 i5 htk hk) hqj) λf G2 st2 s2 hq2 O2 T2=>?_
  exact(aL (X:=FX w.params Q) (a:=f) O2 hq2).after (T1.trans ((Tj.at1 hI hk).trans T2))
 |cons v rest=>
  refine x1 (λρb=>a2 λhbind hqj=>?_) (dP hqj)
  refine wpAny_with_toks (n:=1) Oj.rep.tk (hTA.item done.length v s' _ _ (by rw[hit'];simp) hwsj λval h2 tk hval hws2 hk hgo htk=>?_)
  have O3:=Oj.at1 j1 j2 i3 i4 i5 htk hk
  have T3:=Tj.at1 (k:=tk) hI hk
  refine x1 (λoI aI=>?_) (hTA.alive _ _ hws2)
  refine hgo _ _ _ ?_
  refine aJ (vV (cw:=true) hA.handled hE O3 hn' (hval.mono Tj.ext) hbind) λ_ G4 st4 s4 e4 O4 T4=>?_
  subst e4
  refine aJ (hb A _ env H G4 _ s4 _ hA hE hκ O4 hqj) λf G5 st5 s5 hq5 O5 T5=>?_
  have T45:=T4.trans T5
  have T:=T3.trans T45
  obtain⟨ρ5,σ5⟩:=st5
  have inv:d7 tgt (wSs C H b) (wSs C H o) Q rest ⟨ρ5,σ5⟩->∃m,m<k/\ac m s5:=λhq6=>by
   refine⟨rest.length+1,hk'▸av _,done++[v],rest,G5,ρ5,σ5,by rw[hit'];simp,rfl,?_,O5,hq6,T,zhj T45 aI j1,zbh T45 aI j2⟩
   rw[bj,List.length_singleton]
   exact hTA.frame _ _ _ hws2 (λo e=>T45.keep I o i5 e i3 (λ_ x=>i4 x) j2) (O5.rep.inh.sub T.ext)
  cases f with
  |next=>exact inv hq5
  |cont=>exact inv hq5
  |brk=>exact(aL (X:=FX w.params Q) (a:=Flow.next) O5 hq5).after (T1.trans T)
  |ret v=>exact(aL (X:=FX w.params Q) (a:=Flow.ret v) O5 (by obtain⟨p,h1,h2⟩:=hq5;exact⟨p,h1,h2⟩)).after (T1.trans T)
end
noncomputable def zjx(ts:List Expr)(v:Expr):Bool:=(zbd v).isNone||ts.all λt=>(nmE t).isSome
theorem lJ{ts:List Expr}{v:Expr}(h:zjx ts v=true)(env:Env):swappedStores ts v env=pure none:=by
 match ts with
 |[]=>rfl
 |a ::b ::r=>cases a<;>first |rfl|(cases v<;>rfl)
 |[t]=>cases t<;>first |rfl|(cases v<;>first |rfl|(exfalso;cases h))
theorem w5{ts:List Expr}{v:Expr}{line:Nat}{env:Env}(h:kC v=false):swapsWithSole ts v line env=pure false:=by
 match ts with
 |[]=>rfl
 |_ ::_ ::_=>rfl
 |[t]=>cases v<;>first |rfl|(exfalso;cases h)
theorem zeS{C:Ctx}{H:Kn}{Q:PV->St->Prop}{J:St}{e:Expr}(hw:wE C e H Q J):kC e=false:=by
 cases e<;>first |rfl|exact bq hw
section
variable {prog:Program}{w:World}{B:Bs}{C:Ctx}{n:Nat}
theorem nF{t:Expr}(h:eB t=true){ts:List Expr}{env:Env}:assignEach (t ::ts) env=(false,assign t env) ::assignEach ts env:=by cases t<;>first |rfl|(exfalso;cases h)
theorem iP{A:Around}{E:Value->Shared->Prop}{env:Env}{P:Params}(hh:A.handled=none)(hE:EnvOk env):∀(ts:List Expr) (G:GM) (J:St) (s:Shared) (v:Value) (p:PV) (ρ':fD),Ok B P G env J s->(∀t∈ts,∀x∈cZ t,ziT true env x)->ts.all eB=true->
  VRel P G v p->jZ ts p J.ρ=some ρ'->wpAny (model prog w) A (assignAll v ((assignEach ts env).map (·.2))) (Lands B P true env G J s (λ_ st' _=>st'=⟨ρ',J.σ⟩)) E s
 |[]=>λG J s v p ρ' O hx hs hv h=>by
  have zq:=Option.some.inj h;subst zq
  exact wpAny_pure (aL O rfl)
 |[t]=>λG J s v p ρ' O hx hs hv h=>by
  refine x1 (λρ1=>a2 λe h=>?_) (cu.mp h)
  have zq:=Option.some.inj h;subst zq
  refine(nF (bQ hs).1).symm▸?_
  exact vV hh hE O (hx t bk) hv e
 |t ::t' ::ts=>λG J s v p ρ' O hx hs hv h=>by
  refine x1 (λρ1=>a2 λe h=>?_) (cu.mp h)
  have hs':=(bQ hs).2
  have e2:=nF (env:=env) (bQ hs').1 (ts:=ts)
  refine(nF (bQ hs).1).symm▸?_;refine cf.symm▸?_;refine e2.symm▸?_;refine cf.symm▸?_
  show wpAny _ _ (do holding [v] (assign t env v);assignAll v (assign t' env ::(assignEach ts env).map (·.2))) _ _ _
  refine wpAny_bind (wpAny_holding (aJ (vV (cw:=true) hh hE O (hx t bk) hv e) λ_ G1 st1 s1 e3 O1 T1=>?_))
  subst e3
  have:=iP (E:=E) hh hE (t' ::ts) G1 _ s1 v p ρ' O1 (λy hy=>hx y (bc _ hy)) hs' (hv.mono T1.ext) h
  rw[e2]at this
  exact aT T1 this
theorem zaE{ts:List Expr}{x name:Str}(h:n0 ts=some (x,name)):∃px p,ts=[.Attribute (.Name x px) name p]:=by
 match ts,h with
 |[t],h=>
  cases ht:atN t with
  |none=>
   have:n0 [t]=none:=by
    revert ht
    exact eY (P:=λt=>atN t=none->n0 [t]=none) (λ_ _ _ _=>rfl) (λ_ _ _=>rfl) (λ_ _ _ _=>rfl) (λ_ _ _ h=>by(exfalso;cases h)) (λ_ _ _ _ _=>rfl) (λ_ _ _ _ _=>rfl) (λ_ _ _ _ _=>rfl) (λ_ _ _ _=>rfl) (λe he _ _=>he _ _ _ _ _ _ _ _) t
   rw[this]at h;(exfalso;cases h)
  |some n=>
   refine x2 (λo p zr2=>?_) (rA ht);subst zr2
   refine x1 (λy=>a2 λhy e=>?_) (de.mp h)
   refine a2 (λzq zp=>?_) (Prod.mk.inj e);subst zq;subst zp
   refine x1 (λp zr1=>?_) (iX hy);subst zr1
   exact ex2 _ _ rfl
theorem uM{ts:List Expr}{e:Expr}{p:Pos}(hB:BsOk B)(hC:CtxOk prog w B C n)(he:d5 prog w B C n e)(hsw:zjx ts e=true)(hs:ts.all eB=true)
  (hx:∀x name,n0 ts=some (x,name)->(x==("__debug__":Str))=false/\(x==("__classdict__":Str))=false):rF prog w B C n (.Assign ts e p):=by
 intro A E env H G J s Q hA hE hκ O hw
 have hw:wE C e H (λv st1=>d9 C H ts v st1 λst2=>Q .next st2) J:=hw
 refine wpAny_Assign_stores (aJ (he A E true env H G J s _ hA hE hκ O hw) λv G1 st1 s1=>x1 λu=>a2 λhq hv O1 T1=>?_) (w5 (zeS hw)) (lJ hsw env)
 cases ht:n0 ts with
 |some xn=>
  obtain⟨x,name⟩:=xn
  dsimp only[d9]at hq
  rw[ht]at hq
  refine x2 (λpx pa zr2=>?_) (zaE ht);subst zr2
  refine a2 (λok1 ok2=>?_) (hx x name ht)
  refine x1 (λy=>a2 λha hq1=>?_) (dP hq)
  obtain⟨a,rfl,c,fs,i,h1,h2,h3,h4⟩:=tN hq1
  clear hq hq1
  refine(?_:wpAny _ _ (assign (.Attribute (.Name x px) name pa) env v) _ _ _)
  rw[show assign (.Attribute (.Name x px) name pa) env v=(do
   let ov <- holding [v] (PySem.eval (.Name x px) env)
   standAt pa.atName
   holding [v,ov] (setAttr ov name v)
   release [v,ov] [])from rfl]
  refine wpAny_bind (wpAny_holding (wpAny_Name (aJ (vF (p:=px) hB hC ok2 A E true env H G1 st1 s1 (λq st'=>q=.ptr a/\st'=st1) hE hκ O1 (by rw[kL,if_neg (λq=>by have h1:=hκ.glob q;rcases O1.rep.kind x _ ha with h|h|h<;>rw[h1]at h<;>cases h),ha];exact⟨rfl,rfl⟩)) λov G2 st2 s2 ⟨q,⟨hq1,hq2⟩,hov⟩ O2 T2=>?_) ok1))
  subst hq1 hq2
  simp only[VRel]at hov;subst hov
  refine wpAny_bind (wpAny_standAt (wpAny_bind (wpAny_holding ?_)))
  refine aJ (zfB (cw:=true) hB hC O2 h1 h2 h3 (hv.mono T2.ext)) λ_ G3 st3 s3 e3 O3 T3=>wpAny_release' ?_
  subst e3
  exact(aL (X:=FX w.params Q) (a:=Flow.next) O3 h4).after (T1.trans (T2.trans T3))
 |none=>
  dsimp only[d9]at hq
  rw[ht]at hq
  refine a2 (λhn hq=>?_) hq
  refine x1 (λρ'=>a2 λhbnd hq=>?_) (dP hq)
  refine aJ (iP hA.handled hE ts G1 st1 s1 v u ρ' O1 (λt ht x hx=>pG hκ (ay.mp (ay.mp hn t ht) x hx)) hs hv hbnd) λ_ G2 st2 s2 e2 O2 T2=>?_
  subst e2
  exact(aL (X:=FX w.params Q) (a:=Flow.next) O2 hq).after (T1.trans T2)
end
section
variable {prog:Program}{w:World}{B:Bs}{C:Ctx}{n:Nat}
theorem vD(hB:BsOk B){env:Env}(hE:EnvOk env)(id:Str)(p:Pos):∃b,Looks (model prog w) B.h₀ (do return(<- importBound (.Name id p) env).getD true) b:=by
 have ns:∀s:Shared,(∀a o,B.h₀.get? a=some o->s.heap.get? a=some o)->s.heap.Ns env.globals B.mg:=λs k=>by refine hE.glob.symm▸?_;exact hB.g.keeps k
 have triv:∀v,(∀x t,v≠some (.str x t))->B.mg "__name__"=v->Looks (model prog w) B.h₀ (do return(<- importBound (.Name id p) env).getD true) true:=by
  intro v hv e A Q E s k q
  refine wpAny_bind (wpAny_bind (wpAny_askSetting (wpAny_bind (wpAny_nsGet (ns s k) ?_))))
  refine e.symm▸?_
  cases v with
  |none=>exact wpAny_pure (wpAny_pure q)
  |some v=>cases v<;>first |exact wpAny_pure (wpAny_pure q)|exact absurd rfl (hv _ _)
 cases e:B.mg "__name__"with
 |none=>exact⟨true,triv none (λ_ _ h=>by cases h) e⟩
 |some v=>
  cases v with
  |str x t=>
   refine⟨((if(x==("__main__":Str))=true then some prog.main else(prog.modules.lookup x).map (·.2)).map λtop=>importsBind id top.body).getD true,λA Q E s k q=>?_⟩
   refine wpAny_bind (wpAny_bind (wpAny_askSetting (wpAny_bind (wpAny_nsGet (ns s k) ?_))))
   refine e.symm▸?_
   exact wpAny_pure (wpAny_pure q)
  |_=>exact⟨true,triv _ (λ_ _ h=>by cases h) e⟩
theorem qE{e:Expr}{args:List Expr}:dN e=some args->∃np ap p,e=.Call (.Attribute (.Name "Node" np) "__init__" ap) args [] p:=by
 refine eY (P:=λe=>dN e=some args->∃np ap p,e=.Call (.Attribute (.Name "Node" np) "__init__" ap) args [] p) ?_ ?_ ?_ ?_ ?_ ?_ (λf as kws p h=>?_) ?_ (λe _ he h=>by rw[dN,he]at h;(exfalso;cases h)) e
 case refine_7=>
  cases hf:atN f with
  |none=>
   refine absurd h ?_
   have:exc none (λ_=>none) (λ_=>none) (λ_=>none) (λo m _=>if nmE o=some "Node"/\ m="__init__"/\ kws.isEmpty=true then some as else none) (λ_ _=>none) (λ_ _=>none) f=(none:Option (List Expr)):=by
    revert hf
    exact eY (P:=λf=>atN f=none->exc none (λ_=>none) (λ_=>none) (λ_=>none) (λo m _=>if nmE o=some "Node"/\ m="__init__"/\ kws.isEmpty=true then some as else none) (λ_ _=>none) (λ_ _=>none) f=(none:Option (List Expr))) (λ_ _ _ _=>rfl) (λ_ _ _=>rfl) (λ_ _ _ _=>rfl) (λ_ _ _ h=>by(exfalso;cases h)) (λ_ _ _ _ _=>rfl) (λ_ _ _ _ _=>rfl) (λ_ _ _ _ _=>rfl) (λ_ _ _ _=>rfl) (λe he _ _=>he _ _ _ _ _ _ _ _) f
   refine(?_:¬(exc none (λ_=>none) (λ_=>none) (λ_=>none) (λo m _=>if nmE o=some "Node"/\ m="__init__"/\ kws.isEmpty=true then some as else none) (λ_ _=>none) (λ_ _=>none) f=some args))
   rw[this];intro q;(exfalso;cases q)
  |some m=>
   refine x2 (λo ap zr2=>?_) (rA hf);subst zr2
   have h:(if nmE o=some "Node"/\ m="__init__"/\ kws.isEmpty=true then some as else none)=some args:=h
   by_cases q:nmE o=some "Node"/\ m="__init__"/\ kws.isEmpty=true
   ·replace h:=(if_pos q)▸h
    have zq:=Option.some.inj h;subst zq
    refine a3 (λq1 zr1 q3=>?_) q;subst zr1
    refine x1 (λnp zr1=>?_) (iX q1);subst zr1
    cases List.isEmpty_iff.mp q3
    exact ex3 _ _ _ rfl
   ·replace h:=(if_neg q)▸h;(exfalso;cases h)
 all_goals(intros;rename_i h;(exfalso;cases h))
theorem zby{args:List Expr}{np ap cp p:Pos}(hB:BsOk B)(hC:CtxOk prog w B C n)(h:∀e∈args,d5 prog w B C n e)(hs:args.all eB=true)(hlen:args.length<30)(hline:(ap.endLine==cp.line)=true):
  rF prog w B C n (.Expr (.Call (.Attribute (.Name "Node" np) "__init__" ap) args [] cp) p):=by
 intro A E env H G J s Q hA hE hκ O hw
 obtain⟨hi,hk,hw⟩:C.ini=true/\H "Node"=some .globalImplicit/\wEs C args H (λvs st1=>vL C vs st1 λst2=>Q .next st2) J:=by
  have e:(if nmE (.Name "Node" np)=some "Node"/\ ("__init__":Str)="__init__"/\ ([]:List Keyword).isEmpty=true then some args else none)=some args:=if_pos ⟨rfl,rfl,rfl⟩
  rw[mI,show dN (.Call (.Attribute (.Name "Node" np) "__init__" ap) args [] cp)=some args from e]at hw
  exact hw
 refine x2 (λnodeV fV=>a4 λi1 i2 i3 i4=>?_) (hC.ini hi)
 refine x1 (λb hb=>?_) (vD (prog:=prog) (w:=w) hB hE "Node" np)
 refine wpAny_Expr_any ?_ (xN hE) rfl
 have hform:methodCallForm (args.length+([]:List Keyword).length) (backTo cp (starEach args env)) (backToKw cp (keywordEach [] env))=true:=by
  unfold methodCallForm
  refine(jW args env hs).symm▸?_
  exact zfV rfl (decide_eq_true hlen)
 have hpos:methodCallPos true (.Name "Node" np) env ap cp=pure cp:=by unfold methodCallPos;simp[hline]
 rw[arm_eval_Call,vX rfl]
 refine wpAny_bind (wpAny_Name ?_ (by decide+kernel))
 refine(loadName_read hE.kind (hκ.glob hk)).symm▸?_
 refine eQ hB hE O.rep.inh O.over i1 ?_
 refine wpAny_bind (wpAny_standAt ?_)
 unfold methodCall
 refine hform.symm▸?_
 refine wpAny_bind (wpAny_holding (i3 A E s _ _ b (λa o e=>O.rep.inh.at_ _ _ (O.over _ _ e)) hb λk hk'=>?_))
 refine wpAny_bind (wpAny_of_eq hpos ?_)
 have g:=GS.toks O.rep.inh k
 have O0:=O.grow g (show 1<=k from af O.rep.tk hk')
 refine cU (mG args env hs) (wpAny_mono (pH args h hs A E true env H G J _ _ hA hE hκ O0 hw) (λa s1=>x1 λvs=>a2 λha=>x2 λG1 st1=>a3<|x1 λps=>a2 λhq hv O1 T1=>?_) λ_ _ e=>e)
 subst ha
 refine⟨O1.keepsAt i2,?_⟩
 refine x3 (λp pa pb=>a2 λzr3 hq1=>?_) (pE hq);subst zr3
 refine x1 (λad=>a2 λzr1 hq2=>?_) (tN hq1);subst zr1
 clear hq hq1
 obtain⟨v,_,rfl,h0,va,_,rfl,h1,vb,_,rfl,h2,rfl⟩:=hv
 simp only[VRel]at h0
 subst h0
 refine wpAny_mono (i4 A E true env G1 st1 s1 ad va vb pa pb _ hA O1 h1 h2 hq2) (λv s2=>x2 λG2 st2=>a3 λhq2 O2 T2=>?_) λ_ _ e=>e
 exact(aL (X:=FX w.params Q) (a:=Flow.next) O2 hq2).after (g.tr.trans (T1.trans T2))
noncomputable def zgu(ts:List Expr):Bool:=match n0 ts with
 |some xn=>okN xn.1
 |none=>true
mutual
noncomputable def okS:Stmt->Bool
 |.Expr e _=>okE e
 |.Return e _=>okO e
 |.Assign ts e _=>okE e&&(zjx ts e&&(ts.all eB&&zgu ts))
 |.AugAssign t _ e _=>okE e&&okE t
 |.If t b o _=>okE t&&(r8 b&&r8 o)
 |.While t b o _=>okE t&&(r8 b&&r8 o)
 |.For _ iter b o _=>okE iter&&(zhK iter&&(r8 b&&r8 o))
 |.Try b _ o _ _=>r8 b&&r8 o
 |.Assert t _ _=>okE t
 |.FunctionDef _ _ _ _ _ _ _ _ _ _=>true
 |.AsyncFunctionDef _ _ _ _ _ _ _ _ _ _=>true
 |.ClassDef _ _ _ _ _ _ _ _ _ _ _=>true
 |.Delete _ _=>true
 |.TypeAlias _ _ _ _ _ _ _=>true
 |.AnnAssign _ _ _ _ _=>true
 |.AsyncFor _ _ _ _ _=>true
 |.With _ _ _=>true
 |.AsyncWith _ _ _=>true
 |.Match _ _ _=>true
 |.Raise _ _ _=>true
 |.TryStar _ _ _ _ _=>true
 |.Import _ _=>true
 |.ImportFrom _ _ _ _=>true
 |.Global _ _=>true
 |.Nonlocal _ _=>true
 |.Pass _=>true
 |.Break _=>true
 |.Continue _=>true
noncomputable def r8:List Stmt->Bool
 |[]=>true
 |s ::ss=>okS s&&r8 ss
end
theorem nZ{s:Stmt}(h:∀H Q J,¬wS C H s Q J):rF prog w B C n s:=λ_ _ _ _ _ _ _ _ _ _ _ _ hw=>(h _ _ _ hw).elim
theorem zJ{e:Expr}{p:Pos}(hB:BsOk B)(hC:CtxOk prog w B C n)(h:okE e=true):rF prog w B C n (.Expr e p):=by
 cases hi:dN e with
 |none=>exact zbz (snd hB hC h) hi
 |some args=>
  refine x3 (λnp ap cp zr3=>?_) (qE hi);subst zr3
  have h:=(bQ (bQ h).2)
  exact zby hB hC (λe he=>(jL hB hC args h.1 e he).1) (bQ h.2).1 (of_decide_eq_true (bQ (bQ h.2).2).1) (bQ (bQ h.2).2).2
theorem zbC{t e:Expr}{op:Operator}{p:Pos}(hB:BsOk B)(hC:CtxOk prog w B C n)(h:okE e=true)(ht:okE t=true):rF prog w B C n (.AugAssign t op e p):=by
 cases hn:nmE t with
 |none=>exact nZ λH Q J hw=>by have hw:opt (nmE t) _:=hw;rw[hn]at hw;exact hw
 |some x=>
  refine x1 (λpx zr1=>?_) (iX hn);subst zr1
  exact zej hB hC (snd hB hC h) (f7 (bQ ht).2)
theorem zbx{b o f:List Stmt}{hs:List ExceptHandler}{p:Pos}(hb:iQ prog w B C n b)(ho:iQ prog w B C n o):rF prog w B C n (.Try b hs o f p):=by
 cases hs with
 |nil=>exact nZ λH Q J hw=>fo hw.1
 |cons h hs=>cases f with
  |nil=>exact zeg hb ho
  |cons f fs=>exact nZ λH Q J hw=>fo hw.2.1
theorem rO{ts:List Expr}{e:Expr}{p:Pos}(hB:BsOk B)(hC:CtxOk prog w B C n)(h:okE e=true)(h1:zjx ts e=true)(h2:ts.all eB=true)(h3:zgu ts=true):rF prog w B C n (.Assign ts e p):=
 uM hB hC (snd hB hC h) h1 h2 (λx name hx=>by
  have h3:(match n0 ts with
   |some xn=>okN xn.1
   |none=>true)=true:=h3
  rw[hx]at h3;exact⟨f7 (bQ h3).1,f7 (bQ h3).2⟩)
mutual
theorem zkI(hB:BsOk B)(hC:CtxOk prog w B C n):∀s:Stmt,okS s=true->rF prog w B C n s
 |.Expr _ _,h=>zJ hB hC h
 |.Break _,_=>zK
 |.Continue _,_=>zbA
 |.Return (some _) _,h=>uL (snd hB hC h)
 |.Return none _,_=>nZ λ_ _ _ h=>h
 |.Assign _ _ _,h=>rO hB hC (bQ h).1 (bQ (bQ h).2).1 (bQ (bQ (bQ h).2).2).1 (bQ (bQ (bQ h).2).2).2
 |.AugAssign _ _ _ _,h=>zbC hB hC (bQ h).1 (bQ h).2
 |.If _ b o _,h=>zhn (zkJ hB hC (bQ h).1) (jK hB hC b (bQ (bQ h).2).1) (jK hB hC o (bQ (bQ h).2).2)
 |.While _ b o _,h=>zI (zkJ hB hC (bQ h).1) (jK hB hC b (bQ (bQ h).2).1) (jK hB hC o (bQ (bQ h).2).2)
 |.For _ _ b o _,h=>zei (snd hB hC (bQ h).1) (jK hB hC b (bQ (bQ (bQ h).2).2).1) (jK hB hC o (bQ (bQ (bQ h).2).2).2) (bQ (bQ h).2).1
 |.Try b _ o _ _,h=>zbx (jK hB hC b (bQ h).1) (jK hB hC o (bQ h).2)
 |.FunctionDef _ _ _ _ _ _ _ _ _ _,_=>nZ λ_ _ _ h=>h
 |.AsyncFunctionDef _ _ _ _ _ _ _ _ _ _,_=>nZ λ_ _ _ h=>h
 |.ClassDef _ _ _ _ _ _ _ _ _ _ _,_=>nZ λ_ _ _ h=>h
 |.Delete _ _,_=>nZ λ_ _ _ h=>h
 |.TypeAlias _ _ _ _ _ _ _,_=>nZ λ_ _ _ h=>h
 |.AnnAssign _ _ _ _ _,_=>nZ λ_ _ _ h=>h
 |.AsyncFor _ _ _ _ _,_=>nZ λ_ _ _ h=>h
 |.With _ _ _,_=>nZ λ_ _ _ h=>h
 |.AsyncWith _ _ _,_=>nZ λ_ _ _ h=>h
 |.Match _ _ _,_=>nZ λ_ _ _ h=>h
 |.Raise _ _ _,_=>nZ λ_ _ _ h=>h
 |.TryStar _ _ _ _ _,_=>nZ λ_ _ _ h=>h
 |.Assert _ _ _,h=>uN (zkJ hB hC h)
 |.Import _ _,_=>nZ λ_ _ _ h=>h
 |.ImportFrom _ _ _ _,_=>nZ λ_ _ _ h=>h
 |.Global _ _,_=>nZ λ_ _ _ h=>h
 |.Nonlocal _ _,_=>nZ λ_ _ _ h=>h
 |.Pass _,_=>nZ λ_ _ _ h=>h
theorem jK(hB:BsOk B)(hC:CtxOk prog w B C n):∀ss:List Stmt,r8 ss=true->iQ prog w B C n ss
 |[],_=>zeh
 |s ::ss,h=>zbB (zkI hB hC s (bQ h).1) (jK hB hC ss (bQ h).2)
end
theorem zkH(hB:BsOk B)(hC:CtxOk prog w B C n){ss:List Stmt}(h:r8 ss=true):iQ prog w B C n ss:=jK hB hC ss h
end
theorem gE{P:Params}{G:GM}{σ:Nat->Option Cell}{h:Heap}(hc:∀a c,σ a=some c->CellRel P G h a c/\G a=none):Sub G (frz G σ h):=x9 λa c e=>(hc a c e).2
mutual
theorem zbV{P:Params}{G:GM}{σ:Nat->Option Cell}{h:Heap}(hc:∀a c,σ a=some c->CellRel P G h a c/\G a=none):∀(t:PV) {p:PV}{v:Value},VRel P G v p->Res σ p t->VRel P (frz G σ h) v t
 |.tup ts,p,v,hv,r=>by
  simp only[Res]at r
  obtain⟨xs,rfl,r⟩:=r
  simp only[VRel]at hv ⊢
  obtain⟨a,o,vs,n,h1,h2,h3,h4,h5,h6⟩:=hv
  exact ex4 a o vs n ⟨h1,gE hc _ _ h2,h3,h4,h5,j7 hc ts h6 r⟩
 |.list ts,p,v,hv,r=>by
  simp only[Res]at r
  rcases r with⟨xs,rfl,r⟩|⟨a,xs,rfl,e,r⟩
  ·simp only[VRel]at hv ⊢
   refine x4 (λa o vs n=>a7 λh1 h2 h3 h3' h4 h5 h6=>?_) hv
   exact ex4 a o vs n ⟨h1,gE hc _ _ h2,h3,h3',h4,h5,j7 hc ts h6 r⟩
  ·simp only[VRel]at hv;subst hv
   obtain⟨⟨vs,m,g1,g2,g3⟩,_⟩:=hc a _ e
   simp only[VRel]
   exact ex4 a _ vs m ⟨rfl,(if_pos (by rw[e];rfl)).trans g1,rfl,rfl,rfl,g2,j7 hc ts g3 r⟩
 |.inst c ts,p,v,hv,r=>by
  simp only[Res]at r
  obtain⟨xs,rfl,r⟩:=r
  simp only[VRel]at hv ⊢
  obtain⟨vs,h1,h2⟩:=hv
  exact⟨vs,h1.mono (gE hc),j7 hc ts h2 r⟩
 |.none,p,v,hv,r=>by simp only[Res]at r;subst r;exact hv.mono (gE hc)
 |.bool _,p,v,hv,r=>by simp only[Res]at r;subst r;exact hv.mono (gE hc)
 |.int _,p,v,hv,r=>by simp only[Res]at r;subst r;exact hv.mono (gE hc)
 |.str _,p,v,hv,r=>by simp only[Res]at r;subst r;exact hv.mono (gE hc)
 |.rng _ _,p,v,hv,r=>by simp only[Res]at r;subst r;exact hv.mono (gE hc)
 |.ptr _,p,v,hv,r=>by simp only[Res]at r
 |.dict _ _,p,v,hv,r=>by simp only[Res]at r;subst r;exact hv.mono (gE hc)
theorem j7{P:Params}{G:GM}{σ:Nat->Option Cell}{h:Heap}(hc:∀a c,σ a=some c->CellRel P G h a c/\G a=none):∀(ts:List PV) {ps:List PV}{vs:List Value},VRels P G vs ps->nM σ ps ts->VRels P (frz G σ h) vs ts
 |[],ps,vs,hv,r=>by
  simp only[nM]at r;subst r
  simp only[VRels]at hv ⊢;exact hv
 |t ::ts,ps,vs,hv,r=>by
  simp only[nM]at r
  refine x2 (λy ys=>a3 λzr2 r1 r2=>?_) r;subst zr2
  simp only[VRels]at hv ⊢
  refine x2 (λv us=>a3 λzr2 h1 h2=>?_) hv;subst zr2
  exact ex2 v us ⟨rfl,zbV hc t h1 r1,j7 hc ts h2 r2⟩
end
noncomputable def bB:List (Str×PV)->fD->fD
 |[],ρ=>ρ
 |(x,p) ::r,ρ=>bB r (upd ρ x p)
theorem o6{kindOf:Str->Option NameKind}:∀(l:List (Str×PV)) (ρ:fD),(∀x p,ρ x=some p->kindOf x=some .local\/kindOf x=some .cell)->(∀y∈l,kindOf y.1=some .local\/kindOf y.1=some .cell)->
  ∀x p,bB l ρ x=some p->kindOf x=some .local\/kindOf x=some .cell
 |[]=>λρ h _ x p e=>h x p e
 |(n,q) ::r=>λρ h hl x p e=>by
  refine o6 r (upd ρ n q) (λy p e=>?_) (λy hy=>hl y (bc _ hy)) x p e
  unfold upd at e
  split at e
  ·rename_i hh;subst hh;exact hl (_,q) (by simp)
  ·exact h y p e
theorem yY{P:Params}{G:GM}{kindOf:Str->Option NameKind}:∀(l:List (Str×Value)) (pl:List (Str×PV)) (ρ:fD) (m cm:Str->Option Value),
  (∀x p,ρ x=some p->kindOf x=some .local->∃v,m x=some v/\VRel P G v p)->(∀x p,ρ x=some p->kindOf x≠some .local->∃v,cm x=some v/\VRel P G v p)->
  l.map (·.1)=pl.map (·.1)->VRels P G (l.map (·.2)) (pl.map (·.2))->
  (∀x p,bB pl ρ x=some p->kindOf x=some .local->∃v,bindL kindOf l m x=some v/\VRel P G v p)/\(∀x p,bB pl ρ x=some p->kindOf x≠some .local->∃v,bindC kindOf l cm x=some v/\VRel P G v p)
 |[],[]=>λρ m cm h1 h2 _ _=>⟨h1,h2⟩
 |[],_ ::_=>λ_ _ _ _ _ h _=>by simp at h
 |_ ::_,[]=>λ_ _ _ _ _ h _=>by simp at h
 |(n,v) ::l,(n',p) ::pl=>λρ m cm h1 h2 h3 h4=>by
  simp only[cf,List.cons.injEq]at h3
  obtain⟨rfl,h3⟩:=h3
  simp only[cf,VRels]at h4
  obtain⟨v',r,e,hv,h4⟩:=h4
  refine a2 (λzq zp=>?_) (List.cons.inj e);subst zq;subst zp
  refine yY l pl (upd ρ n p) _ _ (λx q e hk=>?_) (λx q e hk=>?_) h3 h4
  ·unfold upd at e
   split at e
   ·rename_i hx;subst hx;(have zq:=Option.some.inj e;subst zq)
    exact⟨v,by rw[if_pos hk];simp,hv⟩
   ·rename_i hx
    refine x1 (λu=>a2 λa b=>?_) (h1 x q e hk)
    refine⟨u,?_,b⟩
    split
    ·refine(?_:(if x=n then some v else m x)=_)
     rw[if_neg hx];exact a
    ·exact a
  ·unfold upd at e
   split at e
   ·rename_i hx;subst hx;(have zq:=Option.some.inj e;subst zq)
    exact⟨v,by rw[if_neg hk];simp,hv⟩
   ·rename_i hx
    refine x1 (λu=>a2 λa b=>?_) (h2 x q e hk)
    refine⟨u,?_,b⟩
    split
    ·exact a
    ·refine(?_:(if x=n then some v else cm x)=_)
     rw[if_neg hx];exact a
theorem kZ:∀(names:List (Str×NameKind)) (n:Nat) (acc:List (Str×Addr)) (x:Str),(gy x acc).isSome=true->(gy x (cellsFrom n names acc)).isSome=true
 |[]=>λ_ _ _ h=>h
 |(m,k) ::r=>λn acc x h=>by
  unfold cellsFrom
  split
  ·refine kZ r _ _ x ?_
   rw[cy]
   split
   ·rfl
   ·exact h
  ·exact kZ r _ _ x h
theorem gO:∀(names:List (Str×NameKind)) (n:Nat) (acc:List (Str×Addr)) (x:Str),(x,NameKind.cell)∈names->(gy x (cellsFrom n names acc)).isSome=true
 |[]=>λ_ _ _ h=>by simp at h
 |(m,k) ::r=>λn acc x h=>by
  unfold cellsFrom
  rcases bb.mp h with e|e
  ·refine a2 (λzq zp=>?_) (Prod.mk.inj e);subst zq;subst zp
   rw[if_pos (by decide)]
   exact kZ r _ _ _ (by simp[cy])
  ·split
   ·exact gO r _ _ x e
   ·exact gO r _ _ x e
noncomputable def gQ(K:PV->Prop):Fl->St->Prop
 |.ret v,J=>∃t,Res J.σ v t/\K t
 |.next,_=>K .none
 |.brk,_=>False
 |.cont,_=>False
structure FunAt (K:Frag) (a:Addr) (fd:FuncData) (body:List Stmt):Prop where
 at_:∃c d sl,K.lookup a=some ⟨c,d,.func fd,sl⟩
 body:fd.body=.stmts body
 clo:fd.closure=[]
 glob:fd.globals=mainGlobals
 bi:fd.builtins=builtinsNs
 code:codeIn K fd.code fd.qualname=true
 co:fd.scope.isCoroutine=false
 gen:fd.scope.isGenerator=false
 kind:fd.scope.kind=.function
 free:fd.scope.names.all (λn=>!(n.2==.free))=true
section
variable {prog:Program}{w:World}{B:Bs}{C:Ctx}{n:Nat}
theorem fR{a:Addr}{fd:FuncData}{body:List Stmt}(hB:BsOk B)(hF:FunAt B.K a fd body):KeepsAt prog w B.h₀ (.ref a):=by
 refine x3 (λc d sl h=>?_) hF.at_
 refine⟨.frame,λA Q E s k q=>?_⟩
 exact wpAny_bind (wpAny_load (k _ _ (hB.kin _ _ h)) (wpAny_pure q))
end
section
variable {prog:Program}{w:World}{B:Bs}{C:Ctx}{n:Nat}
theorem tK{P:Params}{G:GM}{s s₁:Shared}{fd:FuncData}{a:Addr}{params:List Str}{vals:List Value}{ps:List PV}(hi:InH G s.heap)(tk:1<=s₁.toks)(ho:Over B G)
  (hpar:∀x∈params,fd.scope.names.lookup x=some .local\/fd.scope.names.lookup x=some .cell) (hlen:params.length=ps.length) (hv:VRels P G vals ps) {σ:Nat->Option Cell}(hσ:∀a c,σ a=some c->CellRel P G s.heap a c/\G a=none)
  (x:InCallC s (callEnvC fd s.heap.objs.size a).locals (bindL (callEnvC fd s.heap.objs.size a).kindOf (params.zip vals) λ_=>none) (callEnvC fd s.heap.objs.size a).cells (bindC (callEnvC fd s.heap.objs.size a).kindOf (params.zip vals) λ_=>none) s₁):
  Ok B P G (callEnvC fd s.heap.objs.size a) ⟨bB (params.zip ps) λ_=>none,σ⟩ s₁:=by
 have hlv:=hv.length
 have e1:(params.zip vals).map (·.1)=(params.zip ps).map (·.1):=by
  rw[List.map_fst_zip (by omega),List.map_fst_zip (by omega)]
 have e2:VRels P G ((params.zip vals).map (·.2)) ((params.zip ps).map (·.2)):=by
  rw[List.map_snd_zip (by omega),List.map_snd_zip (by omega)];exact hv
 have kp:=x.toInCall.keep
 refine a2 (λhL hC=>?_) (yY (P:=P) (G:=G) (kindOf:=(callEnvC fd s.heap.objs.size a).kindOf) (params.zip vals) (params.zip ps) (λ_=>none) (λ_=>none) (λ_=>none) (λ_ _ e=>by cases e) (λ_ _ e=>by cases e) e1 e2)
 have hk:∀y p,bB (params.zip ps) (λ_=>none) y=some p->(callEnvC fd s.heap.objs.size a).kindOf y=some .local\/(callEnvC fd s.heap.objs.size a).kindOf y=some .cell:=
  o6 _ _ (λ_ _ e=>by(exfalso;cases e)) λy hy=>hpar y.1 (List.of_mem_zip hy).1
 have fresh:∀c,s.heap.objs.size<=c->s.heap.get? c=none:=λc h=>u0 h
 have cellsAt:∀y c,(callEnvC fd s.heap.objs.size a).cells.lookup y=some c->s.heap.get? c=none/\c≠s.heap.objs.size:=λy c e=>by
  have:=x.above y c (PySem.mem_of_lookup e)
  exact⟨fresh c (aq this),ix this⟩
 have hG:∀c,s.heap.get? c=none->G c=none:=λc h=>by
  cases q:G c with
  |none=>rfl
  |some o=>have:=hi.at_ c o q;replace this:=h▸this;(exfalso;cases this)
 have have_cell:∀y,(callEnvC fd s.heap.objs.size a).kindOf y=some .cell->∃c,(callEnvC fd s.heap.objs.size a).cells.lookup y=some c:=λy e=>
  cj.mp (gO fd.scope.names _ [] y (mem_of_lookup e))
 refine⟨ho,⟨hi.keeps kp,tk,⟨_,x.toInCall.ns,hL⟩,λy p e=>(hk y p e).elim .inl λq=>.inr (.inl q),?_,?_,hG _ (fresh _ (bh _)),λy c e=>⟨hG c (cellsAt y c e).1,(cellsAt y c e).2⟩,?_,λb c e=>?_⟩,?_⟩
 ·intro y p e q
  rcases hk y p e with q1|q1
  ·exact absurd q1 q
  ·refine x1 (λc hc=>?_) (have_cell y q1)
   refine x1 (λv=>a2 λh1 h2=>?_) (hC y p e q)
   exact ex2 c v ⟨hc,by have:=x.cell y c hc;rwa [h1]at this,h2⟩
 ·intro y e
  refine x1 (λc hc=>?_) (have_cell y e)
  exact ex2 c _ ⟨hc,x.cell y c hc⟩
 ·intro y z c e1 e2
  exact name_of_addr x.apart (PySem.mem_of_lookup e1) (PySem.mem_of_lookup e2)
 ·refine a2 (λh1 h2=>?_) (hσ b c e)
  refine x1 (λo hob=>?_) h1.alive
  refine⟨h1.mono (.refl _) λo e=>kp b o e,h2,λq=>?_,λy q=>?_⟩
  ·(replace hob:=(show b=s.heap.objs.size from q)▸hob;replace hob:=eW▸hob);(exfalso;cases hob)
  ·replace hob:=((cellsAt y b q).1)▸hob;(exfalso;cases hob)
 ·intro y c e
  refine x1 (λo=>a2 λho _=>?_) (x.cell y c e)
  exact⟨o,ho⟩
noncomputable def Ok0(B:Bs)(P:Params)(G:GM)(env:Env)(J:St)(s:Shared):Prop:=∀k,1<=k->Ok B P G env J {s with toks:=k}
theorem kE{tk0:Prop}{W:(Fl->St->Prop)->St->Prop}{a:Addr}{fd:FuncData}{body:List Stmt}{params:List Str}{k:Nat}{dv:List Value}{dp:List PV}(hB:BsOk B)(hF:FunAt B.K a fd body)
  (hb:∀(A:Around) (E:Value->Shared->Prop) (env:Env) (G:GM) (J:St) (sh:Shared) (Q:Fl->St->Prop),Room n A->EnvOk env->KOk (cV fd.scope.names) env->env.code=fd.code->Ok0 B w.params G env J sh->(tk0->1<=sh.toks)->
   W Q J->wpAny (model prog w) A (execs body env) (Lands B w.params true env G J sh (FX w.params Q)) E sh)
  (hpar:∀x∈params,fd.scope.names.lookup x=some .local\/fd.scope.names.lookup x=some .cell) (hlen:params.length=k+dp.length)
  (hd:∀G,VRels w.params G dv dp)
  (hbind:∀(s:Shared) (vals:List Value),B.K.In s.heap->vals.length=k->BindsTo s fd ⟨vals,[]⟩ (params.zip (vals++dv))):
  ∀(A:Around) (E:Value->Shared->Prop) (G:GM) (s:Shared) (args:List Value) (ps:List PV) (K:PV->Prop),Room (n+1) A->InH G s.heap->(tk0->1<=s.toks)->Over B G->VRels w.params G args ps->
   ps.length=k/\W (gQ K) ⟨bB (params.zip (ps++dp)) λ_=>none,λ_=>none⟩->GW (model prog w) A w.params E G s (call (.ref a) args) K:=by
 intro A E G s args ps K hA hi tk ho hv ⟨hl,hw⟩
 refine x3 (λc d sl hat=>?_) hF.at_
 have hin:B.K.In s.heap:=hB.kin.keeps λb o e=>hi.at_ _ _ (ho _ _ e)
 have hv':=hv.append (hd G)
 have hlv:=hv'.length
 refine wpAny_call (codeAny_call_function (body:=body) (ai (af (am _ _) hA.depth) (by decide:900<1000)) (hin _ _ hat) rfl hF.co hF.gen hF.body (codeRec_of hin hF.code) (hbind s args hin (by rw[hv.length,hl]) _ _ _ _ ?_))
 rw[hF.clo]
 refine wpAny_with_toks (n:=s.toks) (bh _) (wpAny_newFunctionEnv_cells hF.kind (λy hy=>?_) λenv he s₁ x htk=>?_)
 ·rcases hpar y.1 (List.of_mem_zip hy).1 with q|q
  ·exact .inl q
  ·exact .inr ⟨q,gO _ _ [] _ (mem_of_lookup q)⟩
 rw[<- show callEnvC fd s.heap.objs.size a=newEnv fd.scope s.heap.objs.size fd.globals (cellsFrom (s.heap.objs.size+1) fd.scope.names []) (fd.qualname++".<locals>.") (some a) fd.code none fd.builtins from rfl]at he
 subst he
 have kp:=x.toInCall.keep
 refine⟨(hB.lim.keeps λb o e=>hi.at_ _ _ (ho _ _ e)).keeps kp,codeAny_func ?_⟩
 have O:Ok0 B w.params G _ _ s₁:=λt ht=>tK (B:=B) (s₁:={s₁ with toks:=t}) hi ht ho hpar (by rw[hlen,bj,hl]) hv' (σ:=λ_=>none) (λ_ _ e=>by(exfalso;cases e)) (x.tok t)
 have hκ:KOk (cV fd.scope.names) (callEnvC fd s.heap.objs.size a):=λy=>by
  rw[if_neg]
  ·rfl
  ·intro e
   have:=ay.mp hF.free _ (mem_of_lookup (show gy y fd.scope.names=some .free from e))
   simp at this
 have hE:EnvOk (callEnvC fd s.heap.objs.size a):=⟨hF.kind,hF.glob,hF.bi⟩
 refine aJ (hb (A.deeper (callEnvC fd s.heap.objs.size a)) _ _ G _ s₁ (gQ K) hA.deeper hE hκ rfl O (λh=>af (tk h) htk) hw) λf G2 st2 s2 hq O2 T2=>?_
 have hc:∀a c,st2.σ a=some c->CellRel w.params G2 s2.heap a c/\G2 a=none:=λa c e=>let h:=O2.rep.cells a c e;⟨h.1,h.2.1⟩
 have F:GS G s (frz G2 st2.σ s2.heap) s2:=by
  have keep:∀b o,¬XS b->s.heap.get? b=some o->s2.heap.get? b=some o:=λb o n e=>by
   refine T2.keep b o n (kp b o e) (λq=>?_) (λ_ y q=>?_) rfl
   ·have:=dy e;rw[q]at this;exact em _ this
   ·have h1:=x.above y b (PySem.mem_of_lookup q)
    have h2:=dy e
    exact em _ (ar h1 h2)
  have back:∀b,s₁.heap.get? b=none->s.heap.get? b=none:=λb e=>sE (s:=s) (s':=s₁) (λq=>by
   refine x1 (λo ho=>?_) (cj.mp q)
   rw[kp b o ho];rfl) e
  refine⟨T2.ext.trans (gE hc),zgC O2.rep,λb o e=>?_,keep,?_,?_⟩
  ·unfold frz at e
   by_cases q:(gP (st2.σ b)).isSome=true
   ·refine x1 (λxs q=>?_) (jC q)
    rcases T2.fresh b (by rw[q];rfl)with r|r
    ·exfalso;cases r
    ·exact .inr (back b r)
   ·rw[if_neg q]at e
    rcases T2.new b o e with r|r
    ·exact .inl r
    ·exact .inr (back b r)
  ·refine x2 (λh' t' zr2=>?_) x.toInCall.same;subst zr2
   exact T2.os
  ·refine x2 (λh' t' zr2=>?_) x.toInCall.same;subst zr2
   exact T2.gens
 cases f with
 |next=>exact ex2 .none _ ⟨hq,F,by simp only[VRel]⟩
 |brk=>exact hq.elim
 |cont=>exact hq.elim
 |ret v=>
  obtain⟨p,⟨t,h1,h2⟩,h3⟩:=hq
  exact ex2 t _ ⟨h2,F,zbV hc t h3 h1⟩
theorem zc9{a:Addr}{fd:FuncData}{body:List Stmt}{params:List Str}{k:Nat}{dv:List Value}{dp:List PV}(hB:BsOk B)(hC:CtxOk prog w B C n)(hF:FunAt B.K a fd body)(hok:r8 body=true)
  (hpar:∀x∈params,fd.scope.names.lookup x=some .local\/fd.scope.names.lookup x=some .cell) (hlen:params.length=k+dp.length)
  (hd:∀G,VRels w.params G dv dp)
  (hbind:∀(s:Shared) (vals:List Value),B.K.In s.heap->vals.length=k->BindsTo s fd ⟨vals,[]⟩ (params.zip (vals++dv))):
  Meets prog w B (n+1) (.ref a) (λps K=>ps.length=k/\wSs C (cV fd.scope.names) body (gQ K) ⟨bB (params.zip (ps++dp)) λ_=>none,λ_=>none⟩):=
 ⟨fR hB hF,λA E G s args ps K hA hi tk ho hv h=>kE (tk0:=True) (W:=wSs C (cV fd.scope.names) body) hB hF (λA E env G J sh Q hA hE hκ _ O t hw=>zkH hB hC hok A E env _ G J sh Q hA hE hκ (O sh.toks (t trivial)) hw) hpar hlen hd hbind A E G s args ps K hA hi (λ_=>tk) ho hv h⟩
end
noncomputable def nR(K:PV->(Nat->Option Cell)->Prop):Fl->St->Prop
 |.ret v,J=>K v J.σ
 |.next,J=>K .none J.σ
 |_,_=>False
section
variable {prog:Program}{w:World}{B:Bs}{C:Ctx}{n:Nat}
theorem rX{A:Around}{R:Result->Shared->Prop}{G:GM}{σ:Nat->Option Cell}{s:Shared}{a:Addr}{fd:FuncData}{body:List Stmt}{params:List Str}{vals:List Value}{ps:List PV}{K:PV->(Nat->Option Cell)->Prop}
  (hB:BsOk B) (hC:CtxOk prog w B C n) (hF:FunAt B.K a fd body) (hok:r8 body=true) (hA:Room (n+1) A)
  (hpar:∀x∈params,fd.scope.names.lookup x=some .local\/fd.scope.names.lookup x=some .cell) (hlen:params.length=ps.length)
  (hbind:∀(s:Shared),B.K.In s.heap->BindsTo s fd ⟨vals,[]⟩ (params.zip vals))
  (hi:InH G s.heap) (tk:1<=s.toks) (ho:Over B G) (hσ:∀a c,σ a=some c->CellRel w.params G s.heap a c/\G a=none) (hv:VRels w.params G vals ps)
  (hw:wSs C (cV fd.scope.names) body (nR K) ⟨bB (params.zip ps) λ_=>none,σ⟩)
  (hR:∀p G' σ' s' v,K p σ'->Fr G σ s G' σ' s'->InH G' s'.heap->1<=s'.toks->Over B G'->(∀a c,σ' a=some c->CellRel w.params G' s'.heap a c/\G' a=none)->VRel w.params G' v p->R (.ok (.ret v)) s'):
  codeAny (model prog w) A (.call (.ref a) ⟨vals,[]⟩) R s:=by
 refine x3 (λc d sl hat=>?_) hF.at_
 have hin:B.K.In s.heap:=hB.kin.keeps λb o e=>hi.at_ _ _ (ho _ _ e)
 have hlv:=hv.length
 refine codeAny_call_function (body:=body) (ai (af (am _ _) hA.depth) (by decide:900<1000)) (hin _ _ hat) rfl hF.co hF.gen hF.body (codeRec_of hin hF.code) (hbind s hin _ _ _ _ ?_)
 rw[hF.clo]
 refine wpAny_with_toks (n:=1) tk (wpAny_newFunctionEnv_cells hF.kind (λy hy=>?_) λenv he s₁ x htk=>?_)
 ·rcases hpar y.1 (List.of_mem_zip hy).1 with q|q
  ·exact .inl q
  ·exact .inr ⟨q,gO _ _ [] _ (mem_of_lookup q)⟩
 rw[<- show callEnvC fd s.heap.objs.size a=newEnv fd.scope s.heap.objs.size fd.globals (cellsFrom (s.heap.objs.size+1) fd.scope.names []) (fd.qualname++".<locals>.") (some a) fd.code none fd.builtins from rfl]at he
 subst he
 have kp:=x.toInCall.keep
 refine⟨(hB.lim.keeps λb o e=>hi.at_ _ _ (ho _ _ e)).keeps kp,codeAny_func ?_⟩
 have O:=tK (B:=B) hi htk ho hpar hlen hv hσ x
 have hκ:KOk (cV fd.scope.names) (callEnvC fd s.heap.objs.size a):=λy=>by
  rw[if_neg]
  ·rfl
  ·intro e
   have:=ay.mp hF.free _ (mem_of_lookup (show gy y fd.scope.names=some .free from e))
   simp at this
 have hE:EnvOk (callEnvC fd s.heap.objs.size a):=⟨hF.kind,hF.glob,hF.bi⟩
 refine aJ (zkH hB hC hok (A.deeper (callEnvC fd s.heap.objs.size a)) _ _ _ G _ s₁ (nR K) hA.deeper hE hκ O hw) λf G2 st2 s2 hq O2 T2=>?_
 have hc:∀a c,st2.σ a=some c->CellRel w.params G2 s2.heap a c/\G2 a=none:=λa c e=>let h:=O2.rep.cells a c e;⟨h.1,h.2.1⟩
 have alive₁:∀b,(s.heap.get? b).isSome=true->(s₁.heap.get? b).isSome=true:=λb q=>by
  refine x1 (λo ho=>?_) (cj.mp q)
  rw[kp b o ho];rfl
 have back:∀b,s₁.heap.get? b=none->s.heap.get? b=none:=λb e=>sE (s:=s) (s':=s₁) (alive₁ b) e
 have F:Fr G σ s G2 st2.σ s2:=by
  refine⟨T2.ext,λb o e=>?_,λb o n e h=>?_,λb e=>T2.alive b (alive₁ b e),T2.dom,λb e=>?_,?_,?_⟩
  ·rcases T2.new b o e with r|r
   ·exact .inl r
   ·exact .inr (back b r)
  ·refine T2.keep b o n (kp b o e) (λq=>?_) (λ_ y q=>?_) h
   ·have:=dy e;rw[q]at this;exact em _ this
   ·have h1:=x.above y b (PySem.mem_of_lookup q)
    have h2:=dy e
    exact em _ (ar h1 h2)
  ·rcases T2.fresh b e with r|r
   ·exact .inl r
   ·exact .inr (back b r)
  ·refine x2 (λh' t' zr2=>?_) x.toInCall.same;subst zr2
   exact T2.os
  ·refine x2 (λh' t' zr2=>?_) x.toInCall.same;subst zr2
   exact T2.gens
 cases f with
 |next=>exact hR .none G2 st2.σ s2 .none hq F O2.rep.inh O2.rep.tk O2.over hc (by simp[VRel])
 |brk=>exact hq.elim
 |cont=>exact hq.elim
 |ret v=>
  refine x1 (λp=>a2 λh1 h3=>?_) hq
  exact hR p G2 st2.σ s2 v h1 F O2.rep.inh O2.rep.tk O2.over hc h3
theorem Room.creation{A:Around}{C:Addr}{rest:List Value}{kw:List (Str×Value)}(h:Room (n+2) A):Room (n+1) (A.under (.builtin "type.__call__" ⟨.ref C ::rest,kw⟩)):=by
 have e1:(Code.builtin "type.__call__" ⟨.ref C ::rest,kw⟩).weight=1:=by kernel_rfl
 have e2:(Code.builtin "type.__call__" ⟨.ref C ::rest,kw⟩).cUnits=1:=by kernel_rfl
 refine⟨h.handled,?_,?_⟩
 ·refine(?_:A.depth+_+(n+1)<=900)
  rw[e1];exact af (dz (bl _ _ _)) (af (dz (congrArg _ (bn 1 (n+1)))) h.depth)
 ·refine(?_:A.units+_+20*(n+1)<=5000)
  rw[e2];exact af (dz (bl _ _ _)) (af (cc (af (dz (bn 1 (20*(n+1)))) (cc (by decide:1<=20) (20*(n+1)))) _) h.units)
theorem zdA{Ca fI:Addr}{fd:FuncData}{body:List Stmt}{params:List Str}{k m:Nat}(hB:BsOk B)(hC:CtxOk prog w B C n)(hm:makesIn B.K Ca=true)
  (hin:findIn B.K (.ref Ca) "__init__"=some (some (.ref fI))) (hty:typeIn B.K (.ref fI)=some (.type "function")) (hkp:KeepsAt prog w B.h₀ (.ref Ca)) (hF:FunAt B.K fI fd body) (hok:r8 body=true)
  (hpar:∀x∈params,fd.scope.names.lookup x=some .local\/fd.scope.names.lookup x=some .cell) (hlen:params.length=k+1)
  (hbind:∀(s:Shared) (vals:List Value),B.K.In s.heap->vals.length=k+1->BindsTo s fd ⟨vals,[]⟩ (params.zip vals)):
  Meets prog w B (n+2) (.ref Ca) (λps K=>ps.length=k/\∀x:Nat,wSs C (cV fd.scope.names) body (nR λp σ'=>p=.none/\∃fs:List PV,σ' x=some (.ins Ca (fs.map some))/\K (.inst Ca fs))
   ⟨bB (params.zip (.ptr x ::ps)) λ_=>none,bE (λ_=>none) x (.ins Ca (au m none))⟩):=by
 refine⟨hkp,λA E G s args ps K hA hi tk ho hv=>a2 λhl hw=>?_⟩
 have hink:B.K.In s.heap:=hB.kin.keeps λb o e=>hi.at_ _ _ (ho _ _ e)
 obtain⟨hh,g,d,t,os⟩:=s
 refine wpAny_call (make_core (makes_of hink hm) (looks_findIn hink hin) (λself=>bind_fn hink self hty) (.inl rfl) ?_)
 dsimp only at hi tk hink
 have d0:hh.get? hh.objs.size=none:=eW
 have d1:hh.get? (hh.objs.size+1)=none:=u0 (ff _)
 have gn:∀a,hh.get? a=none->G a=none:=λa h=>by
  cases q:G a with
  |none=>rfl
  |some o=>have:=hi.at_ a o q;replace this:=h▸this;(exfalso;cases this)
 have gs1:=GS.push (s:=⟨hh,g,d,t,os⟩) hi emptyDict rfl t
 have hgx:rE G hh.objs.size emptyDict (hh.objs.size+1)=none:=by
  unfold rE;rw[if_neg (Nat.succ_ne_self _)];exact gn _ d1
 have k2:∀b o,hh.get? b=some o->((hh.push emptyDict).push (instObj Ca hh.objs.size)).get? b=some o:=λb o e=>di _ (di _ e)
 have hi2:InH (rE G hh.objs.size emptyDict) ((hh.push emptyDict).push (instObj Ca hh.objs.size)):=gs1.inh.keeps λa o e=>di _ e
 have hx:((hh.push emptyDict).push (instObj Ca hh.objs.size)).get? (hh.objs.size+1)=some (instObj Ca hh.objs.size):=by
  have:=dc (hh.push emptyDict) (o:=instObj Ca hh.objs.size) rfl
  rwa [jk]at this
 refine rX (σ:=bE (λ_=>none) (hh.objs.size+1) (.ins Ca (au m none))) hB hC hF hok hA.creation hpar (ps:=.ptr (hh.objs.size+1) ::ps) (by simp[hlen,hl]) (λs' h'=>hbind s' _ h' (by simp[hv.length,hl])) hi2 tk (ho.ext gs1.ext) (λa c e=>?_)
  (.cons (by simp[VRel]) (hv.mono gs1.ext)) (hw (hh.objs.size+1)) λp G' σ' s' v ⟨hp,fs,hfs,hK⟩ F hi' tk' ho' hσ' hvp=>?_
 ·unfold bE at e
  split at e
  ·rename_i q;subst q;(have zq:=Option.some.inj e;subst zq)
   refine⟨⟨hh.objs.size,#[],hx,fT,by simp,λi p e=>?_⟩,hgx⟩
   replace e:=List.getElem?_replicate▸e
   split at e<;>(exfalso;cases e)
  ·exfalso;cases e
 ·subst hp
  simp only[VRel]at hvp;subst hvp
  refine⟨rfl,?_⟩
  obtain⟨⟨dx,sl,h1,h2,h3,h4⟩,h5⟩:=hσ' _ _ hfs
  have hsl:∃vs:List Value,sl=(vs.map some).toArray/\VRels w.params G' vs fs:=by
   have go:∀(fs:List PV) (sl:List (Option Value)),sl.length<=fs.length->(∀(i:Nat) (p:PV),fs[i]?=some p->∃v,sl[i]?=some (some v)/\VRel w.params G' v p)->∃vs:List Value,sl=vs.map some/\VRels w.params G' vs fs:=by
    intro fs
    induction fs with
    |nil=>intro sl h _;exact⟨[],by simpa using h,.nil⟩
    |cons f fs ih=>
     intro sl h hh
     refine x1 (λv=>a2 λe1 e2=>?_) (hh 0 f (by simp))
     cases sl with
     |nil=>simp at e1
     |cons y ys=>
      simp only[List.getElem?_cons_zero,Option.some.injEq]at e1
      subst e1
      obtain⟨vs,e3,e4⟩:=ih ys (by simpa using h) λi p e=>by simpa using hh (i+1) p (by simpa using e)
      exact⟨v ::vs,by rw[e3];rfl,.cons e2 e4⟩
   obtain⟨vs,e1,e2⟩:=go fs sl.toList (by simpa using h3) λi p e=>by
    refine x1 (λv=>a2 λe1 e2=>?_) (h4 i p (by rw[fj,e];rfl))
    exact⟨v,by simpa using e1,e2⟩
   exact⟨vs,by rw[<- e1],e2⟩
  refine x1 (λvs=>a2 λzr1 hvs=>?_) hsl;subst zr1
  have hsub:Sub G' (rE G' (hh.objs.size+1) {cls:=.ref Ca,dict:=some dx,data:=.plain,slots:=(vs.map some).toArray}):=λa o e=>by
   unfold rE;split
   ·rename_i q;(replace e:=q▸e;replace e:=h5▸e);(exfalso;cases e)
   ·exact e
  refine ex2 (.inst Ca fs) (rE G' (hh.objs.size+1) {cls:=.ref Ca,dict:=some dx,data:=.plain,slots:=(vs.map some).toArray}) ⟨hK,⟨(gs1.ext.trans F.ext).trans hsub,hi'.add h1 (hi.tab.ne d1),λa o e=>?_,λa o nx e=>?_,F.os,F.gens⟩,?_⟩
  ·unfold rE at e;split at e
   ·rename_i q;subst q;exact .inr d1
   ·rcases F.new a o e with q|q
    ·unfold rE at q;split at q
     ·rename_i q1;subst q1;exact .inr d0
     ·exact .inl q
    ·refine .inr ?_
     cases e2:hh.get? a with
     |none=>rfl
     |some o2=>have:=k2 a o2 e2;dsimp only at q;replace q:=this▸q;(exfalso;cases q)
  ·refine F.keep a o nx (k2 a o e) ?_
   have ha:a≠hh.objs.size+1:=λq=>by dsimp only at e;(replace e:=q▸e;replace e:=d1▸e);(exfalso;cases e)
   unfold bE;rw[if_neg ha]
  ·simp only[VRel]
   exact⟨vs,⟨hh.objs.size+1,dx,rfl,fT,hsub _ _ h2⟩,hvs.mono hsub⟩
end
section
variable {prog:Program}{w:World}{B:Bs}{n:Nat}
theorem Meets.weaken{v:Value}{F F':Fn}(h:Meets prog w B n v F)(k:∀ps K,F' ps K->F ps K):Meets prog w B n v F':=
 ⟨h.1,λA E G s args ps K hA hi tk ho hv hF=>h.2 A E G s args ps K hA hi tk ho hv (k ps K hF)⟩
theorem zhZ{C C0:Ctx}{Cn f:Addr}{mc:Value}{fd:FuncData}{body:List Stmt}{params:List Str}(hB:BsOk B)(hC0:CtxOk prog w B C0 n)(hg:B.mg "Node"=some (.ref Cn))
  (hsg:specialIn B.K (.ref Cn) "__getattribute__"=some (some (.builtin "type.__getattribute__"))) (hr:readsIn B.K Cn mc=true) (hf:findCls B.K (.ref Cn) mc "__init__"=some (.val (.ref f)))
  (hF:FunAt B.K f fd body) (hok:r8 body=true) (hpar:∀x∈params,fd.scope.names.lookup x=some .local\/fd.scope.names.lookup x=some .cell) (hlen:params.length=3)
  (hbind:∀(s:Shared) (vals:List Value),B.K.In s.heap->vals.length=3->BindsTo s fd ⟨vals,[]⟩ (params.zip vals))
  (hbody:∀(ad:Nat) (pa pb:PV) (J:St) (K:St->Prop),(setCell C ad "source_line" pa J λst1=>setCell C ad "source_column" pb st1 K)->
   wSs C0 (cV fd.scope.names) body (nR λp σ'=>p=.none/\K ⟨J.ρ,σ'⟩) ⟨bB (params.zip [.ptr ad,pa,pb]) λ_=>none,J.σ⟩):y4 prog w B C (n+1):=by
 refine ex2 (.ref Cn) (.ref f) ⟨hg,fR hB hF,λA E s Q pl b hk hl hq=>?_,λA E cw env G J s ad va vb pa pb K hA O ha hb hK=>?_⟩
 ·have X:B.K.In s.heap:=hB.kin.keeps hk
  exact method_cls X hsg (cls_value X hr hf rfl (hq (s.toks+1) (ff _)))
 ·obtain⟨ρ,σ⟩:=J
  refine wpAny_call (rX (σ:=σ) (ps:=[.ptr ad,pa,pb]) hB hC0 hF hok hA hpar (by simpa using hlen) (λs' h'=>hbind s' _ h' rfl) O.rep.inh O.rep.tk O.over (λa c e=>let h:=O.rep.cells a c e;⟨h.1,h.2.1⟩)
   (.cons (by simp[VRel]) (.cons ha (.one hb))) (hbody ad pa pb ⟨ρ,σ⟩ K hK) λp G' σ' s' v=>a2 λhp hk' F hi' tk' ho' hσ' hv=>?_)
  refine ex2 G' ⟨ρ,σ'⟩ ⟨hk',?_,F.tr⟩
  have R:=O.rep
  refine x1 (λm=>a2 λhn hx=>?_) R.ns
  have hl:∃o,s.heap.get? env.locals=some o:=by obtain⟨o,_,_,h1,_⟩:=hn;exact⟨o,h1⟩
  have σl:σ env.locals=none:=by
   cases e:σ env.locals with
   |none=>rfl
   |some c=>exact absurd rfl (R.cells _ c e).2.2.1
  have σc:∀x c,env.cells.lookup x=some c->σ c=none:=by
   intro x c e
   cases q:σ c with
   |none=>rfl
   |some d=>exact absurd e ((R.cells _ d q).2.2.2 x)
  refine⟨ho',⟨hi',tk',⟨m,hn.at' λo e=>F.keep _ o R.lx e σl,λx p e hk=>e1 (λv=>c1 λh2=>h2.mono F.ext) (hx x p e hk)⟩,R.kind,?_,?_,?_,?_,R.cinj,?_⟩,?_⟩
  ·intro x p e hk
   refine x2 (λc v=>a3 λh1 h2 h3=>?_) (R.cel x p e hk)
   exact ex2 c v ⟨h1,dY h2 λo e=>F.keep c o (R.inh.tab.cell h2) e (σc x c h1),h3.mono F.ext⟩
  ·intro x e
   refine x2 (λc v=>a2 λh1 h2=>?_) (R.cell0 x e)
   exact ex2 c v ⟨h1,dY h2 λo e=>F.keep c o (R.inh.tab.cell h2) e (σc x c h1)⟩
  ·cases e:G' env.locals with
   |none=>rfl
   |some o=>
    refine x1 (λo' ho=>?_) hl
    rcases F.new _ o e with q|q
    ·replace q:=R.gl▸q;cases q
    ·replace q:=ho▸q;cases q
  ·intro x c e
   refine⟨?_,(R.gc x c e).2⟩
   cases q:G' c with
   |none=>rfl
   |some o=>
    refine x1 (λo' ho=>?_) (O.ct x c e)
    rcases F.new _ o q with q1|q1
    ·replace q1:=((R.gc x c e).1)▸q1;cases q1
    ·replace q1:=ho▸q1;cases q1
  ·intro a c e
   refine a2 (λh1 h2=>?_) (hσ' a c e)
   refine⟨h1,h2,?_⟩
   rcases F.fresh a (by dsimp only at e;rw[e];rfl)with q|q
   ·refine x1 (λd hd=>?_) (cj.mp q)
    exact(R.cells a d hd).2.2
   ·refine⟨λq1=>?_,λx q1=>?_⟩
    ·obtain⟨o',ho⟩:=hl;(replace q:=q1▸q;replace q:=ho▸q);cases q
    ·obtain⟨o',ho⟩:=O.ct x a q1;replace q:=ho▸q;cases q
  ·intro x c e
   refine x1 (λo ho=>?_) (O.ct x c e)
   exact cj.mp (F.alive c (by rw[ho];rfl))
end
noncomputable def sY(K:Frag)(a:Addr):Option FuncData:=match K.lookup a with
 |some ⟨_,_,.func fd,_⟩=>some fd
 |_=>none
noncomputable def aV(K:Frag)(a:Addr):List Stmt:=match sY K a with
 |some fd=>(match fd.body with
  |.stmts b=>b
  |_=>[])
 |none=>[]
noncomputable def aK(K:Frag)(a:Addr):List (Str×NameKind):=match sY K a with
 |some fd=>fd.scope.names
 |none=>[]
theorem sEq(a b:String):(ae a=ae b)=(a=b):=by
 apply propext
 constructor
 ·intro e
  rw[Str.ofString_eq_toList,Str.ofString_eq_toList]at e
  have e':a.toList.map Char.toNat=b.toList.map Char.toNat:=by simpa using congrArg (λs:Str=>s.cps.toList) e
  have inj:Function.Injective Char.toNat:=λc d h=>Char.toNat_inj.mp h
  exact String.toList_inj.mp ((List.map_inj_right inj).mp e')
 ·intro e;rw[e]
section
variable {C:Ctx}{H:Kn}
theorem zaY{t:Expr}{b o:List Stmt}{p:Pos}{Q:Fl->St->Prop}(M:CtxMono C)(I:Nat->St->Prop)
  (turn:∀n J,I n J->wE C t H (tst λc st1=>if c=true then wSs C H b (nW (λst2=>∃m,m<n/\I m st2) Q) st1 else wSs C H o Q st1) J) (n:Nat) (J:St) (h:I n J):wS C H (.While t b o p) Q J:=by
 have go:∀k n J,I n J->n<k->fJ (wE C t H) (wSs C H b) (wSs C H o) Q k J:=by
  intro k
  induction k with
  |zero=>intro n J _ h;exact absurd h (jg _)
  |succ k ih=>
   intro n J hI hm
   exact bG M t (iU λc s=>bO (eE M b (iZ (λs=>x1 λm=>a2 λh1 h2=>ih m s h2 (aj h1 (iu hm))) λ_ _ x=>x)) λx=>x) (turn n J hI)
 exact⟨n+1,go _ n J h (av _)⟩
noncomputable def ev(C:Ctx)(H:Kn)(e:Expr)(J:St)(v:PV):Prop:=wE C e H (λr st1=>r=v/\st1=J) J
noncomputable def tv(C:Ctx)(H:Kn)(e:Expr)(J:St)(b:Bool):Prop:=wE C e H (tst λc st1=>c=b/\st1=J) J
theorem zhg{e:Expr}{J:St}{v:PV}{b:Bool}(M:CtxMono C)(h:ev C H e J v)(hb:uH (der J.σ v)=some b):tv C H e J b:=
 bG M e (λr st1=>a2 λh1 h2=>by subst h1 h2;rw[gS hb];exact⟨rfl,rfl⟩) h
theorem wW{e:Expr}{J:St}{b:Bool}{K:Bool->St->Prop}(M:CtxMono C)(h:tv C H e J b)(k:K b J):wE C e H (tst K) J:=
 bG M e (iU λc s=>a2 λh1 h2=>by subst h1 h2;exact k) h
theorem bA{e:Expr}{J:St}{v:PV}{Q:PV->St->Prop}(M:CtxMono C)(h:ev C H e J v)(k:Q v J):wE C e H Q J:=
 bG M e (λr st1=>a2 λh1 h2=>by subst h1 h2;exact k) h
theorem bI{t:Expr}{b o:List Stmt}{p:Pos}{Q:Fl->St->Prop}{J:St}(M:CtxMono C)(c:Bool)(h:tv C H t J c)(hb:c=true->wSs C H b Q J)(ho:c=false->wSs C H o Q J):wS C H (.If t b o p) Q J:=by
 refine wW M h ?_
 cases c
 ·exact ho rfl
 ·exact hb rfl
theorem aH{x:Str}{e:Expr}{px p:Pos}{Q:Fl->St->Prop}{J:St}(M:CtxMono C)(v:PV)(h:ev C H e J v)(hs:cY H x=true)(k:Q .next ⟨upd J.ρ x v,J.σ⟩):wS C H (.Assign [.Name x px] e p) Q J:=by
 refine bA M h ?_
 exact⟨ag.mpr ⟨ag.mpr ⟨hs,rfl⟩,rfl⟩,k⟩
theorem aM{e:Expr}{p:Pos}{Q:Fl->St->Prop}{J:St}(M:CtxMono C)(v:PV)(h:ev C H e J v)(k:Q (.ret v) J):wS C H (.Return (some e) p) Q J:=by
 exact bA M h k
theorem b8{x:Str}{op:Operator}{e:Expr}{px p:Pos}{Q:Fl->St->Prop}{J:St}(M:CtxMono C)(old v:PV)(h0:J.ρ x=some old)(h:ev C H e J v)(hs:cY H x=true)(k:inP op old v λr=>Q .next ⟨upd J.ρ x r,J.σ⟩):wS C H (.AugAssign (.Name x px) op e p) Q J:=by
 refine⟨hs,?_⟩
 show opt (J.ρ x) _
 rw[h0]
 exact bA M h k
theorem eG{t:Expr}{b o:List Stmt}{p:Pos}{Q:Fl->St->Prop}(M:CtxMono C)(I:Nat->St->Prop)
  (turn:∀n J,I n J->∃c,tv C H t J c/\(c=true->wSs C H b (nW (λst2=>∃m,m<n/\I m st2) Q) J)/\(c=false->wSs C H o Q J)) (n:Nat) (J:St) (h:I n J):wS C H (.While t b o p) Q J:=
 zaY M I (λn J hI=>by
  refine x1 (λc=>a3 λh1 h2 h3=>?_) (turn n J hI)
  refine wW M h1 ?_
  cases c
  ·exact h3 rfl
  ·exact h2 rfl) n J h
theorem bS{e e':Expr}{es:List Expr}{p:Pos}{J:St}{c d:Bool}(M:CtxMono C)(h:tv C H e J c)(h':c=true->tv C H (.BoolOp .And (e' ::es) p) J d):tv C H (.BoolOp .And (e ::e' ::es) p) J (c&&d):=by
 refine bG M e (λr st1 x=>?_) h
 refine x1 (λb=>a3 λhb zr2 zr3=>?_) (dP x);subst zr2;subst zr3
 show opt (uH (der st1.σ r)) _
 refine hb.symm▸?_
 cases b with
 |false=>rw[iW,if_pos (by decide),gS hb];exact⟨rfl,rfl⟩
 |true=>exact h' rfl
theorem dX{e e':Expr}{es:List Expr}{p:Pos}{J:St}{c d:Bool}(M:CtxMono C)(h:tv C H e J c)(h':c=false->tv C H (.BoolOp .Or (e' ::es) p) J d):tv C H (.BoolOp .Or (e ::e' ::es) p) J (c||d):=by
 refine bG M e (λr st1 x=>?_) h
 refine x1 (λb=>a3 λhb zr2 zr3=>?_) (dP x);subst zr2;subst zr3
 show opt (uH (der st1.σ r)) _
 refine hb.symm▸?_
 cases b with
 |true=>rw[iW,if_pos (by decide),gS hb];exact⟨rfl,rfl⟩
 |false=>exact h' rfl
theorem bJ{op:BoolOp}{e:Expr}{p:Pos}{J:St}{c:Bool}(h:tv C H e J c):tv C H (.BoolOp op [e] p) J c:=h
theorem eR{e:Expr}{p:Pos}{J:St}{c:Bool}(M:CtxMono C)(h:tv C H e J c):tv C H (.UnaryOp .Not e p) J (!c):=by
 refine bG M e (λr st1 x=>?_) h
 refine x1 (λb=>a3 λhb zr2 zr3=>?_) (dP x);subst zr2;subst zr3
 refine(?_:opt (uH (der st1.σ r)) _)
 rw[hb]
 exact⟨rfl,rfl⟩
noncomputable def at1(x:List Nat)(i:Nat):List Nat:=(x.drop i).take 1
theorem zbL(x:List Nat)(i j:Nat)(h:i<=j):slc x (some (i:Int)) (some (j:Int))=(x.drop i).take (j - i):=by
 unfold slc jF
 simp only[Option.map_some,Option.getD_some]
 rw[if_neg (fk.mpr (cg i)),if_neg (fk.mpr (cg j))]
 simp only[jo]
 by_cases h1:i<=x.length
 ·rw[ce h1]
  by_cases h2:j<=x.length
  ·rw[ce h2]
  ·rw[ib (fp h2)]
   rw[gi (by simp),gi (by rw[bv];exact je (fp h2) i)]
 ·rw[show min i x.length=x.length from ib (fp h1),az (bh _),az (fp h1)];simp
theorem zfh(x:List Nat)(i:Nat):sU x (i:Int)=x[i]?:=by
 unfold sU;rw[if_neg (fk.mpr (cg i))];simp
theorem mA(c:Nat):∀x:List Nat,uA [c] x=decide (c∈x)
 |[]=>by simp[uA]
 |d ::x=>by
  rw[uA,mA c x]
  by_cases h:c=d
  ·subst h;simp[List.isPrefixOf]
  ·have:(c==d)=false:=by simpa using h
   simp[List.isPrefixOf,this,h]
theorem aX{Q:Fl->St->Prop}{J:St}(h:Q .next J):wSs C H [] Q J:=h
theorem aA{s:Stmt}{ss:List Stmt}{Q:Fl->St->Prop}{J:St}(h:wS C H s (cG (λst1=>wSs C H ss Q st1) Q) J):wSs C H (s ::ss) Q J:=h
theorem c8{s:Stmt}{ss:List Stmt}{Q:Fl->St->Prop}{J:St}(M:CtxMono C)(R:St->Prop)(h:wS C H s (cG R Q) J)(k:∀st1,R st1->wSs C H ss Q st1):wSs C H (s ::ss) Q J:=
 aA (zaZ M s (mL k λ_ _ x=>x) h)
end
/-! what a reduction by the kernel needs:the form is found by simp(its proof is thrown away),the kernel checks it -/
theorem kQ{α:Sort _}{a b:α}:(if some NameKind.local=some NameKind.globalImplicit then a else b)=b:=rfl
theorem zjH{α:Sort _}{a b:α}:(if some NameKind.globalImplicit=some NameKind.globalImplicit then a else b)=a:=rfl
theorem zc1{α:Sort _}{a b:α}:(if false=true then a else b)=b:=rfl
section
variable {C:Ctx}{H:Kn}{e:Expr}{J:St}
end
theorem aB{C:Ctx}{H:Kn}{c:Const}{k:Nat}{p:Pos}{J:St}{v:PV}(h:iJ c=some v):ev C H (.Constant c k p) J v:=by show opt (iJ c) _;rw[h];exact⟨rfl,rfl⟩
theorem of_eq{A B:Prop}(h:A=B)(b:B):A:=h▸b
noncomputable def dJ(L:List (Str×PV))(ρ:fD):Prop:=L.map (λe=>ρ e.1)=L.map (λe=>some e.2)
theorem aF{x:Str}{v:PV}{r:List (Str×PV)}{ρ:fD}(h:ρ x=some v)(t:dJ r ρ):dJ ((x,v) ::r) ρ:=by
 show ρ x ::_=some v ::_
 rw[h];exact congrArg _ t
theorem dI:∀(L:List (Str×PV)) {ρ:fD},dJ L ρ->ρ=bB L ρ
 |[],_,_=>rfl
 |(x,v) ::r,ρ,h=>by
  refine a2 (λh1 h2=>?_) (List.cons.inj h)
  have e:upd ρ x v=ρ:=by
   funext y;unfold upd;split
   ·rename_i e;rw[e];exact h1.symm
   ·rfl
  refine(?_:ρ=bB r (upd ρ x v))
  rw[e];exact dI r h2
theorem eJ{C:Ctx}{H:Kn}{ss:List Stmt}{Q:Fl->St->Prop}{L:List (Str×PV)}{ρ:fD}{σ:Nat->Option Cell}(h:dJ L ρ)(k:wSs C H ss Q ⟨bB L ρ,σ⟩):wSs C H ss Q ⟨ρ,σ⟩:=by
 rw[<- dI L h]at k;exact k
theorem zfa{C:Ctx}{H:Kn}{s:Stmt}{Q:Fl->St->Prop}{L:List (Str×PV)}{ρ:fD}{σ:Nat->Option Cell}(h:dJ L ρ)(k:wS C H s Q ⟨bB L ρ,σ⟩):wS C H s Q ⟨ρ,σ⟩:=by
 rw[<- dI L h]at k;exact k
@[elab_as_elim] theorem keepP {P:St->Prop}{L:List (Str×PV)}(J:St) (h:dJ L J.ρ) (k:P ⟨bB L J.ρ,J.σ⟩):P J:=by
 rw[<- dI L h]at k;exact k
section
variable {C:Ctx}{H:Kn}
theorem cJ{a b:Bool}(h:a=true)(k:b=true):(a&&b)=true:=by rw[h,k];rfl
theorem eP{x:Str}{e:Expr}{p1 p2 p3 p4:Pos}{a:Nat}{xs:List PV}{Q:Fl->St->Prop}{J:St}(M:CtxMono C)(v:PV)(hk:H x=some .local)(hx:J.ρ x=some (.ptr a))(hc:J.σ a=some (.lst xs))(he:ev C H e J v)
  (hr:dM [e]=none) (hl:xs.length<bU) (k:Q .next ⟨J.ρ,bE J.σ a (.lst (xs++[v]))⟩):
  wS C H (.Expr (.Call (.Attribute (.Name x p1) (ae "append") p2) [e] [] p3) p4) Q J:=by
 have hn:ae "append"≠ae "__init__" :=by rw[Ne,sEq];decide
 have h0:dN (.Call (.Attribute (.Name x p1) (ae "append") p2) [e] [] p3)=none:=if_neg λh=>hn h.2.1
 rw[mI,h0]
 refine⟨rfl,?_⟩
 rw[kM,hr]
 refine⟨rfl,?_⟩
 rw[iE,kL,hk,kQ,hx,iW]
 refine⟨?_,bA M he ?_⟩
 ·refine(?_:(ae "append"==ae "append"&&(gP (J.σ a)).isSome)=true)
  rw[hc,beq_self_eq_true];rfl
 ·rw[mJ]
  refine(?_:(if ae "append"=ae "append"then _ else _))
  rw[if_pos rfl]
  exact⟨xs,hc,hl,k⟩
theorem mM{x:Str}{px p:Pos}{pos:Pos}{Q:Fl->St->Prop}{J:St}(hm:C.mutL pos.line=true)(hs:cY H x=true)(h:∀a,J.σ a=none->Q .next ⟨upd J.ρ x (.ptr a),bE J.σ a (.lst [])⟩):
  wS C H (.Assign [.Name x px] (.List [] pos) p) Q J:=by
 show eI C pos [] (λv st1=>d9 C H [.Name x px] v st1 λst2=>Q .next st2) J
 unfold eI
 rw[if_pos hm]
 exactλa ha=>⟨cJ (cJ hs rfl) rfl,h a ha⟩
theorem zhz{x y:Str}{px py p:Pos}{pos:Pos}{Q:Fl->St->Prop}{J:St}(hm:C.mutL pos.line=true)(hs:cY H x=true)(hs':cY H y=true)(h:∀a,J.σ a=none->Q .next ⟨upd (upd J.ρ x (.ptr a)) y (.ptr a),bE J.σ a (.lst [])⟩):
  wS C H (.Assign [.Name x px,.Name y py] (.List [] pos) p) Q J:=by
 show eI C pos [] (λv st1=>d9 C H [.Name x px,.Name y py] v st1 λst2=>Q .next st2) J
 unfold eI
 rw[if_pos hm]
 exactλa ha=>⟨cJ (cJ hs rfl) (cJ (cJ hs' rfl) rfl),h a ha⟩
theorem pJ{x y:Str}{e:Expr}{px py p:Pos}{Q:Fl->St->Prop}{J:St}(M:CtxMono C)(v:PV)(h:ev C H e J v)(hs:cY H x=true)(hs':cY H y=true)(k:Q .next ⟨upd (upd J.ρ x v) y v,J.σ⟩):wS C H (.Assign [.Name x px,.Name y py] e p) Q J:=by
 exact bA M h ⟨cJ (cJ hs rfl) (cJ (cJ hs' rfl) rfl),k⟩
theorem fP{x y:Str}{e:Expr}{kk:Nat}{px py pt p:Pos}{Q:Fl->St->Prop}{J:St}(M:CtxMono C)(v w:PV)(h:ev C H e J (.tup [v,w]))(hs:cY H x=true)(hs':cY H y=true)(k:Q .next ⟨upd (upd J.ρ x v) y w,J.σ⟩):wS C H (.Assign [.Tuple [.Name x px,.Name y py] kk pt] e p) Q J:=by
 exact bA M h ⟨cJ (cJ hs (cJ hs' rfl)) rfl,k⟩
theorem eV{x y z:Str}{e:Expr}{kk:Nat}{px py pz pt p:Pos}{Q:Fl->St->Prop}{J:St}(M:CtxMono C)(v w u:PV)(h:ev C H e J (.tup [v,w,u]))(hs:cY H x=true)(hs':cY H y=true)(hs'':cY H z=true)(k:Q .next ⟨upd (upd (upd J.ρ x v) y w) z u,J.σ⟩):
  wS C H (.Assign [.Tuple [.Name x px,.Name y py,.Name z pz] kk pt] e p) Q J:=by
 exact bA M h ⟨cJ (cJ hs (cJ hs' (cJ hs'' rfl))) rfl,k⟩
theorem iB{p:Pos}{Q:Fl->St->Prop}{J:St}(h:Q .brk J):wS C H (.Break p) Q J:=h
theorem eA{p:Pos}{Q:Fl->St->Prop}{J:St}(h:Q .cont J):wS C H (.Continue p) Q J:=h
theorem zbO{b o:List Stmt}{hd:ExceptHandler}{hs:List ExceptHandler}{p:Pos}{Q:Fl->St->Prop}{J:St}(h:wSs C H b (cG (λst1=>wSs C H o Q st1) Q) J):wS C H (.Try b (hd ::hs) o [] p) Q J:=⟨rfl,rfl,h⟩
theorem aN(σ:Nat->Option Cell)(a:Nat)(c:Cell):bE σ a c a=some c:=by unfold bE;rw[if_pos rfl]
theorem dU(σ:Nat->Option Cell){a b:Nat}(h:b≠a)(c:Cell):bE σ a c b=σ b:=by unfold bE;rw[if_neg h]
theorem oE:∀zs:List (List Nat),fN (zs.map .str)=some zs
 |[]=>rfl
 |z ::r=>by show(fN (r.map .str)).map (z ::·)=_;rw[oE r];rfl
theorem vO{x:Str}{k:Nat}{p1 p2 p3 p4:Pos}{a:Nat}{J:St}{v:List Nat}(zs:List (List Nat))(hk:H x=some .local)(hx:J.ρ x=some (.ptr a))(hc:J.σ a=some (.lst (zs.map .str)))(hv:zs.flatten=v)(hl:v.length<=bU):
  ev C H (.Call (.Attribute (.Constant (.str (ae "")) k p1) (ae "join") p2) [.Name x p3] [] p4) J (.str v):=by
 subst hv
 unfold ev
 rw[kM]
 refine⟨rfl,?_⟩
 rw[show dM [Expr.Name x p3]=none from rfl,iE,zd2,show iJ (.str (ae ""))=some (.str [])from rfl,iW]
 refine⟨rfl,?_⟩
 rw[gR,kL,hk,kQ,hx,iW,mJ]
 have hn:∀y,y≠"join" ->¬(ae "join"=ae y):=λy h q=>h ((sEq _ _).mp q).symm
 refine(?_:jG J.σ (ae "join") (.str []) [.ptr a] _)
 unfold jG
 rw[if_neg (hn _ (by decide)),if_neg (hn _ (by decide)),if_neg (hn _ (by decide)),if_neg (hn _ (by decide)),if_neg (hn _ (by decide)),if_pos rfl]
 refine⟨rfl,?_⟩
 refine(?_:asL (Option.casesOn (motive:=λ_=>PV) (gP (J.σ a)) (.ptr a) .list) _)
 rw[hc]
 exact⟨zs,oE zs,hl,rfl,rfl⟩
end
section
variable {C:Ctx}{H:Kn}
theorem dC{x name:Str}{e:Expr}{p1 p2 p3:Pos}{a c i:Nat}{fs:List (Option PV)}{Q:Fl->St->Prop}{J:St}(M:CtxMono C)(v:PV)(h:ev C H e J v)(hx:J.ρ x=some (.ptr a))(hc:J.σ a=some (.ins c fs))(hs:C.slot c name=some i)(hi:i<fs.length)
  (k:Q .next ⟨J.ρ,bE J.σ a (.ins c (fs.set i (some v)))⟩):wS C H (.Assign [.Attribute (.Name x p1) name p2] e p3) Q J:=by
 refine bA M h ?_
 refine(?_:opt (J.ρ x) λp=>asP p λa=>setCell C a name v J λst2=>Q .next st2)
 rw[hx]
 exact ex3 c fs i ⟨hc,hs,hi,k⟩
theorem eU{e0 e1 e2:Expr}{p1 p2 p3 p4:Pos}{a c i j:Nat}{fs:List (Option PV)}{Q:Fl->St->Prop}{J:St}(M:CtxMono C)(l k:PV)(hini:C.ini=true)(hκ:H "Node"=some .globalImplicit)(h0:ev C H e0 J (.ptr a))(h1:ev C H e1 J l)(h2:ev C H e2 J k)
  (hc:J.σ a=some (.ins c fs)) (hs:C.slot c "source_line"=some i) (hi:i<fs.length) (hs':C.slot c "source_column"=some j) (hj:j<fs.length)
  (hQ:Q .next ⟨J.ρ,bE (bE J.σ a (.ins c (fs.set i (some l)))) a (.ins c ((fs.set i (some l)).set j (some k)))⟩):
  wS C H (.Expr (.Call (.Attribute (.Name (ae "Node") p1) (ae "__init__") p2) [e0,e1,e2] [] p3) p4) Q J:=by
 have e:(if nmE (.Name "Node" p1)=some "Node"/\ ("__init__":Str)="__init__"/\ ([]:List Keyword).isEmpty=true then some [e0,e1,e2]else none)=some [e0,e1,e2]:=if_pos ⟨rfl,rfl,rfl⟩
 rw[mI,show dN (.Call (.Attribute (.Name (ae "Node") p1) (ae "__init__") p2) [e0,e1,e2] [] p3)=some [e0,e1,e2]from e]
 refine⟨hini,hκ,bA M h0 (bA M h1 (bA M h2 ?_))⟩
 exact ex3 c fs i ⟨hc,hs,hi,c,fs.set i (some l),j,aN _ _ _,hs',by rw[List.length_set];exact hj,hQ⟩
end
section
variable {C:Ctx}{H:Kn}
theorem zgD{tgt:Expr}{b o:List Stmt}{Q:Fl->St->Prop}(M:CtxMono C)(items:List PV)(I:Nat->St->Prop)
  (turn:∀i (h:i<items.length) J,I i J->∃ρ1,k0 tgt items[i] J.ρ=some ρ1/\wSs C H b (nW (I (i+1)) Q) ⟨ρ1,J.σ⟩)
  (fin:∀J,I items.length J->wSs C H o Q J):∀(n i:Nat) (J:St),i+n=items.length->I i J->d7 tgt (wSs C H b) (wSs C H o) Q (items.drop i) J
 |0,i,J,h,hI=>by
  have:i=items.length:=h
  subst this
  rw[ia]
  exact fin J hI
 |n+1,i,J,h,hI=>by
  have hl:i<items.length:=h▸bg (gz n)
  refine x1 (λρ1=>a2 λh1 h2=>?_) (turn i hl J hI)
  rw[ak hl]
  show opt (k0 tgt items[i] J.ρ) _
  rw[h1]
  exact eE M b (iZ (λs x=>zgD M items I turn fin n (i+1) s ((dm i 1 n).trans h) x) λ_ _ x=>x) h2
theorem zhA{tgt iter:Expr}{b o:List Stmt}{p:Pos}{Q:Fl->St->Prop}{J:St}(M:CtxMono C)(v:PV)(items:List PV)(hv:lL v=some items)(hn:items.length<=bU)(hs:(cZ tgt).all (cY H)=true)(h:ev C H iter J v)(I:Nat->St->Prop)
  (turn:∀i (h:i<items.length) J,I i J->∃ρ1,k0 tgt items[i] J.ρ=some ρ1/\wSs C H b (nW (I (i+1)) Q) ⟨ρ1,J.σ⟩)
  (fin:∀J,I items.length J->wSs C H o Q J) (h0:I 0 J):wS C H (.For tgt iter b o p) Q J:=by
 refine⟨hs,bA M h ?_⟩
 show opt (lL v) _
 rw[hv]
 exact⟨hn,zgD M items I turn fin items.length 0 J (eg _) h0⟩
end
section
variable {prog:Program}{w:World}{B:Bs}{C:Ctx}{n:Nat}
noncomputable def zkp(prog:Program)(w:World)(B:Bs)(C:Ctx)(n:Nat)(loc:Str)(e:Expr):Prop:=
 ∀(A:Around) (E:Value->Shared->Prop) (cw:Bool) (env:Env) (H:Kn) (G:GM) (J:St) (s:Shared) (Q:PV->St->Prop),H loc=some .local->Room n A->EnvOk env->KOk H env->Ok0 B w.params G env J s->
  wE C e H Q J->wpAny (model prog w) A (eval e env) (Lands B w.params cw env G J s (VX w.params Q)) E s
noncomputable def ziG(prog:Program)(w:World)(B:Bs)(C:Ctx)(n:Nat)(loc:Str)(s:Stmt):Prop:=
 ∀(A:Around) (E:Value->Shared->Prop) (env:Env) (H:Kn) (G:GM) (J:St) (sh:Shared) (Q:Fl->St->Prop),H loc=some .local->Room n A->EnvOk env->KOk H env->Ok0 B w.params G env J sh->
  wS C H s Q J->wpAny (model prog w) A (exec s env) (Lands B w.params true env G J sh (FX w.params Q)) E sh
noncomputable def zko(prog:Program)(w:World)(B:Bs)(C:Ctx)(n:Nat)(loc:Str)(ss:List Stmt):Prop:=
 ∀(A:Around) (E:Value->Shared->Prop) (env:Env) (H:Kn) (G:GM) (J:St) (sh:Shared) (Q:Fl->St->Prop),H loc=some .local->Room n A->EnvOk env->KOk H env->Ok0 B w.params G env J sh->
  wSs C H ss Q J->wpAny (model prog w) A (execs ss env) (Lands B w.params true env G J sh (FX w.params Q)) E sh
theorem zL{loc:Str}{s:Stmt}{ss:List Stmt}(h:ziG prog w B C n loc s)(hs:iQ prog w B C n ss):zko prog w B C n loc (s ::ss):=by
 intro A E env H G J sh Q hx hA hE hκ O hw
 refine wpAny_execs_cons (aJ (h A E env H G J sh _ hx hA hE hκ O hw) λf G1 st1 s1 hq O1 T1=>?_)
 cases f with
 |next=>exact aT T1 (hs A E env H G1 st1 s1 Q hA hE hκ O1 hq)
 |brk=>exact(aL (X:=FX w.params Q) (a:=Flow.brk) O1 hq).after T1
 |cont=>exact(aL (X:=FX w.params Q) (a:=Flow.cont) O1 hq).after T1
 |ret v=>exact(aL (X:=FX w.params Q) (a:=Flow.ret v) O1 (by obtain⟨p,h1,h2⟩:=hq;exact⟨p,h1,h2⟩)).after T1
theorem rP{loc x:Str}{px p:Pos}{e:Expr}(he:zkp prog w B C n loc e)(hc:kC e=false)(ht:zjx [.Name x px] e=true):ziG prog w B C n loc (.Assign [.Name x px] e p):=by
 intro A E env H G J s Q hx hA hE hκ O hw
 refine wpAny_Assign_stores (aJ (he A E true env H G J s _ hx hA hE hκ O hw) λv G1 st1 s1=>x1 λu=>a2 λhq hv O1 T1=>?_) (w5 hc) (lJ ht env)
 refine a2 (λhn hq=>?_) (show(([Expr.Name x px].all λt=>(cZ t).all (cY H))=true/\opt (jZ [.Name x px] u st1.ρ) λρ'=>Q .next ⟨ρ',st1.σ⟩)from hq)
 refine x1 (λρ'=>a2 λhbnd hq=>?_) (dP hq)
 refine aJ (iP hA.handled hE [.Name x px] G1 st1 s1 v u ρ' O1 (λt ht x hx=>pG hκ (ay.mp (ay.mp hn t ht) x hx)) rfl hv hbnd) λ_ G2 st2 s2 e2 O2 T2=>?_
 subst e2
 exact(aL (X:=FX w.params Q) (a:=Flow.next) O2 hq).after (T1.trans T2)
noncomputable def zkq(prog:Program)(w:World)(B:Bs)(n:Nat)(v:Value)(F:Fn):Prop:=
 KeepsAt prog w B.h₀ v/\∀(A:Around) (E:Value->Shared->Prop) (G:GM) (s:Shared) (args:List Value) (ps:List PV) (K:PV->Prop),
  Room n A->InH G s.heap->Over B G->VRels w.params G args ps->F ps K->GW (model prog w) A w.params E G s (call v args) K
end
noncomputable def zjs(x:List Nat):Prop:=∀c∈x,c<1114112
noncomputable def FS(y:Value):Prop:=∃(x:List Nat) (t:Tok),y=.str ⟨x.toArray⟩ t/\okStr x/\x.length<=4
section
variable {prog:Program}{w:World}
noncomputable def wQ(prog:Program)(w:World)(h₀:Heap)(e:Expr)(cenv:Env)(c:Str):Prop:=∀(A:Around) (E:Value->Shared->Prop) (s:Shared) (m:Str->Option Value) (a:List Nat) (t:Tok),okStr a->a.length<=1->(∀b o,h₀.get? b=some o->s.heap.get? b=some o)->s.heap.Ns cenv.locals m->m c=some (.str ⟨a.toArray⟩ t)->
 wpAny (model prog w) A (PySem.eval e cenv) (λy s'=>FS y/\∃k,s'={s with toks:=k}) E s
theorem zfu{h₀:Heap}{cenv:Env}{c:Str}{p:Pos}(hk:cenv.scope.kind=.function)(hl:cenv.scope.names.lookup c=some .local)(hd:(c==("__debug__":Str))=false):wQ prog w h₀ (.Name c p) cenv c:=
 λA E s m a t ha hz _ hn hv=>ldG hn hv ⟨⟨a,t,rfl,ha,af hz (by decide)⟩,s.toks,rfl⟩ hk hl hd
theorem zj6{h₀:Heap}{cenv:Env}{c q r:Str}{p1 p2 p3 p4 p5:Pos}{k1 k2:Nat}{o:Expr}(hk:cenv.scope.kind=.function)(hl:cenv.scope.names.lookup c=some .local)(hd:(c==("__debug__":Str))=false)(hr:(r.cps.toList.all (· <1114112)&&decide (r.cps.toList.length<=4))=true)
  (h:wQ prog w h₀ o cenv c):wQ prog w h₀ (.IfExp (.Compare (.Name c p1) [.Eq] [.Constant (.str q) k1 p2] p3) (.Constant (.str r) k2 p4) o p5) cenv c:=by
 intro A E s m a t ha hz hu hn hv
 refine IfExp_ (wpAny_isTrue_Compare1 (ldG hn hv (Calls.Constant_str (P.eq_str (wpAny_truthy_bool ?_))) hk hl hd) rfl)
 split
 ·refine a2 (λh1 h2=>?_) (ag.mp hr)
  have h2:=of_decide_eq_true h2
  exact Calls.Constant_str ⟨⟨r.cps.toList,_,rfl,⟨λx hx=>of_decide_eq_true (ay.mp h1 x hx),af h2 (by decide)⟩,h2⟩,_,rfl⟩
 ·exact wpAny_mono (h A E {s with toks:=s.toks+1} m a t ha hz hu hn hv) (λy s' ⟨h1,k,h2⟩=>⟨h1,k,h2⟩) λ_ _ e=>e
theorem zhO{h:Heap}{x:Addr}{es':Array DictEntry}{n:Nat}{es:List (List Nat×List Nat)}(hG:h.get? x=some {cls:=.type "dict",data:=.dict es' n})(hr:zaT w.params es'.toList es):
  h.MapOf (strKind prog w) x (λk=>findBy Value.isStrOf es' k):=
 ⟨_,es',n,hG,⟨rfl,rfl,rfl⟩,rfl,λe he=>by
  obtain⟨k,⟨t,e1⟩,e2⟩:=(qU hr).1 e (Array.mem_toList_iff.mpr he)
  exact⟨⟨k.toArray⟩,by rw[e1];exact strKind_is prog w _ t,e2⟩,λ_=>rfl⟩
theorem ziq{h₀:Heap}{mg:Str->Option Value}{cenv:Env}{c D:Str}{p1 p2 p3 p4 p5:Pos}{x:Addr}{es':Array DictEntry}{n:Nat}{es:List (List Nat×List Nat)}(hk:cenv.scope.kind=.function)(hl:cenv.scope.names.lookup c=some .local)(hd:(c==("__debug__":Str))=false)(hD:(D==("__debug__":Str))=false)
  (hkD:cenv.kindOf D=some .globalImplicit) (hng:h₀.Ns cenv.globals mg) (hm:mg D=some (.ref x)) (ho:h₀.get? x=some {cls:=.type "dict",data:=.dict es' n}) (hne:x≠sysModules) (hr:zaT w.params es'.toList es) (hes:es.all (λe=>decide (e.2.length<=4))=true) (hline:(p2.endLine==p5.line)=true):
  wQ prog w h₀ (.Call (.Attribute (.Name D p1) (ae "get") p2) [.Name c p3,.Name c p4] [] p5) cenv c:=by
 intro A E s m a t ha hz hu hn hv
 have ho':=hu _ _ ho
 refine iL rfl rfl (show 2<30 by decide) hline (wpAny_Name ?_ hD)
 rw[loadName_read hk hkD]
 refine Calls.loadGlobal_global (mg:=mg) (hng.keeps hu) hm ⟨"dict","dict.get",PySem.F.plainAttrs_dict,PySem.F.slot_dict_get,PySem.F.type_dict_get,⟨_,ho',rfl⟩,(λb e=>by(have zq:=Value.ref.inj e;subst zq);exact⟨_,ho',rfl⟩),?_⟩
 refine cU rfl (Calls.evalArgs_plain (Calls.spliced_cons (ldG hn hv (Calls.spliced_cons (ldG hn hv (Calls.spliced_nil ⟨cM _ _,?_⟩) hk hl hd)) hk hl hd)))
 have hmo:=zhO (prog:=prog) ho' hr
 refine wpAny_call (codeAny_call_builtin F.slot_dict_get.plain F.entry_dict_get (F.slot_dict_get.check _ _ _ _ _ _ _ _ hmo.typeIs (F.args_dict_get_3 _ _ _)
  (meets_dict_get_default (strKind prog w) x (strKind_is prog w _ t) (beq_eq_false_iff_ne.mpr hne) _ A (wants _ E) s ⟨_,hmo,?_⟩)))
 rcases zfn hr a with⟨q,t',h1,h2,h3⟩|⟨h1,h2⟩
 ·refine(?_:FS _/\_)
  rw[h2]
  have hq:q.length<=4:=by
   have:∀l:List (List Nat×List Nat),l.all (λe=>decide (e.2.length<=4))=true->l.lookup a=some q->q.length<=4:=λl=>by
    induction l with
    |nil=>intro _ h;cases h
    |cons e l ih=>
     intro h1 h2
     obtain⟨g1,g2⟩:=ag.mp h1
     rw[cy]at h2
     split at h2
     ·(have zq:=Option.some.inj h2;subst zq);exact of_decide_eq_true g1
     ·exact ih g2 h2
   exact this es hes h1
  exact⟨⟨q,t',rfl,h3,hq⟩,_,rfl⟩
 ·refine(?_:FS _/\_)
  rw[h2]
  exact⟨⟨a,t,rfl,ha,af hz (by decide)⟩,_,rfl⟩
theorem uU(n:Nat):passing (λ_=>true) n 0=fh n:=by unfold passing;rw[List.drop_zero];exact List.filter_eq_self.mpr λ_ _=>rfl
theorem zda:∀(l:List (Str×Tok)),(∀v∈strValues l,FS v)->∃zs:List (List Nat),l.map (·.1)=zs.map (λz=>⟨z.toArray⟩)/\zjs zs.flatten/\zs.flatten.length<=4*l.length
 |[],_=>⟨[],rfl,λc h=>(by cases h),bh _⟩
 |(y,t) ::l,h=>by
  refine x2 (λx u=>a3 λe h1 h2=>?_) (h (.str y t) bk)
  refine x1 (λzs=>a3 λe1 h3 h4=>?_) (zda l λv hv=>h v (bc _ hv))
  injection e with e _
  refine⟨x ::zs,by rw[cf,cf,e1,<- e],λc hc=>?_,?_⟩
  ·rw[List.flatten_cons]at hc
   exact(ig.mp hc).elim (h1.1 c) (h3 c)
  ·rw[List.flatten_cons,bj,jd,Nat.mul_succ,bn]
   exact ft h4 h2
theorem zcW{zs:List (List Nat)}(h:zs.flatten.length<=bU):JoinOk ⟨#[]⟩ (zs.map λz=>⟨z.toArray⟩)=true:=by
 unfold JoinOk tooLong
 rw[StrLaws.joinTotal]
 simp only[jm,decide_eq_false_iff_not,gt_iff_lt,gv]
 have:((zs.map λz=>(⟨z.toArray⟩:Str)).map (·.length)).sum=zs.flatten.length:=by
  rw[List.length_flatten,List.map_map]
  exact congrArg List.sum (ic λz _=>by simp[ee])
 rw[this]
 have h0:(⟨#[]⟩:Str).length=0:=rfl
 rw[h0,Nat.mul_zero,Nat.add_zero]
 exact h
theorem oK{A:Around}{E:Value->Shared->Prop}{s:Shared}{x:Str}{t:Tok}{Q:Value->Shared->Prop}
  (hQ:∀(o:Obj) (St:Nat->Heap->Prop),o.isFreed=false->(∀A':Around,A'.handled=none->Walks prog w A' s.heap.objs.size [s.heap.objs.size] [s.heap.objs.size] x.cps.size (SignAt x) St)->St 0 (s.heap.push o)->
   Q (.ref s.heap.objs.size) {s with heap:=s.heap.push o}):wpAny (model prog w) A (pyIter (.str x t)) Q E s:=by
 cases ha:x.cps.all (· <128)
 ·exact wpAny_pyIter_wide ha (hQ _ _ rfl (λA' hA=>Walks.strWide hA _ x t) ⟨_,dc _ rfl,rfl,rfl⟩)
 ·exact wpAny_pyIter_ascii ha (hQ _ _ rfl (λA' hA=>Walks.strAscii hA _ x t) ⟨_,dc _ rfl,rfl,rfl⟩)
theorem zi7{h h':Heap}{c P:Nat}{ps:Array Value}(x:h'.IsCode c P ps)(t:h'.TableAt c P ps)(T:TabX h)(k:∀b o,b≠P->h.get? b=some o->h'.get? b=some o):TabX h':=λQ q=>by
 by_cases e:Q=P
 ·subst e
  obtain⟨o,vs,file,tf,flags,tg,inF,text,tt,op,_,_,_,_,_,_,_,h1,h2,h3,_⟩:=x
  exact ex2 _ ps ⟨t.2,rfl,h3,rfl⟩
 ·refine x2 (λo qs=>a2 λh1 r=>?_) (T Q q)
  exact ex2 o qs ⟨k Q o e h1,r⟩
theorem vM{A:Around}{E:Value->Shared->Prop}{s:Shared}{env:Env}{c P:Addr}{ps:Array Value}{pos:Pos}{qualname:Str}{scope:Scope}{Q:Value->Shared->Prop}(hc:env.code=.ref c)(hok:s.heap.IsCode c P ps)(htab:s.heap.TableAt c P ps)
  (hQ:∀code h' tk ps',Heap.ExtBut P s.heap h'->h'.IsCode c P ps'->h'.TableAt c P ps'->Q code {s with heap:=h',toks:=tk}):wpAny (model prog w) A (genexprCode env pos qualname scope) Q E s:=by
 cases hnf:codeAmong pos ps.toList with
 |some cv=>exact wpAny_genexprCode_hit hc hok hnf (hQ cv s.heap s.toks ps (Heap.ExtBut.refl _ _) hok htab)
 |none=>exact wpAny_genexprCodeX hc hok htab hnf λc' h' tk hx _ _ h1 _ h2 _=>hQ _ _ _ _ hx h1 h2
noncomputable def ziJ(s:Shared)(n:Nat)(Q:Value->Shared->Prop):Prop:=∀(y:List Nat) (t:Tok) (s':Shared),zjs y->y.length<=4*n->(∀b o,¬XS b->s.heap.get? b=some o->s'.heap.get? b=some o)->TabX s'.heap->(AllBare s.gens->AllBare s'.gens)->s'.os=s.os->Q (.str ⟨y.toArray⟩ t) s'
theorem zcX{A:Around}{E:Value->Shared->Prop}{s:Shared}{env:Env}{elt iter:Expr}{c:Str}{px:Pos}{scope:Scope}{pos:Pos}{Q:Value->Shared->Prop}{x:List Nat}{t t0:Tok}{cX bm PX:Nat}{ps:Array Value}{mg:Str->Option Value}{ob:Obj}
  (hh:A.handled=none) (hroom:A.depth<recursionLimit) (hco:scope.isCoroutine=false) (hclos:closureFor scope env=pure []) (hcell:∀y∈scope.names,y.2≠.cell) (h0:scope.names.lookup (".0":Str)=some NameKind.local)
  (hx:scope.names.lookup c=some .local) (hkind:scope.kind=.function) (hcode:env.code=.ref cX) (hP:XS PX) (htab:TabX s.heap) (hok:s.heap.IsCode cX PX ps) (htb:s.heap.TableAt cX PX ps) (hM:BMod s.heap env.globals mg bm ob) (hlim:s.heap.NoLimit) (hxs:okStr x) (hxl:x.length<=100000)
  (hload:∀Q:Value->Shared->Prop,Q (.str ⟨x.toArray⟩ t) s->wpAny (model prog w) A (PySem.eval iter env) Q E s) (hs:∀x,genFold iter env x=pure x)
  {h₀:Heap}(hup:∀b o,h₀.get? b=some o->¬XS b/\s.heap.get? b=some o) (helt:∀C code,wQ prog w h₀ elt (genEnv scope [] C code builtinsNs env) c) (hQ:ziJ s x.length Q):
  wpAny (model prog w) A (PySem.eval (.GeneratorExp elt [⟨.Name c px,iter,[],0⟩] scope pos) env) (λv s'=>wpAny (model prog w) A (call (.builtin "str.join") [.str ⟨#[]⟩ t0,v]) Q E s') E s:=by
 have hg:¬XS env.globals:=htab.ns hM.ns
 have hbm:¬XS bm:=htab.nd hM.obj λps q=>by replace q:=hM.data▸q;cases q
 have hcs:cStatics≠PX:=λq=>absurd (show XS cStatics from q▸hP) (by unfold XS;decide)
 have hI:s.heap.objs.size≠PX:=λq=>htab.ne (Heap.none_size _) (q▸hP)
 refine wpAny_GeneratorExp_walksQ hh hco hclos hcell h0 hx hkind hroom (hload _ (oK λo St hf W hst=>⟨hlim.push _,vM hcode (hok.push o) (htb.push o) λcode h₃ tk ps' hx₃ hok₃ htb₃=>?_⟩)) hs
 have k₃:∀b o',b≠PX->s.heap.get? b=some o'->h₃.get? b=some o':=λb o' hb e=>hx₃ b o' hb (di _ e)
 have kx:∀b,¬XS b->b≠PX:=λb n q=>n (q▸hP)
 refine wpAny_builtinsFor (hM.ns.at' λo' e=>k₃ _ o' (kx _ hg) e) hM.name hM.ne (k₃ _ _ (kx _ hbm) hM.obj) hM.cls hM.dict hM.data ?_
 have hIg:=hx₃ _ _ hI (dc _ hf)
 have hIs:s.heap.objs.size<h₃.objs.size:=dy hIg
 have hcsI:cStatics<s.heap.objs.size:=let⟨_,hn,_⟩:=hlim;hn.lt
 have hsz:x.toArray.size=x.length:=rfl
 have tab₃:TabX h₃:=zi7 hok₃ htb₃ htab k₃
 refine ex7 s.heap.objs.size ([s.heap.objs.size]) ([s.heap.objs.size]) _ _ St (λ_=>true) ⟨λ_ y=>FS y,rfl,W,(W A hh).frame _ _ _ hst λb hb o' e=>?_,λb hb=>?_,(hlim.push o).extBut hx₃ hcs,λhm=>?_,λhref hkr=>⟨?_,?_⟩,?_⟩
 ·rw[be.mp hb]at e ⊢;exact hx₃ _ _ hI e
 ·refine(be.mp hb).symm▸?_;exact hIs
 ·exact absurd (be.mp hm) (iz hcsI)
 ·intro A' E' i v s₂ m₂ _ _ _ _ _
  exact wpAny_pure ⟨rfl,s₂.heap,s₂.toks,rfl,λ_ _ e=>e⟩
 ·intro A' E' i v s₂ m₂ hA hP' _ hn hm hkp
  refine x2 (λd u=>a2 λhd zr3=>?_) hP';subst zr3
  have hd':x[i]?=some d:=gq.symm.trans hd
  exact wpAny_mono (helt _ _ A' E' s₂ m₂ [d] u (pZ (hxs.1 d (fi hd'))) (bh 1) (λb o e=>by
   refine a2 (λn1 e1=>?_) (hup b o e)
   have e3:=k₃ b o (kx b n1) e1
   exact hkp b (fu.mpr (dy e3)) (λq=>absurd (dy e1) (by refine(be.mp q).symm▸?_;exact em _)) o (hkr b o e3)) hn hm) (λy s' ⟨h1,k,h2⟩=>⟨h1,s₂.heap,k,h2,λ_ _ e=>e⟩) λ_ _ e=>e
 ·intro a h₅ tk' gs hb hla hs5 hk5 Wg hst5
  have hn:(passing (λ_=>true) (⟨x.toArray⟩:Str).cps.size 0).length=x.length:=by rw[uU,iw];rfl
  refine SC.joinGen Wg.in4_2 (λi s' J=>J.1.typeIs) hst5 (λb hbm=>?_) bk (λi v ⟨j,_,y,u,e,_⟩=>⟨_,u,e⟩) (λs' l hm hacc=>?_) (by refine hn.symm▸?_;exact af hxl (by decide))
  ·refine(?_:b<h₅.objs.size)
   refine hs5.symm▸?_
   rcases bb.mp hbm with rfl|hbm
   ·exact av _
   ·rcases bb.mp hbm with rfl|hbm
    ·exact dl hla
    ·exact dl (ar (fu.mp hbm) hla)
  ·obtain⟨zs,e1,e2,e3⟩:=zda l λv hv=>by
    obtain⟨j,hj,rfl⟩:=gx.mp hv
    refine x1 (λ_=>a2 λ_ h=>?_) (hacc.2 j _ (by rw[gq,ah hj]))
    exact h
   have hl:l.length=x.length:=by(refine hn▸?_;refine hacc.1▸?_);unfold strValues;rw[ir,cz]
   replace e3:=hl▸e3
   have ne:∀{b:Nat}{o':Obj},s.heap.get? b=some o'->b ∉ [h₃.objs.size,s.heap.objs.size]:=λ{b o'} e hm=>by
    have hlt:=dy e
    rcases bb.mp hm with rfl|hm
    ·exact absurd hlt (gv.mpr (aq hIs))
    ·replace hlt:=(be.mp hm)▸hlt;exact absurd hlt (em _)
   refine e1.symm▸?_
   refine⟨zcW (af e3 (af (ei 4 hxl) (by decide))),λt' k=>?_⟩
   unfold Txt.join
   rw[StrLaws.glued_eq_join,l9 zs]
   refine hQ zs.flatten t' {s' with toks:=k} e2 e3 (λb o' hb e=>hm.heap b o' (ne e) (hk5 _ _ (k₃ b o' (kx b hb) e))) (tab₃.keeps λP' o' p e=>by obtain⟨oP,_,hoP,_⟩:=htab P' p;exact hm.heap P' o' (ne hoP) (hk5 _ _ e)) (λhG=>?_) hm.os
   exact AllBare.moved (hG.push hb) hm.gens
end
end Mine
end
section
open PySem PySem.W PyProof.Rows
open Builtin Builtin.Str
set_option Elab.async false
set_option autoImplicit false
set_option maxRecDepth 100000
set_option linter.unusedVariables false
namespace Mine
section
variable {prog:Program}{w:World}{B:Bs}
noncomputable def CodeAt(h:Heap)(cX PX:Nat):Prop:=∃o vs file tf flags tg inF text tt,h.get? cX=some o/\o.cls=.type "code"/\ o.data=.fields vs/\vs.getD 11 .none=.ref PX/\vs.getD 18 .none=.str file tf/\vs.getD 7 .none=.int flags tg/\vs.getD 9 .none=.bool inF/\vs.getD 10 .none=.int text tt/\cX≠PX
theorem CodeAt.isCode{h h':Heap}{cX PX:Nat}(x:CodeAt h cX PX)(hP:XS PX)(k:∀a o,h.get? a=some o->h'.get? a=some o)(t:TabX h'):∃ps,h'.IsCode cX PX ps/\h'.TableAt cX PX ps:=by
 obtain⟨o,vs,file,tf,flags,tg,inF,text,tt,h1,hc,r1,r2,r3,r4,r5,r6,ne⟩:=x
 refine x2 (λop ps=>a4 λh2 h3 h4 h5=>?_) (t PX hP)
 refine⟨ps,⟨o,vs,file,tf,flags,tg,inF,text,tt,op,k _ _ h1,r1,r2,r3,r4,r5,r6,h2,h3,h4,ne⟩,⟨o,vs,k _ _ h1,hc,r1,?_⟩,h5▸h2⟩
 unfold Array.getD at r2
 split at r2
 ·rename_i q;rw[fv q];exact congrArg some r2
 ·cases r2
noncomputable def ziH(B:Bs):Prop:=∃bm ob,B.mg "__builtins__"=some (.ref bm)/\bm≠builtinsNs/\B.h₀.get? bm=some ob/\ob.cls=.type "module"/\ ob.dict=some builtinsNs/\ob.data=.plain
theorem zjM{A:Around}{E:Value->Shared->Prop}{G:GM}{J:St}{s:Shared}{env:Env}{elt:Expr}{c v:Str}{px pv p1 p2 p3 pos:Pos}{k1 n:Nat}{scope:Scope}{x:List Nat}{cX PX:Nat}{K:PV->Prop}
  (hB:BsOk B) (hm:ziH B) (hP:XS PX) (hc:CodeAt B.h₀ cX PX) (hA:Room n A) (hE:EnvOk env) (hcode:env.code=.ref cX) (O:Ok B w.params G env J s) (hline:(p2.endLine==p3.line)=true)
  (hco:scope.isCoroutine=false) (hfree:∀y∈scope.names,y.2≠.free) (hcell:∀y∈scope.names,y.2≠.cell) (h0:scope.names.lookup (".0":Str)=some NameKind.local) (hx:scope.names.lookup c=some .local) (hkind:scope.kind=.function)
  (helt:∀C code,wQ prog w B.h₀ elt (genEnv scope [] C code builtinsNs env) c) (hv:J.ρ v=some (.str x)) (hl:env.kindOf v=some .local) (hd:(v==("__debug__":Str))=false) (hxl:x.length<=100000)
  (hK:∀y,okStr y->y.length<=4*x.length->K (.str y)):
  GW (model prog w) A w.params E G s (PySem.eval (.Call (.Attribute (.Constant (.str ⟨#[]⟩) k1 p1) (ae "join") p2) [.GeneratorExp elt [⟨.Name c px,.Name v pv,[],0⟩] scope pos] [] p3) env) K:=by
 refine x1 (λm=>a2 λhn hmv=>?_) O.rep.ns
 refine x1 (λu=>a2 λh1 h2=>?_) (hmv v _ hv hl)
 refine x1 (λt=>a2 λzr1 okx=>?_) (show∃t,u=.str ⟨x.toArray⟩ t/\okStr x from h2);subst zr1
 have up:∀a o,B.h₀.get? a=some o->s.heap.get? a=some o:=λa o e=>O.rep.inh.at_ a o (O.over a o e)
 refine x1 (λps=>a2 λhok htb=>?_) (hc.isCode hP up O.rep.inh.tab)
 refine x2 (λbm ob=>a6 λm1 m2 m3 m4 m5 m6=>?_) hm
 have hM:BMod s.heap env.globals B.mg bm ob:=⟨by rw[hE.glob];exact hB.g.keeps up,m1,m2,up _ _ m3,m4,m5,m6⟩
 refine iL rfl rfl (show 1<30 by decide) hline (Calls.Constant_str ⟨"str","str.join",PySem.F.plainAttrs_str,PySem.F.slot_str_join,PySem.F.type_str_join,typeIs_str _ _ _,(λa e=>by(exfalso;cases e)),?_⟩)
 refine cU rfl (Calls.evalArgs_plain (Calls.spliced_cons (wpAny_mono (zcX (Q:=λv s'=>∃r G',K r/\GS G s G' s'/\VRel w.params G' v r) (s:={s with toks:=s.toks+1}) (x:=x) (t:=t) hA.handled (ai (af (am _ n) hA.depth) (show 900<recursionLimit by decide)) hco (closureFor_none hfree) hcell h0 hx hkind hcode hP O.rep.inh.tab hok htb hM (hB.lim.keeps up) okx hxl
  (λQ h=>wpAny_Name (wpAny_loadName_local hE.kind hl hn h1 h) hd) (λ_=>rfl) (h₀:=B.h₀) (λb o e=>⟨λq=>(by have:=O.over _ _ e;replace this:=(O.rep.inh.px b q)▸this;(exfalso;cases this)),up b o e⟩) helt ?_) (λv s' h=>Calls.spliced_nil ⟨cM _ _,h⟩) λ_ _ e=>e)))
 intro y t' s' hy hyl kp tab gens os
 have oky:okStr y:=⟨hy,af hyl (af (ei 4 hxl) (by decide))⟩
 exact ex2 (.str y) G ⟨hK y oky hyl,⟨.refl _,⟨λa o e=>kp a o (λq=>by rw[O.rep.inh.px a q]at e;(exfalso;cases e)) (O.rep.inh.at_ a o e),O.rep.inh.px,tab⟩,λ_ _ e=>.inl e,kp,os,gens⟩,t',rfl,oky⟩
noncomputable def wP:Fn:=λps K=>∃x:List Nat,ps=[.str x]/\x.length<=100000/\∀y,okStr y->y.length<=4*x.length->K (.str y)
theorem sV{n cX PX a:Nat}{fd:FuncData}{elt:Expr}{c v:Str}{px pv p1 p2 p3 p4 pos:Pos}{k1:Nat}{scope:Scope}(hB:BsOk B)(hm:ziH B)(hP:XS PX)(hc:CodeAt B.h₀ cX PX)
  (hF:FunAt B.K a fd [.Return (some (.Call (.Attribute (.Constant (.str ⟨#[]⟩) k1 p1) (ae "join") p2) [.GeneratorExp elt [⟨.Name c px,.Name v pv,[],0⟩] scope pos] [] p3)) p4]) (hcode:fd.code=.ref cX)
  (hline:(p2.endLine==p3.line)=true) (hco:scope.isCoroutine=false) (hfree:∀y∈scope.names,y.2≠.free) (hcell:∀y∈scope.names,y.2≠.cell) (h0:scope.names.lookup (".0":Str)=some NameKind.local) (hx:scope.names.lookup c=some .local) (hkind:scope.kind=.function)
  (helt:∀(env:Env) C code,EnvOk env->wQ prog w B.h₀ elt (genEnv scope [] C code builtinsNs env) c) (hl:fd.scope.names.lookup v=some .local) (hd:(v==("__debug__":Str))=false)
  (hbind:∀(s:Shared) (vals:List Value),B.K.In s.heap->vals.length=1->BindsTo s fd ⟨vals,[]⟩ ([v].zip (vals++[]))):Meets prog w B (n+1) (.ref a) wP:=by
 refine⟨fR hB hF,λA E G s args ps K hA hi tk ho hv=>x1 λx=>a3 λe hxl hK=>?_⟩
 subst e
 refine kE (n:=n) (tk0:=True) (k:=1) (dv:=[]) (dp:=[]) (params:=[v]) (W:=λQ J=>∃x,J.ρ v=some (.str x)/\x.length<=100000/\∀y,okStr y->y.length<=4*x.length->Q (.ret (.str y)) J) hB hF (λA E env G J sh Q hA hE hκ hcd O t=>x1 λx=>a3 λhv hxl hQ=>?_)
  (λy hy=>.inl (by rw[be.mp hy];exact hl)) rfl (λ_=>.nil) hbind A E G s args [.str x] K hA hi (λ_=>tk) ho hv ⟨rfl,x,?_,hxl,λy h1 h2=>⟨.str y,rfl,hK y h1 h2⟩⟩
 ·have O:=O sh.toks (t trivial)
  refine wpAny_execs_cons (wpAny_Return_some (aJ (cK (cw:=true) (Q:=λr st'=>Q (.ret r) st') O (zjM (elt:=elt) hB hm hP hc hA hE (hcd.trans hcode) O hline hco hfree hcell h0 hx hkind (λC code=>helt env C code hE) hv (hκ.loc hl) hd hxl hQ)) λu G1 st1 s1=>x1 λr=>a2 λhq hr O1 T1=>?_))
  exact(aL (X:=FX w.params Q) (a:=Flow.ret u) O1 ⟨r,hq,hr⟩).after T1
 ·show upd (λ_=>none) v (.str x) v=_
  unfold upd;rw[if_pos rfl]
end
noncomputable def fU(c:Nat):Nat:=if 65<=c/\c<=90 then c+32 else c
section
variable {prog:Program}{w:World}{B:Bs}
noncomputable def zf0(prog:Program)(w:World)(h₀:Heap)(e:Expr)(cenv:Env)(c:Str):Prop:=∀(A:Around) (E:Value->Shared->Prop) (s:Shared) (m:Str->Option Value) (d:Nat) (t:Tok),d<1114112->(∀b o,h₀.get? b=some o->s.heap.get? b=some o)->s.heap.Ns cenv.locals m->m c=some (.str ⟨#[d]⟩ t)->
 wpAny (model prog w) A (PySem.eval e cenv) (λy s'=>(∃u,y=.str ⟨#[fU d]⟩ u)/\∃k,s'={s with toks:=k}) E s
theorem zhP{h₀:Heap}{mg mb:Str->Option Value}{cenv:Env}{c:Str}{p1 p2 p3 p4 p5 p6 p7 p8 p9 p10 p11 p12 p13:Pos}{k1 k2 k3:Nat}(hk:cenv.scope.kind=.function)(hl:cenv.scope.names.lookup c=some .local)(hd:(c==("__debug__":Str))=false)
  (hko:cenv.kindOf "ord"=some .globalImplicit) (hkc:cenv.kindOf "chr"=some .globalImplicit) (hg:h₀.Ns cenv.globals mg) (hb:h₀.Ns cenv.builtins mb) (o1:mg "ord"=none) (o2:mb "ord"=some (.builtin "ord")) (c1:mg "chr"=none) (c2:mb "chr"=some (.builtin "chr")):
  zf0 prog w h₀ (.IfExp (.Compare (.Constant (.str ⟨#[65]⟩) k1 p1) [.LtE,.LtE] [.Name c p2,.Constant (.str ⟨#[90]⟩) k2 p3] p4) (.Call (.Name (ae "chr") p5) [.BinOp (.Call (.Name (ae "ord") p6) [.Name c p7] [] p8) .Add (.Constant (.int 32) k3 p9) p10] [] p11) (.Name c p12) p13) cenv c:=by
 intro A E s m d t hz hu hn hv
 have no:90<d\/d<65->fU d=d:=λh=>if_neg λq=>h.elim (λg=>gv.mpr q.2 g) λg=>gv.mpr q.1 g
 have ge:∀a b:Nat,(!(decide (([a]:List Nat)<[b])))=decide (b<=a):=λa b=>by
  rw[<- decide_not]
  refine decide_eq_decide.mpr ⟨λh=>aw λq=>h (List.Lex.rel q),λh q=>?_⟩
  cases q with
  |rel r=>exact gv.mpr h r
  |cons r=>cases r
 refine IfExp_ (isTrue_chain (Calls.Constant_str (test_link (ldG hn hv (P.le_str (wpAny_truthy_bool ?_)) hk hl hd))) rfl)
 refine(show(!decide ((⟨#[d]⟩:Str).cps.toList<(⟨#[65]⟩:Str).cps.toList))=decide (65<=d)from ge d 65).symm▸?_
 by_cases h1:65<=d
 ·refine(decide_eq_true h1).symm▸?_
  refine test_last (Calls.Constant_str (P.le_str (wpAny_truthy_bool ?_)))
  refine(show(!decide ((⟨#[90]⟩:Str).cps.toList<(⟨#[d]⟩:Str).cps.toList))=decide (d<=90)from ge 90 d).symm▸?_
  by_cases h2:d<=90
  ·refine(decide_eq_true h2).symm▸?_;refine(show fU d=d+32 from if_pos ⟨h1,h2⟩).symm▸?_
   refine wpAny_Call_NameR (wpAny_Name ?_ rfl)
   refine(loadName_read hk hkc).symm▸?_
   refine Calls.loadGlobal_builtin (hg.keeps hu) c1 (hb.keeps hu) c2 ?_
   refine cU rfl (Calls.evalArgs_plain (Calls.spliced_cons (wpAny_BinOp (wpAny_Call_NameR (wpAny_Name ?_ rfl)))))
   refine(loadName_read hk hko).symm▸?_
   refine Calls.loadGlobal_builtin (hg.keeps hu) o1 (hb.keeps hu) o2 ?_
   refine cU rfl (Calls.evalArgs_plain (Calls.spliced_cons (ldG hn hv (Calls.spliced_nil ⟨cM _ _,P.ord_of_char ?_⟩) hk hl hd)))
   refine wpAny_Constant_int (add_int (Calls.spliced_nil ⟨cM _ _,P.chr_of_int ?_ ⟨⟨_,rfl⟩,_,rfl⟩⟩))
   exact gb.mpr ⟨decide_eq_false (fk.mpr (cg (d+32))),decide_eq_false (fk.mpr (ga.mpr (af (gd h2 32) (by decide))))⟩
  ·refine(decide_eq_false h2).symm▸?_
   exact ldG hn hv ⟨⟨t,by exact(no (.inl (fc h2))).symm▸rfl⟩,_,rfl⟩ hk hl hd
 ·refine(decide_eq_false h1).symm▸?_
  exact ldG hn hv ⟨⟨t,by exact(no (.inr (fc h1))).symm▸rfl⟩,_,rfl⟩ hk hl hd
noncomputable def LowR(v y:Value):Prop:=∃d u u',v=.str ⟨#[d]⟩ u/\y=.str ⟨#[fU d]⟩ u'
theorem xS:∀{x:List Nat}{vs ys:List Value},Paired LowR vs ys->vs.length=x.length->(∀(j:Nat) v,vs[j]?=some v->∃(c:Nat) (u:Tok),x[j]?=some c/\v=.str ⟨#[c]⟩ u)->∃l:List (Str×Tok),ys=strValues l/\l.map (·.1)=(x.map λc=>[fU c]).map λz=>⟨z.toArray⟩
 |[]=>λh hl _=>by
  cases h with
  |nil=>exact⟨[],rfl,rfl⟩
  |cons=>(exfalso;cases hl)
 |c ::x=>λh hl hv=>by
  cases h with
  |nil=>(exfalso;cases hl)
  |cons h1 h2=>
   refine x3 (λd u u'=>a2 λe1 e2=>?_) h1
   refine x2 (λc' u2=>a2 λe3 e4=>?_) (hv 0 _ rfl)
   refine x1 (λl=>a2 λg1 g2=>?_) (xS h2 (Nat.succ.inj hl) λj v q=>hv (j+1) v q)
   have zq:=Option.some.inj e3;subst zq
   replace e4:=e1▸e4
   cases e4
   exact⟨(⟨#[fU c]⟩,u') ::l,by rw[e2,g1];rfl,by rw[cf,g2];rfl⟩
theorem zfm(f:Nat->Nat)(x:List Nat):(x.map λc=>[f c]).flatten=x.map f:=by
 induction x with
 |nil=>rfl
 |cons c r ih=>rw[cf,List.flatten_cons,ih];rfl
theorem zav{A:Around}{E:Value->Shared->Prop}{s:Shared}{env:Env}{elt iter:Expr}{c:Str}{px:Pos}{scope:Scope}{pos:Pos}{Q:Value->Shared->Prop}{x:List Nat}{t t0:Tok}
  (hh:A.handled=none) (hfree:∀y∈scope.names,y.2≠.free) (hcell:∀y∈scope.names,y.2≠.cell) (hkind:scope.kind=.function) (hnames:∀y∈scope.names,y.2=.local->scope.names.lookup y.1=some .local) (hx:scope.names.lookup c=some .local) (hxs:okStr x)
  (hload:∀Q:Value->Shared->Prop,Q (.str ⟨x.toArray⟩ t) s->wpAny (model prog w) A (PySem.eval iter env) Q E s) (hs:∀x,foldedSetIterable iter env x=pure x)
  {h₀:Heap}(hup:∀b o,h₀.get? b=some o->s.heap.get? b=some o) (helt:∀C,zf0 prog w h₀ elt (compEnv scope C env) c) (hQ:∀h' k t',(∀b o,s.heap.get? b=some o->h'.get? b=some o)->Q (.str ⟨(x.map fU).toArray⟩ t') {s with heap:=h',toks:=k}):
  wpAny (model prog w) A (PySem.eval (.ListComp elt [⟨.Name c px,iter,[],0⟩] scope pos) env) (λv s'=>wpAny (model prog w) A (call (.builtin "str.join") [.str ⟨#[]⟩ t0,v]) Q E s') E s:=by
 have hsz:x.toArray.size=x.length:=rfl
 refine wpAny_ListComp_walk (λ_=>true) LowR hfree hcell hkind hnames hx (hload _ (oK λo St hf W hst=>?_)) hs
 have up:∀b o',b ∉ [s.heap.objs.size]->s.heap.get? b=some o'->(s.heap.push o).get? b=some o':=λb o' _ e=>di _ e
 have nm:∀{b:Nat}{o':Obj},s.heap.get? b=some o'->b ∉ [s.heap.objs.size]:=λ{b o'} e hm=>by
  have:=dy e
  rw[be.mp hm]at this;exact em _ this
 refine ex6 s.heap.objs.size ([s.heap.objs.size]) ([s.heap.objs.size]) _ _ St ⟨rfl,W A hh,?_,hst,λb hb=>?_,⟨λC i v s₃ m₃ E' _ _ _ _ _=>?_,λC i v s₃ m₃ E' hP _ hn hm hk _=>?_⟩,λD h' tk ys vs _ hl _ hlen hP hF hk=>?_⟩
 ·exact af hxs.2 (by unfold bU sizeLine;decide)
 ·rw[be.mp hb];show _<(s.heap.push o).objs.size;rw[jk];exact av _
 ·exact wpAny_pure ⟨rfl,s₃.heap,s₃.toks,rfl,λ_ _ e=>e⟩
 ·refine x2 (λd u=>a2 λhd zr3=>?_) hP;subst zr3
  have hd':x[i]?=some d:=gq.symm.trans hd
  exact wpAny_mono (helt C A E' s₃ m₃ d u (hxs.1 d (fi hd')) (λb o' e=>hk b o' (nm (hup b o' e)) (up b o' (nm (hup b o' e)) (hup b o' e))) hn hm) (λy s'=>a2<|x1 λu' h1=>x1 λk h2=>⟨⟨d,u,u',rfl,h1⟩,s₃.heap,k,h2,λ_ _ e=>e⟩) λ_ _ e=>e
 ·have hfl:vs.filter (λ_=>true)=vs:=List.filter_eq_self.mpr λ_ _=>rfl
  rw[hfl]at hF
  obtain⟨l,e1,e2⟩:=xS (x:=x) hF hlen λj v q=>by
   refine x2 (λd u=>a2 λh1 h2=>?_) (hP j v q)
   exact ex2 d u ⟨gq.symm.trans h1,h2⟩
  have hl':h'.IsList D (strValues l).toArray:=by rw[<- e1];exact hl
  have hfm:=zfm fU x
  refine SC.join hl' e2 (zcW ?_) λt' k=>?_
  ·rw[hfm,cz];exact hxs.2
  ·unfold Txt.join
   rw[StrLaws.glued_eq_join,l9,hfm]
   exact hQ h' k t' λb o' e=>hk b o' (nm e) (up b o' (nm e) e)
noncomputable def oA:Fn:=λps K=>∃x:List Nat,ps=[.str x]/\x.length<1000000/\K (.str (x.map fU))
theorem zjA{A:Around}{E:Value->Shared->Prop}{G:GM}{J:St}{s:Shared}{env:Env}{elt:Expr}{c v:Str}{px pv p1 p2 p3 pos:Pos}{k1 n:Nat}{scope:Scope}{x:List Nat}{K:PV->Prop}
  (hA:Room n A) (hE:EnvOk env) (O:Ok B w.params G env J s) (hline:(p2.endLine==p3.line)=true)
  (hfree:∀y∈scope.names,y.2≠.free) (hcell:∀y∈scope.names,y.2≠.cell) (hkind:scope.kind=.function) (hnames:∀y∈scope.names,y.2=.local->scope.names.lookup y.1=some .local) (hx:scope.names.lookup c=some .local)
  (helt:∀C,zf0 prog w B.h₀ elt (compEnv scope C env) c) (hv:J.ρ v=some (.str x)) (hl:env.kindOf v=some .local) (hd:(v==("__debug__":Str))=false) (hK:K (.str (x.map fU))):
  GW (model prog w) A w.params E G s (PySem.eval (.Call (.Attribute (.Constant (.str ⟨#[]⟩) k1 p1) (ae "join") p2) [.ListComp elt [⟨.Name c px,.Name v pv,[],0⟩] scope pos] [] p3) env) K:=by
 refine x1 (λm=>a2 λhn hmv=>?_) O.rep.ns
 refine x1 (λu=>a2 λh1 h2=>?_) (hmv v _ hv hl)
 refine x1 (λt=>a2 λzr1 okx=>?_) (show∃t,u=.str ⟨x.toArray⟩ t/\okStr x from h2);subst zr1
 have up:∀a o,B.h₀.get? a=some o->s.heap.get? a=some o:=λa o e=>O.rep.inh.at_ a o (O.over a o e)
 refine iL rfl rfl (show 1<30 by decide) hline (Calls.Constant_str ⟨"str","str.join",PySem.F.plainAttrs_str,PySem.F.slot_str_join,PySem.F.type_str_join,typeIs_str _ _ _,(λa e=>by(exfalso;cases e)),?_⟩)
 refine cU rfl (Calls.evalArgs_plain (Calls.spliced_cons (wpAny_mono (zav (Q:=λv s'=>∃r G',K r/\GS G s G' s'/\VRel w.params G' v r) (s:={s with toks:=s.toks+1}) (x:=x) (t:=t) hA.handled hfree hcell hkind hnames hx okx
  (λQ h=>wpAny_Name (wpAny_loadName_local hE.kind hl hn h1 h) hd) (λ_=>rfl) (h₀:=B.h₀) up helt ?_) (λv s' h=>Calls.spliced_nil ⟨cM _ _,h⟩) λ_ _ e=>e)))
 intro h' k t' kp
 have okl:okStr (x.map fU):=⟨λd hd=>by
  refine x1 (λe=>a2 λhe zr2=>?_) (jj.mp hd);subst zr2
  have:=okx.1 e he
  unfold fU
  split
  ·rename_i q;exact ai (gd q.2 32) (by decide)
  ·exact this,by rw[cz];exact okx.2⟩
 exact ex2 (.str (x.map fU)) G ⟨hK,GS.heap O.rep.inh k kp,t',rfl,okl⟩
theorem zcK{n a:Nat}{fd:FuncData}{elt:Expr}{c v:Str}{px pv p1 p2 p3 p4 pos:Pos}{k1:Nat}{scope:Scope}(hB:BsOk B)
  (hF:FunAt B.K a fd [.Return (some (.Call (.Attribute (.Constant (.str ⟨#[]⟩) k1 p1) (ae "join") p2) [.ListComp elt [⟨.Name c px,.Name v pv,[],0⟩] scope pos] [] p3)) p4])
  (hline:(p2.endLine==p3.line)=true) (hfree:∀y∈scope.names,y.2≠.free) (hcell:∀y∈scope.names,y.2≠.cell) (hkind:scope.kind=.function) (hnames:∀y∈scope.names,y.2=.local->scope.names.lookup y.1=some .local) (hx:scope.names.lookup c=some .local)
  (helt:∀(env:Env) C,EnvOk env->zf0 prog w B.h₀ elt (compEnv scope C env) c) (hl:fd.scope.names.lookup v=some .local) (hd:(v==("__debug__":Str))=false)
  (hbind:∀(s:Shared) (vals:List Value),B.K.In s.heap->vals.length=1->BindsTo s fd ⟨vals,[]⟩ ([v].zip (vals++[]))):Meets prog w B (n+1) (.ref a) oA:=by
 refine⟨fR hB hF,λA E G s args ps K hA hi tk ho hv=>x1 λx=>a3 λe hxl hK=>?_⟩
 subst e
 refine kE (n:=n) (tk0:=True) (k:=1) (dv:=[]) (dp:=[]) (params:=[v]) (W:=λQ J=>∃x,J.ρ v=some (.str x)/\Q (.ret (.str (x.map fU))) J) hB hF (λA E env G J sh Q hA hE hκ hcd O t=>x1 λx=>a2 λhv hQ=>?_)
  (λy hy=>.inl (by rw[be.mp hy];exact hl)) rfl (λ_=>.nil) hbind A E G s args [.str x] K hA hi (λ_=>tk) ho hv ⟨rfl,x,?_,.str (x.map fU),rfl,hK⟩
 ·have O:=O sh.toks (t trivial)
  refine wpAny_execs_cons (wpAny_Return_some (aJ (cK (cw:=true) (Q:=λr st'=>Q (.ret r) st') O (zjA (elt:=elt) hA hE O hline hfree hcell hkind hnames hx (λC=>helt env C hE) hv (hκ.loc hl) hd hQ)) λu G1 st1 s1=>x1 λr=>a2 λhq hr O1 T1=>?_))
  exact(aL (X:=FX w.params Q) (a:=Flow.ret u) O1 ⟨r,hq,hr⟩).after T1
 ·show upd (λ_=>none) v (.str x) v=_
  unfold upd;rw[if_pos rfl]
end
end Mine
end
section
open PySem PySem.W PyProof.Rows
set_option Elab.async false
set_option autoImplicit false
set_option linter.unusedVariables false
namespace Mine
/-! the same text with its places away -/
noncomputable def P0:Pos:=⟨0,0,0,0⟩
noncomputable def PL(n:Nat):Pos:=⟨n,0,0,0⟩
mutual
noncomputable def erE:Expr->Expr
 |.BoolOp op vs _=>.BoolOp op (fF vs) P0
 |.NamedExpr a b c=>.NamedExpr a b c
 |.BinOp l op r _=>.BinOp (erE l) op (erE r) P0
 |.UnaryOp op x _=>.UnaryOp op (erE x) P0
 |.Lambda a b c d=>.Lambda a b c d
 |.IfExp t b o _=>.IfExp (erE t) (erE b) (erE o) P0
 |.Dict a b c=>.Dict a b c
 |.Set a b c=>.Set a b c
 |.ListComp a b c d=>.ListComp a b c d
 |.SetComp a b c d=>.SetComp a b c d
 |.DictComp a b c d e=>.DictComp a b c d e
 |.GeneratorExp a b c d=>.GeneratorExp a b c d
 |.Await a b=>.Await a b
 |.Yield a b=>.Yield a b
 |.YieldFrom a b=>.YieldFrom a b
 |.Compare l ops cs _=>.Compare (erE l) ops (fF cs) P0
 |.Call f args kws _=>.Call (erE f) (fF args) kws P0
 |.FormattedValue e c sp _=>.FormattedValue (erE e) c sp P0
 |.JoinedStr vs _=>.JoinedStr (fF vs) P0
 |.Constant c k _=>.Constant c k P0
 |.Attribute o n _=>.Attribute (erE o) n P0
 |.Subscript o i _=>.Subscript (erE o) (erE i) P0
 |.Starred a b=>.Starred a b
 |.Name x _=>.Name x P0
 |.List es p=>.List (fF es) (PL p.line)
 |.Tuple es k _=>.Tuple (fF es) k P0
 |.Slice l u s _=>.Slice (erO l) (erO u) s P0
noncomputable def fF:List Expr->List Expr
 |[]=>[]
 |e ::es=>erE e ::fF es
noncomputable def erO:Option Expr->Option Expr
 |none=>none
 |some e=>some (erE e)
end
mutual
noncomputable def erS:Stmt->Stmt
 |.Expr v _=>.Expr (erE v) P0
 |.Break _=>.Break P0
 |.Continue _=>.Continue P0
 |.Return e _=>.Return (erO e) P0
 |.Assign ts e _=>.Assign (fF ts) (erE e) P0
 |.AugAssign t op e _=>.AugAssign (erE t) op (erE e) P0
 |.If t b o _=>.If (erE t) (lU b) (lU o) P0
 |.While t b o _=>.While (erE t) (lU b) (lU o) P0
 |.For t i b o _=>.For (erE t) (erE i) (lU b) (lU o) P0
 |.Assert t m _=>.Assert (erE t) none P0
 |.Try b hs o fin _=>.Try (lU b) hs (lU o) fin P0
 |.FunctionDef a b c d e f g h i j=>.Pass P0
 |.AsyncFunctionDef a b c d e f g h i j=>.Pass P0
 |.ClassDef a b c d e f g h i j k=>.Pass P0
 |.Delete a b=>.Pass P0
 |.TypeAlias a b c d e f g=>.Pass P0
 |.AnnAssign a b c d e=>.Pass P0
 |.AsyncFor a b c d e=>.Pass P0
 |.With a b c=>.Pass P0
 |.AsyncWith a b c=>.Pass P0
 |.Match a b c=>.Pass P0
 |.Raise a b c=>.Pass P0
 |.TryStar a b c d e=>.Pass P0
 |.Import a b=>.Pass P0
 |.ImportFrom a b c d=>.Pass P0
 |.Global a b=>.Pass P0
 |.Nonlocal a b=>.Pass P0
 |.Pass _=>.Pass P0
noncomputable def lU:List Stmt->List Stmt
 |[]=>[]
 |s ::ss=>erS s ::lU ss
end
variable {C:Ctx}{H:Kn}
theorem oZ{α:Sort _}{d:α}{c:Const->α}{nm:Str->α}{tup:List Expr->α}{att:Expr->Str->Pos->α}{sl:Option Expr->Option Expr->α}{lc:Expr->List Comprehension->α}(e:Expr):
  exc d c nm tup att sl lc (erE e)=exc d c nm (λes=>tup (fF es)) (λo n _=>att (erE o) n P0) (λl u=>sl (erO l) (erO u)) lc e:=by cases e<;>rfl
theorem tE(e:Expr):nmE (erE e)=nmE e:=oZ e
theorem zk4(e:Expr):atN (erE e)=atN e:=oZ e
theorem zk3(e:Expr):xW (erE e)=xW e:=oZ e
theorem zj1(e:Expr):csE (erE e)=csE e:=oZ e
theorem zgL(e:Expr):zbd (erE e)=(zbd e).map fF:=by cases e<;>rfl
theorem zim{α:Sort _}{d:α}{k:Expr->List Expr->List Keyword->α}{b:α}(e:Expr):zdD d k b (erE e)=zdD d (λf args kws=>k (erE f) (fF args) kws) b e:=by cases e<;>rfl
theorem zil(e:Expr):kC (erE e)=kC e:=by cases e<;>rfl
theorem zgO(es:List Expr):(fF es).isEmpty=es.isEmpty:=by cases es<;>rfl
theorem zgM:∀es:List Expr,(fF es).length=es.length
 |[]=>rfl
 |_ ::es=>congrArg Nat.succ (zgM es)
theorem zij:∀es:List Expr,dM (fF es)=dM es
 |[]=>rfl
 |[_]=>rfl
 |[a,b]=>by
  refine(?_:((csE (erE a)).bind λp=>(csE (erE b)).map λq=>(p,q))=_)
  rw[zj1,zj1];rfl
 |_ ::_ ::_ ::_=>rfl
theorem zgP:∀(es:List Expr) (vs:List PV) (ρ:fD),dS (fF es) vs ρ=dS es vs ρ
 |[]=>λ_ _=>rfl
 |e ::es=>λvs ρ=>by
  refine(?_:((nmE (erE e)).bind λx=>vs.head?.bind λv=>dS (fF es) vs.tail (upd ρ x v))=_)
  rw[tE]
  exact congrArg _ (funext λx=>congrArg _ (funext λv=>zgP es _ _))
theorem zj2(e:Expr)(v:PV)(ρ:fD):k0 (erE e) v ρ=k0 e v ρ:=by
 unfold k0
 rw[tE,zgL]
 cases nmE e with
 |some x=>rfl
 |none=>
  cases zbd e with
  |none=>rfl
  |some es=>exact congrArg (λf=>pvc none none (λ_=>none) (λ_=>none) (λ_=>none) f (λ_=>none) (λ_=>none) v) (funext λvs=>zgP es vs ρ)
theorem zj0:∀es:List Expr,(fF es).filterMap nmE=es.filterMap nmE
 |[]=>rfl
 |e ::es=>by
  refine(?_:(erE e ::fF es).filterMap nmE=_)
  rw[List.filterMap_cons,List.filterMap_cons,tE,zj0 es]
theorem zjZ(e:Expr):cZ (erE e)=cZ e:=by
 unfold cZ
 rw[tE,zgL]
 cases nmE e with
 |some x=>rfl
 |none=>
  cases zbd e with
  |none=>rfl
  |some es=>exact zj0 es
theorem zj3:∀(es:List Expr) (v:PV) (ρ:fD),jZ (fF es) v ρ=jZ es v ρ
 |[]=>λ_ _=>rfl
 |e ::es=>λv ρ=>by
  refine(?_:((k0 (erE e) v ρ).bind (jZ (fF es) v))=_)
  rw[zj2]
  exact congrArg _ (funext λr=>zj3 es v r)
theorem zgQ(f:List Str->Bool):∀es:List Expr,((fF es).all λt=>f (cZ t))=es.all λt=>f (cZ t)
 |[]=>rfl
 |e ::es=>by
  refine(?_:(f (cZ (erE e))&&(fF es).all λt=>f (cZ t))=_)
  rw[zjZ,zgQ f es];rfl
theorem zin:∀ts:List Expr,n0 (fF ts)=n0 ts
 |[]=>rfl
 |_ ::_ ::_=>rfl
 |[t]=>by
  refine(oZ t).trans (congrArg (λf=>exc none (λ_=>none) (λ_=>none) (λ_=>none) f (λ_ _=>none) (λ_ _=>none) t) (funext λo=>funext λn=>funext λ_=>?_))
  show(nmE (erE o)).map _=_
  rw[tE]
theorem zj4{H:Kn}{v:PV}{J:St}{K:St->Prop}(ts:List Expr):d9 C H (fF ts) v J K=d9 C H ts v J K:=by
 unfold d9
 rw[zin,zgQ (λl=>l.all (cY H)),zj3]
theorem zik(e:Expr):dN (erE e)=(dN e).map fF:=by
 refine(zim e).trans ?_
 cases e<;>first |rfl|skip
 rename_i f args kws p
 refine(?_:exc _ _ _ _ _ _ _ (erE f)=Option.map fF (exc _ _ _ _ _ _ _ f))
 rw[oZ]
 cases f<;>first |rfl|skip
 rename_i o m q
 refine(?_:(if nmE (erE o)=some "Node"/\ m="__init__"/\ kws.isEmpty=true then some (fF args)else none)=Option.map fF (if nmE o=some "Node"/\ m="__init__"/\ kws.isEmpty=true then some args else none))
 rw[tE]
 split<;>rfl
mutual
theorem e8:∀e:Expr,wE C (erE e)=wE C e
 |.BoolOp op vs _=>zgc op vs
 |.BinOp l op r _=>by
  refine(?_:(λ(H:Kn) (Q:PV->St->Prop) (J:St)=>wE C (erE l) H (λa st1=>wE C (erE r) H (λb st2=>zkg op (der st2.σ a) (der st2.σ b) λv=>Q v st2) st1) J)=_)
  rw[e8 l,e8 r];rfl
 |.UnaryOp op x _=>congrArg (λF=>λ(H:Kn) (Q:PV->St->Prop) (J:St)=>F H (λv st1=>unP op (der st1.σ v) λr=>Q r st1) J) (e8 x)
 |.IfExp t b o _=>by
  refine(?_:(λ(H:Kn) (Q:PV->St->Prop) (J:St)=>wE C (erE t) H (tst λc st1=>if c=true then wE C (erE b) H Q st1 else wE C (erE o) H Q st1) J)=_)
  rw[e8 t,e8 b,e8 o];rfl
 |.Compare l ops cs _=>by
  refine(?_:(λ(H:Kn) (Q:PV->St->Prop) (J:St)=>wE C (erE l) H (λa st1=>wCh C (fF cs) ops H a Q st1) J)=_)
  rw[e8 l,zgb cs];rfl
 |.Call f args kws _=>by
  show(λ(H:Kn) (Q:PV->St->Prop) (J:St)=>kws.isEmpty=true/\l5 (atN (erE f))
   (opt (nmE (erE f)) λid=>H id=some .globalImplicit/\nX C id=true/\wEs C (fF args) H (λvs st2=>iM C id vs st2 λr=>Q r st2) J)
   λname=>l5 (dM (fF args)) (wA C (erE f) H (λov st1=>mOk st1.σ name ov=true/\wEs C (fF args) H (λvs st2=>jG st2.σ name ov vs λr σ'=>Q r ⟨st2.ρ,σ'⟩) st1) J)
    λpq=>wA C (erE f) H (λov st1=>zbX name pq.1 pq.2 ov λr=>Q r st1) J)=_
  rw[zk4,tE,zij,rK args,zkG f];rfl
 |.Attribute o name _=>congrArg (λF=>λ(H:Kn) (Q:PV->St->Prop) (J:St)=>F H (λov st1=>zdJ C name ov λr=>Q r st1) J) (e8 o)
 |.Subscript o i _=>by
  refine(?_:(λ(H:Kn) (Q:PV->St->Prop) (J:St)=>wE C (erE o) H (λov st1=>if xW (erE i)=true then wSl C (erE i) H (λlo hi st3=>zhu (der st3.σ ov) lo hi λr=>Q r st3) st1 else wE C (erE i) H (λiv st2=>zh3 (der st2.σ ov) iv λr=>Q r st2) st1) J)=_)
  rw[e8 o,zk3,ziX i,e8 i];rfl
 |.List es pos=>congrArg (λF=>λ(H:Kn) (Q:PV->St->Prop) (J:St)=>F H (λvs st1=>eI C pos vs Q st1) J) (rK es)
 |.Tuple es _ _=>congrArg (λF=>λ(H:Kn) (Q:PV->St->Prop) (J:St)=>F H (λvs st1=>Q (.tup vs) st1) J) (rK es)
 |.FormattedValue e conv sp _=>by
  refine(?_:(λ(H:Kn) (Q:PV->St->Prop) (J:St)=>conv=-1/\sp.isNone=true/\wE C (erE e) H (λv st1=>asS v λy=>Q (.str y) st1) J)=_)
  rw[e8 e];rfl
 |.JoinedStr vs _=>by
  refine(?_:(λ(H:Kn) (Q:PV->St->Prop) (J:St)=>2<=(fF vs).length/\wJ C (fF vs) H [] Q J)=_)
  rw[zgM,ziY vs];rfl
 |.Constant _ _ _=>rfl
 |.Name _ _=>rfl
 |.NamedExpr _ _ _=>rfl
 |.Lambda _ _ _ _=>rfl
 |.Dict _ _ _=>rfl
 |.Set _ _ _=>rfl
 |.ListComp _ _ _ _=>rfl
 |.SetComp _ _ _ _=>rfl
 |.DictComp _ _ _ _ _=>rfl
 |.GeneratorExp _ _ _ _=>rfl
 |.Await _ _=>rfl
 |.Yield _ _=>rfl
 |.YieldFrom _ _=>rfl
 |.Starred _ _=>rfl
 |.Slice _ _ _ _=>rfl
theorem rK:∀es:List Expr,wEs C (fF es)=wEs C es
 |[]=>rfl
 |e ::es=>by
  refine(?_:(λ(H:Kn) (Q:List PV->St->Prop) (J:St)=>wE C (erE e) H (λv st1=>wEs C (fF es) H (λvs st2=>Q (v ::vs) st2) st1) J)=_)
  rw[e8 e,rK es];rfl
theorem ziY:∀es:List Expr,wJ C (fF es)=wJ C es
 |[]=>rfl
 |e ::es=>by
  refine(?_:(λ(H:Kn) acc (Q:PV->St->Prop) (J:St)=>wE C (erE e) H (λv st1=>asS v λy=>(acc++y).length<=bU/\wJ C (fF es) H (acc++y) Q st1) J)=_)
  rw[e8 e,ziY es];rfl
theorem zga:∀o:Option Expr,wOp C (erO o)=wOp C o
 |none=>rfl
 |some e=>congrArg (λF=>λ(H:Kn) (Q:Option Int->St->Prop) (J:St)=>F H (λv st1=>asI v λi=>-4611686018427387904<i/\i<4611686018427387904/\Q (some i) st1) J) (e8 e)
theorem zkG:∀e:Expr,wA C (erE e)=wA C e
 |.Attribute o _ _=>e8 o
 |.BoolOp _ _ _=>rfl
 |.BinOp _ _ _ _=>rfl
 |.UnaryOp _ _ _=>rfl
 |.IfExp _ _ _ _=>rfl
 |.Compare _ _ _ _=>rfl
 |.Call _ _ _ _=>rfl
 |.Subscript _ _ _=>rfl
 |.List _ _=>rfl
 |.Tuple _ _ _=>rfl
 |.FormattedValue _ _ _ _=>rfl
 |.JoinedStr _ _=>rfl
 |.Constant _ _ _=>rfl
 |.Name _ _=>rfl
 |.NamedExpr _ _ _=>rfl
 |.Lambda _ _ _ _=>rfl
 |.Dict _ _ _=>rfl
 |.Set _ _ _=>rfl
 |.ListComp _ _ _ _=>rfl
 |.SetComp _ _ _ _=>rfl
 |.DictComp _ _ _ _ _=>rfl
 |.GeneratorExp _ _ _ _=>rfl
 |.Await _ _=>rfl
 |.Yield _ _=>rfl
 |.YieldFrom _ _=>rfl
 |.Starred _ _=>rfl
 |.Slice _ _ _ _=>rfl
theorem ziX:∀e:Expr,wSl C (erE e)=wSl C e
 |.Slice l u sp _=>by
  refine(?_:(λ(H:Kn) (Q:Option Int->Option Int->St->Prop) (J:St)=>sp.isNone=true/\wOp C (erO l) H (λlo st1=>wOp C (erO u) H (λhi st2=>Q lo hi st2) st1) J)=_)
  rw[zga l,zga u];rfl
 |.Attribute _ _ _=>rfl
 |.BoolOp _ _ _=>rfl
 |.BinOp _ _ _ _=>rfl
 |.UnaryOp _ _ _=>rfl
 |.IfExp _ _ _ _=>rfl
 |.Compare _ _ _ _=>rfl
 |.Call _ _ _ _=>rfl
 |.Subscript _ _ _=>rfl
 |.List _ _=>rfl
 |.Tuple _ _ _=>rfl
 |.FormattedValue _ _ _ _=>rfl
 |.JoinedStr _ _=>rfl
 |.Constant _ _ _=>rfl
 |.Name _ _=>rfl
 |.NamedExpr _ _ _=>rfl
 |.Lambda _ _ _ _=>rfl
 |.Dict _ _ _=>rfl
 |.Set _ _ _=>rfl
 |.ListComp _ _ _ _=>rfl
 |.SetComp _ _ _ _=>rfl
 |.DictComp _ _ _ _ _=>rfl
 |.GeneratorExp _ _ _ _=>rfl
 |.Await _ _=>rfl
 |.Yield _ _=>rfl
 |.YieldFrom _ _=>rfl
 |.Starred _ _=>rfl
theorem zgc(op:BoolOp):∀es:List Expr,wBo C op (fF es)=wBo C op es
 |[]=>rfl
 |e ::es=>by
  refine(?_:(λ(H:Kn) (Q:PV->St->Prop) (J:St)=>if(fF es).isEmpty=true then wE C (erE e) H Q J else wE C (erE e) H (λv st1=>opt (uH (der st1.σ v)) λb=>if b=(op==.Or)then Q v st1 else wBo C op (fF es) H Q st1) J)=_)
  rw[zgO,e8 e,zgc op es];rfl
theorem zgb:∀es:List Expr,wCh C (fF es)=wCh C es
 |[]=>rfl
 |r ::rs=>by
  refine(?_:(λ(ops:List CmpOp) (H:Kn) a (Q:PV->St->Prop) (J:St)=>opt (List.head? ops) λop=>wE C (erE r) H (λb st1=>zaX st1.σ op a b λc=>if(fF rs).isEmpty=true then(List.tail ops).isEmpty=true/\Q (.bool c) st1 else if c=true then wCh C (fF rs) (List.tail ops) H b Q st1 else Q (.bool false) st1) J)=_)
  rw[e8 r,zgO,zgb rs];rfl
end
theorem zjY:∀(e:Option Expr) (H:Kn) (K:PV->St->Prop) (J:St),(opt (erO e) λe=>wE C e H K J)=opt e λe=>wE C e H K J
 |none=>λ_ _ _=>rfl
 |some e=>λH K J=>congrFun (congrFun (congrFun (e8 e) H) K) J
theorem zgN{B O:(Fl->St->Prop)->St->Prop}{Q:Fl->St->Prop}(t:Expr):∀(items:List PV) (J:St),d7 (erE t) B O Q items J=d7 t B O Q items J
 |[],_=>rfl
 |v ::vs,J=>by
  refine(?_:(opt (k0 (erE t) v J.ρ) λρ1=>B (nW (d7 (erE t) B O Q vs) Q) ⟨ρ1,J.σ⟩)=_)
  rw[zj2,show d7 (erE t) B O Q vs=d7 t B O Q vs from funext λs=>zgN t vs s];rfl
mutual
theorem zkE:∀s:Stmt,wS C H (erS s)=wS C H s
 |.Expr v _=>funext λQ=>funext λJ=>by
  refine(?_:(l5 (dN (erE v)) (kC (erE v)=false/\wE C (erE v) H (λ_ st1=>Q .next st1) J) λargs=>C.ini=true/\H "Node"=some .globalImplicit/\wEs C args H (λvs st1=>vL C vs st1 λst2=>Q .next st2) J)=_)
  rw[zil,zik,e8 v,mI]
  cases dN v with
  |none=>rfl
  |some args=>exact congrArg (λF=>C.ini=true/\H "Node"=some .globalImplicit/\F H (λvs st1=>vL C vs st1 λst2=>Q .next st2) J) (rK args)
 |.Return e _=>funext λQ=>funext λJ=>zjY e H _ J
 |.Assign ts e _=>by
  refine(?_:(λ(Q:Fl->St->Prop) (J:St)=>wE C (erE e) H (λv st1=>d9 C H (fF ts) v st1 λst2=>Q .next st2) J)=_)
  rw[e8 e,show(λ(Q:Fl->St->Prop) (J:St)=>wE C e H (λv st1=>d9 C H (fF ts) v st1 λst2=>Q .next st2) J)=λ(Q:Fl->St->Prop) (J:St)=>wE C e H (λv st1=>d9 C H ts v st1 λst2=>Q .next st2) J from funext λQ=>funext λJ=>congrArg (λK=>wE C e H K J) (funext λv=>funext λst1=>zj4 ts)];rfl
 |.AugAssign t op e _=>by
  refine(?_:(λ(Q:Fl->St->Prop) (J:St)=>opt (nmE (erE t)) λx=>cY H x=true/\opt (J.ρ x) λold=>wE C (erE e) H (λv st1=>inP op old v λr=>Q .next ⟨upd st1.ρ x r,st1.σ⟩) J)=_)
  rw[tE,e8 e];rfl
 |.If t b o _=>by
  refine(?_:(λ(Q:Fl->St->Prop) (J:St)=>wE C (erE t) H (tst λc st1=>if c=true then wSs C H (lU b) Q st1 else wSs C H (lU o) Q st1) J)=_)
  rw[e8 t,jI b,jI o];rfl
 |.While t b o _=>by
  refine(?_:(λ(Q:Fl->St->Prop) (J:St)=>∃n,fJ (wE C (erE t) H) (wSs C H (lU b)) (wSs C H (lU o)) Q n J)=_)
  rw[e8 t,jI b,jI o];rfl
 |.For t i b o _=>by
  refine(?_:(λ(Q:Fl->St->Prop) (J:St)=>(cZ (erE t)).all (cY H)=true/\wE C (erE i) H (λv st1=>opt (lL v) λitems=>items.length<=bU/\d7 (erE t) (wSs C H (lU b)) (wSs C H (lU o)) Q items st1) J)=_)
  rw[zjZ,e8 i,jI b,jI o,show(λ(Q:Fl->St->Prop) (J:St)=>(cZ t).all (cY H)=true/\wE C i H (λv st1=>opt (lL v) λitems=>items.length<=bU/\d7 (erE t) (wSs C H b) (wSs C H o) Q items st1) J)=λ(Q:Fl->St->Prop) (J:St)=>(cZ t).all (cY H)=true/\wE C i H (λv st1=>opt (lL v) λitems=>items.length<=bU/\d7 t (wSs C H b) (wSs C H o) Q items st1) J from funext λQ=>funext λJ=>congrArg (λK=>(cZ t).all (cY H)=true/\wE C i H K J) (funext λv=>funext λst1=>congrArg (opt (lL v)) (funext λitems=>congrArg _ (zgN t items st1)))];rfl
 |.Assert t _ _=>congrArg (λF=>λ(Q:Fl->St->Prop) (J:St)=>F H (tst λc st1=>c=true/\Q .next st1) J) (e8 t)
 |.Try b hs o fin _=>by
  refine(?_:(λ(Q:Fl->St->Prop) (J:St)=>hs.isEmpty=false/\fin.isEmpty=true/\wSs C H (lU b) (cG (λst1=>wSs C H (lU o) Q st1) Q) J)=_)
  rw[jI b,jI o];rfl
 |.Break _=>rfl
 |.Continue _=>rfl
 |.FunctionDef _ _ _ _ _ _ _ _ _ _=>rfl
 |.AsyncFunctionDef _ _ _ _ _ _ _ _ _ _=>rfl
 |.ClassDef _ _ _ _ _ _ _ _ _ _ _=>rfl
 |.Delete _ _=>rfl
 |.TypeAlias _ _ _ _ _ _ _=>rfl
 |.AnnAssign _ _ _ _ _=>rfl
 |.AsyncFor _ _ _ _ _=>rfl
 |.With _ _ _=>rfl
 |.AsyncWith _ _ _=>rfl
 |.Match _ _ _=>rfl
 |.Raise _ _ _=>rfl
 |.TryStar _ _ _ _ _=>rfl
 |.Import _ _=>rfl
 |.ImportFrom _ _ _ _=>rfl
 |.Global _ _=>rfl
 |.Nonlocal _ _=>rfl
 |.Pass _=>rfl
theorem jI:∀ss:List Stmt,wSs C H (lU ss)=wSs C H ss
 |[]=>rfl
 |s ::ss=>by
  refine(?_:(λ(Q:Fl->St->Prop) (J:St)=>wS C H (erS s) (cG (λst1=>wSs C H (lU ss) Q st1) Q) J)=_)
  rw[zkE s,jI ss];rfl
end
theorem nfs{H:Kn}{Q:Fl->St->Prop}{J:St}{b B:List Stmt}(h:b=B)(k:wSs C H B Q J):wSs C H b Q J:=h▸k
theorem nf1{H:Kn}{Q:Fl->St->Prop}{J:St}{b B:Stmt}(h:b=B)(k:wS C H B Q J):wS C H b Q J:=h▸k
theorem nfe{H:Kn}{Q:Fl->St->Prop}{J:St}{b B:List Stmt}(h:lU b=B)(k:wSs C H B Q J):wSs C H b Q J:=(congrFun (congrFun (jI b) Q) J).mp (h▸k)
end Mine
end
section
open PySem PySem.W PyProof.Rows
set_option Elab.async false
set_option autoImplicit false
set_option maxRecDepth 100000
set_option linter.unusedVariables false
namespace Mine
/-! dict displays of constants;the keys are texts or tuples of texts -/
noncomputable abbrev DL:=List (List (List Nat)×DV)
noncomputable def zja(x:List Nat):Str:=⟨x.toArray⟩
theorem lZ(x:Str):zja x.cps.toList=x:=rfl
noncomputable def dvE(e:Expr):Option DV:=exc none (λc=>(iJ c).bind λv=>pvc none none (λ_=>none) (λi=>some (.i i)) (λx=>some (.s x)) (λ_=>none) (λ_=>none) (λ_=>none) v) (λ_=>none) (λ_=>none) (λ_ _ _=>none) (λ_ _=>none) (λ_ _=>none) e
noncomputable def zk5:List Expr->Option (List (List Nat))
 |[]=>some []
 |e ::es=>(csE e).bind λx=>(zk5 es).map (x.cps.toList ::·)
noncomputable def kyE(b:Bool)(e:Expr):Option (List (List Nat)):=if b=true then(zbd e).bind zk5 else(csE e).map λx=>[x.cps.toList]
noncomputable def dlE(b:Bool):List (Option Expr)->List Expr->Option DL
 |[],vs=>if vs.isEmpty=true then some []else none
 |k ::ks,vs=>k.bind λk=>vs.head?.bind λv=>(kyE b k).bind λx=>(dvE v).bind λd=>(dlE b ks vs.tail).map ((x,d) ::·)
noncomputable def zkP(d:DV):Bool:=DV.casesOn (motive:=λ_=>Bool) d (λx=>x.all (λc=>decide (c<1114112))&&decide (x.length<=1000)) λ_=>true
noncomputable def r9:DL->Bool
 |[]=>true
 |e ::r=>zkP e.2&&(decide (e.1.length<=10)&&((r.lookup e.1).isNone&&r9 r))
section
variable {K α:Type} [DecidableEq K]
noncomputable def Tell(ky:K->List (List Nat))(V:α->DV->Prop):List (K×α)->DL->Prop
 |[],D=>D=[]
 |e ::r,D=>∃dv D',D=(ky e.1,dv) ::D'/\V e.2 dv/\Tell ky V r D'
variable {ky:K->List (List Nat)}{V:α->DV->Prop}
theorem Tell.app{k:K}{a:α}{dv:DV}(h:V a dv):∀{xs:List (K×α)}{D:DL},Tell ky V xs D->Tell ky V (xs++[(k,a)]) (D++[(ky k,dv)])
 |[]=>λt=>by subst t;exact ex2 dv ([]) ⟨rfl,h,rfl⟩
 |_ ::_=>λt=>x2 (λdv' D'=>a3 λe h' t'=>by subst e;exact ex2 dv' _ ⟨rfl,h',Tell.app h t'⟩) t
theorem Tell.look(inj:∀j k,ky j=ky k->j=k)(k:K):∀{xs:List (K×α)}{D:DL},Tell ky V xs D->l5 (D.lookup (ky k)) ((xs.find? λx=>decide (x.1=k)).map (·.2)=none) λdv=>∃a,(xs.find? λx=>decide (x.1=k)).map (·.2)=some a/\V a dv
 |[],_,t=>by subst t;rfl
 |e ::r,_,t=>by
  refine x2 (λdv D'=>a3 λq h t'=>?_) t
  subst q
  rw[cy,List.find?_cons]
  by_cases he:e.1=k
  ·rw[he,beq_self_eq_true,decide_eq_true rfl];exact⟨e.2,rfl,h⟩
  ·rw[beq_eq_false_iff_ne.mpr λq=>he (inj _ _ q.symm),decide_eq_false he];exact Tell.look inj k t'
theorem Tell.len:∀{xs:List (K×α)}{D:DL},Tell ky V xs D->xs.length=D.length
 |[]=>λt=>by subst t;rfl
 |_ ::_=>λt=>x2 (λ_ _=>a3 λe _ t'=>by subst e;exact congrArg Nat.succ (Tell.len t')) t
end
noncomputable def kyS(x:Str):List (List Nat):=[x.cps.toList]
noncomputable def kyT(ks:List Str):List (List Nat):=ks.map λx=>x.cps.toList
theorem vJ(j k:Str)(h:kyS j=kyS k):j=k:=by
 have e:=(List.cons.inj h).1
 refine(lZ j)▸?_;refine(lZ k)▸?_;exact e.symm▸rfl
theorem vH:∀(j k:List Str),kyT j=kyT k->j=k
 |[],[],_=>rfl
 |a ::j,b ::k,h=>by
  refine a2 (λh1 h2=>?_) (List.cons.inj h)
  have h1:a.cps.toList=b.cps.toList:=h1
  refine(vH j k h2).symm▸?_;refine(lZ a)▸?_;refine(lZ b)▸?_;exact h1.symm▸rfl
 |[],_ ::_,h=>by cases h
 |_ ::_,[],h=>by cases h
section
variable (prog:Program) (w:World)
noncomputable def DSt(b:Bool)(h₀ h:Heap)(d:Nat)(D:DL):Prop:=
 if b=true then∃xs:List (List Str×Addr×Value),h.DictOfH (tupleKind (strKind prog w)) d xs/\Tell kyT (λp dv=>h₀.get? p.1=none/\zfY p.2 dv) xs D
 else∃kvs:List (Str×Value),h.DictOf (strKind prog w) d kvs/\Tell kyS zfY kvs D
noncomputable def KR(b:Bool)(h₀ h:Heap)(v:Value)(k:List (List Nat)):Prop:=
 if b=true then∃a ks,v=.ref a/\k=kyT ks/\IsTupleKey (strKind prog w) h ks a/\h₀.get? a=none else∃x t,v=.str x t/\k=kyS x
noncomputable def KVs(b:Bool)(h₀ h:Heap):List (Value×Value)->DL->Prop
 |[],D=>D=[]
 |e ::r,D=>∃k dv D',D=(k,dv) ::D'/\KR prog w b h₀ h e.1 k/\zfY e.2 dv/\KVs b h₀ h r D'
end
section
variable {prog:Program}{w:World}{A:Around}{E:Value->Shared->Prop}{env:Env}{b:Bool}{h₀:Heap}{d:Nat}
theorem KR.mono{h h':Heap}(hk:∀a o,o.cls=.type "tuple" ->h.get? a=some o->h'.get? a=some o){v:Value}{k:List (List Nat)}(r:KR prog w b h₀ h v k):KR prog w b h₀ h' v k:=by
 unfold KR at r ⊢
 cases b with
 |false=>exact r
 |true=>exact e2 (λa ks=>c2 (a2 λh3 h4=>⟨x3 (λo it n=>a4 λg1 g2 g3 g4=>⟨o,it,n,hk _ _ g2 g1,g2,g3,g4⟩) h3,h4⟩)) r
theorem KVs.mono{h h':Heap}(hk:∀a o,o.cls=.type "tuple" ->h.get? a=some o->h'.get? a=some o):∀{ws:List (Value×Value)}{D:DL},KVs prog w b h₀ h ws D->KVs prog w b h₀ h' ws D
 |[],_,t=>t
 |_ ::_,_,t=>e3 (λk dv D' g=>⟨g.1,g.2.1.mono hk,g.2.2.1,KVs.mono hk g.2.2.2⟩) t
theorem zca{K α:Type} [DecidableEq K] {xs:List (K×α)}{k:K}(h:(xs.find? λx=>decide (x.1=k)).map (·.2)=none):(xs.any λx=>decide (x.1=k))=false:=by
 rw[Option.map_eq_none_iff,List.find?_eq_none]at h
 cases e:xs.any λx=>decide (x.1=k)with
 |false=>rfl
 |true=>
  refine x1 (λx=>a2 λhx q=>?_) (List.any_eq_true.mp e)
  exact absurd q (h x hx)
theorem mY{D:DL}{k:List (List Nat)}{P:Prop}{K:DV->Prop}(h:l5 (D.lookup k) P K)(e:D.lookup k=none):P:=by rw[e]at h;exact h
theorem zgR{s:Shared}{D:DL}{kv v:Value}{k:List (List Nat)}{dv:DV}{Q:Unit->Shared->Prop}(hu:A.units<9000)(hD:DSt prog w b h₀ s.heap d D)(hk:KR prog w b h₀ s.heap kv k)(hv:zfY v dv)(hn:D.lookup k=none)(hl:D.length<=1000)
  (hQ:∀h' tk,DSt prog w b h₀ h' d (D++[(k,dv)])->(∀a o,o.cls=.type "tuple" ->s.heap.get? a=some o->h'.get? a=some o)->(∀a o,a≠d->s.heap.get? a=some o->h'.get? a=some o)->Q () {s with heap:=h',toks:=tk}):wpAny (model prog w) A (dictSet d kv v) Q E s:=by
 unfold DSt at hD hQ
 unfold KR at hk
 cases b with
 |true=>
  refine x2 (λa ks=>a4 λe1 e2 h3 h4=>?_) hk
  refine x1 (λxs=>a2 λh5 h6=>?_) hD
  subst e1;subst e2
  have hnn:atKey xs ks=none:=mY (Tell.look vH ks h6) hn
  refine wpAny_dictSet_heap (knd:=tupleKind (strKind prog w)) (show A.units<cLine from aj hu (by decide)) h3 h5 (λh' m hs=>?_) (by rw[h6.len];exact af hl (by decide))
  rw[storedH_new hnn]at m
  refine hQ h' _ ⟨_,m,h6.app ⟨h4,hv⟩⟩ (λa' o ho e=>(hs.2 a' λq=>?_).trans e) λa' o q e=>(hs.2 a' q).trans e
  subst q
  refine x3 (λo' es ep=>a6 λg1 g2 _ _ _ _=>?_) h5
  rw[e]at g1;(have zq:=Option.some.inj g1;subst zq)
  rw[g2.1]at ho
  injection ho with q
  exact absurd q (by decide)
 |false=>
  refine x2 (λx t=>a2 λe1 e2=>?_) hk
  refine x1 (λkvs=>a2 λh5 h6=>?_) hD
  subst e1;subst e2
  have hnn:=zca (mY (Tell.look vJ x h6) hn)
  refine wpAny_dictSet_pairs (strKind_is prog w x t) h5 (λh' m hs=>?_) (by rw[h6.len];exact af hl (by decide))
  rw[show stored kvs x v=kvs++[(x,v)]from if_neg (by rw[hnn];decide)]at m
  refine hQ h' _ ⟨_,m,h6.app hv⟩ (λa' o ho e=>(hs.2 a' λq=>?_).trans e) λa' o q e=>(hs.2 a' q).trans e
  subst q
  refine x3 (λo' es ep=>a6 λg1 g2 _ _ _ _=>?_) h5
  rw[e]at g1;(have zq:=Option.some.inj g1;subst zq)
  rw[g2.1]at ho
  injection ho with q
  exact absurd q (by decide)
theorem look_app{D r:DL}{k:List (List Nat)}:(D++r).lookup k=none↔D.lookup k=none/\r.lookup k=none:=by
 induction D with
 |nil=>exact⟨λh=>⟨rfl,h⟩,λh=>h.2⟩
 |cons e D ih=>
  rw[List.cons_append,cy,cy]
  split
  ·exact⟨λh=>(by cases h),λh=>(by cases h.1)⟩
  ·exact ih
noncomputable def zf9:DL->DL->Prop
 |_,[]=>True
 |D,e ::r=>D.lookup e.1=none/\zf9 (D++[e]) r
theorem rC:∀{r D:DL},r9 r=true->(∀e∈r,D.lookup e.1=none)->zf9 D r
 |[],_,_,_=>trivial
 |e ::r,D,h,hd=>by
  refine a2 (λ_ h=>?_) (ag.mp h)
  refine a2 (λ_ h=>?_) (ag.mp h)
  refine a2 (λh1 h2=>?_) (ag.mp h)
  refine⟨hd e bk,rC h2 λf hf=>look_app.mpr ⟨hd f (bc _ hf),?_⟩⟩
  rw[cy]
  split
  ·rename_i q
   have q:=eq_of_beq q
   have h1:=gw.mp h1
   rw[<- q]at h1
   exact absurd h1 (mem_look hf)
  ·rfl
where mem_look:∀{r:DL}{f:List (List Nat)×DV},f∈r->r.lookup f.1≠none
 |e ::r,f,h=>by
  rw[cy]
  split
  ·exactλq=>by cases q
  ·rename_i q
   rcases bb.mp h with rfl|h
   ·rw[beq_self_eq_true]at q;cases q
   ·exact mem_look h
theorem zgU:∀{ws:List (Value×Value)}{r D:DL}{s:Shared}{Q:PUnit->Shared->Prop},A.units<9000->DSt prog w b h₀ s.heap d D->KVs prog w b h₀ s.heap ws r->zf9 D r->D.length+r.length<=1000->
  (∀h' tk,DSt prog w b h₀ h' d (D++r)->(∀a o,o.cls=.type "tuple" ->s.heap.get? a=some o->h'.get? a=some o)->(∀a o,a≠d->s.heap.get? a=some o->h'.get? a=some o)->Q PUnit.unit {s with heap:=h',toks:=tk})->wpAny (model prog w) A (storeAll d ws) Q E s
 |[],r,D,s,Q,_,hD,hk,_,_,hQ=>by
  subst hk
  unfold storeAll
  rw[List.forIn_nil]
  rw[ck]at hQ
  exact wpAny_pure (hQ s.heap s.toks hD (λ_ _ _ e=>e) λ_ _ _ e=>e)
 |(kv,v) ::ws,r,D,s,Q,hu,hD,hk,ha,hl,hQ=>by
  refine x3 (λk dv r'=>a4 λe1 h1 h2 h3=>?_) hk
  subst e1
  unfold storeAll
  rw[gk]
  rw[jd]at hl
  refine wpAny_bind (wpAny_bind (zgR hu hD h1 h2 ha.1 (af (am _ _) hl) λh' tk g1 g2 g3=>wpAny_pure ?_))
  refine zgU (s:={s with heap:=h',toks:=tk}) (r:=r') hu g1 (h3.mono g2) ha.2 (by rw[bj];show D.length+1+_<=_;rw[bl,bn 1];exact hl) λh'' tk' i1 i2 i3=>?_
  rw[dw]at i1
  exact hQ h'' tk' i1 (λa o ho e=>i2 a o ho (g2 a o ho e)) λa o q e=>i3 a o q (g3 a o q e)
theorem zdo{e:Expr}{dv:DV}{s:Shared}{Q:Value->Shared->Prop}(h:dvE e=some dv)(ho:zkP dv=true)(hQ:∀v tk,zfY v dv->Q v {s with toks:=tk}):wpAny (model prog w) A (PySem.eval e env) Q E s:=by
 cases e<;>first |cases h|skip
 rename_i c k p
 cases c<;>first |cases h|skip
 ·exact wpAny_Constant_int (hQ _ _ ⟨_,rfl⟩)
 ·rename_i x
  have ho:(x.cps.toList.all (λc=>decide (c<1114112))&&decide (x.cps.toList.length<=1000))=true:=ho
  refine a2 (λh1 h2=>?_) (ag.mp ho)
  exact wpAny_Constant_str (hQ _ _ ⟨_,rfl,λc hc=>of_decide_eq_true (ay.mp h1 c hc),af (of_decide_eq_true h2) (by decide)⟩)
theorem xA{pos:Pos}:∀{es:List Expr}{k:List (List Nat)}{s:Shared}{Q:List Value->Shared->Prop},zk5 es=some k->(∀vs tk ks,k=kyT ks->ItemsAre (strKind prog w) ks vs->Q vs {s with toks:=tk})->wpAny (model prog w) A (spliced (backTo pos (starEach es env))) Q E s
 |[],k,s,Q,h,hQ=>by(have zq:=Option.some.inj h;subst zq);exact Calls.spliced_nil (hQ [] s.toks [] rfl .nil)
 |e ::es,k,s,Q,h,hQ=>by
  refine x1 (λx=>a2 λh1 g=>?_) (cu.mp h)
  refine x1 (λk'=>a2 λh2 g'=>?_) (de.mp g)
  clear h g
  refine x2 (λn p zr2=>?_) (mC h1);subst zr2
  subst g'
  exact Calls.spliced_cons (x:=PySem.eval (.Constant (.str x) n p) env) (rest:=backTo pos (starEach es env)) (wpAny_Constant_str (k:=n) (pos:=p) (xA h2 λvs tk ks e1 hi=>hQ _ tk (x ::ks) (by rw[e1];rfl) (.cons (strKind_is prog w x _) hi)))
theorem kP{h:Heap}{a:Nat}(e:h.objs.size<=a):h.get? a=none:=u0 e
theorem zcU{e:Expr}{k:List (List Nat)}{s:Shared}{Q:Value->Shared->Prop}(h:kyE b e=some k)(hl:k.length<=10)(h0:h₀.objs.size<=s.heap.objs.size)
  (hQ:∀h' tk v,(∀a o,s.heap.get? a=some o->h'.get? a=some o)->s.heap.objs.size<=h'.objs.size->KR prog w b h₀ h' v k->Q v {s with heap:=h',toks:=tk}):wpAny (model prog w) A (PySem.eval e env) Q E s:=by
 unfold kyE at h
 unfold KR at hQ
 cases b with
 |true=>
  refine x1 (λes=>a2 λh1 h2=>?_) (cu.mp h)
  refine x2 (λn p zr2=>?_) (rL h1);subst zr2
  refine wpAny_Tuple_spliced (xA h2 λvs tk ks e1 hi=>⟨?_,?_⟩)
  ·rw[<- hi.length]
   have:ks.length=k.length:=by rw[e1];exact(cz _).symm
   rw[this];exact af hl (by decide)
  ·exact hQ (s.heap.push _) tk _ (λ_ _ e=>di _ e) (by rw[jk];exact ff _) ⟨_,ks,rfl,e1,⟨_,_,_,dc _ rfl,rfl,rfl,hi⟩,kP h0⟩
 |false=>
  refine x1 (λx=>a2 λh1 h2=>?_) (de.mp h)
  refine x2 (λn p zr2=>?_) (mC h1);subst zr2
  exact wpAny_Constant_str (hQ s.heap _ _ (λ_ _ e=>e) (bh _) ⟨x,_,rfl,h2.symm⟩)
theorem zdq{ks:List (Option Expr)}{vs:List Expr}{k:Option Expr}{D:DL}(h:dlE b (k ::ks) vs=some D):∃ke ve vs' x dv D',k=some ke/\vs=ve ::vs'/\kyE b ke=some x/\dvE ve=some dv/\dlE b ks vs'=some D'/\D=(x,dv) ::D':=by
 refine x1 (λke=>a2 λh1 g=>?_) (cu.mp h)
 refine x1 (λve=>a2 λh2 g=>?_) (cu.mp g)
 refine x1 (λx=>a2 λh3 g=>?_) (cu.mp g)
 refine x1 (λdv=>a2 λh4 g=>?_) (cu.mp g)
 refine x1 (λD'=>a2 λh5 h6=>?_) (de.mp g)
 cases vs with
 |nil=>cases h2
 |cons v vs=>(have zq:=Option.some.inj h2;subst zq);exact ex6 ke _ _ x dv D' ⟨h1,rfl,h3,h4,h5,h6.symm⟩
theorem uW{e:List (List Nat)×DV}{r:DL}(h:r9 (e ::r)=true):zkP e.2=true/\e.1.length<=10/\r9 r=true:=by
 refine a2 (λh1 h=>?_) (ag.mp h)
 refine a2 (λh2 h=>?_) (ag.mp h)
 exact⟨h1,of_decide_eq_true h2,(ag.mp h).2⟩
theorem zdp{pos:Pos}:∀{ks:List (Option Expr)}{vs:List Expr}{D:DL}{s:Shared}{Q:List (Value×Value)->Shared->Prop},dlE b ks vs=some D->r9 D=true->h₀.objs.size<=s.heap.objs.size->
  (∀h' tk ws,(∀a o,s.heap.get? a=some o->h'.get? a=some o)->KVs prog w b h₀ h' ws D->Q ws {s with heap:=h',toks:=tk})->wpAny (model prog w) A (evalPairs (pairTrees ks vs env pos)) Q E s
 |[],vs,D,s,Q,h,_,_,hQ=>by
  unfold dlE at h
  split at h
  ·rename_i q
   have zq:=Option.some.inj h;subst zq
   cases List.isEmpty_iff.mp q
   exact pairTrees_nil_walk (hQ s.heap s.toks [] (λ_ _ e=>e) rfl)
  ·cases h
 |k ::ks,vs,D,s,Q,h,ho,h0,hQ=>by
  refine x6 (λke ve vs' x dv D'=>a6 λzr6 zr7 h3 h4 h5 zr11=>?_) (zdq h);subst zr6;subst zr7;subst zr11
  refine a3 (λo1 o2 o3=>?_) (uW ho)
  refine pairTrees_cons_walk (zcU h3 o2 h0 λh' tk kv kp hs hk=>zdo h4 o1 λv tk2 hv=>?_)
  refine zdp h5 o3 (af h0 hs) λh'' tk3 ws kp2 hw=>hQ h'' tk3 _ (λa o e=>kp2 a o (kp a o e)) ⟨x,dv,D',rfl,hk.mono λa o _ e=>kp2 a o e,hv,hw⟩
end
section
variable {prog:Program}{w:World}{A:Around}{E:Value->Shared->Prop}{s:Shared}{env:Env}{h₀:Heap}{d o:Nat}{kvs more:List (Str×Value)}
theorem zbZ{k:Str}{key v:Value}{Q:Unit->Shared->Prop}(hkey:(strKind prog w).is k key=true)(hm:s.heap.DictOf (strKind prog w) d kvs)(hnew:k ∉ kvs.map (·.1))(hsz:kvs.length<=1000)
  (hQ:∀h',h'.DictOf (strKind prog w) d (kvs++[(k,v)])->Heap.SameBut d s.heap h'->Q () {s with heap:=h'}):wpAny (model prog w) A (dictPut d ((strKind prog w).hash k) key v) Q E s:=by
 refine x3 (λo es ep=>a6 λho hc hd hk hp hn=>?_) hm
 have hes:es.size<=sizeLine:=af (cn▸(hp.length▸hsz:es.toList.length<=1000)) (by decide)
 refine wpAny_bind (wpAny_dictFind_of hkey ho hd hk ?_)
 have hi:(es.findIdx? λe=>(strKind prog w).is k e.key)=none:=by
  refine Array.findIdx?_eq_none_iff.mpr λe he=>?_
  cases q:(strKind prog w).is k e.key with
  |false=>rfl
  |true=>
   obtain⟨j,hj,e2⟩:=gx.mp (Array.mem_toList_iff.mpr he)
   have hjk:j<kvs.length:=hp.length▸hj
   have hx:kvs[j]?=some (kvs[j].1,kvs[j].2):=ah hjk
   have g:=(hp.get? (e:=e) (by rw[ah hj,e2]) hx).1
   exact absurd ((strKind prog w).inj _ _ _ q g) λe3=>hnew (e3▸List.mem_map_of_mem (List.getElem_mem hjk))
 rw[hi]
 refine wpAny_updateDictKeys (hz:=hes) ho hd (hQ _ ⟨_,_,ep+1,Heap.get?_update_self _ ho (Obj.isFreed_of_dict (Obj.data_mapDictKeys hd _)),hc.mapDictKeys _,Obj.data_mapDictKeys hd _,hk.push hkey _,?_,?_⟩ (Heap.SameBut.update ..))
 ·have:=hp.append hkey ((strKind prog w).hash k) v
  obtain⟨l⟩:=es
  simpa using this
 ·rw[List.map_append,List.nodup_append]
  refine⟨hn,by simp,λa ha b hb=>?_⟩
  cases be.mp hb
  exactλe=>hnew ((show a=k from e)▸ha)
theorem u8{Q:Unit->Shared->Prop}(hdo:d≠o)(hoS:(o==sysModules)=false)(hd:s.heap.DictOf (strKind prog w) d kvs)(ho:s.heap.DictOf (strKind prog w) o more)(hne:kvs≠[])(hnd:((kvs++more).map (·.1)).Nodup)(hsz:kvs.length+more.length<=1000)
  (hQ:∀h',h'.DictOf (strKind prog w) d (kvs++more)->Heap.SameBut d s.heap h'->Q () {s with heap:=h'}):wpAny (model prog w) A (mergeMapping d (.ref o) false) Q E s:=by
 refine x3 (λod esd epd=>a6 λhod hcd hdd hkd hpd _=>?_) (id hd)
 refine x3 (λoo eso epo=>a6 λhoo hco hdo' hko hpo hno=>?_) (id ho)
 have hlen:more.length=eso.size:=by refine hpo.length▸?_;exact cn
 have hemp:esd.isEmpty=false:=by
  cases q:esd.isEmpty with
  |false=>rfl
  |true=>
   have h0:=hpd.length
   rw[Array.isEmpty_iff.mp q]at h0
   exact absurd (gf.mp h0.symm) hne
 refine wpAny_bind (wpAny_isInstance ho.typeIs isSubtype_dict_dict ?_)
 refine(if_pos rfl).symm▸?_
 refine wpAny_bind (wpAny_specialOf ho.typeIs F.slot_dict_iter.lookup ?_)
 refine wpAny_bind (wpAny_pure ?_)
 refine(?_:wpAny _ _ (if(o==sysModules)=true then _ else _) _ _ _)
 rw[if_neg (by rw[hoS];decide)]
 refine wpAny_bind (wpAny_dictEntries hod hdd ?_)
 rw[if_neg (by rw[hemp];decide)]
 refine wpAny_bind (wpAny_dictEntries hoo hdo' ?_)
 refine wpAny_bind (wpAny_dictEpoch hoo hdo' ?_)
 refine List.range_eq_range'.symm▸?_
 refine wpAny_bind (wpAny_forIn_list _
  (λrest _ s'=>∃h' i,s'={s with heap:=h'}/\rest=List.range' i (eso.size - i)/\i<=eso.size/\h'.DictOf (strKind prog w) d (kvs++more.take i)/\h'.get? o=some oo/\Heap.SameBut d s.heap h')
  _ ?_ ?_ _ _ ⟨s.heap,0,rfl,rfl,dq _,by rw[List.take_zero,ck];exact hd,hoo,Heap.SameBut.refl _ _⟩)
 ·refineλx rest b s'=>x2 λh' i=>a6 λes hr hi hd' hoo' hs'=>?_
  subst es
  have hlt:i<eso.size:=ij hi λq=>by rw[q,ji]at hr;cases hr
  rw[lY hlt,jc]at hr
  refine a2 (λzr0 hrest=>?_) (List.cons.inj hr);subst zr0
  refine wpAny_bind (wpAny_dictEntries hoo' hdo' ?_)
  refine(fv hlt).symm▸?_
  have hlm:x<more.length:=hlen▸hlt
  have hkv:more[x]?=some (more[x].1,more[x].2):=ah hlm
  refine a2 (λhkey hval=>?_) (hpo.get? (e:=eso[x]) (by rw[Array.getElem?_toList];exact fv hlt) hkv)
  refine x1 (λk'=>a2 λhkey' hhash=>?_) (hko eso[x] (Array.getElem_mem hlt))
  obtain rfl:k'=more[x].1:=(strKind prog w).inj _ _ _ hkey' hkey
  have htk:more.take (x+1)=more.take x++[(more[x].1,more[x].2)]:=fe hlm
  have hnew:more[x].1 ∉ (kvs++more.take x).map (·.1):=λhm=>by
   have e:(kvs++more).map (·.1)=(kvs++more.take x).map (·.1)++more[x].1 ::(more.drop (x+1)).map (·.1):=by
    rw[<- cf (f:=λkv:Str×Value=>kv.1),<- List.map_append,<- ak hlm,dw,ef]
   rw[e,List.nodup_append]at hnd
   exact hnd.2.2 _ hm _ bk rfl
  refine(?_:wpAny _ _ (holding [eso[x].key,eso[x].val] (dictPut d eso[x].hash eso[x].key eso[x].val)>>=_) _ _ _)
  refine hhash.symm▸?_;refine hval.symm▸?_
  refine wpAny_bind (wpAny_holding (zbZ hkey hd' hnew ?_ λh'' hd'' hs''=>?_))
  ·refine bj.symm▸?_
   exact af (cc (List.length_take_le' _ _) _) hsz
  have hoo'':h''.get? o=some oo:=(hs''.2 o (Ne.symm hdo)).trans hoo'
  refine wpAny_bind (wpAny_dictEpoch hoo'' hdo' ?_)
  rw[if_neg (by simp)]
  exact wpAny_pure ⟨h'',x+1,rfl,hrest,hlt,by rw[htk,<- dw];exact hd'',hoo'',hs'.trans hs''⟩
 ·rintro b s' ⟨h',i,rfl,hr,hi,hd',hoo',hs'⟩
  have hin:i=eso.size:=fx hi (aw λq=>by
   rw[lY q,jc]at hr;cases hr)
  rw[hin,<- hlen,List.take_length]at hd'
  exact wpAny_pure (hQ h' hd' hs')
theorem vR{h h':Heap}{D:DL}(kp:∀a o,h.get? a=some o->h'.get? a=some o)(hD:DSt prog w false h₀ h d D):DSt prog w false h₀ h' d D:=
 x1 (λkvs=>a2 λh1 h2=>⟨kvs,x3 (λo es ep=>a2 λg1 g2=>⟨o,es,ep,kp _ _ g1,g2⟩) h1,h2⟩) (show∃kvs:List (Str×Value),h.DictOf (strKind prog w) d kvs/\Tell kyS zfY kvs D from hD)
theorem sK{pos:Pos}:∀{ks:List (Option Expr)}{vs:List Expr}{r D:DL}{s:Shared}{Q:PUnit->Shared->Prop},A.units<9000->DSt prog w false h₀ s.heap d D->dlE false ks vs=some r->r9 r=true->zf9 D r->D.length+r.length<=1000->
  (∀h' tk,DSt prog w false h₀ h' d (D++r)->(∀a o,a≠d->s.heap.get? a=some o->h'.get? a=some o)->Q PUnit.unit {s with heap:=h',toks:=tk})->
  wpAny (model prog w) A (forIn (pairTrees ks vs env pos) PUnit.unit λ(x:Sem Value×Sem Value) (_:PUnit)=>(do let kv <- x.1;let vv <- holding [kv] x.2;holding [kv,vv] (dictSet d kv vv);pure (ForInStep.yield PUnit.unit):Sem (ForInStep PUnit))) Q E s
 |[],vs,r,D,s,Q,_,hD,h,_,_,_,hQ=>by
  unfold dlE at h
  split at h
  ·rename_i q
   have zq:=Option.some.inj h;subst zq
   cases List.isEmpty_iff.mp q
   rw[show pairTrees [] [] env pos=[]from rfl,List.forIn_nil]
   rw[ck]at hQ
   exact wpAny_pure (hQ s.heap s.toks hD λ_ _ _ e=>e)
  ·cases h
 |k ::ks,vs,r,D,s,Q,hu,hD,h,ho,hA,hl,hQ=>by
  refine x6 (λke ve vs' x dv D'=>a6 λzr6 zr7 h3 h4 h5 zr11=>?_) (zdq h);subst zr6;subst zr7;subst zr11
  refine a3 (λo1 o2 o3=>?_) (uW ho)
  rw[jd]at hl
  rw[show pairTrees (some ke ::ks) (ve ::vs') env pos=(PySem.eval ke env,do let x <- PySem.eval ve env;standAt pos;pure x) ::pairTrees ks vs' env pos from rfl,gk]
  refine wpAny_bind (wpAny_bind (zcU (h₀:={s.heap with objs:=#[]}) h3 o2 (dq _) λh' tk kv kp hs hk=>wpAny_bind (wpAny_holding (wpAny_bind (zdo h4 o1 λv tk2 hv=>wpAny_bind (wpAny_standAt (wpAny_pure ?_)))))))
  refine wpAny_bind (wpAny_holding (zgR (s:={s with heap:=h',toks:=tk2}) hu (vR kp hD) hk hv hA.1 (af (am _ _) hl) λh'' tk3 g1 g2 g3=>wpAny_pure ?_))
  refine sK (s:={s with heap:=h'',toks:=tk3}) hu g1 h5 o3 hA.2 (by rw[bj];show D.length+1+_<=_;rw[bl,bn 1];exact hl) λh3 tk4 i1 i2=>?_
  rw[dw]at i1
  exact hQ h3 tk4 i1 λa o q e=>i2 a o q (g3 a o q (kp a o e))
theorem zgT(b:Bool)(h:Heap):DSt prog w b h₀ (h.push {cls:=.type "dict",data:=.dict #[]}) h.objs.size []:=by
 cases b with
 |false=>exact⟨[],.new h,rfl⟩
 |true=>exact⟨[],⟨_,#[],0,dc _ rfl,⟨rfl,rfl,rfl⟩,rfl,rfl,λx hx=>absurd hx bu,jl⟩,rfl⟩
theorem rW{h h':Heap}{o':Obj}(k:∀a o,a≠h.objs.size->(h.push o').get? a=some o->h'.get? a=some o):∀a o,h.get? a=some o->h'.get? a=some o:=λa o e=>k a o (iz (dy e)) (di _ e)
theorem zee{ks:List (Option Expr)}{vs:List Expr}{r:DL}{pos:Pos}{Q:Addr->Shared->Prop}(hu:A.units<9000)(h:dlE false ks vs=some r)(ho:r9 r=true)(hl:r.length<=1000)(hp:¬(pairTrees ks vs env pos).length<=15)
  (hQ:∀h' tk,DSt prog w false h₀ h' s.heap.objs.size r->(∀a o,s.heap.get? a=some o->h'.get? a=some o)->Q s.heap.objs.size {s with heap:=h',toks:=tk}):wpAny (model prog w) A (subDict (pairTrees ks vs env pos)) Q E s:=by
 unfold subDict
 refine wpAny_bind (wpAny_alloc (wpAny_bind (wpAny_holding ?_)))
 rw[if_neg hp]
 refine wpAny_bind (wpAny_rule (wpAny_bind ?_))
 exact sK (h₀:=h₀) (D:=[]) (s:={s with heap:=s.heap.push {cls:=.type "dict",data:=.dict #[]}}) hu (zgT false s.heap) h ho (rC ho λ_ _=>rfl) (by rw[List.length_nil,eg];exact hl) λh' tk g1 g2=>wpAny_pure (wpAny_pure (hQ h' tk g1 (rW g2)))
theorem rM{b:Bool}{ks:List (Option Expr)}{vs:List Expr}{r:DL}{pos:Pos}{Q:Addr->Shared->Prop}(hu:A.units<9000)(h:dlE b ks vs=some r)(ho:r9 r=true)(hl:r.length<=1000)(hp:(pairTrees ks vs env pos).length<=15)(h0:h₀.objs.size<=s.heap.objs.size)
  (hQ:∀h' tk,DSt prog w b h₀ h' s.heap.objs.size r->(∀a o,s.heap.get? a=some o->h'.get? a=some o)->Q s.heap.objs.size {s with heap:=h',toks:=tk}):wpAny (model prog w) A (subDict (pairTrees ks vs env pos)) Q E s:=by
 refine wpAny_subDict_any hp (zdp (h₀:=h₀) h ho (by rw[jk];exact cq h0) λh1 tk ws kp hw=>?_)
 have hD:DSt prog w b h₀ h1 s.heap.objs.size []:=by
  have:=zgT (prog:=prog) (w:=w) (h₀:=h₀) b s.heap
  cases b with
  |false=>exact vR kp this
  |true=>exact⟨[],⟨_,#[],0,kp _ _ (dc _ rfl),⟨rfl,rfl,rfl⟩,rfl,rfl,λx hx=>absurd hx bu,jl⟩,rfl⟩
 refine zgU (s:={s with heap:=h1,toks:=tk}) (D:=[]) hu hD hw (rC ho λ_ _=>rfl) (by rw[List.length_nil,eg];exact hl) λh' tk2 g1 _ g3=>hQ h' tk2 g1 (rW λa o q e=>g3 a o q (kp a o e))
/-! the display of more than fifteen -/
theorem nA(f:(Option (Sem Value)×Sem Value)->(Option Addr×List (Sem Value×Sem Value))->Sem (ForInStep (Option Addr×List (Sem Value×Sem Value))))
  (hf:∀(p:Sem Value×Sem Value) (m:Option Addr) (run:List (Sem Value×Sem Value)),run.length+1<17->f (some p.1,p.2) (m,run)=pure (.yield (m,run++[p]))) (tl:List (Sem Value×Sem Value)) (m:Option Addr):
  ∀(items run:List (Sem Value×Sem Value)),run.length+items.length<17->forIn ((items++tl).map λp=>(some p.1,p.2)) (m,run) f=forIn (tl.map λp=>(some p.1,p.2)) (m,run++items) f
 |[]=>λrun _=>by rw[ck];rfl
 |p ::rest=>λrun h=>by
  rw[List.cons_append,cf,gk,hf p m run (ai (cc (df (dq rest.length)) run.length) h),pure_bind]
  have:=nA f hf tl m rest (run++[p]) (by rw[bj];exact ai (dz (dm run.length 1 rest.length)) h)
  rw[dw]at this
  exact this
theorem zgz{α:Type}{run:List α}{p:α}{n:Nat}(h:run.length+1≠n):¬((run++[p]).length==n)=true:=λq=>h (by have:=eq_of_beq q;rwa [bj]at this)
theorem zdr{i1 l2:List (Sem Value×Sem Value)}{p:Sem Value×Sem Value}{Q:Value->Shared->Prop}(h1:i1.length=16)(h2:l2.length<17)(hn:l2.isEmpty=false)
  (h:wpAny (model prog w) A (subDict (i1++[p])) (λd s1=>wpAny (model prog w) A (subDict l2) (λo s2=>∀E,wpAny (model prog w) A (mergeMapping d (.ref o) false) (λ_ s3=>Q (.ref d) s3) E s2) E s1) E s):
  wpAny (model prog w) A (dictDisplay ((i1++(p ::l2)).map λp=>(some p.1,p.2))) Q E s:=by
 refine wpAny_bind ?_
 have hl:((i1++[(p.1,p.2)]).length==17)=true:=by rw[bj,h1];rfl
 rw[nA _ (λp m run h=>if_neg (zgz (p:=(p.1,p.2)) (iz h))) (p ::l2) none i1 [] (by rw[h1];decide),ik,cf,gk]
 dsimp only
 rw[if_pos hl]
 refine wpAny_bind (wpAny_bind ?_)
 rw[if_neg (by cases i1<;>exact Bool.false_ne_true)]
 refine wpAny_bind (wpAny_mono h (λd s1 h=>wpAny_pure (wpAny_pure ?_)) λ_ _ e=>e)
 dsimp only
 rw[<- ck l2,nA _ (λp m run h=>if_neg (zgz (p:=(p.1,p.2)) (iz h))) [] (some d) l2 [] (by rw[List.length_nil,eg];exact h2),ik,jh,List.forIn_nil]
 refine wpAny_pure ?_
 rw[if_neg (by rw[hn];decide)]
 refine wpAny_bind (wpAny_bind (wpAny_holding (wpAny_mono h (λo s2 h=>?_) λ_ _ e=>e)))
 exact wpAny_bind (wpAny_onRaise (wpAny_holding (wpAny_mono (h _) (λ_ s3 hq=>wpAny_pure (wpAny_pure hq)) λ_ _ e=>e)))
theorem xI{pos:Pos}:∀(k1:List (Option Expr)) (v1:List Expr) (k2:List (Option Expr)) (v2:List Expr),k1.all (·.isSome)=true->k1.length=v1.length->pairTrees (k1++k2) (v1++v2) env pos=pairTrees k1 v1 env pos++pairTrees k2 v2 env pos
 |[],[]=>λ_ _ _ _=>rfl
 |some k ::k1,v ::v1=>λk2 v2 h hl=>congrArg (List.cons (PySem.eval k env,(do let x <- PySem.eval v env;standAt pos;pure x:Sem Value))) (xI (pos:=pos) k1 v1 k2 v2 h (Nat.succ.inj hl))
 |[],_ ::_=>λ_ _ _ hl=>by(exfalso;cases hl)
 |none ::_,_ ::_=>λ_ _ h _=>by(exfalso;cases h)
 |_ ::_,[]=>λ_ _ _ hl=>by(exfalso;cases hl)
noncomputable def zhL(G:GM)(h h':Heap):GM:=λa=>if(h.get? a).isSome=true then G a else h'.get? a
theorem u1{G:GM}{h h':Heap}{a:Nat}(e:h.get? a=none):zhL G h h' a=h'.get? a:=if_neg (by rw[e];decide)
theorem zgB{G:GM}{s:Shared}{h':Heap}(hi:InH G s.heap)(kp:∀a o,s.heap.get? a=some o->h'.get? a=some o)(tk:Nat):GS G s (zhL G s.heap h') {s with heap:=h',toks:=tk} where
 ext:=λa o e=>by
  unfold zhL
  rw[if_pos (by rw[hi.at_ a o e];rfl)];exact e
 inh:=⟨λa o e=>by
  unfold zhL at e
  split at e
  ·exact kp a o (hi.at_ a o e)
  ·exact e,λP p=>by
  unfold zhL
  rw[if_pos (by obtain⟨o,ps,e,_⟩:=hi.tab P p;rw[e];rfl)];exact hi.px P p,hi.tab.keeps λ_ _ _ e=>kp _ _ e⟩
 new:=λa o e=>by
  unfold zhL at e
  split at e
  ·exact .inl e
  ·rename_i q
   refine .inr ?_
   cases hg:s.heap.get? a with
   |none=>rfl
   |some o=>rw[hg]at q;exact absurd rfl q
 keep:=λa o _ e=>kp a o e
 os:=rfl
 gens:=λe=>e
theorem zc0{prog':Program}{w':World}{ks:List Str}{vs:List Value}(h:ItemsAre (strKind prog w) ks vs):ItemsAre (strKind prog' w') ks vs:=by
 induction h with
 |nil=>exact .nil
 |cons h t ih=>exact .cons h ih
theorem zfg{prog':Program}{w':World}(e:w'.params=w.params)(ks:List Str):tupleKeyHash (strKind prog' w') ks=tupleKeyHash (strKind prog w) ks:=by
 have:(strKind prog' w').hash=(strKind prog w).hash:=by
  show PyData.keyHash w'.params=PyData.keyHash w.params
  rw[e]
 unfold tupleKeyHash
 rw[this]
theorem zeb{K α:Type}{ky:K->List (List Nat)}{V:α->DV->Prop}(xs:List (K×α)):∀D,Tell ky V xs D->∀x∈xs,∃dv,V x.2 dv:=by
 induction xs with
 |nil=>exactλ_ _ x hx=>absurd hx bu
 |cons e r ih=>exactλD t x hx=>x2 (λdv D'=>a3 λ_ h1 h2=>(bb.mp hx).elim (λe=>e▸⟨dv,h1⟩) (ih D' h2 x)) t
theorem zgS{b:Bool}{G:GM}{h h':Heap}{D:DL}(hD:DSt prog w b h h' d D)(hn:h.get? d=none)(hm:d≠sysModules):VRel w.params (zhL G h h') (.ref d) (.dict b D):=by
 refine⟨d,rfl,hm,?_⟩
 unfold DSt at hD
 cases b with
 |true=>
  refine x1 (λxs=>a2 λh1 h2=>?_) hD
  intro prog' w' hp h2' hk
  have fresh:∀x∈xs,h.get? x.2.1=none:=λx hx=>(zeb xs D h2 x hx).elim λdv h=>h.1
  refine⟨xs,x3 (λo es ep=>a6 λg1 g2 g3 g4 g5 g6=>⟨o,es,ep,hk d o (by rw[u1 hn];exact g1),g2,g3,?_,λx hx=>?_,g6⟩) h1,λx y=>?_⟩
  ·rw[g4]
   exact ic λx _=>by
    refine(?_:DictEntry.mk (tupleKeyHash (strKind prog w) x.1) _ _=DictEntry.mk (tupleKeyHash (strKind prog' w') x.1) _ _)
    rw[zfg hp]
  ·exact x3 (λo it n=>a4 λi1 i2 i3 i4=>⟨o,it,n,hk _ o (by rw[u1 (fresh x hx)];exact i1),i2,i3,zc0 i4⟩) (g5 x hx)
  ·exact gK id (λdv=>e1 λp=>a2 λe1 e2=>⟨e1,e2.2⟩) (h2.look vH [zja x,zja y])
 |false=>
  refine x1 (λkvs=>a2 λh1 h2=>?_) hD
  refine x3 (λo es ep=>a5 λg1 g2 g3 g4 g5=>⟨es,ep,?_,g4,λk=>?_⟩) h1.mapOf
  ·rw[u1 hn,g1]
   obtain⟨c1,c2,c3⟩:=g2
   cases o
   cases c1;cases c2;cases c3;cases g3
   rfl
  ·rw[show findBy Value.isStrOf es ⟨k.toArray⟩=valueAt kvs (zja k)from g5 _]
   exact h2.look vJ (zja k)
theorem zaB{b:Bool}{G:GM}{ks:List (Option Expr)}{vs:List Expr}{D:DL}{pos:Pos}(hu:A.units<9000)(hi:InH G s.heap)(hm:sysModules<s.heap.objs.size)(h:dlE b ks vs=some D)(ho:r9 D=true)(hl:D.length<=1000)(hall:ks.all (·.isSome)=true)(hv:ks.length=vs.length)(hk:ks.length<=15)(hne:ks.isEmpty=false):
  GW (model prog w) A w.params E G s (PySem.eval (.Dict ks vs pos) env) λr=>r=.dict b D:=by
 have hn:=pairTrees_length ks vs env pos hall hv
 have h0:pairTrees ks vs env pos≠[]:=λe=>by
  rw[e]at hn
  rw[gf.mp hn.symm]at hne;cases hne
 rw[arm_eval_Dict,zip_pairTrees ks vs env pos hall hv,dictDisplay_pairs _ h0 (by rw[hn];omega)]
 exact wpAny_bind (wpAny_standAt (wpAny_bind (rM (h₀:=s.heap) hu h ho hl (by rw[hn];exact hk) (bh _) λh' tk hD kp=>wpAny_pure ⟨_,_,rfl,zgB hi kp tk,zgS hD (kP (bh _)) (ix hm)⟩)))
theorem Tell.cat{K α:Type}{ky:K->List (List Nat)}{V:α->DV->Prop}{ys:List (K×α)}{D2:DL}(h2:Tell ky V ys D2):∀{xs:List (K×α)}{D:DL},Tell ky V xs D->Tell ky V (xs++ys) (D++D2)
 |[]=>λt=>by subst t;exact h2
 |_ ::_=>λt=>x2 (λdv D'=>a3 λe h t'=>by subst e;exact ex2 dv _ ⟨rfl,h,Tell.cat h2 t'⟩) t
theorem oD{V:Value->DV->Prop}:∀{xs:List (Str×Value)}{D:DL},Tell kyS V xs D->r9 D=true->(xs.map (·.1)).Nodup
 |[]=>λ_ _=>jl
 |e ::r=>λt ho=>by
  refine x2 (λdv D'=>a3 λq h t'=>?_) t
  subst q
  refine ez.mpr ⟨λhm=>?_,oD t' (uW ho).2.2⟩
  have hno:=(ag.mp (ag.mp (ag.mp ho).2).2).1
  have hf:=zca (mY (t'.look vJ e.1) (gw.mp hno))
  refine x1 (λx=>a2 λhx he=>?_) (jj.mp hm)
  rw[List.any_eq_true.mpr ⟨x,hx,decide_eq_true he⟩]at hf;cases hf
theorem zdu{G:GM}{k1 k2:List (Option Expr)}{v1 v2:List Expr}{D1 D2:DL}{pos:Pos}(hu:A.units<9000)(hi:InH G s.heap)(hm:sysModules<s.heap.objs.size)(h1:dlE false k1 v1=some D1)(h2:dlE false k2 v2=some D2)(o1:r9 D1=true)(o2:r9 D2=true)(ho:r9 (D1++D2)=true)(hl:D1.length+D2.length<=1000)
  (ha1:k1.all (·.isSome)=true) (ha2:k2.all (·.isSome)=true) (hv1:k1.length=v1.length) (hv2:k2.length=v2.length) (hk1:k1.length=17) (hk2:k2.length<=15) (hne:k2.isEmpty=false) (hne1:D1.isEmpty=false):
  GW (model prog w) A w.params E G s (PySem.eval (.Dict (k1++k2) (v1++v2) pos) env) λr=>r=.dict false (D1++D2):=by
 have n1:=pairTrees_length k1 v1 env pos ha1 hv1
 have n2:=pairTrees_length k2 v2 env pos ha2 hv2
 have hz:=zip_pairTrees (k1++k2) (v1++v2) env pos (by(refine List.all_append.symm▸?_;refine ha1.symm▸?_;refine ha2.symm▸?_);rfl) (by(refine bj.symm▸?_;refine bj.symm▸?_;refine hv1.symm▸?_;exact hv2.symm▸rfl))
 have hne2:(pairTrees k2 v2 env pos).isEmpty=false:=by
  cases e:pairTrees k2 v2 env pos with
  |nil=>
   rw[e]at n2
   rw[gf.mp n2.symm]at hne;cases hne
  |cons=>rfl
 have hq1:pairTrees k1 v1 env pos≠[]:=λe=>by rw[e,hk1]at n1;cases n1
 have hsp:=List.dropLast_concat_getLast hq1
 have hlen:(pairTrees k1 v1 env pos).dropLast.length=16:=by(refine List.length_dropLast.symm▸?_;refine n1.symm▸?_;exact hk1.symm▸rfl)
 have s1:∀{Q:Addr->Shared->Prop},(∀h' tk,DSt prog w false s.heap h' s.heap.objs.size D1->(∀a o,s.heap.get? a=some o->h'.get? a=some o)->Q s.heap.objs.size {s with heap:=h',toks:=tk})->wpAny (model prog w) A (subDict (pairTrees k1 v1 env pos)) Q E s:=λhQ=>zee hu h1 o1 (af (am _ _) hl) (by(refine n1.symm▸?_;refine hk1.symm▸?_);decide) hQ
 rw[arm_eval_Dict,hz,xI k1 v1 k2 v2 ha1 hv1]
 generalize pairTrees k1 v1 env pos=l1 at hq1 hsp hlen s1
 rw[<- hsp,dw]
 refine wpAny_bind (wpAny_standAt (zdr (l2:=pairTrees k2 v2 env pos) hlen (by refine n2.symm▸?_;exact ai hk2 (by decide)) hne2 ?_))
 refine hsp.symm▸?_
 refine s1 λh' tk g1 kp1=>?_
 have hdl:s.heap.objs.size<h'.objs.size:=by
  obtain⟨kvs,⟨o,es,ep,e,_⟩,_⟩:=g1
  exact dy e
 refine rM (s:={s with heap:=h',toks:=tk}) (h₀:=s.heap) hu h2 o2 (af (ed _ _) hl) (by refine n2.symm▸?_;exact hk2) (aq hdl) λh'' tk2 g2 kp2 E'=>?_
 refine x1 (λkvs=>a2 λi1 i2=>?_) (vR kp2 g1)
 refine x1 (λmore=>a2 λi3 i4=>?_) g2
 have it:=Tell.cat i4 i2
 refine u8 (s:={s with heap:=h'',toks:=tk2}) (iz hdl) (beq_eq_false_iff_ne.mpr (ix (ar hm hdl))) i1 i3 (λe=>?_) (oD it ho) (by(refine i2.len.symm▸?_;refine i4.len.symm▸?_);exact hl) λh3 j1 j2=>?_
 ·subst e
  subst i2
  cases hne1
 ·refine ex2 _ _ ⟨rfl,zgB (h':=h3) hi (λa o e=>?_) tk2,zgS (prog:=prog) (b:=false) ⟨_,j1,it⟩ (kP (bh _)) (ix hm)⟩
  have hne:a≠s.heap.objs.size:=iz (dy e)
  exact(j2.2 a hne).trans (kp2 a o (kp1 a o e))
end
noncomputable def hX(v:PV):Fn:=λps K=>ps=[]/\K v
theorem eC(v:PV):aW (hX v):=λps K K' h=>a2 λh1 h2=>⟨h1,h _ h2⟩
theorem o4{prog:Program}{w:World}{B:Bs}{n a:Nat}{fd:FuncData}{ks:List (Option Expr)}{vs:List Expr}{pos p:Pos}{b:Bool}{D:DL}(hB:BsOk B)(hF:FunAt B.K a fd [.Return (some (.Dict ks vs pos)) p])
  (hg:∀(A:Around) (E:Value->Shared->Prop) (G:GM) (s:Shared) (env:Env),A.units<9000->InH G s.heap->sysModules<s.heap.objs.size->GW (model prog w) A w.params E G s (PySem.eval (.Dict ks vs pos) env) λr=>r=.dict b D)
  (hbind:∀(s:Shared) (vals:List Value),B.K.In s.heap->vals.length=0->BindsTo s fd ⟨vals,[]⟩ (([]:List Str).zip (vals++[]))):Meets prog w B (n+1) (.ref a) (hX (.dict b D)):=by
 refine⟨fR hB hF,λA E G s args ps K hA hi tk ho hv=>a2 λe hK=>?_⟩
 subst e
 refine kE (n:=n) (tk0:=True) (k:=0) (dv:=[]) (dp:=[]) (params:=[]) (W:=λQ J=>Q (.ret (.dict b D)) J) hB hF (λA E env G J sh Q hA hE hκ hcd O t hQ=>?_)
  (λy hy=>absurd hy bu) rfl (λ_=>.nil) hbind A E G s args [] K hA hi (λ_=>tk) ho hv ⟨rfl,.dict b D,rfl,hK⟩
 have O:=O sh.toks (t trivial)
 have hm:sysModules<sh.heap.objs.size:=by
  refine x3 (λo' es' ep'=>a2 λq _=>?_) hB.g
  exact ar (by decide) (dy (O.rep.inh.at_ _ _ (O.over _ _ q)))
 refine wpAny_execs_cons (wpAny_Return_some (aJ (cK (cw:=true) (Q:=λr st'=>Q (.ret r) st') O ((hg A E G sh env (ai (af (am _ _) hA.units) (by decide)) O.rep.inh hm).mono λr e=>e▸hQ)) λu G1 st1 s1=>x1 λr=>a2 λhq hr O1 T1=>?_))
 exact(aL (X:=FX w.params Q) (a:=Flow.ret u) O1 ⟨r,hq,hr⟩).after T1
theorem jV{prog:Program}{w:World}{B:Bs}{n a:Nat}{fd:FuncData}{ks:List (Option Expr)}{vs:List Expr}{pos p:Pos}{b:Bool}{D:DL}(hB:BsOk B)(hF:FunAt B.K a fd [.Return (some (.Dict ks vs pos)) p])(h:dlE b ks vs=some D)(ho:r9 D=true)(hk:(decide (D.length<=1000)&&(ks.all (·.isSome)&&(ks.length==vs.length&&(decide (ks.length<=15)&&!ks.isEmpty))))=true)
  (hbind:∀(s:Shared) (vals:List Value),B.K.In s.heap->vals.length=0->BindsTo s fd ⟨vals,[]⟩ (([]:List Str).zip (vals++[]))):Meets prog w B (n+1) (.ref a) (hX (.dict b D)):=by
 refine a2 (λk1 hk=>?_) (ag.mp hk)
 refine a2 (λk2 hk=>?_) (ag.mp hk)
 refine a2 (λk3 hk=>?_) (ag.mp hk)
 refine a2 (λk4 k5=>?_) (ag.mp hk)
 exact o4 hB hF (λA E G s env hu hi hm=>zaB hu hi hm h ho (of_decide_eq_true k1) k2 (eq_of_beq k3) (of_decide_eq_true k4) (by cases e:ks.isEmpty with |false=>rfl|true=>replace k5:=e▸k5;cases k5)) hbind
theorem zam{prog:Program}{w:World}{B:Bs}{n a:Nat}{fd:FuncData}{ks:List (Option Expr)}{vs:List Expr}{pos p:Pos}{D:DL}(hB:BsOk B)(hF:FunAt B.K a fd [.Return (some (.Dict ks vs pos)) p])(h1:dlE false (ks.take 17) (vs.take 17)=some (D.take 17))(h2:dlE false (ks.drop 17) (vs.drop 17)=some (D.drop 17))(o1:r9 (D.take 17)=true)(o2:r9 (D.drop 17)=true)(ho:r9 D=true)
  (hk:(decide (D.length<=1000)&&((ks.take 17).all (·.isSome)&&((ks.drop 17).all (·.isSome)&&((ks.take 17).length==(vs.take 17).length&&((ks.drop 17).length==(vs.drop 17).length&&((ks.take 17).length==17&&(decide ((ks.drop 17).length<=15)&&(!(ks.drop 17).isEmpty&&!(D.take 17).isEmpty))))))))=true)
  (hbind:∀(s:Shared) (vals:List Value),B.K.In s.heap->vals.length=0->BindsTo s fd ⟨vals,[]⟩ (([]:List Str).zip (vals++[]))):Meets prog w B (n+1) (.ref a) (hX (.dict false D)):=by
 refine a2 (λk1 hk=>?_) (ag.mp hk)
 refine a2 (λk2 hk=>?_) (ag.mp hk)
 refine a2 (λk3 hk=>?_) (ag.mp hk)
 refine a2 (λk4 hk=>?_) (ag.mp hk)
 refine a2 (λk5 hk=>?_) (ag.mp hk)
 refine a2 (λk6 hk=>?_) (ag.mp hk)
 refine a2 (λk7 hk=>?_) (ag.mp hk)
 refine a2 (λk8 k9=>?_) (ag.mp hk)
 refine o4 hB hF (λA E G s env hu hi hm=>?_) hbind
 have:=zdu (prog:=prog) (w:=w) (A:=A) (E:=E) (env:=env) (pos:=pos) hu hi hm h1 h2 o1 o2 (by rw[ef];exact ho) (by rw[<- bj,ef];exact of_decide_eq_true k1) k2 k3 (eq_of_beq k4) (eq_of_beq k5) (eq_of_beq k6) (of_decide_eq_true k7)
  (by cases e:(ks.drop 17).isEmpty with |false=>rfl|true=>replace k8:=e▸k8;cases k8) (by cases e:(D.take 17).isEmpty with |false=>rfl|true=>replace k9:=e▸k9;cases k9)
 rw[ef,ef,ef]at this
 exact this
end Mine
end
section
open PySem PySem.W PyProof.Rows
set_option Elab.async false
set_option maxRecDepth 100000
set_option maxHeartbeats 4000000
set_option linter.unusedSimpArgs false
set_option linter.unusedVariables false
namespace Mine
noncomputable def HMb(mb:Str->Option Value):Prop:=∀x:Str,x≠ae "__name__" ->mb x=bootBuiltins x
variable {prog:Program}{w:World}{h:Heap}{mb:Str->Option Value}
noncomputable def HK(p:Params):Frag:=MH.HK p
noncomputable def parZ:Params:={strHash:=λ_=>0,shareClass:=λ_=>0,mergeTok:=λt=>t,idOf:=λ_=>0,idOfShared:=λ_ _=>0,followText:=λ_=>false,idOfImm:=λ_=>0}
noncomputable def H0:Frag:=HK parZ
noncomputable def zkS(o:Obj):List (Str×NameKind)×List Stmt:=match o with
 |⟨_,_,.func fd,_⟩=>(fd.scope.names,match fd.body with
  |.stmts b=>b
  |_=>[])
 |_=>([],[])
theorem vE:∀(K:Frag) (a:Addr),(aK K a,aV K a)=(((K.map λr=>(r.1,zkS r.2)).lookup a).getD ([],[]))
 |[],a=>rfl
 |(b,o) ::r,a=>by
  have ih:=vE r a
  unfold aK aV sY at ih ⊢
  rw[cf,cy,cy]
  cases a==b
  ·exact ih
  ·obtain⟨c,d,da,e⟩:=o
   cases da<;>rfl
theorem zk2(P:Params):((HK P).map λr=>(r.1,zkS r.2))=H0.map λr=>(r.1,zkS r.2):=by kernel_rfl
theorem at0(P:Params)(a:Addr):aK (HK P) a=aK H0 a/\aV (HK P) a=aV H0 a:=
 Prod.mk.inj ((vE _ a).trans ((congrArg (λl=>(l.lookup a).getD ([],[])) (zk2 P)).trans (vE _ a).symm))
noncomputable def alphaL:List Nat:=[1,9,10,32,33,34,35,36,37,39,40,41,42,43,45,46,47,48,49,50,51,53,55,58,59,60,61,62,63,64,66,69,70,76,82,85,91,93,94,95,97,98,101,102,108,114,117,120,123,124,125,126,127,233,65533,119987]
noncomputable def eM(c:Nat):Bool:=alphaL.contains c
noncomputable abbrev Al(x:List Nat):Prop:=∀c∈x,eM c=true
theorem kJ{P:Nat->Bool}(h:alphaL.all P=true){c:Nat}(hc:eM c=true):P c=true:=ay.mp h c (by simpa[eM]using hc)
theorem cF{f g:Nat->Bool}(h:(alphaL.all λc=>f c==g c)=true){c:Nat}(hc:eM c=true):f c=g c:=beq_iff_eq.mp (kJ (P:=λc=>f c==g c) h hc)
theorem Al.get{x:List Nat}(h:Al x){i:Nat}(hi:i<x.length):eM x[i]=true:=h _ (List.getElem_mem hi)
theorem Al.drop{x:List Nat}(h:Al x)(n:Nat):Al (x.drop n):=λc hc=>h c (fz hc)
theorem Al.at{x:List Nat}(h:Al x){i c:Nat}(hi:x[i]?=some c):eM c=true:=h c (fi hi)
noncomputable def tab{α:Type}:List (String×α)->Str->Option α
 |[],_=>none
 |(a,x) ::r,s=>if s=ae a then some x else tab r s
theorem zed{α:Type}(a:String)(x:α)(r:List (String×α))(b:String):tab ((a,x) ::r) (ae b)=if b=a then some x else tab r (ae b):=by
 show(if ae b=ae a then some x else tab r (ae b))=_
 simp only[sEq]
theorem hY{α:Type}:∀{l:List (String×α)}{s:Str}{x:α},tab l s=some x->∃a,s=ae a/\(a,x)∈l
 |[],s,x,h=>by cases h
 |(a,y) ::r,s,x,h=>by
  unfold tab at h
  split at h
  ·rename_i e;(have zq:=Option.some.inj h;subst zq);exact⟨a,e,by simp⟩
  ·obtain⟨b,h1,h2⟩:=hY h;exact⟨b,h1,bc _ h2⟩
noncomputable def slotsOf:List (Nat×List String):=[
 (74,["source_column","source_line"]),(104,["kind","message","source_column","source_line"]),(134,["value","source_column","source_line"]),
 (163,["value","source_column","source_line"]),(206,["value","source_column","source_line"]),(235,["lower_value","value","source_column","source_line"]),
 (265,["lower_value","value","source_column","source_line"]),(295,["is_identifier","value","source_column","source_line"]),
 (325,["representation","value","source_column","source_line"]),(355,["representation","value","source_column","source_line"]),(385,["end","start","source_column","source_line"]),
 (415,["int_value","is_integer","representation","value","source_column","source_line"]),(447,["int_value","is_integer","representation","value","source_column","source_line"]),
 (479,["int_value","is_integer","lower_unit","representation","unit","value","source_column","source_line"]),(513,["content","source_column","source_line"]),
 (542,["content","source_column","source_line"]),(571,["content","source_column","source_line"]),(600,["arguments","lower_name","name","source_column","source_line"])]
noncomputable def typesOf:List (Nat×String):=[(104,"error"),(134,"comment"),(163,"whitespace"),(206,"literal"),(235,"ident"),(265,"at-keyword"),(295,"hash"),(325,"string"),(355,"url"),(385,"unicode-range"),
 (415,"number"),(447,"percentage"),(479,"dimension"),(513,"() block"),(542,"[] block"),(571,"{} block"),(600,"function")]
noncomputable def zio(l:List String):List (String×Nat):=l.zipIdx
noncomputable def sgP(s:String):PV:=.str (ae s).cps.toList
noncomputable def nH:PV:=.tup (["0","1","2","3","4","5","6","7","8","9"].map sgP)
noncomputable def nK:List (String×Unit):=["len","ord","int","min","range"].map λs=>(s,())
noncomputable def mkC(fns clss:List (String×Fn))(ini:Bool)(vals:List (String×PV))(ls:List Nat):Ctx where
 val:=tab vals
 fn:=tab fns
 bi:=λs=>(tab nK s).isSome
 slot:=λc s=>(slotsOf.lookup c).bind λl=>tab (zio l) s
 cval:=λc s=>if s=ae "type"then(typesOf.lookup c).map sgP else none
 mutL:=λn=>ls.contains n
 cls:=tab clss
 ini:=ini
theorem bN{fns clss:List (String×Fn)}{ini:Bool}{vals:List (String×PV)}{ls:List Nat}(h1:∀e∈fns,aW e.2)(h2:∀e∈clss,aW e.2):CtxMono (mkC fns clss ini vals ls):=
 ⟨λx F h=>by obtain⟨a,_,h⟩:=hY h;exact h1 _ h,λx F h=>by obtain⟨a,_,h⟩:=hY h;exact h2 _ h⟩
structure World0 (prog:Program) (w:World) (B:Bs):Prop where
 ok:BsOk B
 k:B.K=HK w.params
 mg:∀x,B.mg x=(match(HK w.params).lookup 3 with
  |some ⟨_,_,.dict es _,_⟩=>nsFind es x
  |_=>none)
 mb:∀x:Str,x≠ae "__name__" ->B.mb x=bootBuiltins x
noncomputable def uO(K:Frag)(c:Nat)(name:Str)(i:Nat):Bool:=
 findIn K (.ref c) "__getattribute__"==some (some (.builtin "object.__getattribute__"))&&findIn K (.ref c) "__getattr__"==some none&&findIn K (.ref c) "__setattr__"==some (some (.builtin "object.__setattr__"))&&plainOver K c&&decide (i<1000)&&
 match findObj K c (some jP) name with
  |some (.bind (.builtin g) (.ref p))=>g=="member_descriptor.__get__"&&slotIn K p c==some i&&takerIn K c name==some (some (.ref p))&&typeIn K (.ref p)==some (.type "member_descriptor")
  |_=>false
theorem zew{K:Frag}{c:Nat}{name:Str}{i:Nat}(h:uO K c name i=true):zg9 K c name i:=by
 unfold uO at h
 simp only[dj,beq_iff_eq,decide_eq_true_eq]at h
 obtain⟨⟨⟨⟨⟨h1,h2⟩,h3⟩,h4⟩,h5⟩,h6⟩:=h
 split at h6
 ·rename_i g p e
  simp only[dj,beq_iff_eq]at h6
  obtain⟨⟨⟨rfl,h7⟩,h8⟩,h9⟩:=h6
  exact⟨h1,h2,p,e,h7,h3,h4,h8,h9,h5⟩
 ·cases h6
noncomputable def zdx(K:Frag)(c:Nat)(x:String):Bool:=
 findIn K (.ref c) "__getattribute__"==some (some (.builtin "object.__getattribute__"))&&match findObj K c (some jP) (ae "type")with
  |some (.value (.str s _))=>s==ae x
  |_=>false
set_option maxRecDepth 1000000 in
theorem zbK(p:Params):(slotsOf.all λe=>(zio e.2).all λf=>uO (HK p) e.1 (ae f.1) f.2)=true:=by kernel_rfl
theorem zdw(p:Params):(typesOf.all λe=>zdx (HK p) e.1 e.2)=true:=by kernel_rfl
noncomputable def mgK(p:Params):Str->Option Value:=λx=>match(HK p).lookup 3 with
 |some ⟨_,_,.dict es _,_⟩=>nsFind es x
 |_=>none
noncomputable def w7(K:Frag)(a:Addr):Bool:=match K.lookup a with
 |some ⟨_,_,.dict es _,_⟩=>es.toList.all λe=>match e.key with
  |.str _ _=>true
  |_=>false
 |_=>false
theorem zkR{K:Frag}{h:Heap}{a:Addr}(X:K.In h)(e:w7 K a=true):h.Ns a (λx=>match K.lookup a with
  |some ⟨_,_,.dict es _,_⟩=>nsFind es x
  |_=>none):=by
 unfold w7 at e
 split at e
 ·rename_i c d es n sl ho
  refine ex3 _ es n ⟨X _ _ ho,rfl,λen hen=>?_,λname=>rfl⟩
  have:=ay.mp e en (Array.mem_toList_iff.mpr hen)
  split at this
  ·rename_i x t q;exact ex2 x t q
  ·exfalso;cases this
 ·exfalso;cases e
noncomputable def bs(p:Params)(h:Heap)(mb:Str->Option Value):Bs:=⟨HK p,h,mgK p,mb⟩
theorem zfP{p:Params}{h:Heap}{mb:Str->Option Value}(X:(HK p).In h)(hb:h.Ns builtinsNs mb)(hl:h.NoLimit):BsOk (bs p h mb):=
 ⟨X,zkR X ∅,hb,hl⟩
noncomputable def x8(K:Frag)(a:Addr):Bool:=match sY K a with
 |some fd=>(match fd.body with
  |.stmts _=>true
  |_=>false)&&fd.closure.isEmpty&&(fd.globals==mainGlobals)&&(fd.builtins==builtinsNs)&&codeIn K fd.code fd.qualname&&!fd.scope.isCoroutine&&!fd.scope.isGenerator&&(fd.scope.kind==.function)&&fd.scope.names.all (λn=>!(n.2==.free))
 |none=>false
theorem g9{K:Frag}{a:Addr}(h:x8 K a=true):∃fd,FunAt K a fd (aV K a)/\sY K a=some fd/\fd.scope.names=aK K a:=by
 unfold x8 at h
 split at h
 ·rename_i fd e
  simp only[dj,beq_iff_eq,jm]at h
  obtain⟨⟨⟨⟨⟨⟨⟨⟨h1,h2⟩,h3⟩,h4⟩,h5⟩,h6⟩,h7⟩,h8⟩,h9⟩:=h
  refine⟨fd,⟨?_,?_,by simpa using h2,h3,h4,h5,h6,h7,h8,h9⟩,e,by unfold aK;rw[e]⟩
  ·unfold sY at e
   split at e
   ·rename_i c d fd' sl q;(have zq:=Option.some.inj e;subst zq);exact ex3 c d sl q
   ·exfalso;cases e
  ·unfold aV
   rw[e]
   dsimp only
   split at h1
   ·rename_i b q;rw[q]
   ·exfalso;cases h1
 ·exfalso;cases h
theorem ziy:∀e∈nK,bootBuiltins (ae e.1)=some (iO (ae e.1))/\ae e.1≠ae "__name__" :=by
 intro e he
 simp only[nK,cf,jh,bb,bu,or_false]at he
 rcases he with rfl|rfl|rfl|rfl|rfl<;>exact⟨by kernel_rfl,by rw[Ne,sEq];decide⟩
theorem c7{n:Nat}{fns clss:List (String×Fn)}{ini:Bool}{vals:List (String×PV)}{ls:List Nat}(hmb:HMb mb)
  (m1:∀e∈fns,aW e.2) (m2:∀e∈clss,aW e.2)
  (hv:∀e∈vals,∃u,mgK w.params (ae e.1)=some u/\VRel w.params (λa=>h.get? a) u e.2)
  (h1:∀e∈fns,∃u,mgK w.params (ae e.1)=some u/\Meets prog w (bs w.params h mb) n u e.2)
  (h2:∀e∈clss,∃u,mgK w.params (ae e.1)=some u/\Meets prog w (bs w.params h mb) n u e.2)
  (hi:ini=true->y4 prog w (bs w.params h mb) (mkC fns clss ini vals ls) n):CtxOk prog w (bs w.params h mb) (mkC fns clss ini vals ls) n where
 mono:=bN m1 m2
 val:=λx v e=>by obtain⟨a,rfl,q⟩:=hY e;exact hv _ q
 fn:=λx v e=>by obtain⟨a,rfl,q⟩:=hY e;exact h1 _ q
 cls:=λx v e=>by obtain⟨a,rfl,q⟩:=hY e;exact h2 _ q
 bi:=λx e=>by
  refine x1 (λu hu=>?_) (cj.mp (show(tab nK x).isSome=true from e))
  refine x1 (λa=>a2 λzr1 q=>?_) (hY hu);subst zr1
  refine a2 (λb1 b2=>?_) (ziy _ q)
  refine⟨?_,(hmb _ b2).trans b1⟩
  show mgK w.params _=none
  simp only[nK,cf,jh,bb,bu,or_false,Prod.mk.injEq,and_true]at q
  rcases q with rfl|rfl|rfl|rfl|rfl<;>kernel_rfl
 slot:=λc x i e=>by
  have e:(slotsOf.lookup c).bind (λl=>tab (zio l) x)=some i:=e
  refine x1 (λl=>a2 λe1 e2=>?_) (cu.mp e)
  refine x1 (λa=>a2 λzr1 q=>?_) (hY e2);subst zr1
  have hm:(c,l)∈slotsOf:=by
   clear e e2 q
   revert e1
   generalize slotsOf=L
   intro e1
   induction L with
   |nil=>(exfalso;cases e1)
   |cons y r ih=>
    rw[cy]at e1
    split at e1
    ·rename_i hh;(have zq:=Option.some.inj e1;subst zq);have:=beq_iff_eq.mp hh;subst this;simp
    ·exact bc _ (ih e1)
  exact zew (ay.mp (ay.mp (zbK w.params) _ hm) _ q)
 cval:=λc x v e=>by
  have e:(if x=ae "type"then(typesOf.lookup c).map sgP else none)=some v:=e
  split at e
  ·rename_i hx;subst hx
   refine x1 (λl=>a2 λe1 zr2=>?_) (de.mp e);subst zr2
   have hm:(c,l)∈typesOf:=by
    clear e
    revert e1
    generalize typesOf=L
    intro e1
    induction L with
    |nil=>(exfalso;cases e1)
    |cons y r ih=>
     rw[cy]at e1
     split at e1
     ·rename_i hh;(have zq:=Option.some.inj e1;subst zq);have:=beq_iff_eq.mp hh;subst this;simp
     ·exact bc _ (ih e1)
   have hc:=ay.mp (zdw w.params) _ hm
   unfold zdx at hc
   simp only[dj,beq_iff_eq]at hc
   refine a2 (λc1 c2=>?_) hc
   split at c2
   ·rename_i s t q
    have:=beq_iff_eq.mp c2;subst this
    refine⟨c1,_,q,rfl,?_⟩
    simp only[sgP,VRel]
    refine⟨t,by simp,?_⟩
    have:(typesOf.all λe=>(ae e.2).cps.toList.all (· <1114112)&&decide ((ae e.2).cps.toList.length<=1000))=true:=by decide+kernel
    have:=ay.mp this _ hm
    simp only[dj,ay,decide_eq_true_eq]at this
    exact⟨this.1,by unfold bU;omega⟩
   ·exfalso;cases c2
  ·exfalso;cases e
 ini:=hi
theorem aU{n k:Nat}{C:Ctx}{a:Addr}{params:List String}{dv:List Value}{dp:List PV}{F:Fn}(hB:BsOk (bs w.params h mb))(hC:CtxOk prog w (bs w.params h mb) C n)
  (hf:x8 (HK w.params) a=true) (hok:r8 (aV H0 a)=true)
  (hpar:(params.all λx=>(aK H0 a).lookup (ae x)==some .local||(aK H0 a).lookup (ae x)==some .cell)=true)
  (hlen:params.length=k+dp.length) (hd:∀G,VRels w.params G dv dp)
  (hbind:∀S vals,vals.length=k->(sY (HK w.params) a).map (λfd=>peek (HK w.params) S (bindArgs fd ⟨vals,[]⟩))=some (some ((params.map ae).zip (vals++dv))))
  (hF:∀ps K,F ps K->ps.length=k/\wSs C (cV (aK H0 a)) (aV H0 a) (gQ K) ⟨bB ((params.map ae).zip (ps++dp)) λ_=>none,λ_=>none⟩):
  Meets prog w (bs w.params h mb) (n+1) (.ref a) F:=by
 refine x1 (λfd=>a3 λh1 h2 h3=>?_) (g9 hf)
 rw[(at0 _ _).1]at h3
 rw[(at0 _ _).2]at h1
 refine(zc9 (C:=C) (params:=params.map ae) (k:=k) (dv:=dv) (dp:=dp) hB hC h1 hok (λx hx=>?_) (by simpa using hlen) hd (λs vals X hl=>?_)).weaken λps K hp=>?_
 ·refine x1 (λy=>a2 λhy zr2=>?_) (jj.mp hx);subst zr2
  have:=ay.mp hpar y hy
  refine h3.symm▸?_
  simpa using this
 ·refine kp_binds X λS=>?_
  have:=hbind S vals hl
  rw[h2]at this
  refine(?_:peek (HK w.params) S _=_)
  simpa using this
 ·refine h3.symm▸?_;exact hF ps K hp
theorem iK{α:Type}{n:Nat}:∀{l:List α},l.length=n+1->∃a r,l=a ::r/\r.length=n
 |a ::r,h=>⟨a,r,rfl,Nat.succ.inj h⟩
theorem iF{α:Type}{l:List α}(h:l.length=1):∃a,l=[a]:=io.mp h
theorem fL{α:Type}{l:List α}(h:l.length=2):∃a b,l=[a,b]:=by obtain⟨a,r,e,h⟩:=iK h;obtain⟨b,q⟩:=iF h;exact ex2 a b (by rw[e,q])
theorem eF{α:Type}{l:List α}(h:l.length=3):∃a b c,l=[a,b,c]:=by obtain⟨a,r,e,h⟩:=iK h;obtain⟨b,c,q⟩:=fL h;exact ex3 a b c (by rw[e,q])
theorem zfj{α:Type}{l:List α}(h:l.length=4):∃a b c d,l=[a,b,c,d]:=by obtain⟨a,r,e,h⟩:=iK h;obtain⟨b,c,d,q⟩:=eF h;exact ex4 a b c d (by rw[e,q])
theorem zh8{α:Type}{l:List α}(h:l.length=5):∃a b c d e,l=[a,b,c,d,e]:=by obtain⟨a,r,e,h⟩:=iK h;obtain⟨b,c,d,f,q⟩:=zfj h;exact ex5 a b c d f (by rw[e,q])
theorem six{α:Type}{l:List α}(h:l.length=6):∃a b c d e f,l=[a,b,c,d,e,f]:=by obtain⟨a,r,e,h⟩:=iK h;obtain⟨b,c,d,f,g,q⟩:=zh8 h;exact ex6 a b c d f g (by rw[e,q])
theorem zkL{α:Type}{l:List α}(h:l.length=7):∃a b c d e f g,l=[a,b,c,d,e,f,g]:=by obtain⟨a,r,e,h⟩:=iK h;obtain⟨b,c,d,f,g,i,q⟩:=six h;exact ex7 a b c d f g i (by rw[e,q])
section
variable {C:Ctx}{H:Kn}
theorem kG{e e':Expr}{es:List Expr}{p:Pos}{J:St}{c d:Bool}(M:CtxMono C)(h:ev C H e J (.bool c))(h':c=false->ev C H (.BoolOp .Or (e' ::es) p) J (.bool d)):ev C H (.BoolOp .Or (e ::e' ::es) p) J (.bool (c||d)):=by
 refine bA (e:=e) M h ?_
 cases c with
 |true=>exact⟨rfl,rfl⟩
 |false=>exact h' rfl
theorem gN{e e':Expr}{es:List Expr}{p:Pos}{J:St}{c d:Bool}(M:CtxMono C)(h:ev C H e J (.bool c))(h':c=true->ev C H (.BoolOp .And (e' ::es) p) J (.bool d)):ev C H (.BoolOp .And (e ::e' ::es) p) J (.bool (c&&d)):=by
 refine bA (e:=e) M h ?_
 cases c with
 |false=>exact⟨rfl,rfl⟩
 |true=>exact h' rfl
noncomputable def evs(C:Ctx)(H:Kn)(es:List Expr)(J:St)(vs:List PV):Prop:=wEs C es H (λrs st1=>rs=vs/\st1=J) J
theorem aG{J:St}:evs C H [] J []:=⟨rfl,rfl⟩
theorem aC{e:Expr}{es:List Expr}{J:St}{v:PV}{vs:List PV}(M:CtxMono C)(h:ev C H e J v)(hs:evs C H es J vs):evs C H (e ::es) J (v ::vs):=
 bA (e:=e) M h (dB M es (λrs st1=>a2 λh1 h2=>⟨congrArg _ h1,h2⟩) hs)
theorem bH{es:List Expr}{k:Nat}{p:Pos}{J:St}{vs:List PV}(M:CtxMono C)(h:evs C H es J vs):ev C H (.Tuple es k p) J (.tup vs):=
 dB M es (λrs st1=>a2 λh1 h2=>⟨congrArg _ h1,h2⟩) h
theorem bW{t b o:Expr}{p:Pos}{J:St}{c:Bool}{v:PV}(M:CtxMono C)(h:tv C H t J c)(hb:c=true->ev C H b J v)(ho:c=false->ev C H o J v):ev C H (.IfExp t b o p) J v:=by
 refine wW (e:=t) (K:=λc st1=>if c=true then wE C b H (λr st1=>r=v/\st1=J) st1 else wE C o H (λr st1=>r=v/\st1=J) st1) M h ?_
 cases c
 ·exact ho rfl
 ·exact hb rfl
theorem eL{op:BoolOp}{e:Expr}{p:Pos}{J:St}{v:PV}(h:ev C H e J v):ev C H (.BoolOp op [e] p) J v:=h
theorem aS{e:Expr}{J:St}{c:Bool}(M:CtxMono C)(h:ev C H e J (.bool c)):tv C H e J c:=zhg M h rfl
theorem yD{e:Expr}{p:Pos}{J:St}{c:Bool}(M:CtxMono C)(h:ev C H e J (.bool c)):ev C H (.UnaryOp .Not e p) J (.bool !c):=bA (e:=e) M h ⟨rfl,rfl⟩
theorem nD{e:Expr}{p:Pos}{J:St}{i:Int}(M:CtxMono C)(h:ev C H e J (.int i)):ev C H (.UnaryOp .USub e p) J (.int (-i)):=bA (e:=e) M h ⟨rfl,rfl⟩
theorem aE{x:Str}{p:Pos}{J:St}{v:PV}(k:H x=some .local)(h:J.ρ x=some v):ev C H (.Name x p) J v:=by
 show(if H x=some .globalImplicit then opt (C.val x) _ else opt (J.ρ x) _)
 rw[k,kQ,h];exact⟨rfl,rfl⟩
theorem aD{x:Str}{p:Pos}{J:St}{v:PV}(k:H x=some .local:=by kernel_rfl!)(h:J.ρ x=some v:=by kernel_rfl!):ev C H (.Name x p) J v:=aE k h
theorem qO{x:Str}{p:Pos}{J:St}{v:PV}(k:H x=some .globalImplicit)(h:C.val x=some v):ev C H (.Name x p) J v:=by
 show(if H x=some .globalImplicit then opt (C.val x) _ else opt (J.ρ x) _)
 rw[k,zjH,h];exact⟨rfl,rfl⟩
theorem aP{l r:Expr}{p:Pos}{J:St}{i j:Int}(M:CtxMono C)(h:ev C H l J (.int i))(h':ev C H r J (.int j)):ev C H (.BinOp l .Add r p) J (.int (i+j)):=
 bA (e:=l) M h (bA (e:=r) M h' ⟨rfl,rfl⟩)
theorem sZ{o l u:Expr}{p q:Pos}{J:St}{x:List Nat}{i j:Int}(M:CtxMono C)(h:ev C H o J (.str x))(hl:ev C H l J (.int i))(hu:ev C H u J (.int j))(b:-4611686018427387904<i/\i<4611686018427387904/\-4611686018427387904<j/\j<4611686018427387904):
  ev C H (.Subscript o (.Slice (some l) (some u) none q) p) J (.str (slc x (some i) (some j))):=
 bA (e:=o) M h ⟨rfl,bA (e:=l) M hl ⟨b.1,b.2.1,bA (e:=u) M hu ⟨b.2.2.1,b.2.2.2,rfl,rfl⟩⟩⟩
theorem wZ{l r:Expr}{op:CmpOp}{p:Pos}{J:St}{a b:PV}{d:Bool}(M:CtxMono C)(h:ev C H l J a)(h':ev C H r J b)(k:zaX J.σ op a b λc=>true=true/\c=d/\J=J):tv C H (.Compare l [op] [r] p) J d:=
 bA (e:=l) M h (bA (e:=r) M h' k)
theorem aR{x:Str}{es:List Expr}{vs:List PV}{v:PV}{F:Fn}{p q:Pos}{J:St}(M:CtxMono C)(k:H x=some .globalImplicit)(hf:C.fn x=some F)(hs:evs C H es J vs)(h:F (vs.map (der J.σ)) λr=>(vs.any sP=false\/jU r=true)/\r=v):ev C H (.Call (.Name x q) es [] p) J v:=by
 refine⟨rfl,k,by unfold nX;refine hf.symm▸?_;rfl,dB M es (λrs st1=>a2 λh1 h2=>?_) hs⟩
 subst h1 h2
 unfold iM
 refine hf.symm▸?_
 exact M.1 x F hf _ _ _ (λr=>a2 λa b=>⟨a,b,rfl⟩) h
theorem oY{o i:Expr}{p:Pos}{J:St}{a b v:PV}(M:CtxMono C)(hs:xW i=false)(h:ev C H o J a)(h':ev C H i J b)(k:zh3 (der J.σ a) b λr=>r=v):ev C H (.Subscript o i p) J v:=by
 refine bA (e:=o) M h ?_
 show(if xW i=true then _ else wE C i H _ J)
 rw[hs,zc1]
 exact bA (e:=i) M h' (sQ (λr e=>⟨e,rfl⟩) k)
theorem yB{l r:Expr}{p:Pos}{J:St}{i j:Int}(M:CtxMono C)(h:ev C H l J (.int i))(h':ev C H r J (.int j)):ev C H (.BinOp l .Sub r p) J (.int (i - j)):=
 bA (e:=l) M h (bA (e:=r) M h' ⟨rfl,rfl⟩)
theorem kX{x:Str}{es:List Expr}{vs:List PV}{v:PV}{p q:Pos}{J:St}(M:CtxMono C)(k:H x=some .globalImplicit)(hf:C.fn x=none)(hc:C.cls x=none)(hb:C.bi x=true)(hs:evs C H es J vs)(h:biP x (vs.map (der J.σ)) λr=>r=v):ev C H (.Call (.Name x q) es [] p) J v:=by
 refine⟨rfl,k,by unfold nX;(refine hf.symm▸?_;refine hc.symm▸?_;refine hb.symm▸?_);rfl,dB M es (λrs st1=>a2 λh1 h2=>?_) hs⟩
 subst h1 h2
 unfold iM
 refine hf.symm▸?_;refine hc.symm▸?_
 exact⟨hb,yZ (λr e=>⟨e,rfl⟩) h⟩
theorem zif{es:List Expr}{vs:List PV}{p:Pos}{J:St}(M:CtxMono C)(hm:C.mutL p.line=false)(hs:evs C H es J vs):ev C H (.List es p) J (.list vs):=
 dB M es (λrs st1=>a2 λh1 h2=>by
  subst h1 h2
  unfold eI
  rw[hm,zc1]
  exact⟨rfl,rfl⟩) hs
theorem zjU{l r:Expr}{p:Pos}{J:St}{i j:Int}(M:CtxMono C)(h:ev C H l J (.int i))(h':ev C H r J (.int j))(hj:0<j):ev C H (.BinOp l .Mod r p) J (.int (i%j)):=
 bA (e:=l) M h (bA (e:=r) M h' ⟨hj,rfl,rfl⟩)
theorem bL{l r:Expr}{op:CmpOp}{p:Pos}{J:St}{a b:PV}{d:Bool}(M:CtxMono C)(h1:ev C H l J a)(h2:ev C H r J b)(h3:zaX J.σ op a b λc=>c=d):ev C H (.Compare l [op] [r] p) J (.bool d):=
 bA (e:=l) M h1 (bA (e:=r) M h2 (nJ (λc h=>⟨rfl,congrArg PV.bool h,rfl⟩) h3))
theorem fC{l r:Expr}{p:Pos}{J:St}{a b:Nat}(M:CtxMono C)(h:ev C H l J (.int a))(h':ev C H r J (.int b)):ev C H (.Compare l [.Lt] [r] p) J (.bool (decide (a<b))):=bL M h h' (decide_eq_decide.mpr fy)
theorem eZ{l:Expr}{q:String}{k:Nat}{p p':Pos}{J:St}{x:List Nat}(M:CtxMono C)(h:ev C H l J (.str x)):ev C H (.Compare l [.Eq] [.Constant (.str (ae q)) k p] p') J (.bool (decide (x=(ae q).cps.toList))):=bL M h (aB rfl) rfl
theorem yF{l:Expr}{q:String}{k:Nat}{p p':Pos}{J:St}{x:List Nat}(M:CtxMono C)(h:ev C H l J (.str x)):ev C H (.Compare l [.NotEq] [.Constant (.str (ae q)) k p] p') J (.bool (!decide (x=(ae q).cps.toList))):=bL M h (aB rfl) rfl
theorem cS{l:Expr}{q:Str}{k:Nat}{p p':Pos}{J:St}{c d:Nat}(M:CtxMono C)(h:ev C H l J (.str [c]))(hq:q.cps.toList=[d]):ev C H (.Compare l [.Eq] [.Constant (.str q) k p] p') J (.bool (decide (c=d))):=
 bL (b:=.str [d]) M h (aB (by rw[iJ,hq])) (decide_eq_decide.mpr ⟨λh=>(List.cons.inj h).1,λh=>congrArg (λn=>[n]) h⟩)
theorem dE{l:Expr}{q:Str}{k:Nat}{p p':Pos}{J:St}{c:Nat}(M:CtxMono C)(h:ev C H l J (.str [c])):ev C H (.Compare l [.In] [.Constant (.str q) k p] p') J (.bool (decide (c∈q.cps.toList))):=bL M h (aB rfl) (mA _ _)
theorem yI{e:Expr}{k:Nat}{p p' p2 p3:Pos}{J:St}{c n:Nat}(M:CtxMono C)(k1:H "ord"=some .globalImplicit)(hf:C.fn "ord"=none)(hc:C.cls "ord"=none)(hb:C.bi "ord"=true)(h:ev C H e J (.str [c])):ev C H (.Compare (.Call (.Name (ae "ord") p) [e] [] p2) [.Gt] [.Constant (.int n) k p3] p') J (.bool (decide (n<c))):=
 bL (a:=.int c) (b:=.int n) M (kX M k1 hf hc hb (aC M h aG) (of_eq (B:=PV.int c=.int c) ∅ rfl)) (aB rfl) (decide_eq_decide.mpr fy)
theorem bR{o i:Expr}{p:Pos}{J:St}{x:List Nat}{n c:Nat}(M:CtxMono C)(hs:xW i=false)(h:ev C H o J (.str x))(h':ev C H i J (.int n))(hc:x[n]?=some c):ev C H (.Subscript o i p) J (.str [c]):=
 oY M hs h h' (by show opt (sU x (n:Int)) _;rw[zfh,hc];rfl)
theorem zjB(n:Nat):(-4611686018427387904:Int)<n:=Int.lt_of_lt_of_le (by decide) (cg n)
theorem zaV{n:Nat}(h:n<2000000):(n:Int)<4611686018427387904:=Int.lt_trans (fy.mpr h) (by decide)
theorem gW{o l u:Expr}{p q:Pos}{J:St}{x:List Nat}{i j:Nat}(M:CtxMono C)(h:ev C H o J (.str x))(hl:ev C H l J (.int i))(hu:ev C H u J (.int j))(hij:i<=j)(hj:j<2000000):ev C H (.Subscript o (.Slice (some l) (some u) none q) p) J (.str ((x.drop i).take (j - i))):=
 zbL x i j hij▸sZ M h hl hu ⟨zjB i,zaV (ai hij hj),zjB j,zaV hj⟩
theorem zck{σ:Nat->Option Cell}{x y:List Nat}{i:Int}{K:PV->(Nat->Option Cell)->Prop}:jG σ "startswith" (.str x) [.str y,.int i] K=okI i (K (.bool (decide (i<=x.length)&&y.isPrefixOf (x.drop i.toNat))) σ):=by kernel_rfl
theorem zez{x:List Nat}{i:Nat}(h:i<=x.length):slc x (some (i:Int)) none=x.drop i:=by
 show(x.drop (if(i:Int)<0 then((i:Int)+x.length).toNat else min i x.length)).take (x.length - (if(i:Int)<0 then((i:Int)+x.length).toNat else min i x.length))=_
 rw[if_neg (fk.mpr (cg i)),ce h,gi (dz bv)]
theorem zii{o l:Expr}{p q:Pos}{J:St}{x:List Nat}{i:Nat}(M:CtxMono C)(h:ev C H o J (.str x))(hl:ev C H l J (.int i))(hi:i<=x.length)(hx:x.length<2000000):ev C H (.Subscript o (.Slice (some l) none none q) p) J (.str (x.drop i)):=
 zez hi▸bA (e:=o) M h ⟨rfl,bA (e:=l) M hl ⟨zjB i,zaV (ai hi hx),rfl,rfl⟩⟩
theorem zZ{σ:Nat->Option Cell}{x y:List Nat}{i:Int}{K:PV->(Nat->Option Cell)->Prop}:jG σ "find" (.str x) [.str y,.int i] K=okI i (K (.int (sX x y i.toNat)) σ):=by kernel_rfl
theorem dA{x:Str}{es:List Expr}{vs:List PV}{v:PV}{F:Fn}{p q:Pos}{J:St}(M:CtxMono C)(k:H x=some .globalImplicit)(hf:C.fn x=none)(hc:C.cls x=some F)(hs:evs C H es J vs)(h:F vs λr=>r=v):ev C H (.Call (.Name x q) es [] p) J v:=by
 refine⟨rfl,k,by unfold nX;(refine hf.symm▸?_;refine hc.symm▸?_);rfl,dB M es (λrs st1=>a2 λh1 h2=>?_) hs⟩
 subst h1 h2
 unfold iM
 refine hf.symm▸?_;refine hc.symm▸?_
 exact M.2 x F hc _ _ _ (λr e=>⟨e,rfl⟩) h
theorem cQ{x:Str}{p q p2:Pos}{J:St}{y:List Nat}(M:CtxMono C)(k:H "len"=some .globalImplicit)(hf:C.fn "len"=none)(hc:C.cls "len"=none)(hb:C.bi "len"=true)(h:ev C H (.Name x p) J (.str y)):ev C H (.Call (.Name (ae "len") q) [.Name x p] [] p2) J (.int y.length):=
 kX M k hf hc hb (aC M h aG) (of_eq (B:=PV.int y.length=.int y.length) ∅ rfl)
theorem nE{o:Expr}{es:List Expr}{vs:List PV}{n:Str}{p p2:Pos}{J:St}{x:List Nat}{v:PV}(M:CtxMono C)(h:ev C H o J (.str x))(hs:evs C H es J vs)(hr:dM es=none)(hm:mOk J.σ n (.str x)=true)(hv:jG J.σ n (.str x) vs λr σ'=>r=v/\σ'=J.σ):
  ev C H (.Call (.Attribute o n p) es [] p2) J v:=by
 rw[ev,kM,hr,iE]
 exact⟨rfl,bA (e:=o) M h ⟨hm,dB M es (λrs st1=>a2 λh1 h2=>by subst h1 h2;exact oQ (λr σ'=>a2 λe1 e2=>⟨e1,congrArg (St.mk _) e2⟩) hv) hs⟩⟩
theorem kF{o i:Expr}{q:Str}{k:Nat}{p p1 p2:Pos}{J:St}{x:List Nat}{e:Nat}(M:CtxMono C)(h:ev C H o J (.str x))(hi:ev C H i J (.int e))(he:e<=x.length)(hx:x.length<2000000)(hc:csE i=none):
  ev C H (.Call (.Attribute o (ae "startswith") p) [.Constant (.str q) k p1,i] [] p2) J (.bool (q.cps.toList.isPrefixOf (x.drop e))):=by
 refine nE M h (aC M (aB rfl) (aC M hi aG)) ?_ ∅ ?_
 ·refine(?_:((some q).bind λp=>(csE i).map λq=>(p,q))=none)
  rw[hc];rfl
 ·rw[zck]
  refine⟨cg e,zaV (ai he hx),?_,rfl⟩
  rw[decide_eq_true (ga.mpr he),eo];rfl
end
mutual
noncomputable def ziO:PV->Bool
 |.none=>true
 |.bool _=>true
 |.int _=>true
 |.str _=>true
 |.tup xs=>zaz xs
 |.list xs=>zaz xs
 |.inst _ xs=>zaz xs
 |.rng _ _=>true
 |.ptr _=>false
 |.dict _ _=>true
noncomputable def zaz:List PV->Bool
 |[]=>true
 |x ::xs=>ziO x&&zaz xs
end
mutual
theorem aQ(σ:Nat->Option Cell):∀v:PV,ziO v=true->Res σ v v
 |.none,_=>rfl
 |.bool _,_=>rfl
 |.int _,_=>rfl
 |.str _,_=>rfl
 |.tup xs,h=>⟨xs,rfl,gJ σ xs h⟩
 |.list xs,h=>.inl ⟨xs,rfl,gJ σ xs h⟩
 |.inst _ xs,h=>⟨xs,rfl,gJ σ xs h⟩
 |.rng _ _,_=>rfl
 |.ptr _,h=>fo h
 |.dict _ _,_=>rfl
theorem gJ(σ:Nat->Option Cell):∀vs:List PV,zaz vs=true->nM σ vs vs
 |[],_=>rfl
 |v ::vs,h=>⟨v,vs,rfl,aQ σ v (ag.mp h).1,gJ σ vs (ag.mp h).2⟩
end
theorem b6(σ:Nat->Option Cell)(b:Bool):Res σ (.bool b) (.bool b):=rfl
noncomputable def a1(c:Nat):Bool:=(97<=c&&c<=122)||(65<=c&&c<=90)||c==95||127<c
theorem mU{c:Nat}(h:eM c=true):(decide (c∈(ae "abcdefghijklmnopqrstuvwxyzABCDEFGHIJKLMNOPQRSTUVWXYZ_").cps.toList)||decide (127<c))=a1 c:=
 cF (f:=λc=>decide (c∈(ae "abcdefghijklmnopqrstuvwxyzABCDEFGHIJKLMNOPQRSTUVWXYZ_").cps.toList)||decide (127<c)) (by decide+kernel) h
noncomputable def zkB:Fn:=λps K=>∃(U:List Nat) (pos c:Nat),ps=[.str U,.int pos]/\U[pos]?=some c/\eM c=true/\K (.bool (a1 c))
theorem tZ:aW zkB:=λ_ _ _ h=>e3 λ_ _ _=>c3 (h _)
theorem zhJ(U:List Nat)(pos c:Nat)(K:PV->Prop)(hc:U[pos]?=some c)(ha:eM c=true)(hK:K (.bool (a1 c))):
  wSs (mkC [] [] false [] []) (cV (aK H0 635)) (aV H0 635) (gQ K) ⟨bB [("css",.str U),("pos",.int pos)] (λ_=>none),λ_=>none⟩:=by
 have M:CtxMono (mkC [] [] false [] []):=bN (by simp) (by simp)
 (apply nfe;case h=>(show ?ya1=?yb1;refine(?_:∀_:(?ya1=?yb1),(?ya1=?yb1)) ?_;rotate_left;(conv=>lhs;whnf;dsimp only[lU,erS,erE,fF,erO]);exactλ_=>by kernel_rfl!))
 refine aA (aH M (.str [c]) (bR M rfl aD aD hc) ∅ ?_)
 rw[<- mU ha]at hK
 exact aA (aM M (.bool _) (kG M (dE M aD) λ_=>eL (yI M ⋯ rfl rfl ∅ aD)) ⟨_,b6 _ _,hK⟩)
theorem ze4(hB:BsOk (bs w.params h mb))(hmb:HMb mb):Meets prog w (bs w.params h mb) 1 (.ref 635) zkB:=by
 have hC:CtxOk prog w (bs w.params h mb) (mkC [] [] false [] []) 0:=c7 hmb (by simp) (by simp) (by simp) (by simp) (by simp) (by simp)
 refine aU (k:=2) (params:=["css","pos"]) (dv:=[]) (dp:=[]) hB hC ∅ ∅ ∅ rfl (λ_=>.nil) (λS vals hl=>?_) λps K=>x3 λU pos c=>a4 λh1 h2 h3 h4=>?_
 ·refine x2 (λa b zr2=>?_) (fL hl);subst zr2
  kernel_rfl
 ·subst h1
  exact⟨rfl,zhJ U pos c K h2 h3 h4⟩
theorem uF(ρ:fD)(x:Str)(a b:PV):upd (upd ρ x a) x b=upd ρ x b:=by
 funext y;unfold upd;by_cases h:y=x<;>simp[h]
theorem zd5{ρ:fD}{x:Str}{a:PV}(h:ρ x=some a):upd ρ x a=ρ:=by
 funext y;unfold upd
 by_cases e:y=x
 ·subst e;rw[if_pos rfl,h]
 ·rw[if_neg e]
theorem za6(ρ:fD)(x:Str)(a:PV):upd ρ x a x=some a:=by unfold upd;rw[if_pos rfl]
theorem zi2(ρ:fD){x y:Str}(h:y≠x)(a:PV):upd ρ x a y=ρ y:=by unfold upd;rw[if_neg h]
noncomputable def b7(c:Nat):Bool:=48<=c&&c<=57
noncomputable def b9(x:List Nat):Nat:=(x.takeWhile b7).length
theorem zfT{x:List Nat}{i:Nat}(h:i<x.length):(x.drop i).take 1=[x[i]]:=by rw[ak h];rfl
theorem ziC{x:List Nat}{i:Nat}(h:x.length<=i):(x.drop i).take 1=[]:=by rw[az h];rfl
theorem nG:fN (["0","1","2","3","4","5","6","7","8","9"].map sgP)=some [[48],[49],[50],[51],[52],[53],[54],[55],[56],[57]]:=by decide+kernel
noncomputable def d8(x:List Nat)(i:Nat):Bool:=(x[i]?).any b7
theorem y1(x:List Nat)(i:Nat):at1 x i=(x[i]?).toList:=by
 by_cases h:i<x.length
 ·rw[at1,zfT h,ah h];rfl
 ·rw[at1,ziC (aw h),bt (aw h)];rfl
theorem zgV{x:List Nat}(ha:Al x)(i:Nat):decide (at1 x i∈([[48],[49],[50],[51],[52],[53],[54],[55],[56],[57]]:List (List Nat)))=d8 x i:=by
 rw[y1,d8]
 cases h:x[i]? with
 |none=>rfl
 |some c=>exact cF (g:=b7) (f:=λc=>decide ([c]∈([[48],[49],[50],[51],[52],[53],[54],[55],[56],[57]]:List (List Nat)))) (by decide+kernel) (ha.at h)
theorem tH{x:List Nat}{i:Nat}(h:d8 x i=true):i<x.length/\b9 (x.drop i)=b9 (x.drop (i+1))+1:=by
 by_cases hl:i<x.length
 ·rw[d8,ah hl]at h
  refine⟨hl,?_⟩
  rw[ak hl,b9,List.takeWhile_cons_of_pos (p:=b7) h];rfl
 ·rw[d8,bt (aw hl)]at h;(exfalso;cases h)
theorem zdt{x:List Nat}{i:Nat}(h:d8 x i=false):b9 (x.drop i)=0:=by
 by_cases hl:i<x.length
 ·rw[d8,ah hl]at h
  rw[ak hl,b9,List.takeWhile_cons_of_neg (λq=>by(replace h:=Option.any_some▸h;replace h:=q▸h);cases h)];rfl
 ·rw[az (aw hl)];rfl
section
variable {C:Ctx}{H:Kn}
theorem sl1(x:List Nat)(i:Nat):slc x (some (i:Int)) (some ((i:Int)+1))=at1 x i:=by
 rw[show(i:Int)+1=((i+1:Nat):Int)from rfl,zbL _ _ _ (ff i),Nat.succ_sub (bh i),ji];rfl
theorem xB{i:Nat}(h:i<1000000):-4611686018427387904<(i:Int)/\(i:Int)<4611686018427387904/\-4611686018427387904<(i:Int)+1/\(i:Int)+1<4611686018427387904:=
 ⟨zjB i,zaV (ar h (by decide)),zjB (i+1),zaV (n:=i+1) (ai h (by decide))⟩
theorem wY{a i d:Str}{p1 p2 p3 p4 p5 p6 p7 p8 p9:Pos}{k:Nat}{J:St}{x:List Nat}{e:Nat}(M:CtxMono C)(hD:C.val d=some nH)(k1:H d=some .globalImplicit)(k2:H a=some .local)(k3:H i=some .local)
  (h1:J.ρ a=some (.str x)) (h2:J.ρ i=some (.int e)) (hx:x.length<1000000) (ha:Al x) (he:e<=x.length):
  tv C H (.Compare (.Subscript (.Name a p1) (.Slice (some (.Name i p2)) (some (.BinOp (.Name i p3) .Add (.Constant (.int 1) k p4) p5)) none p6) p7) [.In] [.Name d p8] p9) J (d8 x e):=by
 refine wZ M (sZ M (aE k2 h1) (aE k3 h2) (aP M (aE k3 h2) (aB rfl)) (xB (ai he hx))) (qO k1 hD) ⟨_,nG,rfl,?_,rfl⟩
 rw[sl1]
 exact zgV ha e
theorem pI{a i d:Str}{p1 p2 p3 p4 p5 p6 p7 p8 p9 q1 q2 q3 q4:Pos}{k k':Nat}{J:St}{x:List Nat}{e:Nat}{Q:Fl->St->Prop}(M:CtxMono C)(hD:C.val d=some nH)(k1:H d=some .globalImplicit)(k2:H a=some .local)(k3:H i=some .local)(hai:a≠i)
  (h1:J.ρ a=some (.str x)) (h2:J.ρ i=some (.int e)) (hx:x.length<1000000) (ha:Al x) (he:e<=x.length)
  (hQ:Q .next ⟨upd J.ρ i (.int ((e+b9 (x.drop e):Nat))),J.σ⟩):
  wS C H (.While (.Compare (.Subscript (.Name a p1) (.Slice (some (.Name i p2)) (some (.BinOp (.Name i p3) .Add (.Constant (.int 1) k p4) p5)) none p6) p7) [.In] [.Name d p8] p9)
   [.AugAssign (.Name i q1) .Add (.Constant (.int 1) k' q2) q3] [] q4) Q J:=by
 refine eG M (λn s=>∃f:Nat,s=⟨upd J.ρ i (.int f),J.σ⟩/\f<=x.length/\n=x.length - f/\f+b9 (x.drop f)=e+b9 (x.drop e)) ?_ (x.length - e) J ⟨e,by rw[zd5 h2],he,rfl,rfl⟩
 rintro n s ⟨f,rfl,hf,rfl,hs⟩
 have g1:(upd J.ρ i (.int f)) a=some (.str x):=by rw[zi2 _ hai];exact h1
 refine⟨d8 x f,wY M hD k1 k2 k3 g1 (za6 _ _ _) hx ha hf,λhc=>?_,λhc=>?_⟩
 ·obtain⟨hl,hd⟩:=tH hc
  refine aA (b8 M (.int f) (.int 1) (za6 _ _ _) (aB rfl) (by unfold cY;rw[k3];decide) (of_eq bM ?_))
  exact⟨x.length - (f+1),dd hl (av f),f+1,congrArg (St.mk · J.σ) (uF _ _ _ _),hl,rfl,by rw[<- hs,hd,dm];rfl⟩
 ·rw[zdt hc]at hs
  rw[<- hs]at hQ
  exact hQ
end
noncomputable def bX(x:List Nat):Nat:=if x[0]?=some 45\/x[0]?=some 43 then 1 else 0
noncomputable def kU(x:List Nat):Option Nat:=if x[0]?=some 46/\d8 x 1=true then some (b9 (x.drop 2)+2)else none
noncomputable def j3(x:List Nat):Option Nat:=if x[0]?=some 101\/x[0]?=some 69 then(if d8 x (bX (x.drop 1)+1)=true then some (b9 (x.drop (bX (x.drop 1)+1))+(bX (x.drop 1)+1))else none)else none
noncomputable def zju(x:List Nat)(z k:Nat):Option (Nat×Bool):=
 (kU (x.drop k)).elim (if z=0 then none else some ((j3 (x.drop k)).elim (k,true) λg=>(g+k,false))) λf=>some ((j3 (x.drop (f+k))).getD 0+(f+k),false)
noncomputable def nV(x:List Nat):Option (Nat×Bool):=zju x (b9 (x.drop (bX x))) (b9 (x.drop (bX x))+bX x)
local macro_rules | `(tactic| walk_at "co")=>`(tactic| (show _=_;first | kernel_rfl! | (rw [<- Nat.add_assoc];kernel_rfl!) | (rw [<- Nat.add_assoc,<- Nat.add_assoc];kernel_rfl!)))
theorem bZ(x:List Nat)(i:Nat):(x.drop i)[0]?=x[i]?:=bw
theorem uP{x:List Nat}{i:Nat}(h:i<=x.length):i+bX (x.drop i)<=x.length:=by
 unfold bX
 split
 ·rename_i q
  rw[bZ]at q
  exact q.elim (λq=>(dg.mp q).1) λq=>(dg.mp q).1
 ·exact h
theorem tG{x:List Nat}{i:Nat}(h:i<=x.length):i+b9 (x.drop i)<=x.length:=by
 have:b9 (x.drop i)<=(x.drop i).length:=(eh _).length_le
 rw[bv]at this
 exact bp h▸cc this i
theorem zdL(x:List Nat)(i c:Nat):(at1 x i=[c])=(x[i]?=some c):=by
 rw[y1]
 exact propext (match x[i]? with
 |none=>⟨λh=>(by cases h),λh=>(by cases h)⟩
 |some d=>⟨λh=>congrArg some (List.cons.inj h).1,λh=>congrArg (Option.toList) h⟩)
theorem vY(x:List Nat)(i c d:Nat):decide (at1 x i∈([[c],[d]]:List (List Nat)))=decide (x[i]?=some c\/x[i]?=some d):=
 decide_eq_decide.mpr (by rw[bb,be,zdL,zdL])
theorem bK{x:List Nat}{i c:Nat}(h:x[i]?=some c):i<x.length:=(dg.mp h).1
theorem yP{x:List Nat}{i:Nat}(h:d8 x i=true):i<x.length:=(tH h).1
theorem iV(x:List Nat)(i:Nat):bX (x.drop i)=if x[i]?=some 45\/x[i]?=some 43 then 1 else 0:=by
 rw[bX,bZ]
theorem aZ{x:List Nat}{n m:Nat}(h:n<=x.length)(h':m<=(x.drop n).length):n+m<=x.length:=by
 rw[bv]at h'
 exact bp h▸cc h' n
noncomputable def ziP(x:List Nat)(i:Nat)(b:Bool):Nat×Bool:=if x[i]?=some 101\/x[i]?=some 69 then(if d8 x (i+1+bX (x.drop (i+1)))=true then(i+1+bX (x.drop (i+1))+b9 (x.drop (i+1+bX (x.drop (i+1)))),false)else(i,b))else(i,b)
noncomputable def zb7(x:List Nat)(i j:Nat):Option (Nat×Bool):=if x[j]?=some 46/\d8 x (j+1)=true then some (ziP x (j+2+b9 (x.drop (j+2))) false)else if j=i then none else some (ziP x j true)
noncomputable def zjv(x:List Nat)(i:Nat):Option (Nat×Bool):=zb7 x (i+bX (x.drop i)) (i+bX (x.drop i)+b9 (x.drop (i+bX (x.drop i))))
theorem o0(x:List Nat)(i j:Nat):d8 (x.drop i) j=d8 x (i+j):=by rw[d8,bw,d8]
theorem zgF(x:List Nat)(i:Nat)(b:Bool):ziP x i b=(j3 (x.drop i)).elim (i,b) λg=>(g+i,false):=by
 rw[ziP,j3,o0,bZ,dk,dk,bn (bX _) 1,<- bl]
 split
 ·split
  ·exact congrArg (·,false) (by omega)
  ·rfl
 ·rfl
theorem zdb(x:List Nat)(j:Nat):kU (x.drop j)=if x[j]?=some 46/\d8 x (j+1)=true then some (b9 (x.drop (j+2))+2)else none:=by rw[kU,o0,bZ,dk]
theorem zjt(x:List Nat)(i:Nat):zjv x i=(nV (x.drop i)).map λe=>(i+e.1,e.2):=by
 rw[zjv,zb7,nV,zju]
 generalize bX (x.drop i)=s
 refine(show(x.drop i).drop s=x.drop (i+s)from dk).symm▸?_
 generalize b9 (x.drop (i+s))=d
 have hj:i+(d+s)=i+s+d:=by rw[bn d s,bl]
 have hf:∀f,i+(f+(d+s))=f+(i+s+d):=λf=>by rw[<- hj,Nat.add_left_comm]
 simp only[dk,hj,hf,zdb]
 split
 ·rw[Option.elim_some,Option.map_some,zgF,bl,bn _ (2+_),bn 2]
  cases j3 (x.drop (b9 (x.drop (i+s+d+2))+2+(i+s+d)))with
  |none=>rw[jq,Option.getD_none,eg,hf]
  |some g=>exact congrArg (λn=>some (n,false)) (by rw[<- hf,Option.getD_some,Nat.add_left_comm])
 ·simp only[jq,Nat.add_eq_left]
  split
  ·rfl
  ·rw[Option.map_some,zgF]
   cases j3 (x.drop (i+s+d))with
   |none=>rw[jq,jq,hj]
   |some g=>exact congrArg (λn=>some (n,false)) (show _=i+(g+(d+s))by rw[<- hj,Nat.add_left_comm])
noncomputable def zdW(o:Option (Nat×Bool)):PV:=o.elim (.tup [.none,.bool false]) λe=>.tup [.int e.1,.bool e.2]
theorem zbW(σ:Nat->Option Cell)(o:Option (Nat×Bool)):Res σ (zdW o) (zdW o):=by cases o<;>exact aQ _ _ rfl
noncomputable def cN:Ctx:=mkC [] [] false [("_DIGITS",nH)] []
theorem ziv:CtxMono cN:=bN (by simp) (by simp)
theorem tL:cN.val (ae "_DIGITS")=some nH:=by simp[cN,mkC,zed]
theorem wX{C:Ctx}{H:Kn}{a i:Str}{p1 p2 p3 p4 p5 p6 p7 p9:Pos}{k:Nat}{J:St}{x:List Nat}{e:Nat}{r:Expr}{op:CmpOp}{b:PV}{d:Bool}(M:CtxMono C)(k2:H a=some .local)(k3:H i=some .local)
  (h1:J.ρ a=some (.str x)) (h2:J.ρ i=some (.int e)) (he:e<1000000) (h':ev C H r J b) (h:zaX J.σ op (.str (at1 x e)) b λc=>true=true/\c=d/\J=J):
  tv C H (.Compare (.Subscript (.Name a p1) (.Slice (some (.Name i p2)) (some (.BinOp (.Name i p3) .Add (.Constant (.int 1) k p4) p5)) none p6) p7) [op] [r] p9) J d:=
 wZ M (sZ M (aE k2 h1) (aE k3 h2) (aP M (aE k3 h2) (aB rfl)) (xB he)) h' ((sl1 x e).symm▸h)
theorem zeO(U:List Nat)(pos:Nat)(K:PV->Prop)(hx:U.length<1000000)(ha:Al U)(hp:pos<=U.length)(hK:K (zdW (zjv U pos))):
  wSs cN (cV (aK H0 613)) (aV H0 613) (gQ K) ⟨bB [("css",.str U),("pos",.int pos)] (λ_=>none),λ_=>none⟩:=by
 have M:=ziv
 have lt:∀{i},i<=U.length->i<1000000:=λh=>ai h hx
 (apply nfe;case h=>(show ?ya2=?yb2;refine(?_:∀_:(?ya2=?yb2),(?ya2=?yb2)) ?_;rotate_left;(conv=>lhs;whnf;dsimp only[lU,erS,erE,fF,erO]);exactλ_=>by kernel_rfl!))
 conv in(aK _ _)=>whnf
 refine aA (aH M (.int pos) (aE ⋯ ⋯) (by decide+kernel) ?_)
 rw[zjv]at hK
 let R1:St->Prop:=λs=>∃e0:Nat,dJ [("css",.str U),("end",.int e0)] s.ρ/\e0<=U.length/\K (zdW (zb7 U e0 (e0+b9 (U.drop e0))))
 refine c8 M R1
  (bI M (decide (U[pos]?=some 45\/U[pos]?=some 43)) (wX M ⋯ ⋯ ⋯ ⋯ (lt hp) (bH M (aC M (aB rfl) (aC M (aB rfl) aG))) ⟨[[45],[43]],by decide+kernel,rfl,vY U pos 45 43,rfl⟩) (λhc=>?_) (λhc=>?_)) ?_
 ·have hs:bX (U.drop pos)=1:=by rw[iV,if_pos (of_decide_eq_true hc)]
  have hl:=uP hp
  rw[hs]at hK hl
  exact aA (b8 M (.int pos) (.int 1) ⋯ (aB rfl) (by decide+kernel) (of_eq bM ⟨pos+1,by walk_at "co",hl,hK⟩))
 ·have hs:bX (U.drop pos)=0:=by rw[iV,if_neg (of_decide_eq_false hc)]
  replace hK:=hs▸hK
  exact⟨pos,by walk_at "co",hp,hK⟩
 refineλJ=>x1 λe0=>a3 λh1 b0 hK=>eJ h1 ?_
 refine aA (aH M (.int e0) (aE ⋯ ⋯) (by decide+kernel) ?_)
 refine aA (pI (x:=U) (e:=e0) M tL ⋯ ⋯ ⋯ (by rw[Ne,sEq];decide) ⋯ ⋯ hx ha b0 ?_)
 have b1:=tG b0
 generalize e0+b9 (U.drop e0)=e1 at hK b1
 refine aA (aH M (.bool true) (aB rfl) (by decide+kernel) ?_)
 let R2:St->Prop:=λs=>∃(e2:Nat) (pl:Bool),dJ [("css",.str U),("end",.int e2),("plain",.bool pl)] s.ρ/\e2<=U.length/\K (zdW (some (ziP U e2 pl)))
 refine c8 M R2 (bI M (decide (U[e1]?=some 46)&&d8 U (e1+1)) ?_ (λhc=>?_) (λhc=>?_)) ?_
 ·refine bS M (wX M ⋯ ⋯ ⋯ ⋯ (lt b1) (aB rfl) ⟨rfl,decide_eq_decide.mpr (iff_of_eq (zdL U e1 46)),rfl⟩) λh=>bJ ?_
  have b2:e1+1<=U.length:=bK (of_decide_eq_true h)
  refine wZ (a:=.str (slc U (some ((e1:Int)+1)) (some ((e1:Int)+2)))) M (sZ (x:=U) M (aE ⋯ ⋯) (aP (i:=e1) (j:=1) M (aE ⋯ ⋯) (aB rfl)) (aP (i:=e1) (j:=2) M (aE ⋯ ⋯) (aB rfl)) (xB (lt b2))) (qO ⋯ tL) ⟨_,nG,rfl,?_,rfl⟩
  exact(congrArg (λy=>decide (y∈_)) (sl1 U (e1+1))).trans (zgV ha (e1+1))
 ·obtain⟨c1,c2⟩:=ag.mp hc
  rw[zb7,if_pos ⟨of_decide_eq_true c1,c2⟩]at hK
  refine aA (aH M (.bool false) (aB rfl) (by decide+kernel) ?_)
  refine aA (b8 M (.int e1) (.int 2) ⋯ (aB rfl) (by decide+kernel) (of_eq bM ?_))
  exact aA (pI (x:=U) (e:=e1+2) M tL ⋯ ⋯ ⋯ (by rw[Ne,sEq];decide) ⋯ ⋯ hx ha (yP c2) ⟨_,false,by walk_at "co",tG (yP c2),hK⟩)
 ·rw[zb7,if_neg (λq=>by rw[q.2,decide_eq_true q.1]at hc;cases hc)]at hK
  refine aA (bI M (decide (e1=e0)) ?_ (λhz=>?_) (λhz=>?_))
  ·exact wZ (a:=.int e1) (b:=.int e0) M (aE ⋯ ⋯) (aE ⋯ ⋯) ⟨rfl,decide_eq_decide.mpr Int.ofNat_inj,rfl⟩
  ·replace hK:=(if_pos (of_decide_eq_true hz))▸hK
   exact aA (aM M (zdW none) (bH M (aC M (aB rfl) (aC M (aB rfl) aG))) ⟨_,zbW _ _,hK⟩)
  ·replace hK:=(if_neg (of_decide_eq_false hz))▸hK
   exact ex2 e1 true ⟨by walk_at "co",b1,hK⟩
 refineλJ=>x2 λe2 pl=>a3 λh1 b2 hK=>eJ h1 ?_
 rw[ziP]at hK
 let R3:St->Prop:=λs=>∃(e3:Nat) (pl3:Bool),dJ [("end",.int e3),("plain",.bool pl3)] s.ρ/\K (zdW (some (e3,pl3)))
 refine c8 M R3
  (bI M (decide (U[e2]?=some 101\/U[e2]?=some 69)) (wX M ⋯ ⋯ ⋯ ⋯ (lt b2) (bH M (aC M (aB rfl) (aC M (aB rfl) aG))) ⟨[[101],[69]],by decide+kernel,rfl,vY U e2 101 69,rfl⟩) (λhc=>?_) (λhc=>?_)) ?_
 ·have hc:=of_decide_eq_true hc
  replace hK:=(if_pos hc)▸hK
  have b4:e2+1<=U.length:=hc.elim bK bK
  refine aA (aH M (.int (e2+1:Nat)) (aP (i:=e2) (j:=1) M (aE ⋯ ⋯) (aB rfl)) (by decide+kernel) ?_)
  let R4:St->Prop:=λs=>∃pw:Nat,dJ [("css",.str U),("end",.int e2),("plain",.bool pl),("power",.int pw)] s.ρ/\pw<=U.length/\K (zdW (some (if d8 U pw=true then(pw+b9 (U.drop pw),false)else(e2,pl))))
  refine c8 M R4
   (bI M (decide (U[e2+1]?=some 45\/U[e2+1]?=some 43)) (wX M ⋯ ⋯ ⋯ ⋯ (lt b4) (bH M (aC M (aB rfl) (aC M (aB rfl) aG))) ⟨[[45],[43]],by decide+kernel,rfl,vY U (e2+1) 45 43,rfl⟩) (λhs=>?_) (λhs=>?_)) ?_
  ·have hs:bX (U.drop (e2+1))=1:=by rw[iV,if_pos (of_decide_eq_true hs)]
   have hl:=uP b4
   rw[hs]at hK hl
   exact aA (b8 M (.int (e2+1:Nat)) (.int 1) ⋯ (aB rfl) (by decide+kernel) (of_eq bM ⟨e2+1+1,by walk_at "co",hl,hK⟩))
  ·have hs:bX (U.drop (e2+1))=0:=by rw[iV,if_neg (of_decide_eq_false hs)]
   replace hK:=hs▸hK
   exact⟨e2+1,by walk_at "co",b4,hK⟩
  refineλJ=>x1 λpw=>a3 λh1 b5 hK=>eJ h1 ?_
  refine aA (bI M (d8 U pw) (wY M tL ⋯ ⋯ ⋯ ⋯ ⋯ hx ha b5) (λhd=>?_) (λhd=>?_))
  ·replace hK:=(if_pos hd)▸hK
   refine aA (aH M (.bool false) (aB rfl) (by decide+kernel) ?_)
   refine aA (aH M (.int pw) (aE ⋯ ⋯) (by decide+kernel) ?_)
   exact aA (pI (x:=U) (e:=pw) M tL ⋯ ⋯ ⋯ (by rw[Ne,sEq];decide) ⋯ ⋯ hx ha b5 ⟨_,false,by walk_at "co",hK⟩)
  ·rw[if_neg (by rw[hd];decide)]at hK
   exact ex2 e2 pl ⟨by walk_at "co",hK⟩
 ·replace hK:=(if_neg (of_decide_eq_false hc))▸hK
  exact ex2 e2 pl ⟨by walk_at "co",hK⟩
 refineλJ=>x2 λe3 pl3=>a2 λh1 hK=>eJ h1 ?_
 exact aA (aM M (zdW (some (e3,pl3))) (bH M (aC M (aE ⋯ ⋯) (aC M (aE ⋯ ⋯) aG))) ⟨_,zbW _ _,hK⟩)
noncomputable def zf6:Fn:=λps K=>∃(U:List Nat) (pos:Nat),ps=[.str U,.int pos]/\U.length<1000000/\Al U/\pos<=U.length/\
 K (zdW (zjv U pos))
theorem zaM:aW zf6:=λ_ _ _ h=>e2 λ_ _=>c4 (h _)
theorem zir{w:World}{h:Heap}{mb:Str->Option Value}(hB:BsOk (bs w.params h mb)):∃u,mgK w.params (ae "_DIGITS")=some u/\VRel w.params (λa=>h.get? a) u nH:=by
 obtain⟨o,ho⟩:∃o,(HK w.params).lookup 606=some o:=⟨_,rfl⟩
 have ho':=ho
 conv at ho'=>lhs;whnf
 have zq:=Option.some.inj ho';subst zq
 have d:∀(c:Nat) (t:Tok),decide (c<100)=true->VRel w.params (λa=>h.get? a) (.str ⟨#[c]⟩ t) (.str [c]):=λc t q=>⟨t,rfl,pZ (ar (of_decide_eq_true q) (by decide))⟩
 exact⟨.ref 606,by kernel_rfl,606,_,_,_,rfl,hB.kin _ _ ho,rfl,rfl,gj rfl,.cons (d 48 _ rfl) (.cons (d 49 _ rfl) (.cons (d 50 _ rfl) (.cons (d 51 _ rfl) (.cons (d 52 _ rfl) (.cons (d 53 _ rfl) (.cons (d 54 _ rfl) (.cons (d 55 _ rfl) (.cons (d 56 _ rfl) (.cons (d 57 _ rfl) .nil)))))))))⟩
theorem zcy(hB:BsOk (bs w.params h mb))(hmb:HMb mb):Meets prog w (bs w.params h mb) 1 (.ref 613) zf6:=by
 have hC:CtxOk prog w (bs w.params h mb) cN 0:=c7 hmb (by simp) (by simp) (λe he=>by
  simp only[be]at he;subst he
  exact zir hB) (by simp) (by simp) (by simp)
 refine aU (k:=2) (params:=["css","pos"]) (dv:=[]) (dp:=[]) hB hC ∅ ∅ ∅ rfl (λ_=>.nil) (λS vals hl=>?_) λps K=>x2 λU pos=>a5 λh1 h2 h3 h5 h4=>?_
 ·refine x2 (λa b zr2=>?_) (fL hl);subst zr2
  kernel_rfl
 ·subst h1
  exact⟨rfl,zeO U pos K h2 h3 h5 h4⟩
noncomputable def zft(x:List Nat):Bool:=[92].isPrefixOf x&&!([92,10].isPrefixOf x)
noncomputable def kD:List Nat->Bool
 |d ::r=>(a1 d||d==45)||zft (d ::r)
 |[]=>false
noncomputable def aO:List Nat->Bool
 |[]=>false
 |c ::r=>a1 c||((c==45&&kD r)||(c==92&&!([92,10].isPrefixOf (c ::r))))
theorem zjw{x:List Nat}(ha:Al x){k:Nat}(hk:eM k=false)(q:List Nat)(i:Nat):(k ::q).isPrefixOf (x.drop i)=false:=by
 cases h:x.drop i with
 |nil=>rfl
 |cons c r=>
  have hc:=(ha.drop i) c (by rw[h];exact bk)
  refine(?_:((k==c)&&_)=false)
  rw[beq_eq_false_iff_ne.mpr (λe=>by(replace hc:=e.symm▸hc;replace hc:=hk▸hc);cases hc)];rfl
theorem iY{c:Nat}(h:eM c=true)(k:Nat)(hk:eM k=false):c≠k:=λe=>by(replace h:=e▸h;replace h:=hk▸h);cases h
theorem zjS{C:Ctx}{H:Kn}{o i:Expr}{q:Str}{n:Nat}{p p1 p2:Pos}{J:St}{x:List Nat}{e k:Nat}(M:CtxMono C)(h:ev C H o J (.str x))(hi:ev C H i J (.int e))(he:e<=x.length)(hx:x.length<2000000)(hc:csE i=none)(ha:Al x)(hq:q.cps.toList.head?=some k)(hk:eM k=false):
  ev C H (.Call (.Attribute o (ae "startswith") p) [.Constant (.str q) n p1,i] [] p2) J (.bool false):=by
 have:=kF (q:=q) (k:=n) (p:=p) (p1:=p1) (p2:=p2) M h hi he hx hc
 cases e:q.cps.toList with
 |nil=>replace hq:=e▸hq;(exfalso;cases hq)
 |cons a r=>rw[e]at hq this;(have zq:=Option.some.inj hq;subst zq);rwa [zjw ha hk]at this
noncomputable def cI:Ctx:=mkC [("_is_name_start",zkB)] [] false [] []
theorem qW:CtxMono cI:=bN (by simp[tZ]) (by simp)
theorem zjT{H:Kn}{J:St}{U:List Nat}{i c:Nat}{p1 p2 p3 p4:Pos}(k1:H "_is_name_start"=some .globalImplicit)(k2:H "css"=some .local)(k3:H "pos"=some .local)(h1:J.ρ "css"=some (.str U))(h2:J.ρ "pos"=some (.int i))(hc:U[i]?=some c)(ha:Al U):
  ev cI H (.Call (.Name (ae "_is_name_start") p1) [.Name (ae "css") p2,.Name (ae "pos") p3] [] p4) J (.bool (a1 c)):=
 aR (F:=zkB) qW k1 rfl (aC qW (aE k2 h1) (aC qW (aE k3 h2) aG)) ⟨U,i,c,rfl,hc,ha.at hc,.inl rfl,rfl⟩
theorem vW(a b:Nat):(a==b)=decide (a=b):=rfl
theorem zhX(U:List Nat)(pos c:Nat)(K:PV->Prop)(hx:U.length<1000000)(ha:Al U)(hc:U[pos]?=some c)(hK:K (.bool (aO (U.drop pos)))):
  wSs cI (cV (aK H0 642)) (aV H0 642) (gQ K) ⟨bB [("css",.str U),("pos",.int pos)] (λ_=>none),λ_=>none⟩:=by
 have M:=qW
 have hx2:=ar hx (show 1000000<2000000 by decide)
 obtain⟨hl,hcc⟩:=dg.mp hc
 have hd:U.drop pos=c ::U.drop (pos+1):=by rw[ak hl,hcc]
 rw[hd,aO]at hK
 clear hcc
 (apply nfe;case h=>(show ?ya3=?yb3;refine(?_:∀_:(?ya3=?yb3),(?ya3=?yb3)) ?_;rotate_left;(conv=>lhs;whnf;dsimp only[lU,erS,erE,fF,erO]);exactλ_=>by kernel_rfl!))
 refine aA (bI M (a1 c) (aS M (zjT ⋯ ⋯ ⋯ ⋯ ⋯ hc ha)) (λhn=>?_) (λhn=>?_))
 ·rw[hn]at hK
  exact aA (aM M (.bool true) (aB rfl) ⟨_,b6 _ _,hK⟩)
 rw[hn,gt]at hK
 refine aA (bI M (decide (c=45)) (aS M (cS M (bR M rfl aD aD hc) ∅)) (λh1=>?_) (λh1=>?_))
 ·rw[of_decide_eq_true h1,show((45:Nat)==45)=true from rfl,eo,show((45:Nat)==92)=false from rfl,iy,gu]at hK
  refine aA (b8 M (.int pos) (.int 1) ⋯ (aB rfl) ∅ (of_eq bM ?_))
  by_cases hq:pos+1<U.length
  ·have hg:U[pos+1]?=some U[pos+1]:=ah hq
   have hd2:U.drop (pos+1)=U[pos+1] ::U.drop (pos+2):=ak hq
   refine aA (aM M (.bool ((decide (pos+1<U.length)&&(a1 U[pos+1]||decide (U[pos+1]=45)))||([92].isPrefixOf (U.drop (pos+1))&&!([92,10].isPrefixOf (U.drop (pos+1)))))) (kG M (gN M (fC M aD (cQ M ⋯ rfl rfl ∅ aD)) λ_=>eL (kG M (zjT ⋯ ⋯ ⋯ ⋯ ⋯ hg ha) λ_=>eL (cS M (bR M rfl aD aD hg) ∅))) λ_=>eL (gN M (kF (q:=ae "\\") M aD aD hl hx2 rfl) λ_=>eL (yD M (kF (q :=ae "\\\n") M aD aD hl hx2 rfl)))) ⟨_,b6 _ _,?_⟩)
   rw[decide_eq_true hq,eo,<- vW]
   rw[hd2,kD,<- hd2]at hK
   exact hK
  ·rw[az (aw hq)]at hK
   have hn:∀q:Str,q.cps.toList≠[] ->(q.cps.toList.isPrefixOf (U.drop (pos+1)))=false :=λq h=>by
    rw[az (aw hq)]
    cases e:q.cps.toList with
    |nil=>exact absurd e h
    |cons=>rfl
   refine aA (aM M (.bool ((decide (pos+1<U.length)&&false)||(false&&false))) (kG M (gN M (fC M aD (cQ M ⋯ rfl rfl ∅ aD)) λh=>absurd (of_decide_eq_true h) hq) λ_=>eL (gN M (hn (ae "\\") (by decide+kernel)▸kF (q :=ae "\\") M aD aD hl hx2 rfl) λh=>by(exfalso;cases h))) ⟨_,b6 _ _,?_⟩)
   rw[ew];exact hK
 ·have h1 :=of_decide_eq_false h1
  rw[show(c==45)=false from beq_eq_false_iff_ne.mpr h1,iy,gt,<- hd]at hK
  refine aA (bI M (decide (c=92)) (aS M (cS M (bR M rfl aD aD hc) ∅)) (λh2=>?_) (λh2=>?_))
  ·rw[vW,h2,eo]at hK
   exact aA (aM M (.bool (!([92,10].isPrefixOf (U.drop pos)))) (yD M (kF (q :=ae "\\\n") M aD aD (aq hl) hx2 rfl)) ⟨_,b6 _ _,hK⟩)
  ·rw[vW,h2,iy]at hK
   exact aA (aM M (.bool false) (aB rfl) ⟨_,b6 _ _,hK⟩)
noncomputable def zkC:Fn:=λps K=>∃(U:List Nat) (pos c:Nat),ps=[.str U,.int pos]/\U.length<1000000/\Al U/\U[pos]?=some c/\K (.bool (aO (U.drop pos)))
theorem zdR:aW zkC:=λ_ _ _ h=>e3 λ_ _ _=>c4 (h _)
theorem ze5(hB:BsOk (bs w.params h mb))(hmb:HMb mb):Meets prog w (bs w.params h mb) 2 (.ref 642) zkC:=by
 have hC:CtxOk prog w (bs w.params h mb) cI 1:=c7 hmb (by simp[tZ]) (by simp) (by simp) (λe he=>by
  simp only[be]at he;subst he
  exact⟨.ref 635,by kernel_rfl,ze4 hB hmb⟩) (by simp) (by simp)
 refine aU (k:=2) (params:=["css","pos"]) (dv:=[]) (dp:=[]) hB hC ∅ ∅ ∅ rfl (λ_=>.nil) (λS vals hl=>?_) λps K=>x3 λU pos c=>a5 λh1 h2 h3 h5 h4=>?_
 ·refine x2 (λa b zr2=>?_) (fL hl);subst zr2
  kernel_rfl
 ·subst h1
  exact⟨rfl,zhX U pos c K h2 h3 h5 h4⟩
noncomputable def bT(c:Nat):Bool:=c==32||c==10||c==9
theorem kB(c:Nat):decide (c∈(ae " \n\t").cps.toList)=bT c :=by
 rw[show(ae " \n\t").cps.toList=[32,10,9]by decide+kernel,Bool.eq_iff_iff]
 simp only[bT,bb,bu,or_false,decide_eq_true_eq,ey,beq_iff_eq,or_assoc]
noncomputable def bC(c:Nat):Bool :=a1 c||c==45||b7 c
theorem ze1{c:Nat}(h:eM c=true):(decide (c∈(ae "abcdefghijklmnopqrstuvwxyz-_0123456789ABCDEFGHIJKLMNOPQRSTUVWXYZ").cps.toList)||decide (127<c))=bC c :=
 cF (f :=λc=>decide (c∈(ae "abcdefghijklmnopqrstuvwxyz-_0123456789ABCDEFGHIJKLMNOPQRSTUVWXYZ").cps.toList)||decide (127<c)) (by decide+kernel) h
noncomputable def aY(x:List Nat):Nat :=(x.takeWhile bC).length
theorem oO(c:Nat)(r:List Nat):aY (c ::r)=if bC c=true then aY r+1 else 0 :=by
 unfold aY
 rw[dh]
 split<;>rfl
theorem cW(x:List Nat):aY x<=x.length :=(eh bC).length_le
theorem zfX{x:List Nat}{i k:Nat}(hi:i<=x.length)(h:k<=(x.drop i).length):i+k<=x.length :=by
 rw[bv]at h;exact gp hi h
theorem gH(x:List Nat)(i j:Nat):((x.drop i).take j).length<=x.length :=((List.take_sublist _ _).trans (List.drop_sublist _ _)).length_le
noncomputable def cD:Ctx :=mkC [] [] false [] [272,274,327,363,370,377,437,458,507]
theorem qX:CtxMono cD :=bN (by simp) (by simp)
theorem zax(U:List Nat)(pos:Nat)(K:PV ->Prop)(hx:U.length<1000000)(ha:Al U)(hp:pos<=U.length)(hK:K (.tup [.str ((U.drop pos).take (aY (U.drop pos))),.int ((pos+aY (U.drop pos):Nat))])):
  wSs cD (cV (aK H0 649)) (aV H0 649) (gQ K) ⟨bB [("css",.str U),("pos",.int pos)] (λ_=>none),λ_=>none⟩ :=by
 have M :=qX
 have hx2 :=ar hx (show 1000000<2000000 by decide)
 (apply nfe;case h=>(show ?ya4=?yb4;refine(?_:∀_:(?ya4=?yb4),(?ya4=?yb4)) ?_;rotate_left;(conv=>lhs;whnf;dsimp only[lU,erS,erE,fF,erO]);exactλ_=>by kernel_rfl!))
 refine aA (mM ∅ ∅ λa _=>?_)
 refine aA (aH M (.int U.length) (cQ M ⋯ rfl rfl ∅ aD) ∅ ?_)
 refine aA (aH M (.int pos) aD ∅ ?_)
 have hT:pos+aY (U.drop pos)<=U.length:=zfX hp (cW _)
 have hn:(U.drop pos).take (aY (U.drop pos))=(U.drop pos).take (pos+aY (U.drop pos) - pos):=by rw[bx]
 rw[hn]at hK
 clear hn
 generalize e0:pos+aY (U.drop pos)=T at hK hT
 have hpT:pos<=T:=e0▸am _ _
 let I:Nat->St->Prop:=λn J=>∃e:Nat,n=U.length - e/\dJ [("css",.str U),("length",.int U.length),("start_pos",.int pos),("pos",.int e),("chunks",.ptr a)] J.ρ/\J.σ a=some (.lst [])/\e<=U.length/\e+aY (U.drop e)=T
 let R:St->Prop:=λJ=>dJ [("css",.str U),("start_pos",.int pos),("pos",.int T),("chunks",.ptr a)] J.ρ/\J.σ a=some (.lst [])
 refine c8 M R (eG M I ?_ (U.length - pos) _ ⟨pos,rfl,by walk_at "co",aN _ _ _,hp,e0⟩) ?_
 ·refineλn J=>x1 λe=>a5 λhnn h1 h6 h8 h9=>keepP J h1 ?_
  refine⟨decide (e<U.length),aS M (fC M aD aD),λhc=>?_,λhc=>?_⟩
  ·have hc:=of_decide_eq_true hc
   rw[ak hc,oO]at h9
   refine aA (aH M (.str [U[e]]) (bR M rfl aD aD (ah hc)) ∅ ?_)
   refine aA (bI M (bC U[e]) (ze1 (ha.get hc)▸aS M (kG M (dE M aD) λ_=>eL (yI M ⋯ rfl rfl ∅ aD))) (λhb=>?_) (λhb=>?_))
   ·rw[if_pos hb]at h9
    exact aA (b8 M (.int e) (.int 1) ⋯ (aB rfl) ∅ (of_eq bM ⟨U.length - (e+1),hnn▸dd hc (av e),e+1,rfl,by walk_at "co",h6,hc,by rw[<- h9,bl,bn 1]⟩))
   ·rw[if_neg (by rw[hb];decide),Nat.add_zero]at h9
    refine aA (bI M (decide (U[e]=92)&&!([92,10].isPrefixOf (U.drop e))) (bS M (aS M (cS M aD ∅)) λ_=>bJ (eR M (aS M (kF (q:=ae "\\\n") M aD aD h8 hx2 rfl)))) (λhq=>?_) (λ_=>?_))
    ·exact absurd (of_decide_eq_true (ag.mp hq).1) (iY (ha.get hc) 92 (by decide))
    ·exact aA (iB ⟨by rw[<- h9];walk_at "co",h6⟩)
  ·have hc:=fx h8 (aw (of_decide_eq_false hc))
   rw[az (dz hc.symm)]at h9
   have h9:e=T:=h9
   exact⟨by rw[<- h9];walk_at "co",h6⟩
 ·refineλJ=>a2 λh1 h5=>keepP J h1 ?_
  refine aA (eP M (.str ((U.drop pos).take (T - pos))) ∅ ⋯ h5 (gW M aD aD aD hpT (ai hT hx2)) rfl (aj Nat.zero_lt_one (by decide)) ?_)
  exact aA (aM M (.tup [.str ((U.drop pos).take (T - pos)),.int T]) (bH M (aC M (vO (a:=a) [(U.drop pos).take (T - pos)] ∅ ⋯ (aN _ _ _) (ck _) (af (gH _ _ _) (af (aq hx) (by decide)))) (aC M aD aG))) ⟨_,aQ _ _ rfl,hK⟩)
noncomputable def zkD:Fn:=λps K=>∃(U:List Nat) (pos:Nat),ps=[.str U,.int pos]/\U.length<1000000/\Al U/\pos<=U.length/\K (.tup [.str ((U.drop pos).take (aY (U.drop pos))),.int ((pos+aY (U.drop pos):Nat))])
theorem zdS:aW zkD:=λ_ _ _ h=>e2 λ_ _=>c4 (h _)
theorem ze6(hB:BsOk (bs w.params h mb))(hmb:HMb mb):Meets prog w (bs w.params h mb) 1 (.ref 649) zkD:=by
 have hC:CtxOk prog w (bs w.params h mb) cD 0:=c7 hmb (by simp) (by simp) (by simp) (by simp) (by simp) (by simp)
 refine aU (k:=2) (params:=["css","pos"]) (dv:=[]) (dp:=[]) hB hC ∅ ∅ ∅ rfl (λ_=>.nil) (λS vals hl=>?_) λps K=>x2 λU pos=>a5 λh1 h2 h3 h5 h4=>?_
 ·refine x2 (λa b zr2=>?_) (fL hl);subst zr2
  kernel_rfl
 ·subst h1
  exact⟨rfl,zax U pos K h2 h3 h5 h4⟩
noncomputable def a9(x:List Nat):Nat:=(x.takeWhile bT).length
noncomputable def gX(x:List Nat)(i:Nat):Bool:=(x[i]?).any bT
theorem ziz(x:List Nat)(i:Nat):([[32],[10],[9]]:List (List Nat)).any (λp=>p.isPrefixOf (x.drop i))=gX x i:=by
 unfold gX
 by_cases h:i<x.length
 ·rw[ak h,ah h,Option.any_some]
  show((32==x[i]&&true)||((10==x[i]&&true)||((9==x[i]&&true)||false)))=_
  rw[fm,fm,fm,gu,BEq.comm,BEq.comm (a:=10),BEq.comm (a:=9),<- Bool.or_assoc];rfl
 ·rw[az (aw h),bt (aw h)];rfl
theorem gZ{x:List Nat}{i:Nat}(h:gX x i=true):i<x.length/\a9 (x.drop i)=a9 (x.drop (i+1))+1:=by
 by_cases hl:i<x.length
 ·rw[gX,ah hl]at h
  refine⟨hl,?_⟩
  rw[ak hl,a9,List.takeWhile_cons_of_pos (p:=bT) h];rfl
 ·rw[gX,bt (aw hl)]at h;(exfalso;cases h)
theorem gY{x:List Nat}{i:Nat}(h:gX x i=false):a9 (x.drop i)=0:=by
 by_cases hl:i<x.length
 ·rw[gX,ah hl]at h
  rw[ak hl,a9,List.takeWhile_cons_of_neg (λq=>by(replace h:=Option.any_some▸h;replace h:=q▸h);cases h)];rfl
 ·rw[az (aw hl)];rfl
theorem dG(x:List Nat):a9 x<=x.length:=(eh bT).length_le
theorem updU(ρ:fD)(x:Str)(a b:PV):upd (upd ρ x a) x b=upd ρ x b:=by
 funext y;unfold upd;by_cases h:y=x<;>simp[h]
section
variable {C:Ctx}{H:Kn}
theorem zcj{σ:Nat->Option Cell}{x:List Nat}{i:Int}{ps:List PV}{K:PV->(Nat->Option Cell)->Prop}:jG σ "startswith" (.str x) [.tup ps,.int i] K=okI i (∃zs,fN ps=some zs/\K (.bool (decide (i<=x.length)&&zs.any λp=>p.isPrefixOf (x.drop i.toNat))) σ):=by kernel_rfl
theorem zjR{a i:Str}{p p1 p2 p3 p4 p5 p6 p7:Pos}{k1 k2 k3 k4:Nat}{J:St}{x:List Nat}{e:Nat}(M:CtxMono C)(k1':H a=some .local)(k2':H i=some .local)(h1:J.ρ a=some (.str x))(h2:J.ρ i=some (.int e))(he:e<=x.length)(hx:x.length<1000000):
  ev C H (.Call (.Attribute (.Name a p1) (ae "startswith") p2) [.Tuple [.Constant (.str (ae " ")) k1 p3,.Constant (.str (ae "\n")) k2 p4,.Constant (.str (ae "\t")) k3 p5] k4 p6,.Name i p7] [] p) J (.bool (gX x e)) :=by
 rw[<- ziz]
 refine nE M (aE k1' h1) (aC M (bH M (aC M (aB rfl) (aC M (aB rfl) (aC M (aB rfl) aG)))) (aC M (aE k2' h2) aG)) rfl ∅ (of_eq zcj ⟨cg e,zaV (ai he (ar hx (by decide))),[[32],[10],[9]],by decide+kernel,?_,rfl⟩)
 exact congrArg PV.bool (by rw[decide_eq_true (ga.mpr he)];rfl)
theorem l4{a i:Str}{p p1 p2 p3 p4 p5 p6 p7 q1 q2 q3 q4:Pos}{k1 k2 k3 k4 k5:Nat}{J:St}{x:List Nat}{e:Nat}{Q:Fl ->St ->Prop}(M:CtxMono C)(k1':H a=some .local)(k2':H i=some .local)(hai:a≠i)
  (h1:J.ρ a=some (.str x)) (h2:J.ρ i=some (.int e)) (hx:x.length<1000000) (he:e<=x.length)
  (hQ:Q .next ⟨upd J.ρ i (.int ((e+a9 (x.drop e):Nat))),J.σ⟩):
  wS C H (.While (.Call (.Attribute (.Name a p1) (ae "startswith") p2) [.Tuple [.Constant (.str (ae " ")) k1 p3,.Constant (.str (ae "\n")) k2 p4,.Constant (.str (ae "\t")) k3 p5] k4 p6,.Name i p7] [] p)
   [.AugAssign (.Name i q1) .Add (.Constant (.int 1) k5 q2) q3] [] q4) Q J:=by
 have us:∀{ρ:fD}{v:PV},ρ i=some v->upd ρ i v=ρ:=λ{ρ v} h=>by
  funext y;unfold upd;split
  ·rename_i q;rw[q,h]
  ·rfl
 let I:Nat->St->Prop:=λn s=>∃f:Nat,s=⟨upd J.ρ i (.int f),J.σ⟩/\f<=x.length/\n=x.length - f/\f+a9 (x.drop f)=e+a9 (x.drop e)
 refine eG M I ?_ (x.length - e) J ⟨e,by rw[us h2],he,rfl,rfl⟩
 rintro n s ⟨f,rfl,hf,rfl,hs⟩
 have g1:(upd J.ρ i (.int f)) a=some (.str x):=by unfold upd;rw[if_neg hai];exact h1
 have g2:(upd J.ρ i (.int f)) i=some (.int f):=by unfold upd;rw[if_pos rfl]
 refine⟨gX x f,aS M (zjR M k1' k2' g1 g2 hf hx),λhc=>?_,λhc=>?_⟩
 ·obtain⟨hl,hd⟩:=gZ hc
  refine aA (b8 M (.int f) (.int 1) g2 (aB rfl) (by unfold cY;rw[k2'];decide) (of_eq bM ?_))
  exact⟨x.length - (f+1),dd hl (av f),f+1,congrArg (St.mk · J.σ) (updU _ _ _ _),hl,rfl,by rw[<- hs,hd,dm];rfl⟩
 ·rw[gY hc]at hs
  rw[<- hs]at hQ
  exact hQ
end
theorem rV(c:Nat):decide ([c]∈([[34],[39]]:List (List Nat)))=(decide (c=34)||decide (c=39)):=by
 rw[<- Bool.decide_or]
 exact decide_eq_decide.mpr ⟨λh=>by simpa using h,λh=>by simpa using h⟩
theorem zdj{C:Ctx}{H:Kn}{o:Expr}{p2 p3 p4 p:Pos}{k1 k2 k3:Nat}{J:St}{c:Nat}(M:CtxMono C)(h:ev C H o J (.str [c])):
  ev C H (.Compare o [.In] [.Tuple [.Constant (.str (ae "\"")) k1 p2,.Constant (.str (ae "'")) k2 p3] k3 p4] p) J (.bool (decide (c=34)||decide (c=39))):=
 bL (a:=.str [c]) M h (bH M (aC M (aB rfl) (aC M (aB rfl) aG))) ⟨[[34],[39]],by decide+kernel,rV c⟩
theorem xE{C:Ctx}{H:Kn}{t:Expr}{m:Option Expr}{p:Pos}{Q:Fl->St->Prop}{J:St}(M:CtxMono C)(h:tv C H t J true)(k:Q .next J):wS C H (.Assert t m p) Q J:=
 wW (K:=λc st1=>c=true/\Q .next st1) M h ⟨rfl,k⟩
theorem yK{C:Ctx}{H:Kn}{l r:Expr}{p':Pos}{J:St}{c d:Nat}(M:CtxMono C)(h:ev C H l J (.str [c]))(h':ev C H r J (.str [d])):ev C H (.Compare l [.Eq] [r] p') J (.bool (decide (c=d))):=
 bL M h h' (decide_eq_decide.mpr ⟨λh=>(List.cons.inj h).1,λh=>congrArg (λn=>[n]) h⟩)
noncomputable def lcS(s:String):List Nat:=(ae s).cps.toList
noncomputable def lS(q:Nat)(x:List Nat):Nat:=(x.takeWhile λc=>c !=q&&c !=10).length
theorem zbY(q c:Nat)(r:List Nat):lS q (c ::r)=if c=q\/c=10 then 0 else lS q r+1:=by
 unfold lS
 rw[dh]
 by_cases h:c=q\/c=10
 ·rw[if_pos h,if_neg];rfl
  rcases h with h|h<;>simp[h]
 ·rw[if_neg h,if_pos];rfl
  exact zfV (bne_iff_ne.mpr λe=>h (.inl e)) (bne_iff_ne.mpr λe=>h (.inr e))
theorem pT(q:Nat)(x:List Nat):lS q x<=x.length:=(eh _).length_le
noncomputable def jO(k m:String):PV:=.tup [.str (lcS k),.str (lcS m)]
noncomputable def zkN(q:Nat)(v:List Nat)(e:Nat)(c:Option Nat):PV:=c.elim (.tup [.str v,.int e,jO "eof-in-string" "EOF in string"]) λc=>if c=q then .tup [.str v,.int (e+1:Nat),.none]else .tup [.none,.int e,jO "bad-string" "Bad string token"]
theorem zeJ(U:List Nat)(pos q T:Nat)(K:PV->Prop)(hx:U.length<1000000)(ha:Al U)(hg:U[pos]?=some q)(hq:q=34\/q=39)(hT:pos+1+lS q (U.drop (pos+1))=T)(hK:K (zkN q ((U.drop (pos+1)).take (T - (pos+1))) T U[T]?)):
  wSs cD (cV (aK H0 656)) (aV H0 656) (gQ K) ⟨bB [("css",.str U),("pos",.int pos)] (λ_=>none),λ_=>none⟩:=by
 have M:=qX
 have hx2:=ar hx (show 1000000<2000000 by decide)
 have hqt:(decide (q=34)||decide (q=39))=true:=by rcases hq with rfl|rfl<;>rfl
 (apply nfe;case h=>(show ?ya5=?yb5;refine(?_:∀_:(?ya5=?yb5),(?ya5=?yb5)) ?_;rotate_left;(conv=>lhs;whnf;dsimp only[lU,erS,erE,fF,erO]);exactλ_=>by kernel_rfl!))
 refine aA (aH M .none (aB rfl) ∅ ?_)
 refine aA (aH M (.str [q]) (bR M rfl aD aD hg) ∅ ?_)
 refine aA (xE M (hqt▸aS M (zdj M aD)) ?_)
 refine aA (b8 M (.int pos) (.int 1) ⋯ (aB rfl) ∅ (of_eq bM ?_))
 refine aA (mM ∅ ∅ λa _=>?_)
 refine aA (aH M (.int U.length) (cQ M ⋯ rfl rfl ∅ aD) ∅ ?_)
 refine aA (aH M (.int (pos+1:Nat)) aD ∅ ?_)
 have hp:pos+1<=U.length:=bK hg
 have hTl:T<=U.length:=hT▸aZ (n:=pos+1) hp (pT _ _)
 have hpT:pos+1<=T:=hT▸am _ _
 generalize hV:(U.drop (pos+1)).take (T - (pos+1))=V at hK
 have hVl:V.length<=bU:=hV▸af (gH _ _ _) (af (aq hx) (by decide))
 have sl:∀ρ,ρ "css"=some (.str U)->ρ "start_pos"=some (.int (pos+1:Nat))->ρ "pos"=some (.int T)->∀σ p1 p2 p3 p4 p5,ev cD (cV (aK H0 656)) (.Subscript (.Name "css" p1) (.Slice (some (.Name "start_pos" p2)) (some (.Name "pos" p3)) none p4) p5) ⟨ρ,σ⟩ (.str V):=λρ g1 g2 g3 σ p1 p2 p3 p4 p5=>hV▸gW M (aE ⋯ g1) (aE ⋯ g2) (aE ⋯ g3) hpT (ai hTl hx2)
 let R:St->Prop:=λJ=>∃(e:Nat) (er:PV),dJ [("pos",.int e),("chunks",.ptr a),("error",er)] J.ρ/\J.σ a=some (.lst [.str V])/\ziO er=true/\K (.tup [.str V,.int e,er])
 let I:Nat->St->Prop:=λm J=>∃e:Nat,m=U.length - e/\dJ [("css",.str U),("length",.int U.length),("start_pos",.int (pos+1:Nat)),("pos",.int e),("chunks",.ptr a),("quote",.str [q]),("error",.none)] J.ρ/\J.σ a=some (.lst [])/\e<=U.length/\e+lS q (U.drop e)=T
 refine c8 M R (eG M I ?_ (U.length - (pos+1)) _ ⟨pos+1,rfl,by walk_at "co",aN _ _ _,hp,hT⟩) ?_
 ·refineλm J=>x1 λe=>a5 λhnn h1 h6 h8 hn=>keepP J h1 ?_
  clear h1
  refine⟨decide (e<U.length),aS M (fC M aD aD),λhc=>?_,λhc=>?_⟩
  ·have hc:=of_decide_eq_true hc
   rw[ak hc,zbY]at hn
   have hge:U[e]?=some U[e]:=ah hc
   refine aA (aH M (.str [U[e]]) (bR M rfl aD aD hge) ∅ ?_)
   refine aA (bI M (decide (U[e]=q)) (aS M (yK M aD aD)) (λhb=>?_) (λhb=>?_))
   ·have hb:=of_decide_eq_true hb
    rw[if_pos (.inl hb)]at hn
    have hn:e=T:=hn
    subst hn
    replace hK:=hge▸hK;replace hK:=hb▸hK
    have hK:K (if q=q then .tup [.str V,.int (e+1:Nat),.none]else _):=hK
    replace hK:=(if_pos rfl)▸hK
    refine aA (eP M (.str V) ∅ ⋯ h6 (sl _ ⋯ ⋯ ⋯ _ _ _ _ _ _) rfl (by decide) ?_)
    refine aA (b8 M (.int e) (.int 1) ⋯ (aB rfl) ∅ (of_eq bM ?_))
    exact aA (iB ⟨e+1,.none,by walk_at "co",aN _ _ _,rfl,hK⟩)
   have hb:=of_decide_eq_false hb
   refine aA (bI M false (decide_eq_false (iY (ha.get hc) 92 (by decide))▸aS M (cS M aD ∅)) (λh=>by(exfalso;cases h)) (λ_=>?_))
   refine aA (bI M (decide (U[e]=10)) (aS M (cS M aD ∅)) (λh4=>?_) (λh4=>?_))
   ·have h4:=of_decide_eq_true h4
    rw[if_pos (.inr h4)]at hn
    have hn:e=T:=hn
    subst hn
    replace hK:=hge▸hK
    have hK:K (if U[e]=q then .tup [.str V,.int (e+1:Nat),.none]else .tup [.none,.int e,jO "bad-string" "Bad string token"]):=hK
    replace hK:=(if_neg hb)▸hK
    exact aA (aM M (.tup [.none,.int e,jO "bad-string" "Bad string token"]) (bH M (aC M (aB rfl) (aC M aD (aC M (bH M (aC M (aB rfl) (aC M (aB rfl) aG))) aG)))) ⟨_,aQ _ _ rfl,hK⟩)
   ·rw[if_neg (λh=>h.elim hb (of_decide_eq_false h4))]at hn
    exact aA (b8 M (.int e) (.int 1) ⋯ (aB rfl) ∅ (of_eq bM ⟨U.length - (e+1),hnn▸dd hc (av e),e+1,rfl,by walk_at "co",h6,hc,by rw[<- hn,bl,bn 1]⟩))
  ·have hc:=fx h8 (aw (of_decide_eq_false hc))
   replace hn:=(az (dz hc.symm))▸hn
   have hn:e=T:=hn
   subst hn
   replace hK:=(bt (dz hc.symm))▸hK
   refine aA (aH M (jO "eof-in-string" "EOF in string") (bH M (aC M (aB rfl) (aC M (aB rfl) aG))) ∅ ?_)
   refine aA (eP M (.str V) ∅ ⋯ h6 (sl _ ⋯ ⋯ ⋯ _ _ _ _ _ _) rfl (by decide) ?_)
   exact ex2 e _ ⟨by walk_at "co",aN _ _ _,rfl,hK⟩
 ·refineλJ=>x2 λe er=>a4 λh1 h5 hf hK=>keepP J h1 ?_
  exact aA (aM M (.tup [.str V,.int e,er]) (bH M (aC M (vO (a:=a) [V] ∅ ⋯ h5 (ck _) hVl) (aC M aD (aC M aD aG)))) ⟨_,aQ _ _ (show(true&&(true&&(ziO er&&true)))=true by rw[hf];rfl),hK⟩)
noncomputable def tX:Fn:=λps K=>∃(U:List Nat) (pos q T:Nat),ps=[.str U,.int pos]/\U.length<1000000/\Al U/\U[pos]?=some q/\(q=34\/q=39)/\pos+1+lS q (U.drop (pos+1))=T/\K (zkN q ((U.drop (pos+1)).take (T - (pos+1))) T U[T]?)
theorem zaL:aW tX:=λ_ _ _ h=>e4 λ_ _ _ _=>c6 (h _)
theorem zcw(hB:BsOk (bs w.params h mb))(hmb:HMb mb):Meets prog w (bs w.params h mb) 1 (.ref 656) tX:=by
 have hC:CtxOk prog w (bs w.params h mb) cD 0:=c7 hmb (by simp) (by simp) (by simp) (by simp) (by simp) (by simp)
 refine aU (k:=2) (params:=["css","pos"]) (dv:=[]) (dp:=[]) hB hC ∅ ∅ ∅ rfl (λ_=>.nil) (λS vals hl=>?_) λps K=>x4 λU pos q T=>a7 λh1 h2 h3 h5 h6 h7 h4=>?_
 ·refine x2 (λa b zr2=>?_) (fL hl);subst zr2
  kernel_rfl
 ·subst h1
  exact⟨rfl,zeJ U pos q T K h2 h3 h5 h6 h7 h4⟩
noncomputable def zlj(c:Nat):Bool:=c==34||c==39||c==40||c==11||c==127||decide (c<9)||(decide (13<c)&&decide (c<32))
theorem ze2{c:Nat}(h:eM c=true):decide (c∈(ae "\"'(\x00\x01\x02\x03\x04\x05\x06\x07\x08\x0b\x0e\x0f\x10\x11\x12\x13\x14\x15\x16\x17\x18\x19\x1a\x1b\x1c\x1d\x1e\x1f\x7f").cps.toList)=zlj c :=
 cF (f :=λc=>decide (c∈(ae "\"'(\x00\x01\x02\x03\x04\x05\x06\x07\x08\x0b\x0e\x0f\x10\x11\x12\x13\x14\x15\x16\x17\x18\x19\x1a\x1b\x1c\x1d\x1e\x1f\x7f").cps.toList)) (by decide+kernel) h
theorem qP{C:Ctx}{H:Kn}{l r:Expr}{p:Pos}{J:St}{a b:Nat}(M:CtxMono C)(h:ev C H l J (.int a))(h':ev C H r J (.int b)):ev C H (.Compare l [.GtE] [r] p) J (.bool (decide (b<=a))) :=bL M h h' (decide_eq_decide.mpr ga)
noncomputable def jE(c:Nat):Bool :=c==41||(bT c||zlj c)
noncomputable def dF(x:List Nat):Nat :=(x.takeWhile λc=>!jE c).length
theorem o5(c:Nat)(r:List Nat):dF (c ::r)=if jE c=true then 0 else dF r+1 :=by
 unfold dF
 rw[dh]
 cases jE c<;>rfl
theorem kI(x:List Nat):dF x<=x.length :=(eh _).length_le
noncomputable def t9(x:List Nat):Nat :=(x.takeWhile λc=>c !=41).length
theorem r7(c:Nat)(r:List Nat):t9 (c ::r)=if c=41 then 0 else t9 r+1 :=by
 unfold t9
 rw[dh]
 by_cases h:c=41
 ·subst h;rfl
 ·rw[if_neg h,if_pos (bne_iff_ne.mpr h)];rfl
theorem zb2(x:List Nat):t9 x<=x.length :=(eh _).length_le
noncomputable def zlk(U:List Nat)(f:Nat):Nat :=if U[f+t9 (U.drop f)]?=some 41 then f+t9 (U.drop f)+1 else f+t9 (U.drop f)
noncomputable def y0(U:List Nat)(f:Nat):PV :=.tup [.none,.int (zlk U f),jO "bad-url" "bad URL token"]
noncomputable def yM(U V:List Nat)(f:Nat):PV :=U[f]?.elim (.tup [.str V,.int f,jO "eof-in-url" "EOF in URL"]) λc=>if c=41 then .tup [.str V,.int (f+1:Nat),.none]else y0 U f
noncomputable def za5(U V:List Nat)(e:Nat):PV:=U[e]?.elim (yM U V e) λc=>if c=41 then yM U V e else if bT c=true then yM U V (e+1+a9 (U.drop (e+1)))else y0 U (e+1)
theorem zd4(U:List Nat)(pos s:Nat)(K:PV->Prop)(hx:U.length<1000000)(ha:Al U)(hp:pos<=U.length)(hs:pos+a9 (U.drop pos)=s)(hq:∀c,U[s]?=some c->c≠34/\c≠39)(hK:K (za5 U ((U.drop s).take (dF (U.drop s))) (s+dF (U.drop s)))):
  wSs cD (cV (aK H0 670)) (aV H0 670) (gQ K) ⟨bB [("css",.str U),("pos",.int pos)] (λ_=>none),λ_=>none⟩:=by
 have M:=qX
 have hx2:=ar hx (show 1000000<2000000 by decide)
 (apply nfe;case h=>(show ?ya6=?yb6;refine(?_:∀_:(?ya6=?yb6),(?ya6=?yb6)) ?_;rotate_left;(conv=>lhs;whnf;dsimp only[lU,erS,erE,fF,erO]);exactλ_=>by kernel_rfl!))
 refine aA (aH M .none (aB rfl) ∅ ?_)
 refine aA (aH M (.int U.length) (cQ M ⋯ rfl rfl ∅ aD) ∅ ?_)
 refine aA (l4 M ⋯ ⋯ (by rw[Ne,sEq];decide) ⋯ ⋯ hx hp ?_)
 have hle:s<=U.length:=hs▸aZ hp (dG (U.drop pos))
 refine hs.symm▸?_
 clear hs hp
 have hVl:((U.drop s).take (dF (U.drop s))).length<=bU:=af (gH _ _ _) (af (aq hx) (by decide))
 have hTl:s+dF (U.drop s)<=U.length:=aZ hle (kI _)
 refine aA (bI M (decide (U.length<=s)) (aS M (qP M aD aD)) (λh=>?_) (λh=>?_))
 ·have h:=of_decide_eq_true h
  replace hK:=(az h)▸hK
  have hK:K (U[s]?.elim (yM U [] s) _):=hK
  replace hK:=(bt h)▸hK
  have hK:K (U[s]?.elim (.tup [.str [],.int s,jO "eof-in-url" "EOF in URL"]) _):=hK
  replace hK:=(bt h)▸hK
  exact aA (aM M (.tup [.str [],.int s,jO "eof-in-url" "EOF in URL"]) (bH M (aC M (aB rfl) (aC M aD (aC M (bH M (aC M (aB rfl) (aC M (aB rfl) aG))) aG)))) ⟨_,aQ _ _ rfl,hK⟩)
 have hl:s<U.length:=fc (of_decide_eq_false h)
 have hg:U[s]?=some U[s]:=ah hl
 have hqq:=hq _ hg
 refine aA (aH M (.str [U[s]]) (bR M rfl aD aD hg) ∅ ?_)
 generalize hV:(U.drop s).take (dF (U.drop s))=V at hK hVl
 have hV:(U.drop s).take (s+dF (U.drop s) - s)=V:=by rw[bx];exact hV
 generalize hT:s+dF (U.drop s)=T at hK hV hTl
 have hsT:s<=T:=hT▸am _ _
 let R2:St->Prop:=λJ=>∃f:Nat,dJ [("css",.str U),("length",.int U.length),("pos",.int f)] J.ρ/\f<=U.length/\K (y0 U f)
 let R1:St->Prop:=λJ=>∃(f:Nat) (v:PV),dJ [("css",.str U),("length",.int U.length),("pos",.int f),("value",v),("error",.none)] J.ρ/\f<=U.length/\((v=.str V/\K (yM U V (f+a9 (U.drop f))))\/(v=.none/\K (y0 U f)))
 refine c8 M R1 (bI M (decide (U[s]=34)||decide (U[s]=39)) (aS M (zdj M aD)) (λh=>?_) (λh=>?_)) ?_
 ·(replace h:=(decide_eq_false hqq.1)▸h;replace h:=(decide_eq_false hqq.2)▸h);(exfalso;cases h)
 ·clear h
  refine aA (bI M (decide (U[s]=41)) (aS M (cS M aD ∅)) (λh4=>?_) (λh4=>?_))
  ·have h4:=of_decide_eq_true h4
   rw[ak hl,o5,h4]at hT
   have hT:s=T:=hT
   subst hT
   rw[ji,List.take_zero]at hV
   subst hV
   have hg:=h4▸hg
   unfold za5 at hK
   replace hK:=hg▸hK
   have hK:K (U[s]?.elim (.tup [.str [],.int s,jO "eof-in-url" "EOF in URL"]) λc=>if c=41 then .tup [.str [],.int (s+1:Nat),.none]else y0 U s):=hK
   replace hK:=hg▸hK
   exact aA (aM M (.tup [.str [],.int ((s+1:Nat)),.none]) (bH M (aC M (aB rfl) (aC M (aP (i:=s) (j:=1) M aD (aB rfl)) (aC M aD aG)))) ⟨_,aQ _ _ rfl,hK⟩)
  ·clear h4 hqq hg
   refine aA (mM ∅ ∅ λa _=>?_)
   refine aA (aH M (.int s) aD ∅ ?_)
   let I:Nat->St->Prop:=λn J=>∃e:Nat,n=U.length - e/\dJ [("css",.str U),("length",.int U.length),("start_pos",.int s),("pos",.int e),("chunks",.ptr a),("error",.none)] J.ρ/\J.σ a=some (.lst [])/\e<=U.length/\e+dF (U.drop e)=T
   refine aA (eG M I ?_ (U.length - s) _ ⟨s,rfl,by walk_at "co",aN _ _ _,hle,hT⟩)
   refineλn J=>x1 λe=>a5 λhnn h1 h6 h8 hn=>keepP J h1 ?_
   clear h1
   refine⟨true,zhg M (aB rfl) rfl,λ_=>?_,λh=>by cases h⟩
   have sl:e=T->∀ρ,ρ "css"=some (.str U)->ρ "start_pos"=some (.int s)->ρ "pos"=some (.int e)->∀σ p1 p2 p3 p4 p5,ev cD (cV (aK H0 670)) (.Subscript (.Name "css" p1) (.Slice (some (.Name "start_pos" p2)) (some (.Name "pos" p3)) none p4) p5) ⟨ρ,σ⟩ (.str V):=λeT ρ g1 g2 g3 σ p1 p2 p3 p4 p5=>hV▸eT▸gW M (aE ⋯ g1) (aE ⋯ g2) (aE ⋯ g3) (eT▸hsT) (ai h8 hx2)
   have jn:∀ρ σ,ρ "chunks"=some (.ptr a)->σ a=some (.lst [.str V])->∀k p1 p2 p3 p4,ev cD (cV (aK H0 670)) (.Call (.Attribute (.Constant (.str (ae "")) k p1) (ae "join") p2) [.Name "chunks" p3] [] p4) ⟨ρ,σ⟩ (.str V):=λρ σ g1 g2 k p1 p2 p3 p4=>vO (a:=a) [V] ∅ g1 g2 (ck _) hVl
   refine aA (bI M (decide (U.length<=e)) (aS M (qP M aD aD)) (λh=>?_) (λh=>?_))
   ·have h:=of_decide_eq_true h
    replace hn:=(az h)▸hn
    have hn:e=T:=hn
    have hK:K (.tup [.str V,.int e,jO "eof-in-url" "EOF in URL"]):=by
     unfold za5 yM at hK
     replace hK:=hn.symm▸hK;replace hK:=(bt h)▸hK
     exact hK
    refine aA (eP M (.str V) ∅ ⋯ h6 (sl hn _ ⋯ ⋯ ⋯ _ _ _ _ _ _) rfl (by decide) ?_)
    exact aA (aM M (.tup [.str V,.int e,jO "eof-in-url" "EOF in URL"]) (bH M (aC M (jn _ _ ⋯ (aN _ _ _) _ _ _ _ _) (aC M aD (aC M (bH M (aC M (aB rfl) (aC M (aB rfl) aG))) aG)))) ⟨_,aQ _ _ rfl,hK⟩)
   have hc:e<U.length:=fc (of_decide_eq_false h)
   clear h
   have hge:U[e]?=some U[e]:=ah hc
   have hac:=ha.get hc
   rw[ak hc,o5]at hn
   refine aA (aH M (.str [U[e]]) (bR M rfl aD aD hge) ∅ ?_)
   refine aA (bI M (decide (U[e]=41)) (aS M (cS M aD ∅)) (λh4=>?_) (λh4=>?_))
   ·have h4:=of_decide_eq_true h4
    rw[if_pos (by unfold jE;refine h4.symm▸?_;rfl)]at hn
    have hn:e=T:=hn
    have hK:K (.tup [.str V,.int (e+1:Nat),.none]):=by
     unfold za5 yM at hK
     replace hK:=hn.symm▸hK;replace hK:=hge▸hK;replace hK:=h4▸hK
     exact hK
    refine aA (eP M (.str V) ∅ ⋯ h6 (sl hn _ ⋯ ⋯ ⋯ _ _ _ _ _ _) rfl (by decide) ?_)
    refine aA (b8 M (.int e) (.int 1) ⋯ (aB rfl) ∅ (of_eq bM ?_))
    exact aA (aM M (.tup [.str V,.int ((e+1:Nat)),.none]) (bH M (aC M (jn _ _ ⋯ (aN _ _ _) _ _ _ _ _) (aC M aD (aC M aD aG)))) ⟨_,aQ _ _ rfl,hK⟩)
   have h4:=of_decide_eq_false h4
   refine aA (bI M (bT U[e]) (kB U[e]▸aS M (dE M aD)) (λh5=>?_) (λh5=>?_))
   ·rw[if_pos (by unfold jE;rw[h5,Bool.true_or,Bool.or_true])]at hn
    have hn:e=T:=hn
    have hK:K (yM U V (e+1+a9 (U.drop (e+1)))):=by
     unfold za5 at hK
     replace hK:=hn.symm▸hK;replace hK:=hge▸hK
     have hK:K (if U[e]=41 then yM U V e else if bT U[e]=true then yM U V (e+1+a9 (U.drop (e+1)))else y0 U (e+1)):=hK
     replace hK:=(if_neg h4)▸hK;replace hK:=(if_pos h5)▸hK
     exact hK
    refine aA (eP M (.str V) ∅ ⋯ h6 (sl hn _ ⋯ ⋯ ⋯ _ _ _ _ _ _) rfl (by decide) ?_)
    refine aA (aH M (.str V) (jn _ _ ⋯ (aN _ _ _) _ _ _ _ _) ∅ ?_)
    refine aA (b8 M (.int e) (.int 1) ⋯ (aB rfl) ∅ (of_eq bM ?_))
    exact aA (iB ⟨e+1,.str V,by walk_at "co",hc,.inl ⟨rfl,hK⟩⟩)
   refine aA (bI M (decide (U[e]=92)&&!([92,10].isPrefixOf (U.drop e))) (bS M (aS M (cS M aD ∅)) λ_=>bJ (eR M (aS M (kF (q:=ae "\\\n") M aD aD h8 hx2 rfl)))) (λhq=>?_) (λ_=>?_))
   ·exact absurd (of_decide_eq_true (ag.mp hq).1) (iY hac 92 (by decide))
   refine aA (bI M (zlj U[e]) (ze2 hac▸aS M (dE M aD)) (λh6=>?_) (λh7=>?_))
   ·rw[if_pos (by unfold jE;rw[h6,Bool.or_true,Bool.or_true])]at hn
    have hn:e=T:=hn
    have hK:K (y0 U (e+1)):=by
     unfold za5 at hK
     replace hK:=hn.symm▸hK;replace hK:=hge▸hK
     have hK:K (if U[e]=41 then yM U V e else if bT U[e]=true then yM U V (e+1+a9 (U.drop (e+1)))else y0 U (e+1)):=hK
     rw[if_neg h4,if_neg (by refine h5.symm▸?_;decide)]at hK
     exact hK
    refine aA (aH M .none (aB rfl) ∅ ?_)
    refine aA (b8 M (.int e) (.int 1) ⋯ (aB rfl) ∅ (of_eq bM ?_))
    exact aA (iB ⟨e+1,.none,by walk_at "co",hc,.inr ⟨rfl,hK⟩⟩)
   ·rw[if_neg (by unfold jE;(refine h5.symm▸?_;refine h7.symm▸?_;refine(beq_eq_false_iff_ne.mpr h4).symm▸?_);decide)]at hn
    exact aA (b8 M (.int e) (.int 1) ⋯ (aB rfl) ∅ (of_eq bM ⟨U.length - (e+1),hnn▸dd hc (av e),e+1,rfl,by walk_at "co",h6,hc,by rw[<- hn,bl,bn 1]⟩))
 clear hK hT hV hsT hTl hVl hle hl hqq hg hq h
 refineλJ=>x2 λf v=>a3 λh1 hf hv=>eJ h1 ?_
 clear h1
 refine c8 M R2 (Or.elim hv (a2 λev hK=>?_) (a2 λev hK=>?_)) ?_
 ·subst ev
  refine bI M true (aS M (bL (a:=.str V) (b:=.none) M aD (aB rfl) rfl)) (λ_=>?_) (λh=>by(exfalso;cases h))
  refine aA (l4 M ⋯ ⋯ (by rw[Ne,sEq];decide) ⋯ ⋯ hx hf ?_)
  have hg:=aZ hf (dG (U.drop f))
  generalize f+a9 (U.drop f)=g at hK hg
  refine aA (bI M (decide (g<U.length)) (aS M (fC M aD aD)) (λh=>?_) (λh=>?_))
  ·have h:=of_decide_eq_true h
   have hgg:U[g]?=some U[g]:=ah h
   have hK:K (U[g]?.elim (.tup [.str V,.int g,jO "eof-in-url" "EOF in URL"]) λc=>if c=41 then .tup [.str V,.int (g+1:Nat),.none]else y0 U g):=hK
   replace hK:=hgg▸hK
   have hK:K (if U[g]=41 then .tup [.str V,.int (g+1:Nat),.none]else y0 U g):=hK
   refine aA (bI M (decide (U[g]=41)) (aS M (cS M (bR M rfl aD aD hgg) ∅)) (λh4=>?_) (λh4=>?_))
   ·replace hK:=(if_pos (of_decide_eq_true h4))▸hK
    exact aA (aM M (.tup [.str V,.int ((g+1:Nat)),.none]) (bH M (aC M aD (aC M (aP (i:=g) (j:=1) M aD (aB rfl)) (aC M aD aG)))) ⟨_,aQ _ _ rfl,hK⟩)
   ·replace hK:=(if_neg (of_decide_eq_false h4))▸hK
    (repeat(first |refine aX ?_|dsimp only[cG]))
    exact⟨g,by walk_at "co",hg,hK⟩
  ·have h:=aw (of_decide_eq_false h)
   have hK:K (U[g]?.elim (.tup [.str V,.int g,jO "eof-in-url" "EOF in URL"]) λc=>if c=41 then .tup [.str V,.int (g+1:Nat),.none]else y0 U g):=hK
   replace hK:=(bt h)▸hK
   refine aA (bI M true (aS M (bL (a:=.none) (b:=.none) M aD (aB rfl) rfl)) (λ_=>?_) (λh=>by(exfalso;cases h)))
   refine aA (aH M (jO "eof-in-url" "EOF in URL") (bH M (aC M (aB rfl) (aC M (aB rfl) aG))) ∅ ?_)
   (repeat(first |refine aX ?_|dsimp only[cG]))
   exact aA (aM M (.tup [.str V,.int g,jO "eof-in-url" "EOF in URL"]) (bH M (aC M aD (aC M aD (aC M aD aG)))) ⟨_,aQ _ _ rfl,hK⟩)
 ·subst ev
  refine bI M false (aS M (bL (a:=.none) (b:=.none) M aD (aB rfl) rfl)) (λh=>by(exfalso;cases h)) (λ_=>?_)
  (repeat(first |refine aX ?_|dsimp only[cG]))
  exact⟨f,by walk_at "co",hf,hK⟩
 clear hv hf
 refineλJ=>x1 λf=>a3 λh1 hf hK=>eJ h1 ?_
 clear h1
 generalize hG:f+t9 (U.drop f)=G
 have hK:K (.tup [.none,.int (if U[G]?=some 41 then G+1 else G:Nat),jO "bad-url" "bad URL token"]):=by refine hG▸?_;exact hK
 generalize hT:(if U[G]?=some 41 then G+1 else G:Nat)=T at hK
 let R3:St->Prop:=λJ=>dJ [("pos",.int T)] J.ρ
 let I:Nat->St->Prop:=λn J=>∃e:Nat,n=U.length - e/\dJ [("css",.str U),("length",.int U.length),("pos",.int e)] J.ρ/\e<=U.length/\e+t9 (U.drop e)=G
 refine c8 M R3 (eG M I ?_ (U.length - f) _ ⟨f,rfl,by walk_at "co",hf,hG⟩) ?_
 ·refineλn J=>x1 λe=>a4 λhnn h1 h8 hn=>keepP J h1 ?_
  clear h1
  refine⟨decide (e<U.length),aS M (fC M aD aD),λhc=>?_,λhc=>?_⟩
  ·have hc:=of_decide_eq_true hc
   have hge:U[e]?=some U[e]:=ah hc
   rw[ak hc,r7]at hn
   refine aA (bI M false (aS M (zjS M aD aD h8 hx2 rfl ha (k:=92) ∅ (by decide))) (λh=>by(exfalso;cases h)) (λ_=>?_))
   refine aA (bI M (decide (U[e]=41)) (aS M (cS M (bR M rfl aD aD hge) ∅)) (λh4=>?_) (λh4=>?_))
   ·have h4:=of_decide_eq_true h4
    replace hn:=(if_pos h4)▸hn
    have hn:e=G:=hn
    subst hn
    replace hT:=(if_pos (h4▸hge))▸hT
    refine aA (b8 M (.int e) (.int 1) ⋯ (aB rfl) ∅ (of_eq bM ?_))
    exact aA (iB (by subst hT;walk_at "co"))
   ·replace hn:=(if_neg (of_decide_eq_false h4))▸hn
    exact aA (b8 M (.int e) (.int 1) ⋯ (aB rfl) ∅ (of_eq bM ⟨U.length - (e+1),hnn▸dd hc (av e),e+1,rfl,by walk_at "co",hc,by rw[<- hn,bl,bn 1]⟩))
  ·have hc:=aw (of_decide_eq_false hc)
   replace hn:=(az hc)▸hn
   have hn:e=G:=hn
   subst hn
   rw[if_neg (by refine(bt hc).symm▸?_;exactλh=>by(exfalso;cases h))]at hT
   subst hT
   refine(?_:dJ [("pos",.int e)] _)
   walk_at "co"
 ·refineλJ h1=>eJ h1 ?_
  exact aA (aM M (.tup [.none,.int T,jO "bad-url" "bad URL token"]) (bH M (aC M (aB rfl) (aC M aD (aC M (bH M (aC M (aB rfl) (aC M (aB rfl) aG))) aG)))) ⟨_,aQ _ _ rfl,hK⟩)
noncomputable def v3:Fn:=λps K=>∃(U:List Nat) (pos s:Nat),ps=[.str U,.int pos]/\U.length<1000000/\Al U/\pos<=U.length/\pos+a9 (U.drop pos)=s/\(∀c,U[s]?=some c->c≠34/\c≠39)/\K (za5 U ((U.drop s).take (dF (U.drop s))) (s+dF (U.drop s)))
theorem zaF:aW v3:=λ_ _ _ h=>e3 λ_ _ _=>c6 (h _)
theorem zcp(hB:BsOk (bs w.params h mb))(hmb:HMb mb):Meets prog w (bs w.params h mb) 1 (.ref 670) v3:=by
 have hC:CtxOk prog w (bs w.params h mb) cD 0:=c7 hmb (by simp) (by simp) (by simp) (by simp) (by simp) (by simp)
 refine aU (k:=2) (params:=["css","pos"]) (dv:=[]) (dp:=[]) hB hC ∅ ∅ ∅ rfl (λ_=>.nil) (λS vals hl=>?_) λps K=>x3 λU pos s=>a7 λh1 h2 h3 h5 h6 h7 h4=>?_
 ·refine x2 (λa b zr2=>?_) (fL hl);subst zr2
  kernel_rfl
 ·subst h1
  exact⟨rfl,zd4 U pos s K h2 h3 h5 h6 h7 h4⟩
noncomputable def gV(f:Nat->Bool)(k:Nat)(x:List Nat):Nat:=((x.take k).takeWhile f).length
theorem gI(f:Nat->Bool)(k c:Nat)(r:List Nat):gV f (k+1) (c ::r)=if f c=true then gV f k r+1 else 0:=by
 unfold gV
 rw[List.take_succ_cons,dh]
 split<;>rfl
theorem fA(f:Nat->Bool)(k:Nat)(x:List Nat):gV f k x<=k/\gV f k x<=x.length:=by
 have h:=(eh f (l:=x.take k)).length_le
 rw[bz]at h
 exact⟨af h (fw _ _),af h (du _ _)⟩
theorem pN(f:Nat->Bool)(k:Nat)(x:List Nat):gV f (min k x.length) x=gV f k x:=by
 unfold gV
 rw[<- List.take_eq_take_min]
section
variable {C:Ctx}{H:Kn}
theorem zhy{i m:Str}{t:Expr}{p1 p2 p3 p4 p5 p6 p7 p8:Pos}{k5:Nat}{J:St}{x:List Nat}{e z:Nat}{Q:Fl->St->Prop}(M:CtxMono C)(f:Nat->Bool)(k1:H i=some .local)(k2:H m=some .local)(him:i≠m)
  (h1:J.ρ i=some (.int e)) (h2:J.ρ m=some (.int z)) (hz:z<=x.length) (he:e<=z) (ht:∀j c:Nat,x[j]?=some c->tv C H t ⟨upd J.ρ i (.int j),J.σ⟩ (f c))
  (hQ:Q .next ⟨upd J.ρ i (.int ((e+gV f (z - e) (x.drop e):Nat))),J.σ⟩):
  wS C H (.While (.BoolOp .And [.Compare (.Name i p1) [.Lt] [.Name m p2] p3,t] p4) [.AugAssign (.Name i p5) .Add (.Constant (.int 1) k5 p6) p7] [] p8) Q J:=by
 have us:∀{ρ:fD}{v:PV},ρ i=some v->upd ρ i v=ρ:=λ{ρ v} h=>by
  funext y;unfold upd;split
  ·rename_i q;rw[q,h]
  ·rfl
 let I:Nat->St->Prop:=λn s=>∃g:Nat,s=⟨upd J.ρ i (.int g),J.σ⟩/\g<=z/\n=z - g/\g+gV f (z - g) (x.drop g)=e+gV f (z - e) (x.drop e)
 refine eG M I ?_ (z - e) J ⟨e,by rw[us h1],he,rfl,rfl⟩
 rintro n s ⟨g,rfl,hg,rfl,hs⟩
 have g1:(upd J.ρ i (.int g)) i=some (.int g):=by unfold upd;rw[if_pos rfl]
 have g2:(upd J.ρ i (.int g)) m=some (.int z):=by unfold upd;rw[if_neg (Ne.symm him)];exact h2
 by_cases hl:g<z
 ·have hx:=aj hl hz
  refine⟨decide (g<z)&&f x[g],bS M (aS M (fC M (aE k1 g1) (aE k2 g2))) λ_=>bJ (ht g _ (ah hx)),λhc=>?_,λhc=>?_⟩
  ·have hf:=(ag.mp hc).2
   rw[ak hx,lY hl,gI,if_pos hf]at hs
   refine aA (b8 M (.int g) (.int 1) g1 (aB rfl) (by unfold cY;rw[k1];decide) (of_eq bM ?_))
   exact⟨z - (g+1),dd hl (av g),g+1,congrArg (St.mk · J.σ) (updU _ _ _ _),hl,rfl,by rw[<- hs,bl,bn 1]⟩
  ·rw[decide_eq_true hl,eo]at hc
   rw[ak hx,lY hl,gI,if_neg (by rw[hc];decide)]at hs
   rw[<- hs]at hQ
   exact hQ
 ·have e0:z - g=0:=eu (aw hl)
  refine⟨decide (g<z)&&false,bS M (aS M (fC M (aE k1 g1) (aE k2 g2))) λh=>absurd (of_decide_eq_true h) hl,λhc=>(by rw[ew]at hc;(exfalso;cases hc)),λ_=>?_⟩
  rw[e0]at hs
  have hs:g=e+gV f (z - e) (x.drop e):=hs
  rw[<- hs]at hQ
  exact hQ
theorem qR{l r:Expr}{p:Pos}{J:St}{x y:List Nat}(M:CtxMono C)(h:ev C H l J (.str x))(h':ev C H r J (.str y))(hl:x.length+y.length<=bU):ev C H (.BinOp l .Add r p) J (.str (x++y)):=
 bA (e:=l) M h (bA (e:=r) M h' ⟨hl,rfl,rfl⟩)
theorem zdl{l r:Expr}{p:Pos}{J:St}{c n:Nat}(M:CtxMono C)(h:ev C H l J (.str [c]))(h':ev C H r J (.int n))(hl:n<=1000):ev C H (.BinOp l .Mult r p) J (.str (au n c)):=
 bA (e:=l) M h (bA (e:=r) M h' ⟨cg n,ga.mpr hl,rfl,rfl,rfl⟩)
theorem yH{x:Str}{k:Nat}{p1 p2 p3 p4:Pos}{J:St}{y:List Nat}{n:Nat}(M:CtxMono C)(k1:H "int"=some .globalImplicit)(hf:C.fn "int"=none)(hc:C.cls "int"=none)(hb:C.bi "int"=true)(h:ev C H (.Name x p1) J (.str y))(hy:y≠[])(hl:y.length<=640)(hn:eD 16 0 y=some n):
  ev C H (.Call (.Name (ae "int") p2) [.Name x p1,.Constant (.int 16) k p3] [] p4) J (.int n):=
 kX M k1 hf hc hb (aC M h (aC M (aB rfl) aG)) (of_eq (B:=((16:Int)=16/\y≠[]/\y.length<=640/\∃m,eD 16 0 y=some m/\PV.int m=.int n)) ∅ ⟨rfl,hy,hl,n,hn,rfl⟩)
theorem zgH{x y:Str}{p1 p2 p3 p4:Pos}{J:St}{l r:Expr}{a b:Nat}(M:CtxMono C)(k1:H "min"=some .globalImplicit)(hf:C.fn "min"=none)(hc:C.cls "min"=none)(hb:C.bi "min"=true)(h:ev C H l J (.int a))(h':ev C H r J (.int b)):
  ev C H (.Call (.Name (ae "min") p2) [l,r] [] p4) J (.int (min a b:Nat)):=
 kX M k1 hf hc hb (aC M h (aC M h' aG)) (of_eq (B:=(PV.int (if(b:Int)<a then b else a)=.int (min a b:Nat))) ∅ (congrArg PV.int (by by_cases h:b<a;(rw[if_pos (fy.mpr h),ib (aq h)]);(rw[if_neg (λq=>h (fy.mp q)),ce (aw h)]))))
end
noncomputable def bD(c:Nat):Bool:=(eO 16 c).isSome
theorem zcn{c:Nat}(h:eM c=true):decide (c∈(ae "0123456789abcdefABCDEF").cps.toList)=bD c:=
 cF (f:=λc=>decide (c∈(ae "0123456789abcdefABCDEF").cps.toList)) (by decide+kernel) h
noncomputable def cH(x:List Nat):Nat:=gV bD 6 x
noncomputable def j0(x:List Nat):Nat:=gV (· ==63) (6 - cH x) (x.drop (cH x))
noncomputable def fG(x:List Nat):List Nat×List Nat×Nat:=
 if j0 x=0 then(if(x.drop (cH x))[0]?=some 45/\((x.drop (cH x+1))[0]?).any bD=true then(x.take (cH x),(x.drop (cH x+1)).take (gV bD 6 (x.drop (cH x+1))),cH x+1+gV bD 6 (x.drop (cH x+1)))else(x.take (cH x),x.take (cH x),cH x))
 else(x.take (cH x)++au (j0 x) 48,x.take (cH x)++au (j0 x) 70,cH x+j0 x)
theorem zc5:∀{y:List Nat}(acc:Nat),(∀c∈y,bD c=true)->∃n,eD 16 acc y=some n
 |[]=>λacc _=>⟨acc,rfl⟩
 |c ::y=>λacc h=>by
  obtain⟨d,hd⟩:=cj.mp (h c bk)
  obtain⟨n,hn⟩:=zc5 (acc*16+d) λc hc=>h c (bc _ hc)
  exact⟨n,by unfold eD;rw[hd];exact hn⟩
theorem mN{f:Nat->Bool}{k:Nat}{x:List Nat}:∀c∈x.take (gV f k x),f c=true:=λc hc=>by
 have h:x.take (gV f k x)=(x.take k).takeWhile f:=by
  unfold gV
  have h1:=gr (p:=f) (l:=x.take k)
  have h2:=h1.trans (List.take_prefix k x)
  exact(fb.mp h2).symm
 rw[h]at hc
 exact of_decide_eq_true (by have:=ay.mp (im (l:=x.take k) (p:=f)) c hc;rw[this];rfl)
noncomputable def gL(y:List Nat):Nat:=(eD 16 0 y).getD 0
theorem uZ{y:List Nat}(h:∀c∈y,bD c=true):eD 16 0 y=some (gL y):=by
 refine x1 (λn hn=>?_) (zc5 0 h)
 unfold gL;rw[hn];rfl
noncomputable def zbT(x:List Nat):Bool:=(x[0]?).any λc=>bD c||c==63
theorem zjl{x:List Nat}(h:zbT x=true):cH x≠0\/j0 x≠0:=by
 cases x with
 |nil=>cases h
 |cons c r=>
  have h:(bD c||c==63)=true:=h
  unfold cH
  cases hc:bD c with
  |true=>exact .inl (by rw[gI,if_pos hc];exact Nat.succ_ne_zero _)
  |false=>
   rw[hc,gt]at h
   have e:cH (c ::r)=0:=by unfold cH;rw[gI,if_neg (by rw[hc];decide)]
   refine .inr ?_
   unfold j0
   rw[e,List.drop_zero,gI,if_pos h];exact Nat.succ_ne_zero _
theorem uQ{n c:Nat}(h:bD c=true):∀d∈au n c,bD d=true:=λd hd=>(List.eq_of_mem_replicate hd)▸h
theorem vZ{y z:List Nat}(h:∀c∈y,bD c=true)(h':∀c∈z,bD c=true):∀c∈y++z,bD c=true:=λc hc=>(ig.mp hc).elim (h c) (h' c)
theorem zgq{n c:Nat}{y:List Nat}(h:n≠0):y++au n c≠[]:=λe=>h (by have:=congrArg ip e;rw[bj,ja]at this;exact(Nat.add_eq_zero_iff.mp this).2)
theorem zbr{n:Nat}{x:List Nat}(h:n≠0)(hl:n<=x.length):x.take n≠[]:=λe=>h (by have:=congrArg ip e;rw[bz,ce hl]at this;exact this)
theorem zjk{x:List Nat}(h:zbT x=true):((∀c∈(fG x).1,bD c=true)/\(fG x).1≠[]/\(fG x).1.length<=12)/\((∀c∈(fG x).2.1,bD c=true)/\(fG x).2.1≠[]/\(fG x).2.1.length<=12):=by
 have hn:=zjl h
 have ha:=fA bD 6 x
 have hb:=fA (· ==63) (6 - cH x) (x.drop (cH x))
 have l1:(x.take (cH x)).length<=6:=by rw[bz];exact af (fw _ _) ha.1
 have hb6:j0 x<=6:=af hb.1 (Nat.sub_le _ _)
 unfold fG
 by_cases q:j0 x=0
 ·have hA:cH x≠0:=hn.elim id λh=>absurd q h
  have A:(∀c∈x.take (cH x),bD c=true)/\x.take (cH x)≠[]/\(x.take (cH x)).length<=12:=⟨mN,zbr hA ha.2,af l1 (by decide)⟩
  rw[if_pos q]
  split
  ·rename_i hc
   have hh:=fA bD 6 (x.drop (cH x+1))
   refine⟨A,mN,zbr ?_ hh.2,?_⟩
   ·cases e:x.drop (cH x+1)with
    |nil=>replace hc:=e▸hc;cases hc.2
    |cons c r=>
     replace hc:=e▸hc
     have h2:bD c=true:=hc.2
     rw[gI,if_pos h2];exact Nat.succ_ne_zero _
   ·show((x.drop (cH x+1)).take (gV bD 6 (x.drop (cH x+1)))).length<=12
    rw[bz];exact af (fw _ _) (af hh.1 (by decide))
  ·exact⟨A,A⟩
 ·rw[if_neg q]
  have L:∀c,(x.take (cH x)++au (j0 x) c).length<=12:=λc=>by rw[bj,ja];exact ft l1 hb6
  exact⟨⟨vZ mN (uQ rfl),zgq q,L _⟩,vZ mN (uQ rfl),zgq q,L _⟩
theorem zjX{C:Ctx}{H:Kn}{e:Expr}{J:St}{i j:Int}(h:i=j)(k:ev C H e J (.int i)):ev C H e J (.int j):=h▸k
theorem zi5{C:Ctx}{H:Kn}{e:Expr}{J:St}{b b':Bool}(h:b=b')(k:tv C H e J b):tv C H e J b':=h▸k
theorem zgl{K:St->Prop}{Q:Fl->St->Prop}{J:St}(h:K J):cG K Q .next J:=h
theorem zkT{p a l:Nat}:min (p+6) l - (p+a)=min (6 - a) (l - (p+a)):=by
 rw[<- gm,Nat.add_sub_add_left]
theorem uK(a b:Nat):((a+b:Nat):Int) - (a:Nat)=(b:Nat):=(congrArg (λn:Nat=>(n:Int) - a) (bn a b)).trans (il b a)
theorem zeG(U:List Nat)(pos:Nat)(K:PV->Prop)(hx:U.length<1000000)(ha:Al U)(hp:pos<=U.length)(hs:zbT (U.drop pos)=true)
  (hK:K (.tup [.int (gL (fG (U.drop pos)).1:Nat),.int (gL (fG (U.drop pos)).2.1:Nat),.int ((pos+(fG (U.drop pos)).2.2:Nat))])):
  wSs cD (cV (aK H0 677)) (aV H0 677) (gQ K) ⟨bB [("css",.str U),("pos",.int pos)] (λ_=>none),λ_=>none⟩:=by
 have M:=qX
 have hx2:=ar hx (show 1000000<2000000 by decide)
 have hok:=zjk hs
 clear hs
 have e1:gV bD (min (pos+6) U.length - pos) (U.drop pos)=cH (U.drop pos):=by
  rw[show min (pos+6) U.length - pos=min 6 (U.drop pos).length by rw[bv,<- gm,bx],pN];rfl
 have e2:gV (· ==63) (min (pos+6) U.length - (pos+cH (U.drop pos))) (U.drop (pos+cH (U.drop pos)))=j0 (U.drop pos):=by
  unfold j0
  rw[dk,<- pN _ (6 - cH (U.drop pos)),bv]
  rw[zkT]
 have lA:=fA bD 6 (U.drop pos)
 have lB:=fA (· ==63) (6 - cH (U.drop pos)) ((U.drop pos).drop (cH (U.drop pos)))
 have hA:pos+cH (U.drop pos)<=U.length:=aZ hp lA.2
 have hA6:cH (U.drop pos)<=6:=lA.1
 have hB:pos+cH (U.drop pos)+j0 (U.drop pos)<=U.length:=aZ hA (by have:=lB.2;unfold j0;rw[dk]at this ⊢;exact this)
 have hB6:j0 (U.drop pos)<=6:=af lB.1 (Nat.sub_le _ _)
 have hD:fG (U.drop pos)=if j0 (U.drop pos)=0 then(if U[pos+cH (U.drop pos)]?=some 45/\(U[pos+cH (U.drop pos)+1]?).any bD=true then((U.drop pos).take (cH (U.drop pos)),(U.drop (pos+cH (U.drop pos)+1)).take (gV bD 6 (U.drop (pos+cH (U.drop pos)+1))),cH (U.drop pos)+1+gV bD 6 (U.drop (pos+cH (U.drop pos)+1)))else((U.drop pos).take (cH (U.drop pos)),(U.drop pos).take (cH (U.drop pos)),cH (U.drop pos)))
   else((U.drop pos).take (cH (U.drop pos))++au (j0 (U.drop pos)) 48,(U.drop pos).take (cH (U.drop pos))++au (j0 (U.drop pos)) 70,cH (U.drop pos)+j0 (U.drop pos)):=by
  unfold fG
  rw[dk,dk,bZ,bZ];rfl
 have l1:((U.drop pos).take (cH (U.drop pos))).length<=6:=by rw[bz];exact af (fw _ _) hA6
 clear lA lB
 generalize fG (U.drop pos)=D at hK hok hD
 generalize cH (U.drop pos)=A at e1 e2 hA hA6 hB hD l1
 generalize j0 (U.drop pos)=B at e2 hB hB6 hD
 have hex:∀(ρ:fD) (σ:Nat->Option Cell) (j c:Nat) (p1 p2 p3 p4 p5:Pos) (k:Nat),ρ "css"=some (.str U)->U[j]?=some c->tv cD (cV (aK H0 677)) (.Compare (.Subscript (.Name "css" p1) (.Name "pos" p2) p3) [.In] [.Constant (.str (ae "0123456789abcdefABCDEF")) k p4] p5) ⟨upd ρ "pos" (.int j),σ⟩ (bD c):=
  λρ σ j c p1 p2 p3 p4 p5 k h h'=>zcn (ha.at h')▸aS M (dE M (bR M rfl (aE (v:=.str U) ⋯ (show(if ae "css"=ae "pos"then some (PV.int j)else ρ "css")=some (.str U)by rw[if_neg (by rw[sEq];decide)];exact h)) (aE (v:=.int j) ⋯ (show(if ae "pos"=ae "pos"then some (PV.int j)else ρ "pos")=some (.int j)from if_pos rfl)) h'))
 (apply nfe;case h=>(show ?ya7=?yb7;refine(?_:∀_:(?ya7=?yb7),(?ya7=?yb7)) ?_;rotate_left;(conv=>lhs;whnf;dsimp only[lU,erS,erE,fF,erO]);exactλ_=>by kernel_rfl!))
 refine aA (aH M (.int U.length) (cQ M ⋯ rfl rfl ∅ aD) ∅ ?_)
 refine aA (aH M (.int pos) aD ∅ ?_)
 refine aA (aH M (.int (min (pos+6) U.length:Nat)) (zgH (x:="x") (y:="y") (p1:=P0) (p3:=P0) M ⋯ rfl rfl ∅ (aP (i:=pos) (j:=6) M aD (aB rfl)) aD) ∅ ?_)
 have hm:min (pos+6) U.length<=U.length:=du _ _
 have hmp:pos+A<=min (pos+6) U.length:=Nat.le_min.mpr ⟨cc hA6 _,hA⟩
 generalize min (pos+6) U.length=m at e1 e2 hm hmp
 refine aA (zhy M bD ⋯ ⋯ (by rw[Ne,sEq];decide) ⋯ ⋯ hm (af (am _ _) hmp) (λj c h=>hex _ _ j c _ _ _ _ _ _ ⋯ h) ?_)
 rw[e1]
 have hS:(U.drop pos).take (pos+A - pos)=(U.drop pos).take A:=by rw[bx]
 refine aA (aH M (.str ((U.drop pos).take A)) (hS▸gW M aD aD aD (am _ _) (ai hA hx2)) ∅ ?_)
 refine aA (aH M (.int (pos+A:Nat)) aD ∅ ?_)
 refine aA (zhy M (· ==63) ⋯ ⋯ (by rw[Ne,sEq];decide) ⋯ ⋯ hm hmp (λj c h=>aS M (cS M (bR M rfl aD aD h) ∅)) ?_)
 rw[e2]
 refine zgl ?_
 refine aA (aH M (.int B) (zjX (uK (pos+A) B) (yB (i:=(pos+A+B:Nat)) (j:=(pos+A:Nat)) M aD aD)) ∅ ?_)
 refine c8 M (λJ=>dJ [("start",.str D.1),("end",.str D.2.1),("pos",.int (pos+D.2.2:Nat))] J.ρ) (bI M (decide ((B:Int)≠0)) (zhg M (v:=.int B) aD rfl) (λh=>?_) (λh=>?_)) ?_
 ·have hB0:B≠0:=λe=>of_decide_eq_true h (by rw[e];rfl)
  rw[if_neg hB0]at hD
  subst hD
  refine aA (aH M (.str ((U.drop pos).take A++au B 70)) (qR M aD (zdl M (aB rfl) aD (af hB6 (by decide))) (by rw[ja];exact af (ft l1 hB6) (by decide))) ∅ ?_)
  refine aA (aH M (.str ((U.drop pos).take A++au B 48)) (qR M aD (zdl M (aB rfl) aD (af hB6 (by decide))) (by rw[ja];exact af (ft l1 hB6) (by decide))) ∅ ?_)
  refine(?_:dJ [("start",_),("end",_),("pos",.int (pos+(A+B):Nat))] _)
  rw[<- bl]
  walk_at "co"
 ·have hB0:B=0:=Int.ofNat_eq_zero.mp (Decidable.not_not.mp (of_decide_eq_false h))
  subst hB0
  rw[if_pos rfl]at hD
  have hc:∀q,(decide (pos+A+0+1<U.length)&&(decide (U[pos+A]?=some 45)&&(U[pos+A+1]?).any bD))=q->(q=true↔U[pos+A]?=some 45/\(U[pos+A+1]?).any bD=true):=λq e=>by
   subst e
   rw[ag,ag,decide_eq_true_eq,decide_eq_true_eq]
   refine⟨λh=>h.2,λh=>⟨?_,h⟩⟩
   refine fc λg=>?_
   rw[bt (show U.length<=pos+A+1 from g)]at h
   cases h.2
  refine aA (bI M (decide (pos+A+0+1<U.length)&&(decide (U[pos+A]?=some 45)&&(U[pos+A+1]?).any bD)) (bS M (aS M (fC M (aP (i:=(pos+A+0:Nat)) (j:=1) M aD (aB rfl)) aD)) λh=>?_) (λh=>?_) (λh=>?_))
  ·have h:=of_decide_eq_true h
   have g1:U[pos+A]?=some U[pos+A]:=ah (fg h)
   have g2:U[pos+A+1]?=some U[pos+A+1]:=ah h
   have d1:decide (U[pos+A]?=some 45)=decide (U[pos+A]=45):=by rw[g1];exact decide_eq_decide.mpr ⟨λh=>Option.some.inj h,λh=>congrArg some h⟩
   rw[d1,g2]
   exact bS M (aS M (cS M (bR (n:=pos+A) M rfl aD aD g1) ∅)) λ_=>bJ (zi5 (zcn (ha.at g2)) (aS M (dE M (bR (n:=pos+A+1) M rfl aD (aP (i:=(pos+A+0:Nat)) (j:=1) M aD (aB rfl)) g2))))
  ·rw[if_pos ((hc _ rfl).mp h)]at hD
   subst hD
   have hl:pos+A+1<U.length:=of_decide_eq_true (ag.mp h).1
   refine aA (b8 M (.int (pos+A+0:Nat)) (.int 1) ⋯ (aB rfl) ∅ (of_eq bM ?_))
   refine aA (aH M (.int (pos+A+1:Nat)) aD ∅ ?_)
   refine aA (aH M (.int (min (pos+A+1+6) U.length:Nat)) (zgH (x:="x") (y:="y") (p1:=P0) (p3:=P0) M ⋯ rfl rfl ∅ (aP (i:=(pos+A+1:Nat)) (j:=6) M aD (aB rfl)) aD) ∅ ?_)
   have e3:gV bD (min (pos+A+1+6) U.length - (pos+A+1)) (U.drop (pos+A+1))=gV bD 6 (U.drop (pos+A+1)):=by
    rw[show min (pos+A+1+6) U.length - (pos+A+1)=min 6 (U.drop (pos+A+1)).length by rw[bv,<- gm,bx],pN]
   have lC:=(fA bD 6 (U.drop (pos+A+1))).2
   have hC:=aZ (n:=pos+A+1) (aq hl) lC
   refine aA (zhy (e:=pos+A+1) (z:=min (pos+A+1+6) U.length) (x:=U) M bD ⋯ ⋯ (by rw[Ne,sEq];decide) ⋯ ⋯ (du _ _) (Nat.le_min.mpr ⟨am _ _,aq hl⟩) (λj c h=>hex _ _ j c _ _ _ _ _ _ ⋯ h) ?_)
   rw[e3]
   refine zgl ?_
   generalize gV bD 6 (U.drop (pos+A+1))=Z at hC
   have hS:(U.drop (pos+A+1)).take (pos+A+1+Z - (pos+A+1))=(U.drop (pos+A+1)).take Z:=by rw[bx]
   refine aA (aH M (.str ((U.drop (pos+A+1)).take Z)) (hS▸gW M aD aD aD (am _ _) (ai hC hx2)) ∅ ?_)
   refine(?_:dJ [("start",_),("end",_),("pos",.int (pos+(A+1+Z):Nat))] _)
   rw[<- bl,<- bl]
   walk_at "co"
  ·rw[if_neg (λg=>by rw[(hc _ rfl).mpr g]at h;cases h)]at hD
   subst hD
   exact aA (aH M (.str ((U.drop pos).take A)) aD ∅ (by walk_at "co"))
 ·refineλJ h1=>eJ h1 ?_
  have n1:=uZ hok.1.1
  have n2:=uZ hok.2.1
  exact aA (aM M (.tup [.int (gL D.1:Nat),.int (gL D.2.1:Nat),.int ((pos+D.2.2:Nat))]) (bH M (aC M (yH M ⋯ rfl rfl ∅ aD hok.1.2.1 (af hok.1.2.2 (by decide)) n1) (aC M (yH M ⋯ rfl rfl ∅ aD hok.2.2.1 (af hok.2.2.2 (by decide)) n2) (aC M aD aG)))) ⟨_,aQ _ _ rfl,hK⟩)
noncomputable def zf5:Fn:=λps K=>∃(U:List Nat) (pos:Nat),ps=[.str U,.int pos]/\U.length<1000000/\Al U/\pos<=U.length/\zbT (U.drop pos)=true/\K (.tup [.int (gL (fG (U.drop pos)).1:Nat),.int (gL (fG (U.drop pos)).2.1:Nat),.int ((pos+(fG (U.drop pos)).2.2:Nat))])
theorem zaK:aW zf5:=λ_ _ _ h=>e2 λ_ _=>c5 (h _)
theorem zcv(hB:BsOk (bs w.params h mb))(hmb:HMb mb):Meets prog w (bs w.params h mb) 1 (.ref 677) zf5:=by
 have hC:CtxOk prog w (bs w.params h mb) cD 0:=c7 hmb (by simp) (by simp) (by simp) (by simp) (by simp) (by simp)
 refine aU (k:=2) (params:=["css","pos"]) (dv:=[]) (dp:=[]) hB hC ∅ ∅ ∅ rfl (λ_=>.nil) (λS vals hl=>?_) λps K=>x2 λU pos=>a6 λh1 h2 h3 h5 h6 h4=>?_
 ·refine x2 (λa b zr2=>?_) (fL hl);subst zr2
  kernel_rfl
 ·subst h1
  exact⟨rfl,zeG U pos K h2 h3 h5 h6 h4⟩
noncomputable def cR:Ctx:=mkC [] [] false [] []
theorem ziu:CtxMono cR:=bN (by simp) (by simp)
theorem lG:aW oA:=λ_ _ _ h=>e1 λ_=>c2 (h _)
theorem sI(hB:BsOk (bs w.params h mb))(hmb:HMb mb):Meets prog w (bs w.params h mb) 1 (.ref 26) oA:=by
 refine x1 (λfd=>a3 λh1 h2 h3=>?_) (g9 (K:=HK w.params) (a:=26) ∅)
 have hl:fd.scope.names.lookup (ae "text")=some NameKind.local:=by rw[h3];kernel_rfl
 conv at h1=>arg 4;whnf
 refine zcK (n:=0) (v:=ae "text") (c:=ae "c") hB h1 rfl (by decide+kernel) (by decide+kernel) rfl (by decide+kernel) ∅ (λenv C hE=>?_) hl (by decide+kernel) (λs vals X hl=>?_)
 ·exact zhP rfl ∅ (by decide+kernel) ⋯ ⋯ (show h.Ns env.globals _ by rw[hE.glob];exact hB.g) (show h.Ns env.builtins _ by rw[hE.bi];exact hB.b) (show mgK w.params _=_ by kernel_rfl) ((hmb _ (by rw[Ne,sEq];decide)).trans ∅) (show mgK w.params _=_ by kernel_rfl) ((hmb _ (by rw[Ne,sEq];decide)).trans ∅)
 ·refine kp_binds X λS=>?_
  refine x1 (λa zr1=>?_) (iF hl);subst zr1
  have:(sY (HK w.params) 26).map (λfd=>peek (HK w.params) S (bindArgs fd ⟨[a],[]⟩))=some (some ((["text"].map ae).zip [a])):=by kernel_rfl
  rw[h2]at this
  refine(?_:peek (HK w.params) S _=_)
  simpa using this
theorem dQ{n k m:Nat}{C:Ctx}{Ca fI:Addr}{params:List String}{F:Fn}(hB:BsOk (bs w.params h mb))(hC:CtxOk prog w (bs w.params h mb) C n)
  (hm:makesIn (HK w.params) Ca=true) (hin:findIn (HK w.params) (.ref Ca) "__init__"=some (some (.ref fI))) (hty:typeIn (HK w.params) (.ref fI)=some (.type "function")) (hkp:keepIn (HK w.params) (.ref Ca)=true)
  (hf:x8 (HK w.params) fI=true) (hok:r8 (aV H0 fI)=true)
  (hpar:(params.all λx=>(aK H0 fI).lookup (ae x)==some .local||(aK H0 fI).lookup (ae x)==some .cell)=true)
  (hlen:params.length=k+1)
  (hbind:∀S vals,vals.length=k+1->(sY (HK w.params) fI).map (λfd=>peek (HK w.params) S (bindArgs fd ⟨vals,[]⟩))=some (some ((params.map ae).zip vals)))
  (hF:∀ps K,F ps K->ps.length=k/\∀x:Nat,wSs C (cV (aK H0 fI)) (aV H0 fI) (nR λp σ'=>p=.none/\∃fs:List PV,σ' x=some (.ins Ca (fs.map some))/\K (.inst Ca fs))
   ⟨bB ((params.map ae).zip (.ptr x ::ps)) λ_=>none,bE (λ_=>none) x (.ins Ca (au m none))⟩):
  Meets prog w (bs w.params h mb) (n+2) (.ref Ca) F:=by
 refine x1 (λfd=>a3 λh1 h2 h3=>?_) (g9 hf)
 rw[(at0 _ _).1]at h3
 rw[(at0 _ _).2]at h1
 have hk:KeepsAt prog w h (.ref Ca):=by
  refine x1 (λq=>a2 λ_ e=>?_) (looks_keep (M:=model prog w) hkp (show(HK w.params).In h from hB.kin))
  exact⟨q,e⟩
 refine(zdA (C:=C) (params:=params.map ae) (k:=k) (m:=m) hB hC hm hin hty hk h1 hok (λx hx=>?_) (by simpa using hlen) (λs vals X hl=>?_)).weaken λps K hp=>?_
 ·refine x1 (λy=>a2 λhy zr2=>?_) (jj.mp hx);subst zr2
  have:=ay.mp hpar y hy
  refine h3.symm▸?_
  simpa using this
 ·refine kp_binds X λS=>?_
  have:=hbind S vals hl
  rw[h2]at this
  refine(?_:peek (HK w.params) S _=_)
  simpa using this
 ·refine h3.symm▸?_;exact hF ps K hp
theorem zcc{C:Ctx}(hB:BsOk (bs w.params h mb))(hmb:HMb mb)(hs:C.slot=cR.slot):y4 prog w (bs w.params h mb) C 1:=by
 have hC:CtxOk prog w (bs w.params h mb) cR 0:=c7 hmb (by simp) (by simp) (by simp) (by simp) (by simp) (by simp)
 refine x1 (λfd=>a3 λh1 h2 h3=>?_) (g9 (K:=HK w.params) (a:=56) ∅)
 rw[(at0 _ _).1]at h3
 rw[(at0 _ _).2]at h1
 refine zhZ (Cn:=74) (f:=56) (mc:=.type "type") (params:=["self","source_line","source_column"].map ae) hB hC ∅ ∅ ∅ ∅ h1 ∅ (λx hx=>?_) rfl (λs vals X hl=>?_) λad pa pb J K hK=>?_
 ·rw[h3]
  have:∀x∈["self","source_line","source_column"].map ae,(aK H0 56).lookup x=some .local:=by
   intro x hx
   simp only[cf,jh,bb,bu,or_false]at hx
   rcases hx with rfl|rfl|rfl<;>kernel_rfl
  exact .inl (this x hx)
 ·refine kp_binds X λS=>?_
  refine x3 (λa b c zr3=>?_) (eF hl);subst zr3
  have:(sY (HK w.params) 56).map (λfd=>peek (HK w.params) S (bindArgs fd ⟨[a,b,c],[]⟩))=some (some ((["self","source_line","source_column"].map ae).zip [a,b,c])):=by kernel_rfl
  rw[h2]at this
  refine(?_:peek (HK w.params) S _=_)
  simpa using this
 ·rw[h3]
  obtain⟨c,fs,i,g1,g2,g3,c',fs',j,g4,g5,g6,g7⟩:=hK
  rw[hs]at g2 g5
  (apply nfe;case h=>(show ?ya8=?yb8;refine(?_:∀_:(?ya8=?yb8),(?ya8=?yb8)) ?_;rotate_left;(conv=>lhs;whnf;dsimp only[lU,erS,erE,fF,erO]);exactλ_=>by kernel_rfl!))
  conv in(aK _ _)=>whnf
  have M:=ziu
  refine aA (dC M pa ?_ ⋯ g1 g2 g3 ?_)
  ·exact aE ⋯ ⋯
  refine aA (dC M pb ?_ ⋯ g4 g5 g6 ?_)
  ·exact aE ⋯ ⋯
  dsimp only[cG]
  refine aX ⟨rfl,g7⟩
noncomputable def cT:Ctx:=mkC [("ascii_lower",oA)] [] true [] []
theorem dR:CtxMono cT:=bN (by simp[lG]) (by simp)
theorem iN(hB:BsOk (bs w.params h mb))(hmb:HMb mb):CtxOk prog w (bs w.params h mb) cT 1:=
 c7 hmb (by simp[lG]) (by simp) (by simp) (λe he=>by
  simp only[be]at he;subst he
  exact⟨.ref 26,by kernel_rfl,sI hB hmb⟩) (by simp) (λ_=>zcc hB hmb rfl)
noncomputable def sR:PV->Option Bool
 |.none=>some false
 |.int _=>some true
 |_=>none
theorem vQ{C:Ctx}{H:Kn}{e:Expr}{p p2:Pos}{k:Nat}{J:St}{v:PV}{b:Bool}(M:CtxMono C)(hb:sR v=some b)(h:ev C H e J v):ev C H (.Compare e [.IsNot] [.Constant .none k p] p2) J (.bool b):=by
 refine bL M h (aB rfl) ?_
 cases v<;>cases hb<;>rfl
noncomputable def tT:Fn:=λps K=>∃(vl:PV) (vk:PV) (vd:PV) (vm:PV),ps=[vl,vk,vd,vm]/\K (.inst 104 [vd,vm,vk,vl])
theorem wD:aW tT:=λ_ _ _ h=>e4 λ_ _ _ _=>c1 (h _)
theorem zbn(vl:PV)(vk:PV)(vd:PV)(vm:PV)(K:PV->Prop)(x:Nat)(hK:K (.inst 104 [vd,vm,vk,vl])):
  wSs cT (cV (aK H0 93)) (aV H0 93) (nR λp σ'=>p=.none/\∃fs:List PV,σ' x=some (.ins 104 (fs.map some))/\K (.inst 104 fs))
   ⟨bB ((["self","line","column","kind","message"].map ae).zip (.ptr x ::[vl,vk,vd,vm])) λ_=>none,bE (λ_=>none) x (.ins 104 (au 4 none))⟩:=by
 have M:=dR
 (apply nfe;case h=>(show ?ya9=?yb9;refine(?_:∀_:(?ya9=?yb9),(?ya9=?yb9)) ?_;rotate_left;(conv=>lhs;whnf;dsimp only[lU,erS,erE,fF,erO]);exactλ_=>by kernel_rfl!))
 conv in(aK _ _)=>whnf
 refine aA (eU (a:=x) (c:=104) (fs:=au 4 none) (i:=3) (j:=2) M vl vk rfl (by decide+kernel) ?_ ?_ ?_ (by dsimp only;exact aN _ _ _) (by decide+kernel) (by simp) (by decide+kernel) (by simp) ?_)
 ·(first |exact aB rfl|exact aE ⋯ ⋯)
 ·(first |exact aB rfl|exact aE ⋯ ⋯)
 ·(first |exact aB rfl|exact aE ⋯ ⋯)
 refine aA (dC (a:=x) (c:=104) (i:=0) M vd ?_ ⋯ (aN _ _ _) (by decide+kernel) (by simp) ?_)
 ·(first |exact aB rfl|exact aE ⋯ ⋯)
 refine aA (dC (a:=x) (c:=104) (i:=1) M vm ?_ ⋯ (aN _ _ _) (by decide+kernel) (by simp) ?_)
 ·(first |exact aB rfl|exact aE ⋯ ⋯)
 (repeat(first |refine aX ?_|dsimp only[cG]))
 exact⟨rfl,[vd,vm,vk,vl],by dsimp only;rw[aN];rfl,hK⟩
theorem zac(hB:BsOk (bs w.params h mb))(hmb:HMb mb):Meets prog w (bs w.params h mb) 3 (.ref 104) tT:=by
 refine dQ (k:=4) (m:=4) (fI:=93) (params:=["self","line","column","kind","message"]) hB (iN hB hmb) ∅ ∅ ∅ ∅ ∅ ∅ ∅ rfl (λS vals hl=>?_) λps K=>x4 λvl vk vd vm=>a2 λh1 hk=>?_
 ·refine x5 (λa b c d e zr5=>?_) (zh8 hl);subst zr5
  kernel_rfl
 ·subst h1
  exact⟨rfl,λx=>zbn vl vk vd vm K x hk⟩
noncomputable def tU:Fn:=λps K=>∃(vl:PV) (vk:PV) (vv:PV),ps=[vl,vk,vv]/\K (.inst 134 [vv,vk,vl])
theorem wH:aW tU:=λ_ _ _ h=>e3 λ_ _ _=>c1 (h _)
theorem zbq(vl:PV)(vk:PV)(vv:PV)(K:PV->Prop)(x:Nat)(hK:K (.inst 134 [vv,vk,vl])):
  wSs cT (cV (aK H0 123)) (aV H0 123) (nR λp σ'=>p=.none/\∃fs:List PV,σ' x=some (.ins 134 (fs.map some))/\K (.inst 134 fs))
   ⟨bB ((["self","line","column","value"].map ae).zip (.ptr x ::[vl,vk,vv])) λ_=>none,bE (λ_=>none) x (.ins 134 (au 3 none))⟩:=by
 have M:=dR
 (apply nfe;case h=>(show ?ya10=?yb10;refine(?_:∀_:(?ya10=?yb10),(?ya10=?yb10)) ?_;rotate_left;(conv=>lhs;whnf;dsimp only[lU,erS,erE,fF,erO]);exactλ_=>by kernel_rfl!))
 conv in(aK _ _)=>whnf
 refine aA (eU (a:=x) (c:=134) (fs:=au 3 none) (i:=2) (j:=1) M vl vk rfl (by decide+kernel) ?_ ?_ ?_ (by dsimp only;exact aN _ _ _) (by decide+kernel) (by simp) (by decide+kernel) (by simp) ?_)
 ·(first |exact aB rfl|exact aE ⋯ ⋯)
 ·(first |exact aB rfl|exact aE ⋯ ⋯)
 ·(first |exact aB rfl|exact aE ⋯ ⋯)
 refine aA (dC (a:=x) (c:=134) (i:=0) M vv ?_ ⋯ (aN _ _ _) (by decide+kernel) (by simp) ?_)
 ·(first |exact aB rfl|exact aE ⋯ ⋯)
 (repeat(first |refine aX ?_|dsimp only[cG]))
 exact⟨rfl,[vv,vk,vl],by dsimp only;rw[aN];rfl,hK⟩
theorem zaf(hB:BsOk (bs w.params h mb))(hmb:HMb mb):Meets prog w (bs w.params h mb) 3 (.ref 134) tU:=by
 refine dQ (k:=3) (m:=3) (fI:=123) (params:=["self","line","column","value"]) hB (iN hB hmb) ∅ ∅ ∅ ∅ ∅ ∅ ∅ rfl (λS vals hl=>?_) λps K=>x3 λvl vk vv=>a2 λh1 hk=>?_
 ·refine x4 (λa b c d zr4=>?_) (zfj hl);subst zr4
  kernel_rfl
 ·subst h1
  exact⟨rfl,λx=>zbq vl vk vv K x hk⟩
noncomputable def zf1:Fn:=λps K=>∃(vl:PV) (vk:PV) (vv:PV),ps=[vl,vk,vv]/\K (.inst 163 [vv,vk,vl])
theorem zaG:aW zf1:=λ_ _ _ h=>e3 λ_ _ _=>c1 (h _)
theorem zd8(vl:PV)(vk:PV)(vv:PV)(K:PV->Prop)(x:Nat)(hK:K (.inst 163 [vv,vk,vl])):
  wSs cT (cV (aK H0 152)) (aV H0 152) (nR λp σ'=>p=.none/\∃fs:List PV,σ' x=some (.ins 163 (fs.map some))/\K (.inst 163 fs))
   ⟨bB ((["self","line","column","value"].map ae).zip (.ptr x ::[vl,vk,vv])) λ_=>none,bE (λ_=>none) x (.ins 163 (au 3 none))⟩:=by
 have M:=dR
 (apply nfe;case h=>(show ?ya11=?yb11;refine(?_:∀_:(?ya11=?yb11),(?ya11=?yb11)) ?_;rotate_left;(conv=>lhs;whnf;dsimp only[lU,erS,erE,fF,erO]);exactλ_=>by kernel_rfl!))
 conv in(aK _ _)=>whnf
 refine aA (eU (a:=x) (c:=163) (fs:=au 3 none) (i:=2) (j:=1) M vl vk rfl (by decide+kernel) ?_ ?_ ?_ (by dsimp only;exact aN _ _ _) (by decide+kernel) (by simp) (by decide+kernel) (by simp) ?_)
 ·(first |exact aB rfl|exact aE ⋯ ⋯)
 ·(first |exact aB rfl|exact aE ⋯ ⋯)
 ·(first |exact aB rfl|exact aE ⋯ ⋯)
 refine aA (dC (a:=x) (c:=163) (i:=0) M vv ?_ ⋯ (aN _ _ _) (by decide+kernel) (by simp) ?_)
 ·(first |exact aB rfl|exact aE ⋯ ⋯)
 (repeat(first |refine aX ?_|dsimp only[cG]))
 exact⟨rfl,[vv,vk,vl],by dsimp only;rw[aN];rfl,hK⟩
theorem zcq(hB:BsOk (bs w.params h mb))(hmb:HMb mb):Meets prog w (bs w.params h mb) 3 (.ref 163) zf1:=by
 refine dQ (k:=3) (m:=3) (fI:=152) (params:=["self","line","column","value"]) hB (iN hB hmb) ∅ ∅ ∅ ∅ ∅ ∅ ∅ rfl (λS vals hl=>?_) λps K=>x3 λvl vk vv=>a2 λh1 hk=>?_
 ·refine x4 (λa b c d zr4=>?_) (zfj hl);subst zr4
  kernel_rfl
 ·subst h1
  exact⟨rfl,λx=>zd8 vl vk vv K x hk⟩
noncomputable def iS:Fn:=λps K=>∃(vl:PV) (vk:PV) (vv:PV),ps=[vl,vk,vv]/\K (.inst 206 [vv,vk,vl])
theorem wC:aW iS:=λ_ _ _ h=>e3 λ_ _ _=>c1 (h _)
theorem zbl(vl:PV)(vk:PV)(vv:PV)(K:PV->Prop)(x:Nat)(hK:K (.inst 206 [vv,vk,vl])):
  wSs cT (cV (aK H0 181)) (aV H0 181) (nR λp σ'=>p=.none/\∃fs:List PV,σ' x=some (.ins 206 (fs.map some))/\K (.inst 206 fs))
   ⟨bB ((["self","line","column","value"].map ae).zip (.ptr x ::[vl,vk,vv])) λ_=>none,bE (λ_=>none) x (.ins 206 (au 3 none))⟩:=by
 have M:=dR
 (apply nfe;case h=>(show ?ya12=?yb12;refine(?_:∀_:(?ya12=?yb12),(?ya12=?yb12)) ?_;rotate_left;(conv=>lhs;whnf;dsimp only[lU,erS,erE,fF,erO]);exactλ_=>by kernel_rfl!))
 conv in(aK _ _)=>whnf
 refine aA (eU (a:=x) (c:=206) (fs:=au 3 none) (i:=2) (j:=1) M vl vk rfl (by decide+kernel) ?_ ?_ ?_ (by dsimp only;exact aN _ _ _) (by decide+kernel) (by simp) (by decide+kernel) (by simp) ?_)
 ·(first |exact aB rfl|exact aE ⋯ ⋯)
 ·(first |exact aB rfl|exact aE ⋯ ⋯)
 ·(first |exact aB rfl|exact aE ⋯ ⋯)
 refine aA (dC (a:=x) (c:=206) (i:=0) M vv ?_ ⋯ (aN _ _ _) (by decide+kernel) (by simp) ?_)
 ·(first |exact aB rfl|exact aE ⋯ ⋯)
 (repeat(first |refine aX ?_|dsimp only[cG]))
 exact⟨rfl,[vv,vk,vl],by dsimp only;rw[aN];rfl,hK⟩
theorem zab(hB:BsOk (bs w.params h mb))(hmb:HMb mb):Meets prog w (bs w.params h mb) 3 (.ref 206) iS:=by
 refine dQ (k:=3) (m:=3) (fI:=181) (params:=["self","line","column","value"]) hB (iN hB hmb) ∅ ∅ ∅ ∅ ∅ ∅ ∅ rfl (λS vals hl=>?_) λps K=>x3 λvl vk vv=>a2 λh1 hk=>?_
 ·refine x4 (λa b c d zr4=>?_) (zfj hl);subst zr4
  kernel_rfl
 ·subst h1
  exact⟨rfl,λx=>zbl vl vk vv K x hk⟩
noncomputable def mH:Fn:=λps K=>∃(vl:PV) (vk:PV) (xvalue:List Nat),ps=[vl,vk,(.str xvalue)]/\xvalue.length<1000000/\K (.inst 235 [(.str (xvalue.map fU)),(.str xvalue),vk,vl])
theorem rG:aW mH:=λ_ _ _ h=>e3 λ_ _ _=>c2 (h _)
theorem uI(vl:PV)(vk:PV)(xvalue:List Nat)(K:PV->Prop)(x:Nat)(h2:xvalue.length<1000000)(hK:K (.inst 235 [(.str (xvalue.map fU)),(.str xvalue),vk,vl])):
  wSs cT (cV (aK H0 224)) (aV H0 224) (nR λp σ'=>p=.none/\∃fs:List PV,σ' x=some (.ins 235 (fs.map some))/\K (.inst 235 fs))
   ⟨bB ((["self","line","column","value"].map ae).zip (.ptr x ::[vl,vk,(.str xvalue)])) λ_=>none,bE (λ_=>none) x (.ins 235 (au 4 none))⟩:=by
 have M:=dR
 (apply nfe;case h=>(show ?ya13=?yb13;refine(?_:∀_:(?ya13=?yb13),(?ya13=?yb13)) ?_;rotate_left;(conv=>lhs;whnf;dsimp only[lU,erS,erE,fF,erO]);exactλ_=>by kernel_rfl!))
 conv in(aK _ _)=>whnf
 refine aA (eU (a:=x) (c:=235) (fs:=au 4 none) (i:=3) (j:=2) M vl vk rfl (by decide+kernel) ?_ ?_ ?_ (by dsimp only;exact aN _ _ _) (by decide+kernel) (by simp) (by decide+kernel) (by simp) ?_)
 ·(first |exact aB rfl|exact aE ⋯ ⋯)
 ·(first |exact aB rfl|exact aE ⋯ ⋯)
 ·(first |exact aB rfl|exact aE ⋯ ⋯)
 dsimp only[cG]
 refine aA (dC (a:=x) (c:=235) (i:=1) M (.str xvalue) ?_ ⋯ (aN _ _ _) (by decide+kernel) (by simp) ?_)
 ·(first |exact aB rfl|exact aE ⋯ ⋯)
 dsimp only[cG]
 refine aA (zbO (aA (dC (a:=x) (c:=235) (i:=0) M (.str (xvalue.map fU)) ?_ ⋯ (aN _ _ _) (by decide+kernel) (by simp) ?_)))
 ·exact aR (F:=oA) M ⋯ rfl (aC M (v:=.str xvalue) aD aG) ⟨xvalue,rfl,h2,.inl rfl,rfl⟩
 (repeat(first |refine aX ?_|dsimp only[cG]))
 (repeat(first |refine aX ?_|dsimp only[cG]))
 exact⟨rfl,[(.str (xvalue.map fU)),(.str xvalue),vk,vl],by dsimp only;rw[aN];rfl,hK⟩
theorem sG(hB:BsOk (bs w.params h mb))(hmb:HMb mb):Meets prog w (bs w.params h mb) 3 (.ref 235) mH:=by
 refine dQ (k:=3) (m:=4) (fI:=224) (params:=["self","line","column","value"]) hB (iN hB hmb) ∅ ∅ ∅ ∅ ∅ ∅ ∅ rfl (λS vals hl=>?_) λps K=>x3 λvl vk xvalue=>a3 λh1 h2 hk=>?_
 ·refine x4 (λa b c d zr4=>?_) (zfj hl);subst zr4
  kernel_rfl
 ·subst h1
  exact⟨rfl,λx=>uI vl vk xvalue K x h2 hk⟩
noncomputable def zf3:Fn:=λps K=>∃(vl:PV) (vk:PV) (xvalue:List Nat),ps=[vl,vk,(.str xvalue)]/\xvalue.length<1000000/\K (.inst 265 [(.str (xvalue.map fU)),(.str xvalue),vk,vl])
theorem zaI:aW zf3:=λ_ _ _ h=>e3 λ_ _ _=>c2 (h _)
theorem zec(vl:PV)(vk:PV)(xvalue:List Nat)(K:PV->Prop)(x:Nat)(h2:xvalue.length<1000000)(hK:K (.inst 265 [(.str (xvalue.map fU)),(.str xvalue),vk,vl])):
  wSs cT (cV (aK H0 254)) (aV H0 254) (nR λp σ'=>p=.none/\∃fs:List PV,σ' x=some (.ins 265 (fs.map some))/\K (.inst 265 fs))
   ⟨bB ((["self","line","column","value"].map ae).zip (.ptr x ::[vl,vk,(.str xvalue)])) λ_=>none,bE (λ_=>none) x (.ins 265 (au 4 none))⟩:=by
 have M:=dR
 (apply nfe;case h=>(show ?ya14=?yb14;refine(?_:∀_:(?ya14=?yb14),(?ya14=?yb14)) ?_;rotate_left;(conv=>lhs;whnf;dsimp only[lU,erS,erE,fF,erO]);exactλ_=>by kernel_rfl!))
 conv in(aK _ _)=>whnf
 refine aA (eU (a:=x) (c:=265) (fs:=au 4 none) (i:=3) (j:=2) M vl vk rfl (by decide+kernel) ?_ ?_ ?_ (by dsimp only;exact aN _ _ _) (by decide+kernel) (by simp) (by decide+kernel) (by simp) ?_)
 ·(first |exact aB rfl|exact aE ⋯ ⋯)
 ·(first |exact aB rfl|exact aE ⋯ ⋯)
 ·(first |exact aB rfl|exact aE ⋯ ⋯)
 dsimp only[cG]
 refine aA (dC (a:=x) (c:=265) (i:=1) M (.str xvalue) ?_ ⋯ (aN _ _ _) (by decide+kernel) (by simp) ?_)
 ·(first |exact aB rfl|exact aE ⋯ ⋯)
 dsimp only[cG]
 refine aA (zbO (aA (dC (a:=x) (c:=265) (i:=0) M (.str (xvalue.map fU)) ?_ ⋯ (aN _ _ _) (by decide+kernel) (by simp) ?_)))
 ·exact aR (F:=oA) M ⋯ rfl (aC M (v:=.str xvalue) aD aG) ⟨xvalue,rfl,h2,.inl rfl,rfl⟩
 (repeat(first |refine aX ?_|dsimp only[cG]))
 (repeat(first |refine aX ?_|dsimp only[cG]))
 exact⟨rfl,[(.str (xvalue.map fU)),(.str xvalue),vk,vl],by dsimp only;rw[aN];rfl,hK⟩
theorem zcs(hB:BsOk (bs w.params h mb))(hmb:HMb mb):Meets prog w (bs w.params h mb) 3 (.ref 265) zf3:=by
 refine dQ (k:=3) (m:=4) (fI:=254) (params:=["self","line","column","value"]) hB (iN hB hmb) ∅ ∅ ∅ ∅ ∅ ∅ ∅ rfl (λS vals hl=>?_) λps K=>x3 λvl vk xvalue=>a3 λh1 h2 hk=>?_
 ·refine x4 (λa b c d zr4=>?_) (zfj hl);subst zr4
  kernel_rfl
 ·subst h1
  exact⟨rfl,λx=>zec vl vk xvalue K x h2 hk⟩
noncomputable def rH:Fn:=λps K=>∃(vl:PV) (vk:PV) (vv:PV) (vb:PV),ps=[vl,vk,vv,vb]/\K (.inst 295 [vb,vv,vk,vl])
theorem tS:aW rH:=λ_ _ _ h=>e4 λ_ _ _ _=>c1 (h _)
theorem zF(vl:PV)(vk:PV)(vv:PV)(vb:PV)(K:PV->Prop)(x:Nat)(hK:K (.inst 295 [vb,vv,vk,vl])):
  wSs cT (cV (aK H0 284)) (aV H0 284) (nR λp σ'=>p=.none/\∃fs:List PV,σ' x=some (.ins 295 (fs.map some))/\K (.inst 295 fs))
   ⟨bB ((["self","line","column","value","is_identifier"].map ae).zip (.ptr x ::[vl,vk,vv,vb])) λ_=>none,bE (λ_=>none) x (.ins 295 (au 4 none))⟩:=by
 have M:=dR
 (apply nfe;case h=>(show ?ya15=?yb15;refine(?_:∀_:(?ya15=?yb15),(?ya15=?yb15)) ?_;rotate_left;(conv=>lhs;whnf;dsimp only[lU,erS,erE,fF,erO]);exactλ_=>by kernel_rfl!))
 conv in(aK _ _)=>whnf
 refine aA (eU (a:=x) (c:=295) (fs:=au 4 none) (i:=3) (j:=2) M vl vk rfl (by decide+kernel) ?_ ?_ ?_ (by dsimp only;exact aN _ _ _) (by decide+kernel) (by simp) (by decide+kernel) (by simp) ?_)
 ·(first |exact aB rfl|exact aE ⋯ ⋯)
 ·(first |exact aB rfl|exact aE ⋯ ⋯)
 ·(first |exact aB rfl|exact aE ⋯ ⋯)
 refine aA (dC (a:=x) (c:=295) (i:=1) M vv ?_ ⋯ (aN _ _ _) (by decide+kernel) (by simp) ?_)
 ·(first |exact aB rfl|exact aE ⋯ ⋯)
 refine aA (dC (a:=x) (c:=295) (i:=0) M vb ?_ ⋯ (aN _ _ _) (by decide+kernel) (by simp) ?_)
 ·(first |exact aB rfl|exact aE ⋯ ⋯)
 (repeat(first |refine aX ?_|dsimp only[cG]))
 exact⟨rfl,[vb,vv,vk,vl],by dsimp only;rw[aN];rfl,hK⟩
theorem vA(hB:BsOk (bs w.params h mb))(hmb:HMb mb):Meets prog w (bs w.params h mb) 3 (.ref 295) rH:=by
 refine dQ (k:=4) (m:=4) (fI:=284) (params:=["self","line","column","value","is_identifier"]) hB (iN hB hmb) ∅ ∅ ∅ ∅ ∅ ∅ ∅ rfl (λS vals hl=>?_) λps K=>x4 λvl vk vv vb=>a2 λh1 hk=>?_
 ·refine x5 (λa b c d e zr5=>?_) (zh8 hl);subst zr5
  kernel_rfl
 ·subst h1
  exact⟨rfl,λx=>zF vl vk vv vb K x hk⟩
noncomputable def tR:Fn:=λps K=>∃(vl:PV) (vk:PV) (vv:PV) (vr:PV),ps=[vl,vk,vv,vr]/\K (.inst 325 [vr,vv,vk,vl])
theorem v5:aW tR:=λ_ _ _ h=>e4 λ_ _ _ _=>c1 (h _)
theorem zbe(vl:PV)(vk:PV)(vv:PV)(vr:PV)(K:PV->Prop)(x:Nat)(hK:K (.inst 325 [vr,vv,vk,vl])):
  wSs cT (cV (aK H0 314)) (aV H0 314) (nR λp σ'=>p=.none/\∃fs:List PV,σ' x=some (.ins 325 (fs.map some))/\K (.inst 325 fs))
   ⟨bB ((["self","line","column","value","representation"].map ae).zip (.ptr x ::[vl,vk,vv,vr])) λ_=>none,bE (λ_=>none) x (.ins 325 (au 4 none))⟩:=by
 have M:=dR
 (apply nfe;case h=>(show ?ya16=?yb16;refine(?_:∀_:(?ya16=?yb16),(?ya16=?yb16)) ?_;rotate_left;(conv=>lhs;whnf;dsimp only[lU,erS,erE,fF,erO]);exactλ_=>by kernel_rfl!))
 conv in(aK _ _)=>whnf
 refine aA (eU (a:=x) (c:=325) (fs:=au 4 none) (i:=3) (j:=2) M vl vk rfl (by decide+kernel) ?_ ?_ ?_ (by dsimp only;exact aN _ _ _) (by decide+kernel) (by simp) (by decide+kernel) (by simp) ?_)
 ·(first |exact aB rfl|exact aE ⋯ ⋯)
 ·(first |exact aB rfl|exact aE ⋯ ⋯)
 ·(first |exact aB rfl|exact aE ⋯ ⋯)
 refine aA (dC (a:=x) (c:=325) (i:=1) M vv ?_ ⋯ (aN _ _ _) (by decide+kernel) (by simp) ?_)
 ·(first |exact aB rfl|exact aE ⋯ ⋯)
 refine aA (dC (a:=x) (c:=325) (i:=0) M vr ?_ ⋯ (aN _ _ _) (by decide+kernel) (by simp) ?_)
 ·(first |exact aB rfl|exact aE ⋯ ⋯)
 (repeat(first |refine aX ?_|dsimp only[cG]))
 exact⟨rfl,[vr,vv,vk,vl],by dsimp only;rw[aN];rfl,hK⟩
theorem z5(hB:BsOk (bs w.params h mb))(hmb:HMb mb):Meets prog w (bs w.params h mb) 3 (.ref 325) tR:=by
 refine dQ (k:=4) (m:=4) (fI:=314) (params:=["self","line","column","value","representation"]) hB (iN hB hmb) ∅ ∅ ∅ ∅ ∅ ∅ ∅ rfl (λS vals hl=>?_) λps K=>x4 λvl vk vv vr=>a2 λh1 hk=>?_
 ·refine x5 (λa b c d e zr5=>?_) (zh8 hl);subst zr5
  kernel_rfl
 ·subst h1
  exact⟨rfl,λx=>zbe vl vk vv vr K x hk⟩
noncomputable def tQ:Fn:=λps K=>∃(vl:PV) (vk:PV) (vv:PV) (vr:PV),ps=[vl,vk,vv,vr]/\K (.inst 355 [vr,vv,vk,vl])
theorem v4:aW tQ:=λ_ _ _ h=>e4 λ_ _ _ _=>c1 (h _)
theorem zbb(vl:PV)(vk:PV)(vv:PV)(vr:PV)(K:PV->Prop)(x:Nat)(hK:K (.inst 355 [vr,vv,vk,vl])):
  wSs cT (cV (aK H0 344)) (aV H0 344) (nR λp σ'=>p=.none/\∃fs:List PV,σ' x=some (.ins 355 (fs.map some))/\K (.inst 355 fs))
   ⟨bB ((["self","line","column","value","representation"].map ae).zip (.ptr x ::[vl,vk,vv,vr])) λ_=>none,bE (λ_=>none) x (.ins 355 (au 4 none))⟩:=by
 have M:=dR
 (apply nfe;case h=>(show ?ya17=?yb17;refine(?_:∀_:(?ya17=?yb17),(?ya17=?yb17)) ?_;rotate_left;(conv=>lhs;whnf;dsimp only[lU,erS,erE,fF,erO]);exactλ_=>by kernel_rfl!))
 conv in(aK _ _)=>whnf
 refine aA (eU (a:=x) (c:=355) (fs:=au 4 none) (i:=3) (j:=2) M vl vk rfl (by decide+kernel) ?_ ?_ ?_ (by dsimp only;exact aN _ _ _) (by decide+kernel) (by simp) (by decide+kernel) (by simp) ?_)
 ·(first |exact aB rfl|exact aE ⋯ ⋯)
 ·(first |exact aB rfl|exact aE ⋯ ⋯)
 ·(first |exact aB rfl|exact aE ⋯ ⋯)
 refine aA (dC (a:=x) (c:=355) (i:=1) M vv ?_ ⋯ (aN _ _ _) (by decide+kernel) (by simp) ?_)
 ·(first |exact aB rfl|exact aE ⋯ ⋯)
 refine aA (dC (a:=x) (c:=355) (i:=0) M vr ?_ ⋯ (aN _ _ _) (by decide+kernel) (by simp) ?_)
 ·(first |exact aB rfl|exact aE ⋯ ⋯)
 (repeat(first |refine aX ?_|dsimp only[cG]))
 exact⟨rfl,[vr,vv,vk,vl],by dsimp only;rw[aN];rfl,hK⟩
theorem z4(hB:BsOk (bs w.params h mb))(hmb:HMb mb):Meets prog w (bs w.params h mb) 3 (.ref 355) tQ:=by
 refine dQ (k:=4) (m:=4) (fI:=344) (params:=["self","line","column","value","representation"]) hB (iN hB hmb) ∅ ∅ ∅ ∅ ∅ ∅ ∅ rfl (λS vals hl=>?_) λps K=>x4 λvl vk vv vr=>a2 λh1 hk=>?_
 ·refine x5 (λa b c d e zr5=>?_) (zh8 hl);subst zr5
  kernel_rfl
 ·subst h1
  exact⟨rfl,λx=>zbb vl vk vv vr K x hk⟩
noncomputable def y6:Fn:=λps K=>∃(vl:PV) (vk:PV) (vs:PV) (ve:PV),ps=[vl,vk,vs,ve]/\K (.inst 385 [ve,vs,vk,vl])
theorem v7:aW y6:=λ_ _ _ h=>e4 λ_ _ _ _=>c1 (h _)
theorem zbg(vl:PV)(vk:PV)(vs:PV)(ve:PV)(K:PV->Prop)(x:Nat)(hK:K (.inst 385 [ve,vs,vk,vl])):
  wSs cT (cV (aK H0 374)) (aV H0 374) (nR λp σ'=>p=.none/\∃fs:List PV,σ' x=some (.ins 385 (fs.map some))/\K (.inst 385 fs))
   ⟨bB ((["self","line","column","start","end"].map ae).zip (.ptr x ::[vl,vk,vs,ve])) λ_=>none,bE (λ_=>none) x (.ins 385 (au 4 none))⟩:=by
 have M:=dR
 (apply nfe;case h=>(show ?ya18=?yb18;refine(?_:∀_:(?ya18=?yb18),(?ya18=?yb18)) ?_;rotate_left;(conv=>lhs;whnf;dsimp only[lU,erS,erE,fF,erO]);exactλ_=>by kernel_rfl!))
 conv in(aK _ _)=>whnf
 refine aA (eU (a:=x) (c:=385) (fs:=au 4 none) (i:=3) (j:=2) M vl vk rfl (by decide+kernel) ?_ ?_ ?_ (by dsimp only;exact aN _ _ _) (by decide+kernel) (by simp) (by decide+kernel) (by simp) ?_)
 ·(first |exact aB rfl|exact aE ⋯ ⋯)
 ·(first |exact aB rfl|exact aE ⋯ ⋯)
 ·(first |exact aB rfl|exact aE ⋯ ⋯)
 refine aA (dC (a:=x) (c:=385) (i:=1) M vs ?_ ⋯ (aN _ _ _) (by decide+kernel) (by simp) ?_)
 ·(first |exact aB rfl|exact aE ⋯ ⋯)
 refine aA (dC (a:=x) (c:=385) (i:=0) M ve ?_ ⋯ (aN _ _ _) (by decide+kernel) (by simp) ?_)
 ·(first |exact aB rfl|exact aE ⋯ ⋯)
 (repeat(first |refine aX ?_|dsimp only[cG]))
 exact⟨rfl,[ve,vs,vk,vl],by dsimp only;rw[aN];rfl,hK⟩
theorem z7(hB:BsOk (bs w.params h mb))(hmb:HMb mb):Meets prog w (bs w.params h mb) 3 (.ref 385) y6:=by
 refine dQ (k:=4) (m:=4) (fI:=374) (params:=["self","line","column","start","end"]) hB (iN hB hmb) ∅ ∅ ∅ ∅ ∅ ∅ ∅ rfl (λS vals hl=>?_) λps K=>x4 λvl vk vs ve=>a2 λh1 hk=>?_
 ·refine x5 (λa b c d e zr5=>?_) (zh8 hl);subst zr5
  kernel_rfl
 ·subst h1
  exact⟨rfl,λx=>zbg vl vk vs ve K x hk⟩
noncomputable def y9:Fn:=λps K=>∃(vl:PV) (vk:PV) (vv:PV) (vi:PV) (vr:PV) (b:Bool),ps=[vl,vk,vv,vi,vr]/\sR vi=some b/\K (.inst 415 [vi,(.bool b),vr,vv,vk,vl])
theorem wB:aW y9:=λ_ _ _ h=>e6 λ_ _ _ _ _ _=>c2 (h _)
theorem zbk(vl:PV)(vk:PV)(vv:PV)(vi:PV)(vr:PV)(b:Bool)(K:PV->Prop)(x:Nat)(h2:sR vi=some b)(hK:K (.inst 415 [vi,(.bool b),vr,vv,vk,vl])):
  wSs cT (cV (aK H0 404)) (aV H0 404) (nR λp σ'=>p=.none/\∃fs:List PV,σ' x=some (.ins 415 (fs.map some))/\K (.inst 415 fs))
   ⟨bB ((["self","line","column","value","int_value","representation"].map ae).zip (.ptr x ::[vl,vk,vv,vi,vr])) λ_=>none,bE (λ_=>none) x (.ins 415 (au 6 none))⟩:=by
 have M:=dR
 (apply nfe;case h=>(show ?ya19=?yb19;refine(?_:∀_:(?ya19=?yb19),(?ya19=?yb19)) ?_;rotate_left;(conv=>lhs;whnf;dsimp only[lU,erS,erE,fF,erO]);exactλ_=>by kernel_rfl!))
 conv in(aK _ _)=>whnf
 refine aA (eU (a:=x) (c:=415) (fs:=au 6 none) (i:=5) (j:=4) M vl vk rfl (by decide+kernel) ?_ ?_ ?_ (by dsimp only;exact aN _ _ _) (by decide+kernel) (by simp) (by decide+kernel) (by simp) ?_)
 ·(first |exact aB rfl|exact aE ⋯ ⋯)
 ·(first |exact aB rfl|exact aE ⋯ ⋯)
 ·(first |exact aB rfl|exact aE ⋯ ⋯)
 refine aA (dC (a:=x) (c:=415) (i:=3) M vv ?_ ⋯ (aN _ _ _) (by decide+kernel) (by simp) ?_)
 ·(first |exact aB rfl|exact aE ⋯ ⋯)
 refine aA (dC (a:=x) (c:=415) (i:=0) M vi ?_ ⋯ (aN _ _ _) (by decide+kernel) (by simp) ?_)
 ·(first |exact aB rfl|exact aE ⋯ ⋯)
 refine aA (dC (a:=x) (c:=415) (i:=1) M (.bool b) ?_ ⋯ (aN _ _ _) (by decide+kernel) (by simp) ?_)
 ·exact vQ M h2 aD
 refine aA (dC (a:=x) (c:=415) (i:=2) M vr ?_ ⋯ (aN _ _ _) (by decide+kernel) (by simp) ?_)
 ·(first |exact aB rfl|exact aE ⋯ ⋯)
 (repeat(first |refine aX ?_|dsimp only[cG]))
 exact⟨rfl,[vi,(.bool b),vr,vv,vk,vl],by dsimp only;rw[aN];rfl,hK⟩
theorem zaa(hB:BsOk (bs w.params h mb))(hmb:HMb mb):Meets prog w (bs w.params h mb) 3 (.ref 415) y9:=by
 refine dQ (k:=5) (m:=6) (fI:=404) (params:=["self","line","column","value","int_value","representation"]) hB (iN hB hmb) ∅ ∅ ∅ ∅ ∅ ∅ ∅ rfl (λS vals hl=>?_) λps K=>x6 λvl vk vv vi vr b=>a3 λh1 h2 hk=>?_
 ·refine x6 (λa b c d e f zr6=>?_) (six hl);subst zr6
  kernel_rfl
 ·subst h1
  exact⟨rfl,λx=>zbk vl vk vv vi vr b K x h2 hk⟩
noncomputable def y7:Fn:=λps K=>∃(vl:PV) (vk:PV) (vv:PV) (vi:PV) (vr:PV) (b:Bool),ps=[vl,vk,vv,vi,vr]/\sR vi=some b/\K (.inst 447 [vi,(.bool b),vr,vv,vk,vl])
theorem v8:aW y7:=λ_ _ _ h=>e6 λ_ _ _ _ _ _=>c2 (h _)
theorem zbi(vl:PV)(vk:PV)(vv:PV)(vi:PV)(vr:PV)(b:Bool)(K:PV->Prop)(x:Nat)(h2:sR vi=some b)(hK:K (.inst 447 [vi,(.bool b),vr,vv,vk,vl])):
  wSs cT (cV (aK H0 436)) (aV H0 436) (nR λp σ'=>p=.none/\∃fs:List PV,σ' x=some (.ins 447 (fs.map some))/\K (.inst 447 fs))
   ⟨bB ((["self","line","column","value","int_value","representation"].map ae).zip (.ptr x ::[vl,vk,vv,vi,vr])) λ_=>none,bE (λ_=>none) x (.ins 447 (au 6 none))⟩:=by
 have M:=dR
 (apply nfe;case h=>(show ?ya20=?yb20;refine(?_:∀_:(?ya20=?yb20),(?ya20=?yb20)) ?_;rotate_left;(conv=>lhs;whnf;dsimp only[lU,erS,erE,fF,erO]);exactλ_=>by kernel_rfl!))
 conv in(aK _ _)=>whnf
 refine aA (eU (a:=x) (c:=447) (fs:=au 6 none) (i:=5) (j:=4) M vl vk rfl (by decide+kernel) ?_ ?_ ?_ (by dsimp only;exact aN _ _ _) (by decide+kernel) (by simp) (by decide+kernel) (by simp) ?_)
 ·(first |exact aB rfl|exact aE ⋯ ⋯)
 ·(first |exact aB rfl|exact aE ⋯ ⋯)
 ·(first |exact aB rfl|exact aE ⋯ ⋯)
 refine aA (dC (a:=x) (c:=447) (i:=3) M vv ?_ ⋯ (aN _ _ _) (by decide+kernel) (by simp) ?_)
 ·(first |exact aB rfl|exact aE ⋯ ⋯)
 refine aA (dC (a:=x) (c:=447) (i:=0) M vi ?_ ⋯ (aN _ _ _) (by decide+kernel) (by simp) ?_)
 ·(first |exact aB rfl|exact aE ⋯ ⋯)
 refine aA (dC (a:=x) (c:=447) (i:=1) M (.bool b) ?_ ⋯ (aN _ _ _) (by decide+kernel) (by simp) ?_)
 ·exact vQ M h2 aD
 refine aA (dC (a:=x) (c:=447) (i:=2) M vr ?_ ⋯ (aN _ _ _) (by decide+kernel) (by simp) ?_)
 ·(first |exact aB rfl|exact aE ⋯ ⋯)
 (repeat(first |refine aX ?_|dsimp only[cG]))
 exact⟨rfl,[vi,(.bool b),vr,vv,vk,vl],by dsimp only;rw[aN];rfl,hK⟩
theorem z8(hB:BsOk (bs w.params h mb))(hmb:HMb mb):Meets prog w (bs w.params h mb) 3 (.ref 447) y7:=by
 refine dQ (k:=5) (m:=6) (fI:=436) (params:=["self","line","column","value","int_value","representation"]) hB (iN hB hmb) ∅ ∅ ∅ ∅ ∅ ∅ ∅ rfl (λS vals hl=>?_) λps K=>x6 λvl vk vv vi vr b=>a3 λh1 h2 hk=>?_
 ·refine x6 (λa b c d e f zr6=>?_) (six hl);subst zr6
  kernel_rfl
 ·subst h1
  exact⟨rfl,λx=>zbi vl vk vv vi vr b K x h2 hk⟩
noncomputable def zA:Fn:=λps K=>∃(vl:PV) (vk:PV) (vv:PV) (vi:PV) (vr:PV) (xunit:List Nat) (b:Bool),ps=[vl,vk,vv,vi,vr,(.str xunit)]/\xunit.length<1000000/\sR vi=some b/\K (.inst 479 [vi,(.bool b),(.str (xunit.map fU)),vr,(.str xunit),vv,vk,vl])
theorem wF:aW zA:=λ_ _ _ h=>e7 λ_ _ _ _ _ _ _=>c3 (h _)
theorem zbo(vl:PV)(vk:PV)(vv:PV)(vi:PV)(vr:PV)(xunit:List Nat)(b:Bool)(K:PV->Prop)(x:Nat)(h2:xunit.length<1000000)(h3:sR vi=some b)(hK:K (.inst 479 [vi,(.bool b),(.str (xunit.map fU)),vr,(.str xunit),vv,vk,vl])):
  wSs cT (cV (aK H0 468)) (aV H0 468) (nR λp σ'=>p=.none/\∃fs:List PV,σ' x=some (.ins 479 (fs.map some))/\K (.inst 479 fs))
   ⟨bB ((["self","line","column","value","int_value","representation","unit"].map ae).zip (.ptr x ::[vl,vk,vv,vi,vr,(.str xunit)])) λ_=>none,bE (λ_=>none) x (.ins 479 (au 8 none))⟩:=by
 have M:=dR
 (apply nfe;case h=>(show ?ya21=?yb21;refine(?_:∀_:(?ya21=?yb21),(?ya21=?yb21)) ?_;rotate_left;(conv=>lhs;whnf;dsimp only[lU,erS,erE,fF,erO]);exactλ_=>by kernel_rfl!))
 conv in(aK _ _)=>whnf
 refine aA (eU (a:=x) (c:=479) (fs:=au 8 none) (i:=7) (j:=6) M vl vk rfl (by decide+kernel) ?_ ?_ ?_ (by dsimp only;exact aN _ _ _) (by decide+kernel) (by simp) (by decide+kernel) (by simp) ?_)
 ·(first |exact aB rfl|exact aE ⋯ ⋯)
 ·(first |exact aB rfl|exact aE ⋯ ⋯)
 ·(first |exact aB rfl|exact aE ⋯ ⋯)
 dsimp only[cG]
 refine aA (dC (a:=x) (c:=479) (i:=5) M vv ?_ ⋯ (aN _ _ _) (by decide+kernel) (by simp) ?_)
 ·(first |exact aB rfl|exact aE ⋯ ⋯)
 dsimp only[cG]
 refine aA (dC (a:=x) (c:=479) (i:=0) M vi ?_ ⋯ (aN _ _ _) (by decide+kernel) (by simp) ?_)
 ·(first |exact aB rfl|exact aE ⋯ ⋯)
 dsimp only[cG]
 refine aA (dC (a:=x) (c:=479) (i:=1) M (.bool b) ?_ ⋯ (aN _ _ _) (by decide+kernel) (by simp) ?_)
 ·exact vQ M h3 aD
 dsimp only[cG]
 refine aA (dC (a:=x) (c:=479) (i:=3) M vr ?_ ⋯ (aN _ _ _) (by decide+kernel) (by simp) ?_)
 ·(first |exact aB rfl|exact aE ⋯ ⋯)
 dsimp only[cG]
 refine aA (dC (a:=x) (c:=479) (i:=4) M (.str xunit) ?_ ⋯ (aN _ _ _) (by decide+kernel) (by simp) ?_)
 ·(first |exact aB rfl|exact aE ⋯ ⋯)
 dsimp only[cG]
 refine aA (zbO (aA (dC (a:=x) (c:=479) (i:=2) M (.str (xunit.map fU)) ?_ ⋯ (aN _ _ _) (by decide+kernel) (by simp) ?_)))
 ·exact aR (F:=oA) M ⋯ rfl (aC M (v:=.str xunit) aD aG) ⟨xunit,rfl,h2,.inl rfl,rfl⟩
 (repeat(first |refine aX ?_|dsimp only[cG]))
 (repeat(first |refine aX ?_|dsimp only[cG]))
 exact⟨rfl,[vi,(.bool b),(.str (xunit.map fU)),vr,(.str xunit),vv,vk,vl],by dsimp only;rw[aN];rfl,hK⟩
theorem zad(hB:BsOk (bs w.params h mb))(hmb:HMb mb):Meets prog w (bs w.params h mb) 3 (.ref 479) zA:=by
 refine dQ (k:=6) (m:=8) (fI:=468) (params:=["self","line","column","value","int_value","representation","unit"]) hB (iN hB hmb) ∅ ∅ ∅ ∅ ∅ ∅ ∅ rfl (λS vals hl=>?_) λps K=>x7 λvl vk vv vi vr xunit b=>a4 λh1 h2 h3 hk=>?_
 ·refine x7 (λa b c d e f g zr7=>?_) (zkL hl);subst zr7
  kernel_rfl
 ·subst h1
  exact⟨rfl,λx=>zbo vl vk vv vi vr xunit b K x h2 h3 hk⟩
noncomputable def y8:Fn:=λps K=>∃(vl:PV) (vk:PV) (vc:PV),ps=[vl,vk,vc]/\K (.inst 513 [vc,vk,vl])
theorem v9:aW y8:=λ_ _ _ h=>e3 λ_ _ _=>c1 (h _)
theorem zbj(vl:PV)(vk:PV)(vc:PV)(K:PV->Prop)(x:Nat)(hK:K (.inst 513 [vc,vk,vl])):
  wSs cT (cV (aK H0 502)) (aV H0 502) (nR λp σ'=>p=.none/\∃fs:List PV,σ' x=some (.ins 513 (fs.map some))/\K (.inst 513 fs))
   ⟨bB ((["self","line","column","content"].map ae).zip (.ptr x ::[vl,vk,vc])) λ_=>none,bE (λ_=>none) x (.ins 513 (au 3 none))⟩:=by
 have M:=dR
 (apply nfe;case h=>(show ?ya22=?yb22;refine(?_:∀_:(?ya22=?yb22),(?ya22=?yb22)) ?_;rotate_left;(conv=>lhs;whnf;dsimp only[lU,erS,erE,fF,erO]);exactλ_=>by kernel_rfl!))
 conv in(aK _ _)=>whnf
 refine aA (eU (a:=x) (c:=513) (fs:=au 3 none) (i:=2) (j:=1) M vl vk rfl (by decide+kernel) ?_ ?_ ?_ (by dsimp only;exact aN _ _ _) (by decide+kernel) (by simp) (by decide+kernel) (by simp) ?_)
 ·(first |exact aB rfl|exact aE ⋯ ⋯)
 ·(first |exact aB rfl|exact aE ⋯ ⋯)
 ·(first |exact aB rfl|exact aE ⋯ ⋯)
 refine aA (dC (a:=x) (c:=513) (i:=0) M vc ?_ ⋯ (aN _ _ _) (by decide+kernel) (by simp) ?_)
 ·(first |exact aB rfl|exact aE ⋯ ⋯)
 (repeat(first |refine aX ?_|dsimp only[cG]))
 exact⟨rfl,[vc,vk,vl],by dsimp only;rw[aN];rfl,hK⟩
theorem z9(hB:BsOk (bs w.params h mb))(hmb:HMb mb):Meets prog w (bs w.params h mb) 3 (.ref 513) y8:=by
 refine dQ (k:=3) (m:=3) (fI:=502) (params:=["self","line","column","content"]) hB (iN hB hmb) ∅ ∅ ∅ ∅ ∅ ∅ ∅ rfl (λS vals hl=>?_) λps K=>x3 λvl vk vc=>a2 λh1 hk=>?_
 ·refine x4 (λa b c d zr4=>?_) (zfj hl);subst zr4
  kernel_rfl
 ·subst h1
  exact⟨rfl,λx=>zbj vl vk vc K x hk⟩
noncomputable def y5:Fn:=λps K=>∃(vl:PV) (vk:PV) (vc:PV),ps=[vl,vk,vc]/\K (.inst 542 [vc,vk,vl])
theorem v6:aW y5:=λ_ _ _ h=>e3 λ_ _ _=>c1 (h _)
theorem zbf(vl:PV)(vk:PV)(vc:PV)(K:PV->Prop)(x:Nat)(hK:K (.inst 542 [vc,vk,vl])):
  wSs cT (cV (aK H0 531)) (aV H0 531) (nR λp σ'=>p=.none/\∃fs:List PV,σ' x=some (.ins 542 (fs.map some))/\K (.inst 542 fs))
   ⟨bB ((["self","line","column","content"].map ae).zip (.ptr x ::[vl,vk,vc])) λ_=>none,bE (λ_=>none) x (.ins 542 (au 3 none))⟩:=by
 have M:=dR
 (apply nfe;case h=>(show ?ya23=?yb23;refine(?_:∀_:(?ya23=?yb23),(?ya23=?yb23)) ?_;rotate_left;(conv=>lhs;whnf;dsimp only[lU,erS,erE,fF,erO]);exactλ_=>by kernel_rfl!))
 conv in(aK _ _)=>whnf
 refine aA (eU (a:=x) (c:=542) (fs:=au 3 none) (i:=2) (j:=1) M vl vk rfl (by decide+kernel) ?_ ?_ ?_ (by dsimp only;exact aN _ _ _) (by decide+kernel) (by simp) (by decide+kernel) (by simp) ?_)
 ·(first |exact aB rfl|exact aE ⋯ ⋯)
 ·(first |exact aB rfl|exact aE ⋯ ⋯)
 ·(first |exact aB rfl|exact aE ⋯ ⋯)
 refine aA (dC (a:=x) (c:=542) (i:=0) M vc ?_ ⋯ (aN _ _ _) (by decide+kernel) (by simp) ?_)
 ·(first |exact aB rfl|exact aE ⋯ ⋯)
 (repeat(first |refine aX ?_|dsimp only[cG]))
 exact⟨rfl,[vc,vk,vl],by dsimp only;rw[aN];rfl,hK⟩
theorem z6(hB:BsOk (bs w.params h mb))(hmb:HMb mb):Meets prog w (bs w.params h mb) 3 (.ref 542) y5:=by
 refine dQ (k:=3) (m:=3) (fI:=531) (params:=["self","line","column","content"]) hB (iN hB hmb) ∅ ∅ ∅ ∅ ∅ ∅ ∅ rfl (λS vals hl=>?_) λps K=>x3 λvl vk vc=>a2 λh1 hk=>?_
 ·refine x4 (λa b c d zr4=>?_) (zfj hl);subst zr4
  kernel_rfl
 ·subst h1
  exact⟨rfl,λx=>zbf vl vk vc K x hk⟩
noncomputable def zB:Fn:=λps K=>∃(vl:PV) (vk:PV) (vc:PV),ps=[vl,vk,vc]/\K (.inst 571 [vc,vk,vl])
theorem wG:aW zB:=λ_ _ _ h=>e3 λ_ _ _=>c1 (h _)
theorem zbp(vl:PV)(vk:PV)(vc:PV)(K:PV->Prop)(x:Nat)(hK:K (.inst 571 [vc,vk,vl])):
  wSs cT (cV (aK H0 560)) (aV H0 560) (nR λp σ'=>p=.none/\∃fs:List PV,σ' x=some (.ins 571 (fs.map some))/\K (.inst 571 fs))
   ⟨bB ((["self","line","column","content"].map ae).zip (.ptr x ::[vl,vk,vc])) λ_=>none,bE (λ_=>none) x (.ins 571 (au 3 none))⟩:=by
 have M:=dR
 (apply nfe;case h=>(show ?ya24=?yb24;refine(?_:∀_:(?ya24=?yb24),(?ya24=?yb24)) ?_;rotate_left;(conv=>lhs;whnf;dsimp only[lU,erS,erE,fF,erO]);exactλ_=>by kernel_rfl!))
 conv in(aK _ _)=>whnf
 refine aA (eU (a:=x) (c:=571) (fs:=au 3 none) (i:=2) (j:=1) M vl vk rfl (by decide+kernel) ?_ ?_ ?_ (by dsimp only;exact aN _ _ _) (by decide+kernel) (by simp) (by decide+kernel) (by simp) ?_)
 ·(first |exact aB rfl|exact aE ⋯ ⋯)
 ·(first |exact aB rfl|exact aE ⋯ ⋯)
 ·(first |exact aB rfl|exact aE ⋯ ⋯)
 refine aA (dC (a:=x) (c:=571) (i:=0) M vc ?_ ⋯ (aN _ _ _) (by decide+kernel) (by simp) ?_)
 ·(first |exact aB rfl|exact aE ⋯ ⋯)
 (repeat(first |refine aX ?_|dsimp only[cG]))
 exact⟨rfl,[vc,vk,vl],by dsimp only;rw[aN];rfl,hK⟩
theorem zae(hB:BsOk (bs w.params h mb))(hmb:HMb mb):Meets prog w (bs w.params h mb) 3 (.ref 571) zB:=by
 refine dQ (k:=3) (m:=3) (fI:=560) (params:=["self","line","column","content"]) hB (iN hB hmb) ∅ ∅ ∅ ∅ ∅ ∅ ∅ rfl (λS vals hl=>?_) λps K=>x3 λvl vk vc=>a2 λh1 hk=>?_
 ·refine x4 (λa b c d zr4=>?_) (zfj hl);subst zr4
  kernel_rfl
 ·subst h1
  exact⟨rfl,λx=>zbp vl vk vc K x hk⟩
noncomputable def zf2:Fn:=λps K=>∃(vl:PV) (vk:PV) (xname:List Nat) (va:PV),ps=[vl,vk,(.str xname),va]/\xname.length<1000000/\K (.inst 600 [va,(.str (xname.map fU)),(.str xname),vk,vl])
theorem zaH:aW zf2:=λ_ _ _ h=>e4 λ_ _ _ _=>c2 (h _)
theorem zea(vl:PV)(vk:PV)(xname:List Nat)(va:PV)(K:PV->Prop)(x:Nat)(h2:xname.length<1000000)(hK:K (.inst 600 [va,(.str (xname.map fU)),(.str xname),vk,vl])):
  wSs cT (cV (aK H0 589)) (aV H0 589) (nR λp σ'=>p=.none/\∃fs:List PV,σ' x=some (.ins 600 (fs.map some))/\K (.inst 600 fs))
   ⟨bB ((["self","line","column","name","arguments"].map ae).zip (.ptr x ::[vl,vk,(.str xname),va])) λ_=>none,bE (λ_=>none) x (.ins 600 (au 5 none))⟩:=by
 have M:=dR
 (apply nfe;case h=>(show ?ya25=?yb25;refine(?_:∀_:(?ya25=?yb25),(?ya25=?yb25)) ?_;rotate_left;(conv=>lhs;whnf;dsimp only[lU,erS,erE,fF,erO]);exactλ_=>by kernel_rfl!))
 conv in(aK _ _)=>whnf
 refine aA (eU (a:=x) (c:=600) (fs:=au 5 none) (i:=4) (j:=3) M vl vk rfl (by decide+kernel) ?_ ?_ ?_ (by dsimp only;exact aN _ _ _) (by decide+kernel) (by simp) (by decide+kernel) (by simp) ?_)
 ·(first |exact aB rfl|exact aE ⋯ ⋯)
 ·(first |exact aB rfl|exact aE ⋯ ⋯)
 ·(first |exact aB rfl|exact aE ⋯ ⋯)
 dsimp only[cG]
 refine aA (dC (a:=x) (c:=600) (i:=2) M (.str xname) ?_ ⋯ (aN _ _ _) (by decide+kernel) (by simp) ?_)
 ·(first |exact aB rfl|exact aE ⋯ ⋯)
 dsimp only[cG]
 refine aA (zbO (aA (dC (a:=x) (c:=600) (i:=1) M (.str (xname.map fU)) ?_ ⋯ (aN _ _ _) (by decide+kernel) (by simp) ?_)))
 ·exact aR (F:=oA) M ⋯ rfl (aC M (v:=.str xname) aD aG) ⟨xname,rfl,h2,.inl rfl,rfl⟩
 (repeat(first |refine aX ?_|dsimp only[cG]))
 refine aA (dC (a:=x) (c:=600) (i:=0) M va ?_ ⋯ (aN _ _ _) (by decide+kernel) (by simp) ?_)
 ·(first |exact aB rfl|exact aE ⋯ ⋯)
 dsimp only[cG]
 (repeat(first |refine aX ?_|dsimp only[cG]))
 exact⟨rfl,[va,(.str (xname.map fU)),(.str xname),vk,vl],by dsimp only;rw[aN];rfl,hK⟩
theorem zcr(hB:BsOk (bs w.params h mb))(hmb:HMb mb):Meets prog w (bs w.params h mb) 3 (.ref 600) zf2:=by
 refine dQ (k:=4) (m:=5) (fI:=589) (params:=["self","line","column","name","arguments"]) hB (iN hB hmb) ∅ ∅ ∅ ∅ ∅ ∅ ∅ rfl (λS vals hl=>?_) λps K=>x4 λvl vk xname va=>a3 λh1 h2 hk=>?_
 ·refine x5 (λa b c d e zr5=>?_) (zh8 hl);subst zr5
  kernel_rfl
 ·subst h1
  exact⟨rfl,λx=>zea vl vk xname va K x h2 hk⟩
theorem zgw{w:World}{h:Heap}{mb:Str->Option Value}(hB:BsOk (bs w.params h mb)):ziH (bs w.params h mb):=by
 have e:(HK w.params).lookup 4=some {cls:=.type "module",dict:=some 0,data:=.plain}:=by kernel_rfl
 exact ex2 4 _ ⟨∅,(by decide),hB.kin _ _ e,rfl,rfl,rfl⟩
theorem zdz{w:World}{h:Heap}{mb:Str->Option Value}(hB:BsOk (bs w.params h mb)):CodeAt h 40 36:=by
 obtain⟨o,e⟩:∃o,(HK w.params).lookup 40=some o:=⟨_,rfl⟩
 have e':=e
 conv at e'=>lhs;whnf
 have zq:=Option.some.inj e';subst zq
 exact ex7 _ _ _ _ _ _ _ ⟨_,_,hB.kin _ _ e,rfl,rfl,rfl,rfl,rfl,rfl,rfl,by decide⟩
theorem yR{w:World}{h:Heap}{mb:Str->Option Value}(hB:BsOk (bs w.params h mb)):CodeAt h 33 29:=by
 obtain⟨o,e⟩:∃o,(HK w.params).lookup 33=some o:=⟨_,rfl⟩
 have e':=e
 conv at e'=>lhs;whnf
 have zq:=Option.some.inj e';subst zq
 exact ex7 _ _ _ _ _ _ _ ⟨_,_,hB.kin _ _ e,rfl,rfl,rfl,rfl,rfl,rfl,rfl,by decide⟩
theorem zag(hB:BsOk (bs w.params h mb)):Meets prog w (bs w.params h mb) 1 (.ref 41) wP:=by
 refine x1 (λfd=>a3 λh1 h2 h3=>?_) (g9 (K:=HK w.params) (a:=41) ∅)
 have hcode:fd.code=.ref 40:=by
  have e:(sY (HK w.params) 41).map (·.code)=some (.ref 40):=by kernel_rfl
  rw[h2]at e;exact Option.some.inj e
 have hl:fd.scope.names.lookup (ae "value")=some NameKind.local:=by rw[h3];kernel_rfl
 conv at h1=>arg 4;whnf
 refine sV (n:=0) (cX:=40) (v:=ae "value") (c:=ae "c") hB (zgw hB) (.inr rfl) (zdz hB) h1 hcode rfl rfl (by decide+kernel) (by decide+kernel) ∅ ∅ rfl (λenv C code _=>?_) hl (by decide+kernel) (λs vals X hl=>?_)
 ·repeat' refine zj6 rfl ∅ (by decide+kernel) (by decide+kernel) ?_
  exact zfu rfl ∅ (by decide+kernel)
 ·refine kp_binds X λS=>?_
  refine x1 (λa zr1=>?_) (iF hl);subst zr1
  have:(sY (HK w.params) 41).map (λfd=>peek (HK w.params) S (bindArgs fd ⟨[a],[]⟩))=some (some ((["value"].map ae).zip [a])):=by kernel_rfl
  rw[h2]at this
  refine(?_:peek (HK w.params) S _=_)
  simpa using this
noncomputable def replD:List (List Nat×List Nat):=[([34],[92,34]),([92],[92,92]),([10],[92,65,32]),([13],[92,68,32]),([12],[92,67,32])]
theorem zai(hB:BsOk (bs w.params h mb)):Meets prog w (bs w.params h mb) 1 (.ref 34) wP:=by
 refine x1 (λfd=>a3 λh1 h2 h3=>?_) (g9 (K:=HK w.params) (a:=34) ∅)
 have hcode:fd.code=.ref 33:=by
  have e:(sY (HK w.params) 34).map (·.code)=some (.ref 33):=by kernel_rfl
  rw[h2]at e;exact Option.some.inj e
 have hl:fd.scope.names.lookup (ae "value")=some NameKind.local:=by rw[h3];kernel_rfl
 conv at h1=>arg 4;whnf
 obtain⟨o,ho⟩:∃o,(HK w.params).lookup 27=some o:=⟨_,rfl⟩
 have ho':=ho
 conv at ho'=>lhs;whnf
 have zq:=Option.some.inj ho';subst zq
 have hm:mgK w.params (ae "_replacement_string_value")=some (.ref 27):=by kernel_rfl
 refine sV (n:=0) (cX:=33) (v:=ae "value") (c:=ae "c") hB (zgw hB) (.inl rfl) (yR hB) h1 hcode rfl rfl (by decide+kernel) (by decide+kernel) ∅ ∅ rfl (λenv C code hE=>?_) hl (by decide+kernel) (λs vals X hl=>?_)
 ·refine ziq (D:=ae "_replacement_string_value") (es:=replD) rfl ∅ (by decide+kernel) (by decide+kernel) ⋯ (show h.Ns env.globals _ by rw[hE.glob];exact hB.g) hm (hB.kin _ _ ho) (by decide) ?_ (by decide+kernel) rfl
  have ok:∀y∈replD,okStr y.2:=by
   have:replD.all (λy=>y.2.all (λc=>decide (c<1114112))&&decide (y.2.length<=10))=true:=by decide+kernel
   intro y hy
   refine a2 (λg1 g2=>?_) (ag.mp (ay.mp this y hy))
   exact⟨λc hc=>of_decide_eq_true (ay.mp g1 c hc),af (of_decide_eq_true g2) (by decide)⟩
  exact ex4 _ _ _ _ ⟨rfl,rfl,rfl,rfl,ok _ (.head _),_,_,_,_,rfl,rfl,rfl,rfl,ok _ (.tail _ (.head _)),_,_,_,_,rfl,rfl,rfl,rfl,ok _ (.tail _ (.tail _ (.head _))),_,_,_,_,rfl,rfl,rfl,rfl,ok _ (.tail _ (.tail _ (.tail _ (.head _)))),_,_,_,_,rfl,rfl,rfl,rfl,ok _ (.tail _ (.tail _ (.tail _ (.tail _ (.head _))))),rfl⟩
 ·refine kp_binds X λS=>?_
  refine x1 (λa zr1=>?_) (iF hl);subst zr1
  have:(sY (HK w.params) 34).map (λfd=>peek (HK w.params) S (bindArgs fd ⟨[a],[]⟩))=some (some ((["value"].map ae).zip [a])):=by kernel_rfl
  rw[h2]at this
  refine(?_:peek (HK w.params) S _=_)
  simpa using this
noncomputable def qH(os:List Nat)(σ:Nat->Option Cell):Nat->Option Cell:=λb=>if b∈os then none else σ b
noncomputable def LeC(σ σ':Nat->Option Cell):Prop:=∀b c,σ b=some c->σ' b=some c
mutual
theorem zjn{σ σ':Nat->Option Cell}(h:LeC σ σ'):∀(t:PV) {v:PV},Res σ v t->Res σ' v t
 |.tup ts,v,⟨xs,e,r⟩=>⟨xs,e,fB h ts r⟩
 |.list ts,v,.inl ⟨xs,e,r⟩=>.inl ⟨xs,e,fB h ts r⟩
 |.list ts,v,.inr ⟨a,xs,e,q,r⟩=>.inr ⟨a,xs,e,h _ _ q,fB h ts r⟩
 |.inst _ ts,v,⟨xs,e,r⟩=>⟨xs,e,fB h ts r⟩
 |.none,_,r=>r
 |.bool _,_,r=>r
 |.int _,_,r=>r
 |.str _,_,r=>r
 |.rng _ _,_,r=>r
 |.dict _ _,_,r=>r
 |.ptr _,_,r=>r
theorem fB{σ σ':Nat->Option Cell}(h:LeC σ σ'):∀(ts:List PV) {vs:List PV},nM σ vs ts->nM σ' vs ts
 |[],_,r=>r
 |t ::ts,_,⟨y,ys,e,r,rs⟩=>⟨y,ys,e,zjn h t r,fB h ts rs⟩
end
theorem pP{σ:Nat->Option Cell}{v t:PV}(h:Res σ v t):∀{ts vs:List PV},nM σ vs ts->nM σ (vs++[v]) (ts++[t])
 |[],_,r=>by subst r;exact ex2 v ([]) ⟨rfl,h,rfl⟩
 |_ ::_,_,⟨y,ys,e,r,rs⟩=>by subst e;exact ex2 y _ ⟨rfl,r,pP h rs⟩
theorem xF{σ:Nat->Option Cell}:∀{ts vs:List PV},nM σ vs ts->vs.length=ts.length
 |[],_,r=>by subst r;rfl
 |_ ::_,_,⟨y,ys,e,r,rs⟩=>by subst e;exact congrArg Nat.succ (xF rs)
theorem qG{os:List Nat}{σ:Nat->Option Cell}{b:Nat}{c:Cell}(h:qH os σ b=some c):b ∉ os/\σ b=some c:=by
 unfold qH at h
 split at h
 ·exfalso;cases h
 ·rename_i q;exact⟨q,h⟩
theorem qF{os:List Nat}{σ:Nat->Option Cell}{b:Nat}{c:Cell}(h:b ∉ os)(e:σ b=some c):qH os σ b=some c:=by unfold qH;rw[if_neg h];exact e
theorem xZ{os:List Nat}{σ:Nat->Option Cell}{a:Nat}{c:Cell}(h:a∈os):LeC (qH os σ) (qH os (bE σ a c)):=λb d e=>by
 refine a2 (λh1 h2=>?_) (qG e)
 exact qF h1 (by rw[dU _ (λq=>h1 (by rw[q];exact h))];exact h2)
structure PF where
 ts:List PV
 mkP:PV->PV
 e:Option Nat
 hm:∀s p t,Res s p t->Res s (mkP p) (mkP t)
noncomputable def qV:List PV->List PF->List PV
 |ts,[]=>ts
 |ts,q ::fr=>qV (q.ts++[q.mkP (.list ts)]) fr
section
variable {sb a b:Nat}{σ σ':Nat->Option Cell}{fr:List (Nat×PF)}{ts xs:List PV}{mk:PV->PV}{e:Option Nat}{hm:∀ s p t,Res s p t->Res s (mk p) (mk t)}
noncomputable def zkr(σ:Nat->Option Cell)(os:List Nat):Nat->List (Nat×PF)->Prop
 |_,[]=>True
 |ch,q ::fr=>(∃xs,σ q.1=some (.lst (xs++[q.2.mkP (.ptr ch)]))/\nM (qH os σ) xs q.2.ts)/\zkr σ os q.1 fr
noncomputable def zaU(sb a:Nat)(fr:List (Nat×PF)):List Nat:=sb ::a ::fr.map (·.1)
structure Tree (sb:Nat) (σ:Nat->Option Cell) (a:Nat) (fr:List (Nat×PF)) (ts:List PV):Prop where
 nd:(zaU sb a fr).Nodup
 top:∃xs,σ a=some (.lst xs)/\nM (qH (zaU sb a fr) σ) xs ts
 low:zkr σ (zaU sb a fr) a fr
 sbx:(σ sb).isSome=true
theorem iH{os os':List Nat}(h:LeC (qH os σ) (qH os' σ')):∀(fr:List (Nat×PF)) (ch:Nat),(∀q∈fr,σ' q.1=σ q.1)->zkr σ os ch fr->zkr σ' os' ch fr
 |[],_,_,_=>trivial
 |q ::fr,_,e,⟨⟨xs,h1,h2⟩,h3⟩=>⟨⟨xs,by rw[e q bk];exact h1,fB h _ h2⟩,iH h fr q.1 (λq hq=>e q (bc _ hq)) h3⟩
theorem Tree.ne(T:Tree sb σ a fr ts):sb≠a/\(∀q∈fr,q.1≠sb/\q.1≠a):=by
 refine a2 (λh1 h2=>?_) (ez.mp T.nd)
 have h3:=(ez.mp h2).1
 exact⟨λe=>h1 (e▸bk),λq hq=>⟨λe=>h1 (e▸bc _ (List.mem_map_of_mem hq)),λe=>h3 (e▸List.mem_map_of_mem hq)⟩⟩
theorem Tree.push{w t:PV}(T:Tree sb σ a fr ts)(hx:σ a=some (.lst xs))(ht:∀s,Res s w t):Tree sb (bE σ a (.lst (xs++[w]))) a fr (ts++[t]):=by
 refine x1 (λys=>a2 λh1 h2=>?_) T.top
 rw[hx]at h1;cases h1
 have le:LeC (qH (zaU sb a fr) σ) (qH (zaU sb a fr) (bE σ a (.lst (xs++[w])))):=xZ (bc _ bk)
 exact⟨T.nd,⟨_,aN _ _ _,pP (ht _) (fB le _ h2)⟩,iH le _ _ (λq hq=>dU _ (T.ne.2 q hq).2 _) T.low,by rw[dU _ T.ne.1];exact T.sbx⟩
theorem Tree.set(T:Tree sb σ a fr ts)(c:Cell):Tree sb (bE σ sb c) a fr ts:=by
 refine x1 (λys=>a2 λh1 h2=>?_) T.top
 have le:LeC (qH (zaU sb a fr) σ) (qH (zaU sb a fr) (bE σ sb c)):=xZ bk
 exact⟨T.nd,⟨ys,by rw[dU _ (Ne.symm T.ne.1)];exact h1,fB le _ h2⟩,iH le _ _ (λq hq=>dU _ (T.ne.2 q hq).1 _) T.low,by rw[aN];rfl⟩
theorem sW{os:List Nat}:∀(fr:List (Nat×PF)) (ch:Nat),zkr σ os ch fr->∀q∈fr,(σ q.1).isSome=true
 |q ::fr,ch,⟨⟨xs,h1,_⟩,h3⟩,p,hp=>by
  rcases bb.mp hp with e|e
  ·subst e;rw[h1];rfl
  ·exact sW fr q.1 h3 p e
theorem Tree.opn(T:Tree sb σ a fr ts)(hx:σ a=some (.lst xs))(hb:σ b=none):Tree sb (bE (bE σ b (.lst [])) a (.lst (xs++[mk (.ptr b)]))) b ((a,⟨ts,mk,e,hm⟩) ::fr) []:=by
 refine x1 (λys=>a2 λh1 h2=>?_) T.top
 rw[hx]at h1;cases h1
 have ba:b≠a:=λe=>by rw[e,hx]at hb;cases hb
 have bs:b≠sb:=λe=>by have:=T.sbx;rw[<- e,hb]at this;cases this
 have bf:∀q∈fr,q.1≠b:=λq hq e=>by have:=sW _ _ T.low q hq;rw[e,hb]at this;cases this
 refine a2 (λn1 n2=>?_) (ez.mp T.nd)
 have le:LeC (qH (zaU sb a fr) σ) (qH (zaU sb b ((a,⟨ts,mk,e,hm⟩) ::fr)) (bE (bE σ b (.lst [])) a (.lst (xs++[mk (.ptr b)])))):=λx d e=>by
  refine a2 (λq1 q2=>?_) (qG e)
  have xb:x≠b:=λe=>by rw[e,hb]at q2;cases q2
  have xa:x≠a:=λe=>q1 (e▸bc _ bk)
  refine qF (λm=>?_) (by rw[dU _ xa,dU _ xb];exact q2)
  rcases bb.mp m with e|m
  ·exact q1 (e▸bk)
  ·rcases bb.mp m with e|m
   ·exact xb e
   ·exact q1 (bc _ m)
 refine⟨ez.mpr ⟨λm=>?_,ez.mpr ⟨λm=>?_,n2⟩⟩,⟨[],by rw[dU _ ba,aN],rfl⟩,⟨⟨xs,aN _ _ _,fB le _ h2⟩,?_⟩,by rw[dU _ T.ne.1,dU _ (Ne.symm bs)];exact T.sbx⟩
 ·rcases bb.mp m with e|m
  ·exact bs e.symm
  ·exact n1 m
 ·rcases bb.mp m with e|m
  ·exact ba e
  ·refine x1 (λq=>a2 λhq e=>?_) (jj.mp m)
   exact bf q hq e
 ·exact iH le _ _ (λq hq=>by rw[dU _ (T.ne.2 q hq).2,dU _ (bf q hq)]) T.low
theorem Tree.cls{q:Nat×PF}(T:Tree sb σ a (q ::fr) ts):Tree sb σ q.1 fr (q.2.ts++[q.2.mkP (.list ts)]):=by
 refine x1 (λys=>a2 λh1 h2=>?_) T.top
 obtain⟨⟨xs,h3,h4⟩,h5⟩:=T.low
 refine a2 (λn1 n2=>?_) (ez.mp T.nd)
 refine a2 (λn2 n3=>?_) (ez.mp n2)
 have le:LeC (qH (zaU sb a (q ::fr)) σ) (qH (zaU sb q.1 fr) σ):=λx d e=>by
  refine a2 (λq1 q2=>?_) (qG e)
  refine qF (λm=>q1 ?_) q2
  rcases bb.mp m with e|m
  ·exact e▸bk
  ·exact bc _ (bc _ m)
 refine⟨ez.mpr ⟨λm=>n1 (bc _ m),n3⟩,⟨_,h3,pP (q.2.hm _ _ _ (show Res (qH (zaU sb q.1 fr) σ) (.ptr a) (.list ts)from Or.inr ⟨a,ys,rfl,qF (λm=>?_) h1,fB le _ h2⟩)) (fB le _ h4)⟩,iH le _ _ (λ_ _=>rfl) h5,T.sbx⟩
 rcases bb.mp m with e|m
 ·exact n1 (e▸bk)
 ·exact n2 m
noncomputable def zN:Nat->List (Nat×PF)->Nat
 |a,[]=>a
 |_,q ::fr=>zN q.1 fr
theorem Tree.root:∀(fr:List (Nat×PF)) (a:Nat) (ts:List PV),Tree sb σ a fr ts->∃xs,σ (zN a fr)=some (.lst xs)/\nM σ xs (qV ts (fr.map (·.2)))
 |[]=>λa ts T=>by
  refine x1 (λys=>a2 λh1 h2=>?_) T.top
  exact⟨ys,h1,fB (λx d e=>(qG e).2) _ h2⟩
 |q ::fr=>λa ts T=>Tree.root fr q.1 _ T.cls
noncomputable def wt(ts:List PV)(fr:List (Nat×PF)):Nat:=ts.length+(fr.map λq=>q.2.ts.length+1).sum
end
noncomputable def adv(lc:Nat×Nat):List Nat->Nat×Nat
 |[]=>lc
 |c ::r=>adv (if c=10 then(lc.1+1,1)else(lc.1,lc.2+1)) r
noncomputable def uT(lc:Nat×Nat):PV:=.tup [.int lc.1,.int lc.2]
theorem jD(lc:Nat×Nat):∀(x y:List Nat),adv lc (x++y)=adv (adv lc x) y
 |[],y=>rfl
 |c ::x,y=>jD (if c=10 then(lc.1+1,1)else(lc.1,lc.2+1)) x y
theorem y3(lc:Nat×Nat):∀(y:List Nat),(adv lc y).1=lc.1+y.count 10
 |[]=>rfl
 |c ::x=>by
  unfold adv
  rw[y3 _ x,List.count_cons]
  by_cases h:c=10
  ·subst h;simp;omega
  ·simp[h]
noncomputable def eX(x:List Nat):Nat×Nat:=adv (1,1) x
theorem sL(c:Nat)(x:List Nat):∀(n i:Nat) (J:Option Nat),sN c x (n+1) i J=if x[i+n]?=some c then some (i+n)else sN c x n i J
 |0=>λi J=>rfl
 |n+1=>λi J=>by
  have h:=sL c x n (i+1) (if x[i]?=some c then some i else J)
  rw[bl,bn 1]at h
  exact h
theorem zO{c:Nat}{x:List Nat}{i j:Nat}(h:i<=j)(hl:j<x.length):fY c x i (j+1)=if x[j]=c then(j:Int)else fY c x i j:=by
 unfold fY
 rw[ce (show j+1<=x.length from hl),ce (aq hl),Nat.succ_sub h,sL,bp h,ah hl]
 by_cases hc:x[j]=c
 ·rw[if_pos hc,if_pos (congrArg some hc)];rfl
 ·rw[if_neg hc,if_neg λq=>hc (Option.some.inj q)]
theorem zhR{x:List Nat}{j:Nat}(hl:j<x.length):eX (x.take (j+1))=if x[j]=10 then((eX (x.take j)).1+1,1)else((eX (x.take j)).1,(eX (x.take j)).2+1):=by
 rw[fe hl,eX,jD];rfl
theorem zhT{x:List Nat}{t p:Nat}(h:t<=p):(eX (x.take p)).1=(eX (x.take t)).1+((x.take p).drop t).count 10:=by
 have:=ef t (x.take p)
 rw[List.take_take,ce h]at this
 rw[<- y3,eX,eX,<- jD,this]
theorem xO{U:List Nat}{t:Nat}:∀(d:Nat),t+d<=U.length->
  (fY 10 U t (t+d)=-1/\(eX (U.take (t+d))).1=(eX (U.take t)).1/\(eX (U.take (t+d))).2=(eX (U.take t)).2+d)\/
  ∃m:Nat,fY 10 U t (t+d)=m/\(eX (U.take (t+d))).1=(eX (U.take t)).1+(1+((U.take m).drop t).count 10)/\m+(eX (U.take (t+d))).2=t+d
 |0,h=>.inl ⟨by unfold fY;rw[ce h,bx];rfl,rfl,rfl⟩
 |d+1,h=>by
  rw[<- bl,zO (am t d) h,zhR (show t+d<U.length from h)]
  by_cases hc:U[t+d]=10
  ·refine(if_pos hc).symm▸?_;refine(if_pos hc).symm▸?_
   exact .inr ⟨t+d,rfl,by rw[bn 1,<- bl,zhT (am t d)],rfl⟩
  ·refine(if_neg hc).symm▸?_;refine(if_neg hc).symm▸?_
   rcases xO d (aq h)with⟨h1,h2,h3⟩|⟨m,h1,h2,h3⟩
   ·exact .inl ⟨h1,h2,congrArg Nat.succ h3⟩
   ·exact .inr ⟨m,h1,h2,congrArg Nat.succ h3⟩
noncomputable def zT(v:Option Int):PV:=v.elim .none .int
inductive Tk where
 |ws (v:List Nat)|rng (a b:Nat)|lit (v:List Nat)|ident (v:List Nat)|atk (v:List Nat)|hash (v:List Nat) (b:Bool)|str (v:List Nat)|url (v:List Nat)
 |num (iv:Option Int) (r:List Nat)|pct (iv:Option Int) (r:List Nat)|dim (iv:Option Int) (r u:List Nat)|com (v:List Nat)|err (k m:List Nat)
noncomputable def tkP(lc:Nat×Nat)(rep:List Nat)(t:Tk):PV:=
 Tk.casesOn (motive:=λ_=>PV) t (λv=>.inst 163 [.str v,.int lc.2,.int lc.1]) (λa b=>.inst 385 [.int b,.int a,.int lc.2,.int lc.1]) (λv=>.inst 206 [.str v,.int lc.2,.int lc.1])
  (λv=>.inst 235 [.str (v.map fU),.str v,.int lc.2,.int lc.1]) (λv=>.inst 265 [.str (v.map fU),.str v,.int lc.2,.int lc.1]) (λv b=>.inst 295 [.bool b,.str v,.int lc.2,.int lc.1])
  (λv=>.inst 325 [.str rep,.str v,.int lc.2,.int lc.1]) (λv=>.inst 355 [.str rep,.str v,.int lc.2,.int lc.1])
  (λiv r=>.inst 415 [zT iv,.bool iv.isSome,.str r,.str r,.int lc.2,.int lc.1]) (λiv r=>.inst 447 [zT iv,.bool iv.isSome,.str r,.str r,.int lc.2,.int lc.1])
  (λiv r u=>.inst 479 [zT iv,.bool iv.isSome,.str (u.map fU),.str r,.str u,.str r,.int lc.2,.int lc.1]) (λv=>.inst 134 [.str v,.int lc.2,.int lc.1]) (λk m=>.inst 104 [.str k,.str m,.int lc.2,.int lc.1])
theorem mR(iv:Option Int):ziO (zT iv)=true:=by cases iv<;>rfl
theorem pD(lc:Nat×Nat)(rep:List Nat)(t:Tk):ziO (tkP lc rep t)=true:=by
 cases t with
 |num iv r=>exact ag.mpr ⟨mR iv,rfl⟩
 |pct iv r=>exact ag.mpr ⟨mR iv,rfl⟩
 |dim iv r u=>exact ag.mpr ⟨mR iv,rfl⟩
 |_=>rfl
inductive Bk where
 |par|sqr|cur|fn (v:List Nat)
noncomputable def bkC(b:Bk):Nat:=Bk.casesOn (motive:=λ_=>Nat) b 41 93 125 λ_=>41
noncomputable def bkP(lc:Nat×Nat)(b:Bk)(p:PV):PV:=Bk.casesOn (motive:=λ_=>PV) b (.inst 513 [p,.int lc.2,.int lc.1]) (.inst 542 [p,.int lc.2,.int lc.1]) (.inst 571 [p,.int lc.2,.int lc.1]) λv=>.inst 600 [p,.str (v.map fU),.str v,.int lc.2,.int lc.1]
theorem zg5(lc:Nat×Nat)(b:Bk)(s:Nat->Option Cell)(p t:PV)(h:Res s p t):Res s (bkP lc b p) (bkP lc b t):=by cases b<;>exact⟨_,rfl,p,_,rfl,h,gJ s _ rfl⟩
/-! what stands at a place -/
noncomputable def pO(x:List Nat):Bool:=(x[0]?==some 117||x[0]?==some 85)&&(x[1]?==some 43)&&zbT (x.drop 2)
noncomputable def hW(x:List Nat):Bool:=(x[0]?==some 117||x[0]?==some 85)&&(x[1]?==some 114||x[1]?==some 82)&&(x[2]?==some 108||x[2]?==some 76)&&x[3]?==some 40
noncomputable def longs:List (List Nat):=["-->","<!--","||","~=","|=","^=","$=","*="].map lcS
noncomputable def zhw(c:Nat)(r:List Nat):Bool:=
 if c=64 then !aO r else if c=35 then !(r[0]?).any bC else if c=47 then !(r[0]?==some 42)else if c=124 then !(r[0]?==some 124)&&!(r[0]?==some 61)else if [126,94,36,42].contains c then !(r[0]?==some 61)else !([60,33,45,45].isPrefixOf (c ::r))
noncomputable def sgl(c:Nat)(r:List Nat):Bool:=![32,10,9,34,39,40,41,91,93,123,125].contains c&&(!aO (c ::r)&&((nV (c ::r)).isNone&&zhw c r))
noncomputable def LitK(x v:List Nat):Prop:=(longs.contains v=true/\v.isPrefixOf x=true)\/∃c r,x=c ::r/\v=[c]/\sgl c r=true
noncomputable def NameK(U:List Nat)(p:Nat)(v:List Nat)(q:Nat):Prop:=aO (U.drop p)=true/\q=p+aY (U.drop p)/\v=(U.drop p).take (aY (U.drop p))
noncomputable def zaA(r:List Nat)(t:Nat):Nat:=r.foldl (λt c=>if b7 c=true then t*10+c - 48 else t) t
noncomputable def zaW(r:List Nat):Int:=if r[0]?=some 45 then -(zaA r 0:Int)else(zaA r 0:Int)
noncomputable def zha(U:List Nat)(p z:Nat)(iv:Option Int)(r:List Nat):Prop:=∃b,nV (U.drop p)=some (z,b)/\r=(U.drop p).take z/\iv=if b=true then some (zaW r)else none
noncomputable def quo(o:Option Nat):Bool:=o==some 34||o==some 39
noncomputable def zdN(U:List Nat)(p:Nat):Nat:=p+4+a9 (U.drop (p+4))
noncomputable def StrK(U:List Nat)(p c:Nat)(v:List Nat)(q:Nat)(o:List Nat):Prop:=(c=34\/c=39)/\∃T,T=p+1+lS c (U.drop (p+1))/\v=(U.drop (p+1)).take (T - (p+1))/\((U[T]?=some c/\q=T+1/\o=[])\/(U[T]?=none/\q=T/\o=lcS "eof-in-string"))
noncomputable def UrlK(U:List Nat)(p:Nat)(v:List Nat)(q:Nat)(o:List Nat):Prop:=hW (U.drop p)=true/\∃s f,s=zdN U p/\v=(U.drop s).take (dF (U.drop s))/\f=s+dF (U.drop s)+a9 (U.drop (s+dF (U.drop s)))/\((U[f]?=some 41/\q=f+1/\o=[])\/(U[f]?=none/\q=f/\o=lcS "eof-in-url"))
noncomputable def ComK(U:List Nat)(p:Nat)(v:List Nat)(q:Nat):Prop:=[47,42].isPrefixOf (U.drop p)=true/\uA [42,47] v=false/\v=(U.drop (p+2)).take v.length/\((p+2+v.length=U.length/\q=U.length)\/([42,47].isPrefixOf (U.drop (p+2+v.length))=true/\q=p+2+v.length+2))
noncomputable def BadU(U:List Nat)(p q:Nat):Prop:=hW (U.drop p)=true/\∃s e j i,s=zdN U p/\e=s+t9 (U.drop s)/\q=min (e+1) U.length/\quo U[s]?=false/\s<=j/\j<=i/\i<e/\(U[j]?).any jE=true/\gX U i=false
noncomputable def ErrK(U:List Nat)(p c:Nat)(k:List Nat)(q:Nat):Prop:=
 ((c=34\/c=39)/\k=lcS "bad-string"/\ q=p+1+lS c (U.drop (p+1))/\U[q]?=some 10)\/(k=lcS "bad-url"/\ BadU U p q)\/(k=[c]/\[41,93,125].contains c=true/\q=p+1)
noncomputable def NxT(U:List Nat)(p c:Nat)(t:Tk)(q:Nat)(o:List Nat):Prop:=
 Tk.casesOn (motive:=λ_=>Prop) t
  (λv=>o=[]/\bT c=true/\q=p+a9 (U.drop p)/\v=(U.drop p).take (q - p))
  (λa b=>o=[]/\pO (U.drop p)=true/\q=p+2+(fG (U.drop (p+2))).2.2/\a=gL (fG (U.drop (p+2))).1/\b=gL (fG (U.drop (p+2))).2.1)
  (λv=>o=[]/\LitK (U.drop p) v/\q=p+v.length)
  (λv=>o=[]/\NameK U p v q/\U[q]?≠some 40/\[45,45,62].isPrefixOf (U.drop p)=false/\pO (U.drop p)=false)
  (λv=>o=[]/\c=64/\NameK U (p+1) v q)
  (λv b=>o=[]/\c=35/\(U[p+1]?).any bC=true/\b=aO (U.drop (p+1))/\q=p+1+aY (U.drop (p+1))/\v=(U.drop (p+1)).take (aY (U.drop (p+1))))
  (λv=>StrK U p c v q o)
  (λv=>UrlK U p v q o)
  (λiv r=>o=[]/\∃z,zha U p z iv r/\aO (U.drop (p+z))=false/\U[p+z]?≠some 37/\q=p+z)
  (λiv r=>o=[]/\∃z,zha U p z iv r/\U[p+z]?=some 37/\q=p+z+1)
  (λiv r u=>o=[]/\∃z,zha U p z iv r/\NameK U (p+z) u q)
  (λv=>o=[]/\ComK U p v q)
  (λk _=>o=[]/\ErrK U p c k q)
noncomputable def ziL(U:List Nat)(p c:Nat)(b:Bk)(s:Nat):Prop:=
 Bk.casesOn (motive:=λ_=>Prop) b (c=40/\s=p+1) (c=91/\s=p+1) (c=123/\s=p+1)
  (λv=>∃q,NameK U p v q/\U[q]?=some 40/\s=q+1/\(hW (U.drop p)=true->quo U[s+a9 (U.drop s)]?=true))
inductive Lay (U:List Nat):Option Nat->Nat->List PV->Nat->Prop
 |nil (cl:Option Nat) (p:Nat):Lay U cl p [] p
 |tok (cl:Option Nat) (p c:Nat) (t:Tk) (rep:List Nat) (q:Nat) (E:List PV) (r:Nat):U[p]?=some c->cl≠some c->NxT U p c t q []->Lay U cl q E r->Lay U cl p (tkP (eX (U.take p)) rep t ::E) r
 |two (cl:Option Nat) (p c:Nat) (t:Tk) (rep:List Nat) (q:Nat) (o m:List Nat) (E:List PV) (r:Nat):U[p]?=some c->cl≠some c->NxT U p c t q o->o≠[]->Lay U cl q E r->Lay U cl p (tkP (eX (U.take p)) rep t ::tkP (eX (U.take p)) [] (.err o m) ::E) r
 |blk (cl:Option Nat) (p c:Nat) (b:Bk) (s:Nat) (C:List PV) (q q':Nat) (E:List PV) (r:Nat):U[p]?=some c->cl≠some c->ziL U p c b s->Lay U (some (bkC b)) s C q->((U[q]?=none/\q'=q)\/(U[q]?=some (bkC b)/\q'=q+1))->Lay U cl q' E r->Lay U cl p (bkP (eX (U.take p)) b (.list C) ::E) r
noncomputable def Lds(U:List Nat)(cl:Option Nat)(s:Nat)(ts:List PV)(p:Nat):Prop:=∀E r,Lay U cl p E r->Lay U cl s (ts++E) r
noncomputable def Opn(U:List Nat):Nat->Option Nat->List PV->List PF->Prop
 |p,cl,ts,[]=>cl=none/\Lds U none 0 ts p
 |p,cl,ts,f ::fr=>∃o c b s,U[o]?=some c/\f.e≠some c/\ziL U o c b s/\f.mkP=bkP (eX (U.take o)) b/\cl=some (bkC b)/\Lds U cl s ts p/\Opn U o f.e f.ts fr
theorem Lds.step{U:List Nat}{cl:Option Nat}{s p q:Nat}{ts ns:List PV}(h:Lds U cl s ts p)(k:Lds U cl p ns q):Lds U cl s (ts++ns) q:=λE r g=>by rw[dw];exact h _ _ (k E r g)
theorem Opn.step{U:List Nat}{cl:Option Nat}{p q:Nat}{ts ns:List PV}{fr:List PF}(h:Opn U p cl ts fr)(k:Lds U cl p ns q):Opn U q cl (ts++ns) fr:=by
 cases fr with
 |nil=>exact⟨h.1,h.2.step (h.1▸k)⟩
 |cons f fr=>exact e4 (λo c b s h=>⟨h.1,h.2.1,h.2.2.1,h.2.2.2.1,h.2.2.2.2.1,h.2.2.2.2.2.1.step k,h.2.2.2.2.2.2⟩) h
theorem Opn.opn{U:List Nat}{cl:Option Nat}{p c s:Nat}{b:Bk}{ts:List PV}{fr:List PF}(h:Opn U p cl ts fr)(hc:U[p]?=some c)(hcl:cl≠some c)(hb:ziL U p c b s):Opn U s (some (bkC b)) [] (⟨ts,bkP (eX (U.take p)) b,cl,zg5 _ b⟩ ::fr):=
 ⟨p,c,b,s,hc,hcl,hb,rfl,rfl,λ_ _ g=>g,h⟩
theorem Opn.shut{U:List Nat}{cl:Option Nat}{p p':Nat}{ts:List PV}{f:PF}{fr:List PF}(h:Opn U p cl ts (f ::fr))(k:(U[p]?=none/\p'=p)\/(U[p]?=cl/\p'=p+1)):Opn U p' f.e (f.ts++[f.mkP (.list ts)]) fr:=by
 refine x4 (λo c b s=>a7 λh1 h2 h3 h4 h5 h6 h7=>h7.step λE r g=>?_) h
 have h8:=h6 [] p (.nil _ _)
 rw[ck,h5]at h8
 rw[h5]at k
 rw[h4]
 exact .blk _ o c b s ts p p' E r h1 h2 h3 h8 k g
theorem Opn.fin{U:List Nat}{p:Nat}(hp:U[p]?=none):∀(fr:List PF) (cl:Option Nat) (ts:List PV),Opn U p cl ts fr->Lay U none 0 (qV ts fr) p
 |[],_,ts,⟨_,h2⟩=>by
  have:=h2 [] p (.nil _ _)
  rwa [ck]at this
 |_ ::fr,_,_,h=>Opn.fin hp fr _ _ (h.shut (.inl ⟨hp,rfl⟩))
noncomputable def cPf:List (String×Fn):=[("_is_ident_start",zkC),("_consume_ident",zkD),("_number_end",zf6),("ascii_lower",oA),("_consume_url",v3),("_consume_quoted_string",tX),("serialize_url",wP),("serialize_string_value",wP),("_consume_unicode_range",zf5)]
noncomputable def cPc:List (String×Fn):=[("LiteralToken",iS),("IdentToken",mH),("DimensionToken",zA),("AtKeywordToken",zf3),("HashToken",rH),("Comment",tU),("FunctionBlock",zf2),("WhitespaceToken",zf1),("StringToken",tR),("URLToken",tQ),
 ("ParseError",tT),("UnicodeRangeToken",y6),("NumberToken",y9),("PercentageToken",y7),("ParenthesesBlock",y8),("SquareBracketsBlock",y5),("CurlyBracketsBlock",zB)]
noncomputable def cP:Ctx:=mkC cPf cPc false [] [272,274,327,363,370,377,437,458,507]
theorem zaP:aW wP:=λ_ _ _ h=>e1 λ_=>c2 λk y h1 h2=>h _ (k y h1 h2)
theorem yV:∀e∈cPf,aW e.2:=by simp only[cPf,bb,bu,or_false];rintro e (rfl|rfl|rfl|rfl|rfl|rfl|rfl|rfl|rfl);all_goals first |exact zdR|exact zdS|exact zaM|exact lG|exact zaF|exact zaL|exact zaP|exact zaK
theorem yU:∀e∈cPc,aW e.2:=by
 simp only[cPc,bb,bu,or_false];rintro e (rfl|rfl|rfl|rfl|rfl|rfl|rfl|rfl|rfl|rfl|rfl|rfl|rfl|rfl|rfl|rfl|rfl)
 all_goals first |exact wC|exact rG|exact wF|exact zaI|exact tS|exact wH|exact zaH|exact zaG|exact v5|exact v4|exact wD|exact v7|exact wB|exact v8|exact v9|exact v6|exact wG
theorem a0:CtxMono cP:=bN yV yU
noncomputable def stD{α:Sort _}(d:α)(iff:List Stmt->List Stmt->α)(whl fr:List Stmt->α)(s:Stmt):α:=Stmt.casesOn (motive_2:=λ_=>α) s (λ_ _ _ _ _ _ _ _ _ _=>d) (λ_ _ _ _ _ _ _ _ _ _=>d) (λ_ _ _ _ _ _ _ _ _ _ _=>d) (λ_ _=>d) (λ_ _=>d) (λ_ _ _=>d) (λ_ _ _ _ _ _ _=>d) (λ_ _ _ _=>d) (λ_ _ _ _ _=>d) (λ_ _ b _ _=>fr b) (λ_ _ _ _ _=>d) (λ_ b _ _=>whl b) (λ_ b o _=>iff b o) (λ_ _ _=>d) (λ_ _ _=>d) (λ_ _ _=>d) (λ_ _ _=>d) (λ_ _ _ _ _=>d) (λ_ _ _ _ _=>d) (λ_ _ _=>d) (λ_ _=>d) (λ_ _ _ _=>d) (λ_ _=>d) (λ_ _=>d) (λ_ _=>d) (λ_=>d) (λ_=>d) (λ_=>d)
noncomputable def j5:List Stmt->List Stmt
 |[]=>[]
 |s ::r=>stD (j5 r) (λ_ _=>j5 r) id (λ_=>j5 r) s
noncomputable def kA:Nat->List Stmt->Stmt
 |0,s ::_=>s
 |n+1,_ ::r=>kA n r
 |_,[]=>.Pass ⟨0,0,0,0⟩
noncomputable def zdE:Nat->Stmt->List Stmt
 |0,s=>stD [] (λb _=>b) (λ_=>[]) (λ_=>[]) s
 |n+1,s=>stD [] (λ_ o=>stD o (λ_ _=>zdE n (o.headD s)) (λ_=>o) (λ_=>o) (o.headD s)) (λ_=>[]) (λ_=>[]) s
noncomputable def knP:Kn:=cV (aK H0 628)
noncomputable def gF:List Stmt:=j5 (lU (aV H0 628))
noncomputable def br1(j:Nat):List Stmt:=zdE j (kA 5 gF)
noncomputable def br2(j:Nat):List Stmt:=zdE j (kA 7 gF)
noncomputable abbrev Rows:=List (Nat×PF)
noncomputable def f8(e:Option Nat):PV:=e.elim .none λc=>.str [c]
noncomputable def stk:Rows->List PV
 |[]=>[]
 |q ::fr=>stk fr++[.tup [.ptr q.1,f8 q.2.e]]
noncomputable def LZ(U:List Nat)(root sb q t l:Nat)(n:Int)(a:Nat)(e:PV):List (Str×PV):=[("css",.str U),("length",.int U.length),("skip_comments",.bool false),("pos",.int q),("token_start_pos",.int t),("line",.int l),("last_newline",.int n),
 ("root",.ptr root),("tokens",.ptr a),("end_char",e),("stack",.ptr sb)]
noncomputable def LX(U:List Nat)(root sb p:Nat)(lc:Nat×Nat)(c a:Nat)(e:PV):List (Str×PV):=("c",.str [c]) ::("column",.int lc.2) ::LZ U root sb p p lc.1 ((p:Int) - lc.2) a e
noncomputable def Inv(U:List Nat)(root sb n:Nat)(J:St):Prop:=
 ∃(p t a:Nat) (cl:Option Nat) (fr:Rows) (ts:List PV),n=U.length - p/\t<=p/\p<=U.length/\dJ (LZ U root sb p t (eX (U.take t)).1 ((t:Int) - (eX (U.take t)).2) a (f8 cl)) J.ρ/\
  Tree sb J.σ a fr ts/\J.σ sb=some (.lst (stk fr))/\wt ts fr<=2*p/\zN a fr=root/\Opn U p cl ts (fr.map (·.2))
noncomputable def j4(U:List Nat)(root sb p:Nat)(J:St):Prop:=∃m,m<U.length - p/\Inv U root sb m J
noncomputable def ziV(U:List Nat)(root:Nat)(J:St):Prop:=dJ [("root",.ptr root)] J.ρ/\∃xs R,J.σ root=some (.lst xs)/\nM J.σ xs R/\Lay U none 0 R U.length
structure Mid (U:List Nat) (root sb:Nat) (J:St) (p c:Nat) (lc:Nat×Nat) (a:Nat) (cl:Option Nat) (fr:Rows) (ts:List PV):Prop where
 hlen:U.length<=600
 ha:Al U
 at_:U[p]?=some c
 hlc:lc=eX (U.take p)
 core:dJ (LX U root sb p lc c a (f8 cl)) J.ρ
 tree:Tree sb J.σ a fr ts
 stk:J.σ sb=some (.lst (stk fr))
 wt:wt ts fr<=2*p
 root:zN a fr=root
 opn:Opn U p cl ts (fr.map (·.2))
section
variable {U:List Nat}{root sb:Nat}{J st':St}{p c q:Nat}{lc:Nat×Nat}{a b:Nat}{cl:Option Nat}{fr:Rows}{ts xs:List PV}{t:Tk}{rep:List Nat}
theorem Mid.lt(m:Mid U root sb J p c lc a cl fr ts):p<U.length:=bK m.at_
theorem Mid.lt2(m:Mid U root sb J p c lc a cl fr ts):U.length<1000000:=ai m.hlen (by decide)
theorem Mid.drop(m:Mid U root sb J p c lc a cl fr ts):U.drop p=c ::U.drop (p+1):=by
 rw[ak m.lt,Option.some.inj ((ah m.lt).symm.trans m.at_)]
theorem Mid.keep{L:List (Str×PV)}(m:Mid U root sb J p c lc a cl fr ts)(h:dJ L J.ρ):Mid U root sb ⟨bB L J.ρ,J.σ⟩ p c lc a cl fr ts:=by
 rw[<- dI L h];exact m
theorem Mid.ncl(m:Mid U root sb J p c lc a cl fr ts)(h:[41,93,125].contains c=false):cl≠some c:=λe=>by
 have h1:=m.opn
 subst e
 cases fr with
 |nil=>cases h1.1
 |cons q fr=>
  refine x4 (λo c' b s=>a7 λ_ _ _ _ h5 _ _=>?_) h1
  have zq:=Option.some.inj h5;subst zq
  cases b<;>cases h
theorem fewW{n p l:Nat}(h:n<=2*p)(h1:p<l)(h2:l<=600):n+1<bU:=ai (df (af h (ei 2 (aq (aj h1 h2))))) (by decide)
theorem Mid.few(m:Mid U root sb J p c lc a cl fr ts)(hx:J.σ a=some (.lst xs)):xs.length<bU/\xs.length+1<bU:=by
 refine x1 (λys=>a2 λh1 h2=>?_) m.tree.top
 rw[hx]at h1;cases h1
 have h:=fewW (af (am _ _) m.wt) m.lt m.hlen
 rw[xF h2]
 exact⟨fg h,h⟩
theorem zbu:∀fr:Rows,(Mine.stk fr).length<=(fr.map λq=>q.2.ts.length+1).sum
 |[]=>bh _
 |q ::fr=>by
  rw[Mine.stk,bj,cf,List.sum_cons,bn _ (ip _)]
  exact ft (ed _ _) (zbu fr)
theorem Mid.fewS(m:Mid U root sb J p c lc a cl fr ts):(Mine.stk fr).length<bU:=
 fg (fewW (af (zbu fr) (af (ed _ _) m.wt)) m.lt m.hlen)
theorem w1{a p q:Nat}(h:p<q)(h1:q<=a):a - q<a - p:=dd (aj h h1) h
theorem w2{x y p q n:Nat}(h:x+y<=2*p)(h1:p<q)(hn:n<=2):x+n+y<=2*q:=(dm x n y).symm▸af (ft h hn) (ei 2 h1)
theorem za9{ns:List PV}(m:Mid U root sb J p c lc a cl fr ts)(hpq:p<q)(hq:q<=U.length)(hn:Lds U cl p ns q)(hl:ns.length<=2)(T:Tree sb st'.σ a fr (ts++ns))(hs:st'.σ sb=J.σ sb)(hc:dJ (LZ U root sb q p lc.1 ((p:Int) - lc.2) a (f8 cl)) st'.ρ):j4 U root sb p st':=by
 refine⟨_,w1 hpq hq,q,p,a,cl,fr,ts++ns,rfl,aq hpq,hq,?_,T,hs.trans m.stk,?_,m.root,m.opn.step hn⟩
 ·rw[<- m.hlc];exact hc
 ·unfold Mine.wt
  rw[bj];exact w2 m.wt hpq hl
theorem bV(m:Mid U root sb J p c lc a cl fr ts)(rep:List Nat)(hx:J.σ a=some (.lst xs))(hpq:p<q)(hq:q<=U.length)(hcl:cl≠some c)(ht:NxT U p c t q [])(hc:dJ (LZ U root sb q p lc.1 ((p:Int) - lc.2) a (f8 cl)) st'.ρ)
  (hσ:st'.σ=bE J.σ a (.lst (xs++[tkP lc rep t]))):j4 U root sb p st':=
 za9 (ns:=[tkP lc rep t]) m hpq hq (λE r g=>by rw[m.hlc];exact .tok cl p c t rep q E r m.at_ hcl ht g) (ff 1) (by rw[hσ];exact m.tree.push hx λs=>aQ _ _ (pD _ _ _)) (by rw[hσ,dU _ m.tree.ne.1]) hc
theorem w0{o e:List Nat}(m:Mid U root sb J p c lc a cl fr ts)(rep:List Nat)(hx:J.σ a=some (.lst xs))(hpq:p<q)(hq:q<=U.length)(hcl:cl≠some c)(ht:NxT U p c t q o)(ho:o≠[])(hc:dJ (LZ U root sb q p lc.1 ((p:Int) - lc.2) a (f8 cl)) st'.ρ)
  (hσ:st'.σ=bE (bE J.σ a (.lst (xs++[tkP lc rep t]))) a (.lst ((xs++[tkP lc rep t])++[tkP lc [] (.err o e)]))):j4 U root sb p st':=by
 refine za9 (ns:=[tkP lc rep t,tkP lc [] (.err o e)]) m hpq hq (λE r g=>by rw[m.hlc];exact .two cl p c t rep q o e E r m.at_ hcl ht ho g) (bh 2) ?_ (by rw[hσ,dU _ m.tree.ne.1,dU _ m.tree.ne.1]) hc
 rw[hσ,show ts++[tkP lc rep t,tkP lc [] (.err o e)]=(ts++[tkP lc rep t])++[tkP lc [] (.err o e)]by rw[dw];rfl]
 exact(m.tree.push hx λs=>aQ _ _ (pD _ _ _)).push (aN _ _ _) λs=>aQ _ _ (pD _ _ _)
theorem w3{k:Bk}(m:Mid U root sb J p c lc a cl fr ts)(hx:J.σ a=some (.lst xs))(hb:J.σ b=none)(hpq:p<q)(hq:q<=U.length)(hcl:cl≠some c)(hk:ziL U p c k q)(hc:dJ (LZ U root sb q p lc.1 ((p:Int) - lc.2) b (f8 (some (bkC k)))) st'.ρ)
  (hσ:st'.σ=bE (bE (bE J.σ b (.lst [])) a (.lst (xs++[bkP lc k (.ptr b)]))) sb (.lst (Mine.stk fr++[.tup [.ptr a,f8 cl]]))):j4 U root sb p st':=by
 refine⟨_,w1 hpq hq,q,p,b,some (bkC k),(a,⟨ts,bkP lc k,cl,zg5 _ k⟩) ::fr,[],rfl,aq hpq,hq,?_,?_,?_,?_,m.root,?_⟩
 ·rw[<- m.hlc];exact hc
 ·rw[hσ];exact(m.tree.opn hx hb).set _
 ·rw[hσ,aN];rfl
 ·have:=w2 m.wt hpq (show 1<=2 by decide)
  unfold Mine.wt at this ⊢
  rw[cf,List.sum_cons];show 0+(ts.length+1+_)<=_;rw[eg];exact this
 ·have:=m.opn.opn m.at_ hcl hk
  rw[<- m.hlc]at this;exact this
theorem zd9{f:Nat×PF}{fr':Rows}(m:Mid U root sb J p c lc a (some c) (f ::fr') ts)(hc:dJ (LZ U root sb (p+1) p lc.1 ((p:Int) - lc.2) f.1 (f8 f.2.e)) st'.ρ)(hσ:st'.σ=bE J.σ sb (.lst (Mine.stk fr'))):j4 U root sb p st':=by
 refine⟨_,w1 (av p) m.lt,p+1,p,f.1,f.2.e,fr',f.2.ts++[f.2.mkP (.list ts)],rfl,ff p,m.lt,?_,?_,?_,?_,m.root,m.opn.shut (.inr ⟨m.at_,rfl⟩)⟩
 ·rw[<- m.hlc];exact hc
 ·rw[hσ];exact m.tree.cls.set _
 ·rw[hσ,aN]
 ·have:=m.wt
  unfold Mine.wt at this ⊢
  rw[cf,List.sum_cons]at this
  rw[bj];show f.2.ts.length+1+_<=_;omega
theorem xX(T:Tree sb J.σ a fr ts)(hr:zN a fr=root)(ho:Opn U U.length cl ts (fr.map (·.2)))(hρ:dJ [("root",.ptr root)] J.ρ):ziV U root J:=by
 refine x1 (λxs=>a2 λh1 h2=>?_) T.root
 exact⟨hρ,xs,_,hr▸h1,h2,Opn.fin (bt (bh _)) _ _ _ ho⟩
end
section
variable {H:Kn}{J:St}{U:List Nat}{i c:Nat}{p0 p1 p2 p3 p4 p5 p6:Pos}
theorem zig(k1:H "_is_ident_start"=some .globalImplicit)(k2:H "css"=some .local)(k3:H "pos"=some .local)(h1:J.ρ "css"=some (.str U))(h2:J.ρ "pos"=some (.int i))(hx:U.length<1000000)(ha:Al U)(hc:U[i]?=some c):
  ev cP H (.Call (.Name (ae "_is_ident_start") p1) [.Name (ae "css") p2,.Name (ae "pos") p3] [] p4) J (.bool (aO (U.drop i))):=
 aR (F:=zkC) a0 k1 rfl (aC a0 (aE k2 h1) (aC a0 (aE k3 h2) aG)) ⟨U,i,c,rfl,hx,ha,hc,.inl rfl,rfl⟩
theorem zfs(k1:H "_consume_ident"=some .globalImplicit)(k2:H "css"=some .local)(k3:H "pos"=some .local)(h1:J.ρ "css"=some (.str U))(h2:J.ρ "pos"=some (.int i))(hx:U.length<1000000)(ha:Al U)(hi:i<=U.length):
  ev cP H (.Call (.Name (ae "_consume_ident") p1) [.Name (ae "css") p2,.Name (ae "pos") p3] [] p4) J (.tup [.str ((U.drop i).take (aY (U.drop i))),.int (i+aY (U.drop i):Nat)]):=
 aR (F:=zkD) a0 k1 rfl (aC a0 (aE k2 h1) (aC a0 (aE k3 h2) aG)) ⟨U,i,rfl,hx,ha,hi,.inl rfl,rfl⟩
theorem zge(k1:H "_is_ident_start"=some .globalImplicit)(k2:H "css"=some .local)(k3:H "pos"=some .local)(k4:H "length"=some .local)(h1:J.ρ "css"=some (.str U))(h2:J.ρ "pos"=some (.int i))(h3:J.ρ "length"=some (.int U.length))(hx:U.length<1000000)(ha:Al U):
  tv cP H (.BoolOp .And [.Compare (.Name (ae "pos") p5) [.Lt] [.Name (ae "length") p6] p0,.Call (.Name (ae "_is_ident_start") p1) [.Name (ae "css") p2,.Name (ae "pos") p3] [] p4] p) J (aO (U.drop i)):=by
 have e:aO (U.drop i)=(decide (i<U.length)&&aO (U.drop i)):=by
  by_cases h:i<U.length
  ·rw[decide_eq_true h,eo]
  ·rw[az (aw h)];exact(ew _).symm
 rw[e]
 exact bS a0 (aS a0 (fC a0 (aE k3 h2) (aE k4 h3))) λh=>bJ (aS a0 (zig k1 k2 k3 h1 h2 hx ha (ah (of_decide_eq_true h))))
theorem zic{C:Ctx}{o:Expr}{p2 p3 p4 p:Pos}{k1 k2 k3:Nat}{c:Nat}(M:CtxMono C)(h:ev C H o J (.str [c])):
  ev C H (.Compare o [.NotIn] [.Tuple [.Constant (.str (ae "\"")) k1 p2,.Constant (.str (ae "'")) k2 p3] k3 p4] p) J (.bool (!(decide (c=34)||decide (c=39)))):=
 bL (a:=.str [c]) M h (bH M (aC M (aB rfl) (aC M (aB rfl) aG))) ⟨[[34],[39]],by decide+kernel,congrArg _ (rV c)⟩
theorem xC{C:Ctx}{x v f a b:Str}{w:List Nat}{k1 k2:Nat}{p p7:Pos}{Q:Fl->St->Prop}(M:CtxMono C)(hk:H f=some .globalImplicit)(hf:C.fn f=some wP)(kv:H v=some .local)(hv:J.ρ v=some (.str w))(hw:w.length<=100000)(hs:cY H x=true)(hab:(decide (a.cps.toList.length<=10)&&decide (b.cps.toList.length<=10))=true)
  (hQ:∀y:List Nat,Q .next ⟨upd J.ρ x (.str y),J.σ⟩):
  wS C H (.Assign [.Name x p0] (.JoinedStr [.Constant (.str a) k1 p1,.FormattedValue (.Call (.Name f p2) [.Name v p3] [] p4) (-1) none p5,.Constant (.str b) k2 p6] p7) p) Q J:=by
 refine a2 (λh1 h2=>?_) (ag.mp hab)
 have h1:=of_decide_eq_true h1
 have h2:=of_decide_eq_true h2
 have fin:∀y:List Nat,d9 C H [.Name x p0] (.str y) J λst2=>Q .next st2:=λy=>⟨cJ (cJ hs rfl) rfl,hQ y⟩
 refine⟨ff 2,?_⟩
 refine bA (e:=.Constant (.str a) k1 p1) M (aB rfl) ⟨af h1 (by decide),?_⟩
 refine⟨rfl,rfl,?_⟩
 rw[uE]
 refine⟨rfl,hk,by unfold nX;rw[hf];rfl,?_⟩
 rw[gR]
 refine bA M (aE kv hv) ?_
 rw[mJ]
 unfold iM
 rw[hf]
 refine⟨w,rfl,hw,λy _ hy=>⟨.inl rfl,?_,?_⟩⟩
 ·rw[bj,ik]
  unfold bU;omega
 ·refine bA (e:=.Constant (.str b) k2 p6) M (aB rfl) ⟨?_,fin _⟩
  rw[bj,bj,ik]
  unfold bU;omega
theorem zgK{C:Ctx}{o:Expr}{k:Nat}{n:Nat}{p q p1 p2:Pos}{x:List Nat}(M:CtxMono C)(h:ev C H o J (.str x))(h0:decide (n<1000)=true):ev C H (.Subscript o (.Slice none (some (.UnaryOp .USub (.Constant (.int n) k p1) p2)) none q) p) J (.str (slc x none (some (-(n:Int))))):=
 bA (e:=o) M h ⟨rfl,bA M (nD (i:=n) M (aB rfl)) ⟨by have:=of_decide_eq_true h0;omega,by omega,rfl,rfl⟩⟩
theorem zfi{α:Type}(xs:List α)(i:Nat):sU xs (i:Int)=xs[i]?:=by unfold sU;rw[if_neg (fk.mpr (cg i)),jo]
theorem vN{C:Ctx}{x:Str}{k i:Nat}{p1 p2 p3:Pos}{vs:List PV}{v:PV}(M:CtxMono C)(k1:H x=some .local)(h:J.ρ x=some (.tup vs))(hi:vs[i]?=some v):ev C H (.Subscript (.Name x p1) (.Constant (.int i) k p2) p3) J v:=
 oY M rfl (aE k1 h) (aB rfl) (by show opt (sU vs (i:Int)) _;rw[zfi,hi];rfl)
end
theorem eS{H:Kn}{e:Expr}{a:Nat}{p1 p2 p3 p4:Pos}{xs:List PV}{Q:Fl->St->Prop}{J:St}(M:CtxMono cP)(v:PV)(hk:H "tokens"=some .local)(hx:J.ρ "tokens"=some (.ptr a))(hc:J.σ a=some (.lst xs))(hl:xs.length<bU)(he:ev cP H e J v)
  (hr:dM [e]=none) (k:Q .next ⟨J.ρ,bE J.σ a (.lst (xs++[v]))⟩):
  wS cP H (.Expr (.Call (.Attribute (.Name (ae "tokens") p1) (ae "append") p2) [e] [] p3) p4) Q J:=
 eP M v hk hx hc he hr hl k
section
variable {Q:Fl->St->Prop}{U:List Nat}{root sb:Nat}{J:St}{p c:Nat}{lc:Nat×Nat}{a:Nat}{cl:Option Nat}{fr:Rows}{ts xs:List PV}
theorem brWs(m:Mid U root sb J p c lc a cl fr ts)(hx:J.σ a=some (.lst xs))(hcl:cl≠some c)(hb:bT c=true)(hQ:∀st',j4 U root sb p st'->Q .cont st'):wSs cP knP (br1 0) Q J:=by
 have M:=a0
 obtain⟨ρ,σ⟩:=J
 have ha:=m.ha
 have hlt:=m.lt
 have hd:=m.drop
 have hx2:=m.lt2
 have hx3:=ar hx2 (show 1000000<2000000 by decide)
 have few:=(m.few hx).1
 refine eJ (L:=LX U root sb p lc c a (f8 cl)) m.core ?_
 (apply nfs;case h=>(show ?ya54=?yb54;refine(?_:∀_:(?ya54=?yb54),(?ya54=?yb54)) ?_;rotate_left;(conv=>lhs;whnf;dsimp only[lU,erS,erE,fF,erO]);exactλ_=>by kernel_rfl!))
 unfold knP
 have hn:a9 (U.drop p)=a9 (U.drop (p+1))+1:=(gZ (by rw[gX,m.at_];exact hb)).2
 have hq:p+1+a9 (U.drop (p+1))<=U.length:=aZ (n:=p+1) hlt (dG _)
 have hpq:p<p+1+a9 (U.drop (p+1)):=aj (av p) (am _ _)
 have ht:NxT U p c (.ws ((U.drop p).take (p+1+a9 (U.drop (p+1)) - p))) (p+1+a9 (U.drop (p+1))) []:=⟨rfl,hb,by rw[hn,dm];rfl,rfl⟩
 refine aA (b8 M (.int p) (.int 1) ⋯ (aB rfl) ∅ (of_eq bM ?_))
 refine aA (l4 (e:=p+1) M ⋯ ⋯ (by rw[Ne,sEq];decide) ⋯ ⋯ hx2 hlt ?_)
 clear hn
 generalize p+1+a9 (U.drop (p+1))=q at hq hpq ht ⊢
 refine aA (aH M (.str ((U.drop p).take (q - p))) (gW M aD aD (aE (v:=.int q) ⋯ ⋯) (aq hpq) (ai hq hx3)) ∅ ?_)
 generalize (U.drop p).take (q - p)=v at ht ⊢
 refine aA (eS M (tkP lc [] (.ws v)) ∅ ⋯ hx few (dA (F:=zf1) M ⋯ rfl rfl (aC M (v:=.int lc.1) aD (aC M (v:=.int lc.2) aD (aC M (v:=.str v) aD aG))) ⟨_,_,_,rfl,rfl⟩) rfl ?_)
 exact aA (eA (hQ _ (bV m [] hx hpq hq hcl ht (by walk_at "co") rfl)))
theorem zjm{x:List Nat}{p:Nat}(h:zbT (x.drop p)=true):p<x.length:=fc λq=>by replace h:=(az q)▸h;cases h
theorem zbU{x:List Nat}:(fG x).2.2<=x.length:=by
 have hA:=(fA bD 6 x).2
 have hB:=(fA (· ==63) (6 - cH x) (x.drop (cH x))).2
 have hC:=(fA bD 6 (x.drop (cH x+1))).2
 have hA:cH x<=x.length:=hA
 unfold fG
 split
 ·split
  ·rename_i h
   have hl:cH x+1<x.length:=fc λq=>by replace h:=(az q)▸h;cases h.2
   replace hC:=bv▸hC
   refine(?_:cH x+1+_<=_)
   exact bp (aq hl)▸cc hC _
  ·exact hA
 ·replace hB:=bv▸hB
  refine(?_:cH x+j0 x<=_)
  exact bp hA▸cc hB _
theorem zla(m:Mid U root sb J p c lc a cl fr ts)(hx:J.σ a=some (.lst xs))(hcl:cl≠some c)(hr:pO (U.drop p)=true)(hQ:∀st',j4 U root sb p st'->Q .cont st'):wSs cP knP (br1 1) Q J:=by
 have M:=a0
 obtain⟨ρ,σ⟩:=J
 have ha:=m.ha
 have hlt:=m.lt
 have hd:=m.drop
 have hx2:=m.lt2
 have hx3:=ar hx2 (show 1000000<2000000 by decide)
 have few:=(m.few hx).1
 refine eJ (L:=LX U root sb p lc c a (f8 cl)) m.core ?_
 (apply nfs;case h=>(show ?ya55=?yb55;refine(?_:∀_:(?ya55=?yb55),(?ya55=?yb55)) ?_;rotate_left;(conv=>lhs;whnf;dsimp only[lU,erS,erE,fF,erO]);exactλ_=>by kernel_rfl!))
 unfold knP
 have hs:zbT (U.drop (p+2))=true:=by
  have:=(ag.mp hr).2
  rwa [dk]at this
 have hp2:p+2<=U.length:=aq (zjm hs)
 have hq:p+2+(fG (U.drop (p+2))).2.2<=U.length:=aZ (n:=p+2) hp2 zbU
 have ht:NxT U p c (.rng (gL (fG (U.drop (p+2))).1) (gL (fG (U.drop (p+2))).2.1)) (p+2+(fG (U.drop (p+2))).2.2) []:=⟨rfl,hr,rfl,rfl,rfl⟩
 have hpq:p<p+2+(fG (U.drop (p+2))).2.2:=aj (bg (by decide)) (am _ _)
 refine aA (eV M (.int (gL (fG (U.drop (p+2))).1:Nat)) (.int (gL (fG (U.drop (p+2))).2.1:Nat)) (.int (p+2+(fG (U.drop (p+2))).2.2:Nat)) (aR (F:=zf5) M ⋯ rfl (aC M (v:=.str U) aD (aC M (v:=.int (p+2:Nat)) (aP (i:=p) (j:=2) M aD (aB rfl)) aG)) ⟨U,p+2,rfl,hx2,ha,hp2,hs,.inl rfl,rfl⟩) ∅ ∅ ∅ ?_)
 clear hs hr
 generalize p+2+(fG (U.drop (p+2))).2.2=q at hq hpq ht ⊢
 generalize gL (fG (U.drop (p+2))).1=A at ht ⊢
 generalize gL (fG (U.drop (p+2))).2.1=B at ht ⊢
 refine aA (eS M (tkP lc [] (.rng A B)) ∅ ⋯ hx few (dA (F:=y6) M ⋯ rfl rfl (aC M (v:=.int lc.1) aD (aC M (v:=.int lc.2) aD (aC M (v:=.int A) aD (aC M (v:=.int B) aD aG)))) ⟨_,_,_,_,rfl,rfl⟩) rfl ?_)
 exact aA (eA (hQ _ (bV m [] hx hpq hq hcl ht (by walk_at "co") rfl)))
theorem iC{q x:List Nat}{p:Nat}(hp:p<=x.length)(h:q.isPrefixOf (x.drop p)=true):p+q.length<=x.length:=aZ hp (dn.mp h).length_le
theorem zlh(m:Mid U root sb J p c lc a cl fr ts)(hx:J.σ a=some (.lst xs))(hcl:cl≠some c)(h3:[45,45,62].isPrefixOf (U.drop p)=true)(hQ:∀st',j4 U root sb p st'->Q .cont st'):wSs cP knP (br1 2) Q J:=by
 have M:=a0
 obtain⟨ρ,σ⟩:=J
 have ha:=m.ha
 have hlt:=m.lt
 have hd:=m.drop
 have hx2:=m.lt2
 have hx3:=ar hx2 (show 1000000<2000000 by decide)
 have few:=(m.few hx).1
 refine eJ (L:=LX U root sb p lc c a (f8 cl)) m.core ?_
 (apply nfs;case h=>(show ?ya56=?yb56;refine(?_:∀_:(?ya56=?yb56),(?ya56=?yb56)) ?_;rotate_left;(conv=>lhs;whnf;dsimp only[lU,erS,erE,fF,erO]);exactλ_=>by kernel_rfl!))
 unfold knP
 have hq:p+3<=U.length:=iC (aq hlt) h3
 have ht:NxT U p c (.lit (lcS "-->")) (p+3) []:=⟨rfl,.inl ⟨by decide+kernel,h3⟩,rfl⟩
 refine aA (eS M (tkP lc [] (.lit (lcS "-->"))) ∅ ⋯ hx few (dA (F:=iS) M ⋯ rfl rfl (aC M (v:=.int lc.1) aD (aC M (v:=.int lc.2) aD (aC M (v:=.str (lcS "-->")) (aB rfl) aG))) ⟨_,_,_,rfl,rfl⟩) rfl ?_)
 refine aA (b8 M (.int p) (.int 3) ⋯ (aB rfl) ∅ (of_eq bM ?_))
 exact aA (eA (hQ _ (bV m [] hx (bg (by decide)) hq hcl ht (by walk_at "co") rfl)))
end
/-! runs of signs -/
theorem zhf{f:Nat->Bool}:∀{x:List Nat}{j:Nat},j<(x.takeWhile f).length->∃c,x[j]?=some c/\f c=true
 |c ::r,j,h=>by
  rw[dh]at h
  split at h
  ·rename_i hc
   cases j with
   |zero=>exact⟨c,rfl,hc⟩
   |succ j=>exact zhf (x:=r) (iq h)
  ·exact absurd h (jg _)
theorem uG{f:Nat->Bool}:∀{x:List Nat}{c:Nat},x[(x.takeWhile f).length]?=some c->f c=false
 |d ::r,c,h=>by
  replace h:=dh▸h
  split at h
  ·exact uG (x:=r) h
  ·rename_i hd;(have zq:=Option.some.inj h;subst zq);exact ek.mpr hd
theorem zc4{f:Nat->Bool}{U:List Nat}{s i:Nat}(h1:s<=i)(h2:i<s+((U.drop s).takeWhile f).length):∃c,U[i]?=some c/\f c=true:=by
 refine x1 (λc=>a2 λh3 h4=>?_) (zhf (f:=f) (x:=U.drop s) (j:=i - s) (Nat.sub_lt_left_of_lt_add h1 h2))
 rw[bw,bp h1]at h3
 exact⟨c,h3,h4⟩
theorem lD{f:Nat->Bool}{U:List Nat}{s c:Nat}(h:U[s+((U.drop s).takeWhile f).length]?=some c):f c=false:=uG (f:=f) (x:=U.drop s) (by rw[bw];exact h)
theorem pX{U:List Nat}:∀(n s:Nat),(∀i,s<=i->i<s+n->∃c,U[i]?=some c/\c≠41)->s+t9 (U.drop s)=s+n+t9 (U.drop (s+n))
 |0=>λs _=>rfl
 |n+1=>λs h=>by
  refine x1 (λc=>a2 λhc h4=>?_) (h s (bh s) (bg (gz n)))
  have hl:=bK hc
  have e:U[s]=c:=Option.some.inj ((ah hl).symm.trans hc)
  rw[ak hl,r7,e,if_neg h4,<- bl,dm,pX n (s+1) λi h1 h2=>h i (ej h1) (by rw[bn n 1,<- bl];exact h2),dm s 1 n];rfl
theorem ziB{U:List Nat}{s e f:Nat}(hs:s<=U.length)(he:e=s+t9 (U.drop s))(hf:e=f+t9 (U.drop f)):zlk U f=min (e+1) U.length:=by
 unfold zlk
 rw[<- hf]
 split
 ·rename_i q;exact(ce (bK q)).symm
 ·rename_i q
  have hl:U.length<=e:=aw λg=>by
   obtain⟨c,hg⟩:∃c,U[e]?=some c:=⟨_,ah g⟩
   have:=lD (f:=λc=>c !=41) (s:=s) (by rw[show s+((U.drop s).takeWhile λc=>c !=41).length=e from he.symm];exact hg)
   exact q (by rw[hg];exact congrArg some (by simpa using this))
  have hle:e<=U.length:=he▸aZ hs (zb2 _)
  rw[fx hle hl];exact(ib (ff _)).symm
noncomputable def ziS(U:List Nat)(p s:Nat)(V:List Nat)(r:PV):Prop:=
 ∃q,q<=U.length/\s<=q/\((UrlK U p V q []/\r=.tup [.str V,.int q,.none])\/(UrlK U p V q (lcS "eof-in-url")/\r=.tup [.str V,.int q,jO "eof-in-url" "EOF in URL"])\/(BadU U p q/\r=.tup [.none,.int q,jO "bad-url" "bad URL token"]))
theorem za4{U:List Nat}{p s:Nat}(hs:s=zdN U p)(hsl:s<=U.length)(hA:hW (U.drop p)=true)(hq:quo U[s]?=false):
  ziS U p s ((U.drop s).take (dF (U.drop s))) (za5 U ((U.drop s).take (dF (U.drop s))) (s+dF (U.drop s))):=by
 have hel:s+dF (U.drop s)<=U.length:=aZ hsl (kI _)
 have hno:∀i,s<=i->i<s+dF (U.drop s)->∃c,U[i]?=some c/\c≠41:=λi h1 h2=>by
  refine x1 (λc=>a2 λh3 h4=>?_) (zc4 (f:=λc=>!jE c) h1 h2)
  exact⟨c,h3,λe=>by rw[e]at h4;cases h4⟩
 have hst:∀c,U[s+dF (U.drop s)]?=some c->jE c=true:=λc h=>by
  have:=lD (f:=λc=>!jE c) h
  simpa using this
 have hse:s<=s+dF (U.drop s):=am _ _
 have hU:∀f,f=s+dF (U.drop s)+a9 (U.drop (s+dF (U.drop s)))->∀q o,((U[f]?=some 41/\q=f+1/\o=[])\/(U[f]?=none/\q=f/\o=lcS "eof-in-url"))->UrlK U p ((U.drop s).take (dF (U.drop s))) q o:=λf hf q o h=>⟨hA,s,f,hs,rfl,hf,h⟩
 generalize (U.drop s).take (dF (U.drop s))=V at hU ⊢
 generalize s+dF (U.drop s)=e at hU hel hno hst hse ⊢
 have bad:∀j i f,s<=j->j<=i->(U[j]?).any jE=true->(∃d,U[i]?=some d/\bT d=false)->f<=i+1->s<=f->(∀k,s<=k->k<i+1->∃c,U[k]?=some c/\c≠41)->ziS U p s V (y0 U f):=λj i f h1 h2 h3=>x1 λd=>a2 λh4 h5 h6 h7 h8=>by
  have e1:=pX (i+1 - s) s (by rw[bp (cq (af h1 h2))];exact h8)
  have e2:=pX (f - s) s λk k1 k2=>h8 k k1 (aj k2 (by rw[bp h7];exact h6))
  replace e1:=(bp (cq (af h1 h2)))▸e1
  replace e2:=(bp h7)▸e2
  have hie:i<s+t9 (U.drop s):=e1▸aj (av i) (am _ _)
  refine⟨min (s+t9 (U.drop s)+1) U.length,du _ _,Nat.le_min.mpr ⟨cq (am _ _),hsl⟩,.inr (.inr ⟨⟨hA,s,_,j,i,hs,rfl,rfl,hq,h1,h2,hie,h3,by unfold gX;rw[h4];exact h5⟩,?_⟩)⟩
  unfold y0
  rw[ziB hsl rfl e2]
 have fin:∀f,f=e+a9 (U.drop e)->f<=U.length->(∀d,U[f]?=some d->d≠41->ziS U p s V (y0 U f))->ziS U p s V (yM U V f):=λf hf hfl hb=>by
  have hsf:s<=f:=hf▸af hse (am _ _)
  unfold yM
  cases hg:U[f]? with
  |none=>exact⟨f,hfl,hsf,.inr (.inl ⟨hU f hf _ _ (.inr ⟨hg,rfl,rfl⟩),rfl⟩)⟩
  |some d=>
   refine(?_:ziS U p s V (if d=41 then _ else _))
   by_cases h4:d=41
   ·subst h4
    exact⟨f+1,bK hg,cq hsf,.inl ⟨hU f hf _ _ (.inl ⟨hg,rfl,rfl⟩),rfl⟩⟩
   ·rw[if_neg h4];exact hb d hg h4
 unfold za5
 cases hg:U[e]? with
 |none=>exact fin e (by rw[gY (by unfold gX;rw[hg];rfl)];rfl) hel λd h _=>by replace h:=hg▸h;cases h
 |some c=>
  have hc:(U[e]?).any jE=true:=by rw[hg];exact hst c hg
  refine(?_:ziS U p s V (if c=41 then _ else if bT c=true then _ else _))
  by_cases h4:c=41
  ·rw[if_pos h4]
   exact fin e (by rw[gY (by unfold gX;rw[hg,h4];rfl)];rfl) hel λd h h'=>by replace h:=hg▸h;(have zq:=Option.some.inj h;subst zq);exact absurd h4 h'
  ·rw[if_neg h4]
   have hno':∀k,s<=k->k<e+1->∃c,U[k]?=some c/\c≠41:=λk k1 k2=>(Nat.lt_succ_iff_lt_or_eq.mp k2).elim (hno k k1) λh=>⟨c,by rw[h];exact hg,h4⟩
   by_cases hb:bT c=true
   ·rw[if_pos hb]
    have hf:e+1+a9 (U.drop (e+1))=e+a9 (U.drop e):=by rw[(gZ (i:=e) (by unfold gX;rw[hg];exact hb)).2,dm];rfl
    have hno2:∀k,s<=k->k<e+1+a9 (U.drop (e+1))->∃c,U[k]?=some c/\c≠41:=λk k1 k2=>(Nat.lt_or_ge k (e+1)).elim (hno' k k1) λh=>by
     refine x1 (λd=>a2 λh5 h6=>?_) (zc4 (f:=bT) h k2)
     exact⟨d,h5,λq=>by rw[q]at h6;cases h6⟩
    have hfl:e+1+a9 (U.drop (e+1))<=U.length:=aZ (n:=e+1) (bK hg) (dG _)
    have hbs:∀d,U[e+1+a9 (U.drop (e+1))]?=some d->bT d=false:=λd h=>lD (f:=bT) h
    have hef:e<=e+1+a9 (U.drop (e+1)):=af (ff e) (am _ _)
    generalize e+1+a9 (U.drop (e+1))=f at hf hno2 hfl hbs hef ⊢
    exact fin f hf hfl λd h h'=>bad e f f hse hef hc ⟨d,h,hbs d h⟩ (ff _) (af hse hef) λk k1 k2=>(Nat.lt_succ_iff_lt_or_eq.mp k2).elim (hno2 k k1) λq=>⟨d,by rw[q];exact h,h'⟩
   ·rw[if_neg hb]
    exact bad e e (e+1) hse (bh e) hc ⟨c,hg,ek.mpr hb⟩ (bh _) (cq hse) hno'
noncomputable def ziM:List Nat:=[117,114,108]
theorem uR(k:Nat)(x:List Nat)(i:Nat):[k].isPrefixOf (x.drop i)=(x[i]?==some k):=by
 by_cases h:i<x.length
 ·rw[ak h,ah h]
  show((k==x[i])&&true)=(x[i]==k)
  rw[fm,BEq.comm]
 ·rw[az (aw h),bt (aw h)];rfl
theorem ziF{x:List Nat}(ha:Al x)(h:(x.take (aY x)).map fU=ziM)(h4:x[aY x]?=some 40):hW x=true/\aY x=3:=by
 have hl:aY x=3:=by
  have:=congrArg ip h
  rw[cz,bz,ce (cW x)]at this
  exact this
 rw[hl]at h h4
 refine⟨?_,hl⟩
 have g:∀i k d,(i<3)->ziM[i]?=some k->(alphaL.all λc=>fU c !=k||(c==k||c==d))=true->(x[i]?==some k||x[i]?==some d)=true:=λi k d hi hk hall=>by
  have e:((x.take 3).map fU)[i]?=some k:=by rw[h];exact hk
  rw[fj,List.getElem?_take,if_pos hi]at e
  refine x1 (λc=>a2 λhc he=>?_) (de.mp e)
  have:=kJ (P:=λc=>fU c !=k||(c==k||c==d)) hall (ha.at hc)
  rw[hc]
  have this:(fU c !=k||(c==k||c==d))=true:=this
  rw[he,bne_self_eq_false,gt]at this
  exact this
 unfold hW
 rw[g 0 117 85 (by decide) rfl (by decide+kernel),g 1 114 82 (by decide) rfl (by decide+kernel),g 2 108 76 (by decide) rfl (by decide+kernel),h4];rfl
theorem fQ{x:List Nat}{i c:Nat}(h:x[i]?=some c):x.drop i=c ::x.drop (i+1):=by
 have hl:=bK h
 rw[ak hl,Option.some.inj ((ah hl).symm.trans h)]
theorem zdM{x:List Nat}(h:hW x=true):aY x=3/\(x.take (aY x)).map fU=ziM/\x[aY x]?=some 40:=by
 refine a2 (λk2 h3=>?_) (ag.mp h)
 refine a2 (λk1 k02=>?_) (ag.mp k2)
 refine a2 (λk00 k01=>?_) (ag.mp k1)
 have f:∀{i k d:Nat},(x[i]?==some k||x[i]?==some d)=true->∃c,x[i]?=some c/\(c=k\/c=d):=λh=>(gg.mp h).elim (λh=>⟨_,eq_of_beq h,.inl rfl⟩) λh=>⟨_,eq_of_beq h,.inr rfl⟩
 refine x1 (λa=>a2 λg0 h0=>?_) (f k00)
 refine x1 (λb=>a2 λg1 h1=>?_) (f k01)
 refine x1 (λc=>a2 λg2 h2=>?_) (f k02)
 have e:x=a ::b ::c ::40 ::x.drop 4:=by(refine(fQ (i:=3) (eq_of_beq h3))▸?_;refine(fQ g2)▸?_;refine(fQ g1)▸?_;refine(fQ g0)▸?_);rfl
 generalize x.drop 4=r at e
 clear f h h3 g0 g1 g2 k00 k01 k02 k1 k2
 subst e
 rcases h0 with rfl|rfl<;>rcases h1 with rfl|rfl<;>rcases h2 with rfl|rfl<;>exact⟨rfl,rfl,rfl⟩
theorem zjp{o:Option Nat}{d:Nat}(h:quo o=false)(hd:o=some d):d≠34/\d≠39:=by
 subst hd
 exact⟨λe=>(by subst e;cases h),λe=>(by subst e;cases h)⟩
theorem kS{x:List Nat}(ha:Al x)(h:aO x=true):1<=aY x:=by
 cases x with
 |nil=>cases h
 |cons c r=>
  rw[oO,if_pos]
  ·exact df (dq _)
  ·have h:(a1 c||((c==45&&kD r)||(c==92&&!([92,10].isPrefixOf (c ::r)))))=true:=h
   unfold bC
   cases h1:a1 c with
   |true=>rfl
   |false=>
    rw[h1,gt]at h
    rcases gg.mp h with h|h
    ·rw[(ag.mp h).1];rfl
    ·exact absurd (eq_of_beq (ag.mp h).1) (iY (ha c bk) 92 (by decide))
section
variable {Q:Fl->St->Prop}{U:List Nat}{root sb:Nat}{J:St}{p c:Nat}{lc:Nat×Nat}{a:Nat}{cl:Option Nat}{fr:Rows}{ts xs:List PV}
theorem zeE{H:Kn}{p1 p2 p3 p4 p5 p6 p7 p8 p9 q1 q2 q3 q4 q5:Pos}{k1 k2:Nat}{k m:String}{Q:Fl->St->Prop}{J:St}(h1:H "tokens"=some .local)(h2:H "line"=some .local)(h3:H "column"=some .local)(h4:H "error"=some .local)(h5:H "ParseError"=some .globalImplicit)
  (g1:J.ρ "tokens"=some (.ptr a)) (g2:J.ρ "line"=some (.int lc.1)) (g3:J.ρ "column"=some (.int lc.2)) (g4:J.ρ "error"=some (jO k m)) (hc:J.σ a=some (.lst xs)) (hl:xs.length<bU) (hQ:Q .next ⟨J.ρ,bE J.σ a (.lst (xs++[tkP lc [] (.err (lcS k) (lcS m))]))⟩):
  wS cP H (.Expr (.Call (.Attribute (.Name (ae "tokens") p1) (ae "append") p2) [.Call (.Name (ae "ParseError") p3) [.Name (ae "line") p4,.Name (ae "column") p5,.Subscript (.Name (ae "error") p6) (.Constant (.int 0) k1 p7) p8,.Subscript (.Name (ae "error") p9) (.Constant (.int 1) k2 q1) q2] [] q3] [] q4) q5) Q J:=
 eS a0 (tkP lc [] (.err (lcS k) (lcS m))) h1 g1 hc hl (dA (F:=tT) a0 h5 rfl rfl (aC a0 (v:=.int lc.1) (aE h2 g2) (aC a0 (v:=.int lc.2) (aE h3 g3) (aC a0 (v:=.str (lcS k)) (vN (i:=0) a0 h4 g4 rfl) (aC a0 (v:=.str (lcS m)) (vN (i:=1) a0 h4 g4 rfl) aG)))) ⟨_,_,_,_,rfl,rfl⟩) rfl hQ
theorem fM{C:Ctx}{H:Kn}{x:Str}{k:Nat}{p1 p2 p3:Pos}{J:St}{v:PV}(M:CtxMono C)(k1:H x=some .local)(h:J.ρ x=some v)(hn:zaX J.σ .IsNot v .none λc=>c=true):tv C H (.Compare (.Name x p1) [.IsNot] [.Constant .none k p2] p3) J true:=
 aS M (bL (b:=.none) M (aE k1 h) (aB rfl) hn)
theorem jT{C:Ctx}{H:Kn}{x:Str}{k:Nat}{p1 p2 p3:Pos}{J:St}(M:CtxMono C)(k1:H x=some .local)(h:J.ρ x=some .none):tv C H (.Compare (.Name x p1) [.IsNot] [.Constant .none k p2] p3) J false:=
 aS M (bL (a:=.none) (b:=.none) M (aE k1 h) (aB rfl) rfl)
theorem brId(m:Mid U root sb J p c lc a cl fr ts)(hx:J.σ a=some (.lst xs))(hcl:cl≠some c)(hi:aO (U.drop p)=true)(h3:[45,45,62].isPrefixOf (U.drop p)=false)(hr:pO (U.drop p)=false)(hQ:∀st',j4 U root sb p st'->Q .cont st'):wSs cP knP (br1 3) Q J:=by
 have M:=a0
 obtain⟨ρ,σ⟩:=J
 have ha:=m.ha
 have hlt:=m.lt
 have hd:=m.drop
 have hx2:=m.lt2
 have hx3:=ar hx2 (show 1000000<2000000 by decide)
 have few:=(m.few hx).1
 refine eJ (L:=LX U root sb p lc c a (f8 cl)) m.core ?_
 (apply nfs;case h=>(show ?ya57=?yb57;refine(?_:∀_:(?ya57=?yb57),(?ya57=?yb57)) ?_;rotate_left;(conv=>lhs;whnf;dsimp only[lU,erS,erE,fF,erO]);exactλ_=>by kernel_rfl!))
 unfold knP
 have few2:=(m.few hx).2
 have hq:p+aY (U.drop p)<=U.length:=aZ (aq hlt) (cW _)
 have hpq:p<p+aY (U.drop p):=bg (kS (ha.drop p) hi)
 have hvl:((U.drop p).take (aY (U.drop p))).length<1000000:=ai (gH _ _ _) hx2
 have hn:NameK U p ((U.drop p).take (aY (U.drop p))) (p+aY (U.drop p)):=⟨hi,rfl,rfl⟩
 have hg:(U.drop p)[aY (U.drop p)]?=U[p+aY (U.drop p)]?:=bw
 have hau:((U.drop p).take (aY (U.drop p))).map fU=ziM->U[p+aY (U.drop p)]?=some 40->hW (U.drop p)=true/\p+aY (U.drop p)+1=p+4:=λh h'=>by
  refine a2 (λg1 g2=>?_) (ziF (ha.drop p) h (hg.trans h'))
  exact⟨g1,by rw[g2]⟩
 have hua:hW (U.drop p)=true->((U.drop p).take (aY (U.drop p))).map fU=ziM:=λh=>(zdM h).2.1
 refine aA (fP M (.str ((U.drop p).take (aY (U.drop p)))) (.int (p+aY (U.drop p):Nat)) (zfs ⋯ ⋯ ⋯ ⋯ ⋯ hx2 ha (aq hlt)) ∅ ∅ ?_)
 clear hg hi
 generalize (U.drop p).take (aY (U.drop p))=v at hvl hn hau hua ⊢
 generalize p+aY (U.drop p)=q at hq hpq hn hau ⊢
 refine aA (bI M (!(U[q]?==some 40)) (eR M (aS M (uR 40 U q▸kF (q:=ae "(") M aD aD hq hx3 rfl))) (λh=>?_) (λh=>?_))
 ·have h:U[q]?≠some 40:=λe=>by replace h:=e▸h;(exfalso;cases h)
  refine aA (eS M (tkP lc [] (.ident v)) ∅ ⋯ hx few (dA (F:=mH) M ⋯ rfl rfl (aC M (v:=.int lc.1) aD (aC M (v:=.int lc.2) aD (aC M (v:=.str v) aD aG))) ⟨_,_,_,rfl,hvl,rfl⟩) rfl ?_)
  exact aA (eA (hQ _ (bV m [] hx hpq hq hcl (t:=.ident v) ⟨rfl,hn,h,h3,hr⟩ (by walk_at "co") rfl)))
 have h40:U[q]?=some 40:=by
  cases h':(U[q]?==some 40)with
  |true=>exact eq_of_beq h'
  |false=>replace h:=h'▸h;(exfalso;cases h)
 clear h h3 hr
 have hq1:q+1<=U.length:=bK h40
 refine aA (b8 M (.int q) (.int 1) ⋯ (aB rfl) ∅ (of_eq bM ?_))
 refine aA (zbO (aA (aH M (.bool (decide (v.map fU=(ae "url").cps.toList))) (eZ (q:="url") M (aR (F:=oA) M ⋯ rfl (aC M (v:=.str v) aD aG) ⟨v,rfl,hvl,.inl rfl,rfl⟩)) ∅ ?_)))
 (repeat(first |refine aX ?_|dsimp only[cG]))
 let R:St->Prop:=λst1=>dJ (("value",.str v) ::("column",.int lc.2) ::LZ U root sb (q+1) p lc.1 ((p:Int) - lc.2) a (f8 cl)) st1.ρ/\st1.σ=σ/\(hW (U.drop p)=true->quo U[q+1+a9 (U.drop (q+1))]?=true)
 refine c8 M R (bI M (decide (v.map fU=(ae "url").cps.toList)) (aS M aD) (λh=>?_) (λh=>?_)) ?_
 ·have hu:v.map fU=ziM:=(of_decide_eq_true h).trans (by decide+kernel)
  refine a2 (λhA hq4=>?_) (hau hu h40)
  clear h hau hua hu
  refine aA (aH M (.int (q+1:Nat)) aD ∅ ?_)
  refine aA (l4 (e:=q+1) M ⋯ ⋯ (by rw[Ne,sEq];decide) ⋯ ⋯ hx2 hq1 ?_)
  have hs:q+1+a9 (U.drop (q+1))=zdN U p:=by unfold zdN;rw[hq4]
  have hsl:q+1+a9 (U.drop (q+1))<=U.length:=aZ (n:=q+1) hq1 (dG _)
  have hps:p<q+1+a9 (U.drop (q+1)):=aj (dl hpq) (am _ _)
  have hF:quo U[q+1+a9 (U.drop (q+1))]?=false->∀K,K (za5 U ((U.drop (q+1+a9 (U.drop (q+1)))).take (dF (U.drop (q+1+a9 (U.drop (q+1)))))) (q+1+a9 (U.drop (q+1))+dF (U.drop (q+1+a9 (U.drop (q+1))))))->v3 [.str U,.int ((q+1:Nat))] K:=λhb K hK=>⟨U,q+1,_,rfl,hx2,ha,hq1,rfl,λd hd=>zjp hb hd,hK⟩
  generalize hsd:q+1+a9 (U.drop (q+1))=s at hs hsl hps hF ⊢
  refine aA (bI M (!quo U[s]?) ?_ (λh=>?_) (λh=>?_))
  ·by_cases g:s<U.length
   ·have hg:U[s]?=some U[s]:=ah g
    have e:(!quo U[s]?)=(decide (U.length<=s)||!(decide (U[s]=34)||decide (U[s]=39))):=by rw[hg,decide_eq_false (gh g)];rfl
    exact e▸dX M (aS M (qP M aD aD)) λ_=>bJ (aS M (zic M (bR M rfl aD aD hg)))
   ·have g:=aw g
    have e:(!quo U[s]?)=(decide (U.length<=s)||false):=by rw[bt g,decide_eq_true g];rfl
    exact e▸dX M (aS M (qP M aD aD)) λh=>absurd g (of_decide_eq_false h)
  ·have hqb:quo U[s]?=false:=by
    cases h':quo U[s]? with
    |false=>rfl
    |true=>replace h:=h'▸h;(exfalso;cases h)
   have hO:=za4 hs hsl hA hqb
   have hF:=hF hqb
   have hwl:((U.drop s).take (dF (U.drop s))).length<=100000:=af (gH _ _ _) (af m.hlen (by decide))
   clear h hA hs hqb hn
   generalize (U.drop s).take (dF (U.drop s))=V at hO hF hwl ⊢
   generalize za5 U V (s+dF (U.drop s))=r at hO hF
   refine x1 (λz=>a3 λhz hsz hO=>?_) hO
   have hpz:=aj hps hsz
   refine hO.elim (a2 λhU hr=>?_) λhO=>hO.elim (a2 λhU hr=>?_) (a2 λhU hr=>?_)
   ·subst hr
    refine aA (eV M (.str V) (.int z) .none (aR (F:=v3) M ⋯ rfl (aC M (v:=.str U) aD (aC M (v:=.int (q+1:Nat)) aD aG)) (hF _ ⟨.inl rfl,rfl⟩)) ∅ ∅ ∅ ?_)
    refine aA (bI M true (fM (v:=.str V) M ⋯ ⋯ rfl) (λ_=>?_) (λh=>by(exfalso;cases h)))
    refine aA (xC M ⋯ rfl ⋯ ⋯ hwl ∅ (by decide+kernel) λy=>?_)
    refine aA (bI M false (jT M ⋯ ⋯) (λh=>by(exfalso;cases h)) (λ_=>?_))
    (repeat(first |refine aX ?_|dsimp only[cG]))
    refine aA (eS M (tkP lc y (.url V)) ∅ ⋯ hx few (dA (F:=tQ) M ⋯ rfl rfl (aC M (v:=.int lc.1) aD (aC M (v:=.int lc.2) aD (aC M (v:=.str V) aD (aC M (v:=.str y) aD aG)))) ⟨_,_,_,_,rfl,rfl⟩) rfl ?_)
    (repeat(first |refine aX ?_|dsimp only[cG]))
    refine aA (bI M false (jT M ⋯ ⋯) (λh=>by(exfalso;cases h)) (λ_=>?_))
    (repeat(first |refine aX ?_|dsimp only[cG]))
    exact aA (eA (hQ _ (bV m y hx hpz hz hcl (t:=.url V) hU (by walk_at "co") rfl)))
   ·subst hr
    refine aA (eV M (.str V) (.int z) (jO "eof-in-url" "EOF in URL") (aR (F:=v3) M ⋯ rfl (aC M (v:=.str U) aD (aC M (v:=.int (q+1:Nat)) aD aG)) (hF _ ⟨.inl rfl,rfl⟩)) ∅ ∅ ∅ ?_)
    refine aA (bI M true (fM (v:=.str V) M ⋯ ⋯ rfl) (λ_=>?_) (λh=>by(exfalso;cases h)))
    refine aA (xC M ⋯ rfl ⋯ ⋯ hwl ∅ (by decide+kernel) λy=>?_)
    refine aA (bI M true (fM (v:=jO "eof-in-url" "EOF in URL") M ⋯ ⋯ rfl) (λ_=>?_) (λh=>by(exfalso;cases h)))
    refine aA (aH M (.str (lcS "eof-in-url")) (vN (vs:=[.str (lcS "eof-in-url"),.str (lcS "EOF in URL")]) (i:=0) M ⋯ ⋯ rfl) ∅ ?_)
    refine aA (bI M false (aS M ((show decide (lcS "eof-in-url"=(ae "eof-in-string").cps.toList)=false by decide+kernel)▸eZ (q:="eof-in-string") M aD)) (λh=>by(exfalso;cases h)) (λ_=>?_))
    refine aA (xE M ((show decide (lcS "eof-in-url"=(ae "eof-in-url").cps.toList)=true by decide+kernel)▸aS M (eZ (q:="eof-in-url") M aD)) ?_)
    refine aA (aH M (.str (slc y none (some (-((1:Nat):Int))))) (zgK M aD (by decide)) ∅ ?_)
    generalize slc y none (some (-((1:Nat):Int)))=y
    (repeat(first |refine aX ?_|dsimp only[cG]))
    refine aA (eS M (tkP lc y (.url V)) ∅ ⋯ hx few (dA (F:=tQ) M ⋯ rfl rfl (aC M (v:=.int lc.1) aD (aC M (v:=.int lc.2) aD (aC M (v:=.str V) aD (aC M (v:=.str y) aD aG)))) ⟨_,_,_,_,rfl,rfl⟩) rfl ?_)
    (repeat(first |refine aX ?_|dsimp only[cG]))
    refine aA (bI M true (fM (v:=jO "eof-in-url" "EOF in URL") M ⋯ ⋯ rfl) (λ_=>?_) (λh=>by(exfalso;cases h)))
    refine aA (zeE (lc:=lc) (a:=a) (xs:=xs++[tkP lc y (.url V)]) (k:="eof-in-url") (m:="EOF in URL") ⋯ ⋯ ⋯ ⋯ ⋯ ⋯ ⋯ ⋯ ⋯ (aN _ _ _) (by rw[bj];exact few2) ?_)
    (repeat(first |refine aX ?_|dsimp only[cG]))
    exact aA (eA (hQ _ (w0 m y hx hpz hz hcl (t:=.url V) hU (by decide+kernel) (by walk_at "co") rfl)))
   ·subst hr
    refine aA (eV M .none (.int z) (jO "bad-url" "bad URL token") (aR (F:=v3) M ⋯ rfl (aC M (v:=.str U) aD (aC M (v:=.int (q+1:Nat)) aD aG)) (hF _ ⟨.inl rfl,rfl⟩)) ∅ ∅ ∅ ?_)
    refine aA (bI M false (jT M ⋯ ⋯) (λh=>by(exfalso;cases h)) (λ_=>?_))
    (repeat(first |refine aX ?_|dsimp only[cG]))
    refine aA (bI M true (fM (v:=jO "bad-url" "bad URL token") M ⋯ ⋯ rfl) (λ_=>?_) (λh=>by(exfalso;cases h)))
    refine aA (zeE (lc:=lc) (a:=a) (xs:=xs) (k:="bad-url") (m:="bad URL token") ⋯ ⋯ ⋯ ⋯ ⋯ ⋯ ⋯ ⋯ ⋯ hx few ?_)
    (repeat(first |refine aX ?_|dsimp only[cG]))
    exact aA (eA (hQ _ (bV m [] hx hpz hz hcl (t:=.err (lcS "bad-url") (lcS "bad URL token")) ⟨rfl,.inr (.inl ⟨rfl,hU⟩)⟩ (by walk_at "co") rfl)))
  ·have h:quo U[s]?=true:=by
    cases h':quo U[s]? with
    |true=>rfl
    |false=>replace h:=h'▸h;(exfalso;cases h)
   (repeat(first |refine aX ?_|dsimp only[cG]))
   exact⟨by walk_at "co",rfl,λ_=>hsd▸h⟩
 ·have h:=of_decide_eq_false h
  (repeat(first |refine aX ?_|dsimp only[cG]))
  exact⟨by walk_at "co",rfl,λe=>absurd (hua e) (λq=>h (q.trans (by decide+kernel)))⟩
 ·clear hau hua
  rintro⟨ρ1,σ1⟩ ⟨h1,hσ,hAq⟩
  subst hσ
  refine eJ h1 ?_
  clear h1
  refine aA (mM ∅ ∅ λb hb=>?_)
  have hb:σ1 b=none:=hb
  have hs:σ1 sb=_:=m.stk
  have ba:a≠b:=λe=>by replace hb:=e.symm▸hb;replace hb:=(show σ1 a=_ from hx)▸hb;(exfalso;cases hb)
  have bs:sb≠b:=λe=>by(replace hb:=e.symm▸hb;replace hb:=hs▸hb);(exfalso;cases hb)
  refine aA (eS (a:=a) (xs:=xs) M (bkP lc (.fn v) (.ptr b)) ∅ ⋯ (by dsimp only;rw[dU _ ba];exact hx) few (dA (F:=zf2) M ⋯ rfl rfl (aC M (v:=.int lc.1) aD (aC M (v:=.int lc.2) aD (aC M (v:=.str v) aD (aC M (v:=.ptr b) aD aG)))) ⟨_,_,_,_,rfl,hvl,rfl⟩) rfl ?_)
  refine aA (eP (a:=sb) (xs:=stk fr) M (.tup [.ptr a,f8 cl]) ∅ ⋯ (by dsimp only;rw[dU _ m.tree.ne.1,dU _ bs];exact hs) (bH M (aC M aD (aC M aD aG))) rfl m.fewS ?_)
  refine aA (aH M (.str [41]) (aB rfl) ∅ ?_)
  refine aA (aH M (.ptr b) aD ∅ ?_)
  exact aA (eA (hQ _ (w3 m hx hb (dl hpq) hq1 hcl (k:=.fn v) ⟨q,hn,h40,rfl,hAq⟩ (by walk_at "co") rfl)))
end
theorem zcm{c:Nat}(h:eM c=true):(decide (c∈(ae "0123456789abcdefghijklmnopqrstuvwxyz-_ABCDEFGHIJKLMNOPQRSTUVWXYZ").cps.toList)||decide (127<c))=bC c:=
 cF (f:=λc=>decide (c∈(ae "0123456789abcdefghijklmnopqrstuvwxyz-_ABCDEFGHIJKLMNOPQRSTUVWXYZ").cps.toList)||decide (127<c)) (by decide+kernel) h
/-! numbers -/
theorem zjQ{c:Nat}(h:b7 c=true):eO 10 c=some (c - 48)/\48<=c:=by
 have h1:=of_decide_eq_true (ag.mp h).1
 have h2:=of_decide_eq_true (ag.mp h).2
 exact⟨if_pos ⟨h1,h2,Nat.sub_lt_left_of_lt_add h1 (Nat.lt_succ_of_le h2)⟩,h1⟩
theorem uX:∀{y:List Nat}(acc:Nat),(∀c∈y,b7 c=true)->eD 10 acc y=some (zaA y acc)
 |[]=>λ_ _=>rfl
 |c ::y=>λacc h=>by
  have hc:=h c bk
  have f:=zjQ hc
  have ih:=uX (y:=y) (acc*10+(c - 48)) λd hd=>h d (bc _ hd)
  unfold eD
  rw[f.1]
  show eD 10 (acc*10+(c - 48)) y=some (zaA y (if b7 c=true then acc*10+c - 48 else acc))
  rw[if_pos hc,Nat.add_sub_assoc f.2];exact ih
theorem vU(r:List Nat):∀c∈r.take (b9 r),b7 c=true:=λc hc=>by
 unfold b9 at hc
 rw[<- fb.mp (gr b7)]at hc
 exact ay.mp im c hc
theorem uJ{r:List Nat}(h:b9 r≠0):r.take (b9 r)≠[]:=λe=>h (by
 have:=congrArg ip e
 rwa [bz,ce (show b9 r<=r.length from(eh b7).length_le)]at this)
theorem zeP{x:List Nat}{z:Nat}(h:nV x=some (z,true)):z=b9 (x.drop (bX x))+bX x/\b9 (x.drop (bX x))≠0:=by
 unfold nV zju at h
 cases hf:kU (x.drop (b9 (x.drop (bX x))+bX x))with
 |some f=>replace h:=hf▸h;(exfalso;cases h)
 |none=>
  replace h:=hf▸h
  have h:(if b9 (x.drop (bX x))=0 then none else _)=some (z,true):=h
  by_cases hz:b9 (x.drop (bX x))=0
  ·replace h:=(if_pos hz)▸h;(exfalso;cases h)
  ·replace h:=(if_neg hz)▸h
   cases he:j3 (x.drop (b9 (x.drop (bX x))+bX x))with
   |some g=>replace h:=he▸h;(exfalso;cases h)
   |none=>replace h:=he▸h;cases h;exact⟨rfl,hz⟩
theorem zhY{x:List Nat}{z:Nat}(h:nV x=some (z,true))(hx:x.length<640):zdX (x.take z) λw=>w=.int (zaW (x.take z)):=by
 refine a2 (λh1 h2=>?_) (zeP h)
 clear h
 subst h1
 have ht:∀k,(x.take k).length<640:=λk=>ai (List.length_take_le' _ _) hx
 by_cases hs:x[0]?=some 45\/x[0]?=some 43
 ·have e:bX x=1:=if_pos hs
  rw[e]at h2 ⊢
  cases x with
  |nil=>exact absurd rfl h2
  |cons c r=>
   have h2:b9 r≠0:=h2
   have hl:(r.take (b9 r)).length<640:=fg (ht (b9 r+1))
   have hn:=uX 0 (vU r)
   refine(?_:zdX (c ::r.take (b9 r)) λw=>w=.int (zaW (c ::r.take (b9 r))))
   refine hs.elim (λhs=>?_) λhs=>?_
   ·have hs:c=45:=Option.some.inj hs
    subst hs
    exact⟨hl,.inl ⟨rfl,uJ h2,_,hn,rfl⟩⟩
   ·have hs:c=43:=Option.some.inj hs
    subst hs
    exact⟨hl,.inr (.inl ⟨rfl,uJ h2,_,hn,rfl⟩)⟩
 ·have e:bX x=0:=if_neg hs
  rw[e]at h2 ⊢
  have h2:b9 x≠0:=h2
  have hn:=uX 0 (vU x)
  have hl:=ht (b9 x)
  have hne:=uJ h2
  have hda:=vU x
  refine(?_:zdX (x.take (b9 x)) λw=>w=.int (zaW (x.take (b9 x))))
  generalize x.take (b9 x)=y at hn hl hne hda
  cases y with
  |nil=>exact absurd rfl hne
  |cons c r=>
   refine⟨fg hl,.inr (.inr ⟨_,hn,?_⟩)⟩
   have hc:c≠45:=λq=>by have:=hda c bk;replace this:=q▸this;cases this
   exact congrArg PV.int (if_neg λq=>hc (Option.some.inj q)).symm
theorem zh7{x:List Nat}{f:Nat}(h:kU x=some f):1<=f/\f<=x.length:=by
 unfold kU at h
 split at h
 ·rename_i q
  have zq:=Option.some.inj h;subst zq
  rw[bn]
  exact⟨af (by decide) (am 2 _),tG (yP q.2)⟩
 ·cases h
theorem zgE{x:List Nat}{g:Nat}(h:j3 x=some g):g<=x.length:=by
 unfold j3 at h
 split at h
 ·split at h
  ·rename_i q
   have zq:=Option.some.inj h;subst zq
   rw[bn]
   exact tG (aq (yP q))
  ·cases h
 ·cases h
theorem vT{x:List Nat}{f k:Nat}(hk:k<=x.length)(h:f<=(x.drop k).length):f+k<=x.length:=bn k f▸aZ hk h
theorem xL{x:List Nat}{z:Nat}{b:Bool}(h:nV x=some (z,b)):1<=z/\z<=x.length:=by
 have hs:bX x<=x.length:=by have:=uP (x:=x) (i:=0) (dq _);rwa [eg]at this
 have hk:b9 (x.drop (bX x))+bX x<=x.length:=bn (bX x) _▸tG hs
 unfold nV zju at h
 generalize hd:b9 (x.drop (bX x))=d at h hk
 have hdk:d<=d+bX x:=am _ _
 generalize d+bX x=k at h hk hdk
 cases hf:kU (x.drop k)with
 |some f=>
  obtain⟨f1,f2⟩:=zh7 hf
  replace h:=hf▸h
  cases h
  have hfk:=vT hk f2
  refine⟨af f1 (af (am f k) (ed _ _)),?_⟩
  cases he:j3 (x.drop (f+k))with
  |none=>show 0+(f+k)<=_;rw[eg];exact hfk
  |some g=>exact vT hfk (zgE he)
 |none=>
  replace h:=hf▸h
  have h:(if d=0 then none else _)=some (z,b):=h
  by_cases hz:d=0
  ·replace h:=(if_pos hz)▸h;cases h
  ·replace h:=(if_neg hz)▸h
   have hk1:1<=k:=af (Nat.pos_of_ne_zero hz) hdk
   cases he:j3 (x.drop k)with
   |none=>replace h:=he▸h;cases h;exact⟨hk1,hk⟩
   |some g=>replace h:=he▸h;cases h;exact⟨af hk1 (ed _ _),vT hk (zgE he)⟩
/-! the first '*/' -/
theorem zeK{p:List Nat}:∀{x:List Nat}{k:Nat},p.isPrefixOf x=false->p.isPrefixOf (x.take k)=false:=λ{x k} h=>by
 cases hp:p.isPrefixOf (x.take k)with
 |false=>rfl
 |true=>replace h:=(dn.mpr ((dn.mp hp).trans (List.take_prefix k x)))▸h;cases h
theorem zdg(x:List Nat):∀(n i:Nat),i+n=x.length+1->(nB x [42,47] i n=-1/\uA [42,47] (x.drop i)=false)\/∃k:Nat,nB x [42,47] i n=k/\i<=k/\[42,47].isPrefixOf (x.drop k)=true/\uA [42,47] ((x.drop i).take (k - i))=false
 |0=>λi h=>.inl ⟨rfl,by rw[az ((show i=x.length+1 from h)▸ff _)];rfl⟩
 |n+1=>λi h=>by
  unfold nB
  by_cases hp:[42,47].isPrefixOf (x.drop i)=true
  ·refine(if_pos hp).symm▸?_
   exact .inr ⟨i,rfl,bh i,hp,by rw[ji];rfl⟩
  ·refine(if_neg hp).symm▸?_
   have hp:=ek.mpr hp
   have ih:=zdg x n (i+1) (by rw[<- h,bl,bn 1])
   by_cases hl:i<x.length
   ·rw[ak hl]at hp ⊢
    refine ih.imp (a2 λh1 h2=>⟨h1,gb.mpr ⟨hp,h2⟩⟩) (e1 λk=>a4 λh1 h2 h3 h4=>⟨h1,ej h2,h3,?_⟩)
    refine(show k - i=k - (i+1)+1 from(Nat.succ_pred_eq_of_pos (Nat.sub_pos_of_lt h2)).symm).symm▸?_
    have hp:=zeK (k:=k - (i+1)+1) hp
    exact gb.mpr ⟨hp,h4⟩
   ·have hl:=aw hl
    refine(az hl).symm▸?_
    rw[az (cq hl)]at ih
    refine ih.imp (a2 λh1 h2=>⟨h1,rfl⟩) (x1 λk=>a4 λh1 h2 h3 h4=>?_)
    rw[az (af hl (ej h2))]at h3;(exfalso;cases h3)
theorem zjO{x:List Nat}{i:Nat}(h:i<=x.length):(sX x [42,47] i=-1/\uA [42,47] (x.drop i)=false)\/∃k:Nat,sX x [42,47] i=k/\i<=k/\[42,47].isPrefixOf (x.drop k)=true/\uA [42,47] ((x.drop i).take (k - i))=false:=
 zdg x _ _ (bp (af h (ff _)))
theorem zgJ{H:Kn}{J:St}{U:List Nat}{p:Nat}{v:Int}{p1 p2 p3 p4 p5 p6 p7:Pos}{k k':Nat}(hp:p+2<=U.length)(hx:U.length<1000000)(h:sX U [42,47] (p+2)=v)(k1:H "css"=some .local)(k2:H "pos"=some .local)(h1:J.ρ "css"=some (.str U))(h2:J.ρ "pos"=some (.int p)):
  ev cP H (.Call (.Attribute (.Name (ae "css") p1) (ae "find") p2) [.Constant (.str (ae "*/")) k p3,.BinOp (.Name (ae "pos") p4) .Add (.Constant (.int 2) k' p5) p6] [] p7) J (.int v):=
 nE a0 (aE k1 h1) (aC a0 (aB rfl) (aC a0 (aP (i:=p) (j:=2) a0 (aE k2 h2) (aB rfl)) aG)) rfl ∅ (by rw[zZ];exact⟨cg (p+2),zaV (n:=p+2) (ai hp (ar hx (by decide))),congrArg PV.int h,rfl⟩)
theorem zjf{C:Ctx}{H:Kn}{x y s:Str}{px py pt p p1 p2 p3:Pos}{kk a:Nat}{v w:PV}{xs:List PV}{Q:Fl->St->Prop}{J:St}(hk:H s=some .local)(hx:J.ρ s=some (.ptr a))(hc:J.σ a=some (.lst (xs++[.tup [v,w]])))(hs:cY H x=true)(hs':cY H y=true)
  (k:Q .next ⟨upd (upd J.ρ x v) y w,bE J.σ a (.lst xs)⟩):wS C H (.Assign [.Tuple [.Name x px,.Name y py] kk pt] (.Call (.Attribute (.Name s p1) (ae "pop") p2) [] [] p3) p) Q J:=by
 refine(?_:wE C _ H _ J)
 rw[kM,show dM []=none from rfl,iE]
 refine⟨rfl,?_⟩
 rw[kL,hk,kQ,hx,iW]
 refine⟨?_,?_⟩
 ·refine(?_:(gP (J.σ a)).isSome=true)
  rw[hc];rfl
 ·rw[mJ]
  have hn:∀y,y≠"pop" ->¬(ae "pop"=ae y):=λy h q=>h ((sEq _ _).mp q).symm
  refine(?_:jG J.σ (ae "pop") (.ptr a) [] _)
  unfold jG
  rw[if_neg (hn _ (by decide)),if_neg (hn _ (by decide)),if_neg (hn _ (by decide)),if_neg (hn _ (by decide)),if_neg (hn _ (by decide)),if_neg (hn _ (by decide)),if_pos rfl]
  exact⟨rfl,xs,_,hc,cJ (cJ hs (cJ hs' rfl)) rfl,k⟩
theorem zh4(iv:Option Int):sR (zT iv)=some iv.isSome:=by cases iv<;>rfl
section
variable {Q:Fl->St->Prop}{U:List Nat}{root sb:Nat}{J:St}{p c:Nat}{lc:Nat×Nat}{a:Nat}{cl:Option Nat}{fr:Rows}{ts xs:List PV}
theorem zlc{z:Nat}{b:Bool}(m:Mid U root sb J p c lc a cl fr ts)(hx:J.σ a=some (.lst xs))(hcl:cl≠some c)(hn:nV (U.drop p)=some (z,b))(vend:J.ρ "end"=some (.int ((p+z:Nat))))(vpl:J.ρ "plain"=some (.bool b))
  (hQ:∀st',j4 U root sb p st'->Q .next st'):wSs cP knP (br2 0) Q J:=by
 have M:=a0
 obtain⟨ρ,σ⟩:=J
 have ha:=m.ha
 have hlt:=m.lt
 have hd:=m.drop
 have hx2:=m.lt2
 have hx3:=ar hx2 (show 1000000<2000000 by decide)
 have few:=(m.few hx).1
 refine eJ (L:=LX U root sb p lc c a (f8 cl)) m.core ?_
 (apply nfs;case h=>(show ?ya58=?yb58;refine(?_:∀_:(?ya58=?yb58),(?ya58=?yb58)) ?_;rotate_left;(conv=>lhs;whnf;dsimp only[lU,erS,erE,fF,erO]);exactλ_=>by kernel_rfl!))
 unfold knP
 refine eJ (L:=[("end",.int ((p+z:Nat))),("plain",.bool b)]) (aF vend (aF vpl rfl)) ?_
 have hz:=xL hn
 have hle:p+z<=U.length:=aZ (aq hlt) hz.2
 have hpz:p<p+z:=bg hz.1
 have hK:zha U p z (if b=true then some (zaW ((U.drop p).take z))else none) ((U.drop p).take z):=⟨b,hn,rfl,rfl⟩
 have hI:b=true->zdX ((U.drop p).take z) λw=>w=.int (zaW ((U.drop p).take z)):=λe=>zhY (e▸hn) (by rw[bv];exact ai (Nat.sub_le _ _) (ai m.hlen (by decide)))
 have htk:(U.drop p).take (p+z - p)=(U.drop p).take z:=by rw[bx]
 clear hd hz hn vend vpl
 generalize (U.drop p).take z=r at hK hI htk
 refine aA (aH M (.int (p+z:Nat)) aD ∅ ?_)
 refine aA (aH M (.str r) (htk▸gW M aD aD aD (am p z) (ai hle hx3)) ∅ ?_)
 refine aA (aH M (.str r) aD ∅ ?_)
 refine aA (aH M (zT (if b=true then some (zaW r)else none)) (bW (c:=b) M (aS M aD) (λh=>?_) (λh=>?_)) ∅ ?_)
 ·rw[if_pos h]
  exact kX M ⋯ rfl rfl ∅ (aC M (v:=.str r) aD aG) (of_eq (B:=zdX r λw=>w=.int (zaW r)) ∅ (hI h))
 ·rw[if_neg (by rw[h];decide)]
  exact aB rfl
 clear htk hI
 generalize (if b=true then some (zaW r)else none)=iv at hK ⊢
 refine aA (bI M (aO (U.drop (p+z))) (zge (i:=p+z) ⋯ ⋯ ⋯ ⋯ ⋯ ⋯ ⋯ hx2 ha) (λh=>?_) (λh=>?_))
 ·have hq:p+z+aY (U.drop (p+z))<=U.length:=aZ (n:=p+z) hle (cW _)
  have hpq:p<p+z+aY (U.drop (p+z)):=aj hpz (am _ _)
  have hvl:((U.drop (p+z)).take (aY (U.drop (p+z)))).length<1000000:=ai (gH _ _ _) hx2
  have ht:NxT U p c (.dim iv r ((U.drop (p+z)).take (aY (U.drop (p+z))))) (p+z+aY (U.drop (p+z))) []:=⟨rfl,z,hK,h,rfl,rfl⟩
  refine aA (fP M (.str ((U.drop (p+z)).take (aY (U.drop (p+z))))) (.int (p+z+aY (U.drop (p+z)):Nat)) (zfs (i:=p+z) ⋯ ⋯ ⋯ ⋯ ⋯ hx2 ha hle) ∅ ∅ ?_)
  generalize (U.drop (p+z)).take (aY (U.drop (p+z)))=v at hvl ht ⊢
  generalize p+z+aY (U.drop (p+z))=q at hq hpq ht ⊢
  refine aA (eS M (tkP lc [] (.dim iv r v)) ∅ ⋯ hx few (dA (F:=zA) M ⋯ rfl rfl (aC M (v:=.int lc.1) aD (aC M (v:=.int lc.2) aD (aC M (v:=.str r) aD (aC M (v:=zT iv) aD (aC M (v:=.str r) aD (aC M (v:=.str v) aD aG)))))) ⟨_,_,_,_,_,_,iv.isSome,rfl,hvl,zh4 iv,rfl⟩) rfl ?_)
  exact hQ _ (bV m [] hx hpq hq hcl ht (by walk_at "co") rfl)
 ·refine aA (bI M (U[p+z]?==some 37) (aS M (uR 37 U (p+z)▸kF (q:=ae "%") M aD aD hle hx3 rfl)) (λh'=>?_) (λh'=>?_))
  ·have h':U[p+z]?=some 37:=eq_of_beq h'
   refine aA (b8 M (.int (p+z:Nat)) (.int 1) ⋯ (aB rfl) ∅ (of_eq bM ?_))
   refine aA (eS M (tkP lc [] (.pct iv r)) ∅ ⋯ hx few (dA (F:=y7) M ⋯ rfl rfl (aC M (v:=.int lc.1) aD (aC M (v:=.int lc.2) aD (aC M (v:=.str r) aD (aC M (v:=zT iv) aD (aC M (v:=.str r) aD aG))))) ⟨_,_,_,_,_,iv.isSome,rfl,zh4 iv,rfl⟩) rfl ?_)
   exact hQ _ (bV m [] hx (dl hpz) (bK h') hcl (t:=.pct iv r) ⟨rfl,z,hK,h',rfl⟩ (by walk_at "co") rfl)
  ·have h':U[p+z]?≠some 37:=λe=>by replace h':=e▸h';cases h'
   refine aA (eS M (tkP lc [] (.num iv r)) ∅ ⋯ hx few (dA (F:=y9) M ⋯ rfl rfl (aC M (v:=.int lc.1) aD (aC M (v:=.int lc.2) aD (aC M (v:=.str r) aD (aC M (v:=zT iv) aD (aC M (v:=.str r) aD aG))))) ⟨_,_,_,_,_,iv.isSome,rfl,zh4 iv,rfl⟩) rfl ?_)
   exact hQ _ (bV m [] hx hpz hle hcl (t:=.num iv r) ⟨rfl,z,hK,h,h',rfl⟩ (by walk_at "co") rfl)
end
section
variable {Q:Fl->St->Prop}{U:List Nat}{root sb:Nat}{J:St}{p c:Nat}{lc:Nat×Nat}{a:Nat}{cl:Option Nat}{fr:Rows}{ts xs:List PV}
theorem zkw(m:Mid U root sb J p c lc a cl fr ts)(hid:aO (U.drop p)=false)(hnum:nV (U.drop p)=none)(hb:[32,10,9,34,39,40,41,91,93,123,125].contains c=false)(h:zhw c (U.drop (p+1))=true):NxT U p c (.lit [c]) (p+1) []:=
 ⟨rfl,.inr ⟨c,U.drop (p+1),m.drop,rfl,by unfold sgl;(refine hb.symm▸?_;refine h.symm▸?_;refine m.drop▸?_;refine hid.symm▸?_;refine hnum.symm▸?_);rfl⟩,rfl⟩
theorem zkc(m:Mid U root sb J p c lc a cl fr ts)(hx:J.σ a=some (.lst xs))(hcl:cl≠some c)(hl:NxT U p c (.lit [c]) (p+1) [])(hQ:∀st',j4 U root sb p st'->Q .next st'):wSs cP knP (br2 13) Q J:=by
 have M:=a0
 obtain⟨ρ,σ⟩:=J
 have ha:=m.ha
 have hlt:=m.lt
 have hd:=m.drop
 have hx2:=m.lt2
 have hx3:=ar hx2 (show 1000000<2000000 by decide)
 have few:=(m.few hx).1
 refine eJ (L:=LX U root sb p lc c a (f8 cl)) m.core ?_
 (apply nfs;case h=>(show ?ya59=?yb59;refine(?_:∀_:(?ya59=?yb59),(?ya59=?yb59)) ?_;rotate_left;(conv=>lhs;whnf;dsimp only[lU,erS,erE,fF,erO]);exactλ_=>by kernel_rfl!))
 unfold knP
 refine aA (eS M (tkP lc [] (.lit [c])) ∅ ⋯ hx few (dA (F:=iS) M ⋯ rfl rfl (aC M (v:=.int lc.1) aD (aC M (v:=.int lc.2) aD (aC M (v:=.str [c]) aD aG))) ⟨_,_,_,rfl,rfl⟩) rfl ?_)
 refine aA (b8 M (.int p) (.int 1) ⋯ (aB rfl) ∅ (of_eq bM ?_))
 exact hQ _ (bV m [] hx (av p) hlt hcl hl (by walk_at "co") rfl)
theorem zix(m:Mid U root sb J p c lc a cl fr ts)(hx:J.σ a=some (.lst xs))(hcl:cl≠some c)(hc:[41,93,125].contains c=true)(hQ:∀st',j4 U root sb p st'->Q .next st'):wSs cP knP (br2 7) Q J:=by
 have M:=a0
 obtain⟨ρ,σ⟩:=J
 have ha:=m.ha
 have hlt:=m.lt
 have hd:=m.drop
 have hx2:=m.lt2
 have hx3:=ar hx2 (show 1000000<2000000 by decide)
 have few:=(m.few hx).1
 refine eJ (L:=LX U root sb p lc c a (f8 cl)) m.core ?_
 (apply nfs;case h=>(show ?ya60=?yb60;refine(?_:∀_:(?ya60=?yb60),(?ya60=?yb60)) ?_;rotate_left;(conv=>lhs;whnf;dsimp only[lU,erS,erE,fF,erO]);exactλ_=>by kernel_rfl!))
 unfold knP
 refine aA (eS M (tkP lc [] (.err [c] (lcS "Unmatched "++[c]))) ∅ ⋯ hx few (dA (F:=tT) M ⋯ rfl rfl (aC M (v:=.int lc.1) aD (aC M (v:=.int lc.2) aD (aC M (v:=.str [c]) aD (aC M (v:=.str (lcS "Unmatched "++[c])) (qR M (aB rfl) aD (gj rfl)) aG)))) ⟨_,_,_,_,rfl,rfl⟩) rfl ?_)
 refine aA (b8 M (.int p) (.int 1) ⋯ (aB rfl) ∅ (of_eq bM ?_))
 exact hQ _ (bV m [] hx (av p) hlt hcl (t:=.err [c] (lcS "Unmatched "++[c])) ⟨rfl,.inr (.inr ⟨rfl,hc,rfl⟩)⟩ (by walk_at "co") rfl)
theorem brAt(m:Mid U root sb J p c lc a cl fr ts)(hx:J.σ a=some (.lst xs))(hcl:cl≠some c)(hc:c=64)(hl:aO (U.drop (p+1))=false->NxT U p c (.lit [c]) (p+1) [])(hQ:∀st',j4 U root sb p st'->Q .next st'):wSs cP knP (br2 1) Q J:=by
 have M:=a0
 obtain⟨ρ,σ⟩:=J
 have ha:=m.ha
 have hlt:=m.lt
 have hd:=m.drop
 have hx2:=m.lt2
 have hx3:=ar hx2 (show 1000000<2000000 by decide)
 have few:=(m.few hx).1
 refine eJ (L:=LX U root sb p lc c a (f8 cl)) m.core ?_
 (apply nfs;case h=>(show ?ya61=?yb61;refine(?_:∀_:(?ya61=?yb61),(?ya61=?yb61)) ?_;rotate_left;(conv=>lhs;whnf;dsimp only[lU,erS,erE,fF,erO]);exactλ_=>by kernel_rfl!))
 unfold knP
 refine aA (b8 M (.int p) (.int 1) ⋯ (aB rfl) ∅ (of_eq bM ?_))
 refine aA (bI M (aO (U.drop (p+1))) (zge (i:=p+1) ⋯ ⋯ ⋯ ⋯ ⋯ ⋯ ⋯ hx2 ha) (λh=>?_) (λh=>?_))
 ·have hq:p+1+aY (U.drop (p+1))<=U.length:=aZ (n:=p+1) hlt (cW _)
  have hpq:p<p+1+aY (U.drop (p+1)):=aj (av p) (am _ _)
  have hvl:((U.drop (p+1)).take (aY (U.drop (p+1)))).length<1000000:=ai (gH _ _ _) hx2
  have ht:NxT U p c (.atk ((U.drop (p+1)).take (aY (U.drop (p+1))))) (p+1+aY (U.drop (p+1))) []:=⟨rfl,hc,h,rfl,rfl⟩
  refine aA (fP M (.str ((U.drop (p+1)).take (aY (U.drop (p+1))))) (.int (p+1+aY (U.drop (p+1)):Nat)) (zfs (i:=p+1) ⋯ ⋯ ⋯ ⋯ ⋯ hx2 ha hlt) ∅ ∅ ?_)
  generalize (U.drop (p+1)).take (aY (U.drop (p+1)))=v at hvl ht ⊢
  generalize p+1+aY (U.drop (p+1))=q at hq hpq ht ⊢
  refine aA (eS M (tkP lc [] (.atk v)) ∅ ⋯ hx few (dA (F:=zf3) M ⋯ rfl rfl (aC M (v:=.int lc.1) aD (aC M (v:=.int lc.2) aD (aC M (v:=.str v) aD aG))) ⟨_,_,_,rfl,hvl,rfl⟩) rfl ?_)
  exact hQ _ (bV m [] hx hpq hq hcl ht (by walk_at "co") rfl)
 ·have hl:=hl h
  subst hc
  refine aA (eS M (tkP lc [] (.lit [64])) ∅ ⋯ hx few (dA (F:=iS) M ⋯ rfl rfl (aC M (v:=.int lc.1) aD (aC M (v:=.int lc.2) aD (aC M (v:=.str [64]) (aB rfl) aG))) ⟨_,_,_,rfl,rfl⟩) rfl ?_)
  exact hQ _ (bV m [] hx (av p) hlt hcl hl (by walk_at "co") rfl)
theorem zkb(m:Mid U root sb J p c lc a cl fr ts)(hx:J.σ a=some (.lst xs))(hcl:cl≠some c)(hc:c=35)(hl:(U[p+1]?).any bC=false->NxT U p c (.lit [c]) (p+1) [])(hQ:∀st',j4 U root sb p st'->Q .next st'):wSs cP knP (br2 2) Q J:=by
 have M:=a0
 obtain⟨ρ,σ⟩:=J
 have ha:=m.ha
 have hlt:=m.lt
 have hd:=m.drop
 have hx2:=m.lt2
 have hx3:=ar hx2 (show 1000000<2000000 by decide)
 have few:=(m.few hx).1
 refine eJ (L:=LX U root sb p lc c a (f8 cl)) m.core ?_
 (apply nfs;case h=>(show ?ya62=?yb62;refine(?_:∀_:(?ya62=?yb62),(?ya62=?yb62)) ?_;rotate_left;(conv=>lhs;whnf;dsimp only[lU,erS,erE,fF,erO]);exactλ_=>by kernel_rfl!))
 unfold knP
 refine aA (b8 M (.int p) (.int 1) ⋯ (aB rfl) ∅ (of_eq bM ?_))
 refine aA (bI M ((U[p+1]?).any bC) ?_ (λh=>?_) (λh=>?_))
 ·by_cases hl:p+1<U.length
  ·have hg:U[p+1]?=some U[p+1]:=ah hl
   have h92:=decide_eq_false (iY (ha.get hl) 92 (by decide))
   have e:(U[p+1]?).any bC=(decide (p+1<U.length)&&(decide (U[p+1]∈(ae "0123456789abcdefghijklmnopqrstuvwxyz-_ABCDEFGHIJKLMNOPQRSTUVWXYZ").cps.toList)||(decide (127<U[p+1])||(false&&false)))):=by
    rw[decide_eq_true hl,eo,<- Bool.or_assoc,zcm (ha.get hl),hg];exact(gu _).symm
   rw[e]
   refine bS M (aS M (fC M aD aD)) λh1=>bJ ?_
   exact dX M (aS M (dE M (bR M rfl aD aD hg))) λ_=>dX M (aS M (yI M ⋯ rfl rfl ∅ (bR M rfl aD aD hg))) λ_=>bJ (bS M (h92▸aS M (cS M (bR M rfl aD aD hg) ∅)) λh=>by(exfalso;cases h))
  ·have e:(U[p+1]?).any bC=(decide (p+1<U.length)&&false):=by rw[bt (aw hl),ew];rfl
   rw[e]
   exact bS M (aS M (fC M aD aD)) λh=>absurd (of_decide_eq_true h) hl
 ·have hg:∃d,U[p+1]?=some d:=by
   cases hg:U[p+1]? with
   |none=>replace h:=hg▸h;(exfalso;cases h)
   |some d=>exact⟨d,rfl⟩
  have hq:p+1+aY (U.drop (p+1))<=U.length:=aZ (n:=p+1) hlt (cW _)
  have hpq:p<p+1+aY (U.drop (p+1)):=aj (av p) (am _ _)
  have hvl:((U.drop (p+1)).take (aY (U.drop (p+1)))).length<1000000:=ai (gH _ _ _) hx2
  have ht:NxT U p c (.hash ((U.drop (p+1)).take (aY (U.drop (p+1)))) (aO (U.drop (p+1)))) (p+1+aY (U.drop (p+1))) []:=⟨rfl,hc,h,rfl,rfl,rfl⟩
  refine aA (aH M (.bool (aO (U.drop (p+1)))) (zig ⋯ ⋯ ⋯ ⋯ ⋯ hx2 ha hg.choose_spec) ∅ ?_)
  refine aA (fP M (.str ((U.drop (p+1)).take (aY (U.drop (p+1))))) (.int (p+1+aY (U.drop (p+1)):Nat)) (zfs (i:=p+1) ⋯ ⋯ ⋯ ⋯ ⋯ hx2 ha hlt) ∅ ∅ ?_)
  generalize (U.drop (p+1)).take (aY (U.drop (p+1)))=v at hvl ht ⊢
  generalize p+1+aY (U.drop (p+1))=q at hq hpq ht ⊢
  generalize aO (U.drop (p+1))=b at ht ⊢
  refine aA (eS M (tkP lc [] (.hash v b)) ∅ ⋯ hx few (dA (F:=rH) M ⋯ rfl rfl (aC M (v:=.int lc.1) aD (aC M (v:=.int lc.2) aD (aC M (v:=.str v) aD (aC M (v:=.bool b) aD aG)))) ⟨_,_,_,_,rfl,rfl⟩) rfl ?_)
  exact hQ _ (bV m [] hx hpq hq hcl ht (by walk_at "co") rfl)
 ·have hl:=hl h
  subst hc
  refine aA (eS M (tkP lc [] (.lit [35])) ∅ ⋯ hx few (dA (F:=iS) M ⋯ rfl rfl (aC M (v:=.int lc.1) aD (aC M (v:=.int lc.2) aD (aC M (v:=.str [35]) (aB rfl) aG))) ⟨_,_,_,rfl,rfl⟩) rfl ?_)
  exact hQ _ (bV m [] hx (av p) hlt hcl hl (by walk_at "co") rfl)
theorem qY{N ch:Str}{F:Fn}{k:Bk}{n kk kn:Nat}(m:Mid U root sb J p c lc a cl fr ts)(hx:J.σ a=some (.lst xs))(hcl:cl≠some c)(hk:ziL U p c k (p+1))(kN:knP N=some .globalImplicit)(hf:cP.fn N=none)(hc:cP.cls N=some F)(hF:∀(b:Nat) (K:PV->Prop),K (bkP lc k (.ptr b))->F [.int lc.1,.int lc.2,.ptr b] K)(hch:ch.cps.toList=[bkC k])(hm:cP.mutL n=true)
  (hQ:∀st',j4 U root sb p st'->Q .next st'):wSs cP knP [.Assign [.Name (ae "content") P0] (.List [] (PL n)) P0,.Expr (.Call (.Attribute (.Name (ae "tokens") P0) (ae "append") P0) [.Call (.Name N P0) [.Name (ae "line") P0,.Name (ae "column") P0,.Name (ae "content") P0] [] P0] [] P0) P0,
   .Expr (.Call (.Attribute (.Name (ae "stack") P0) (ae "append") P0) [.Tuple [.Name (ae "tokens") P0,.Name (ae "end_char") P0] kk P0] [] P0) P0,.Assign [.Name (ae "end_char") P0] (.Constant (.str ch) kn P0) P0,.Assign [.Name (ae "tokens") P0] (.Name (ae "content") P0) P0,.AugAssign (.Name (ae "pos") P0) .Add (.Constant (.int 1) kn P0) P0] Q J:=by
 have M:=a0
 obtain⟨ρ,σ⟩:=J
 have hlt:=m.lt
 have few:=(m.few hx).1
 refine eJ (L:=LX U root sb p lc c a (f8 cl)) m.core ?_
 unfold knP at kN ⊢
 refine aA (mM hm ∅ λb hb=>?_)
 have hb:σ b=none:=hb
 have hs:σ sb=_:=m.stk
 have ba:a≠b:=λe=>by replace hb:=e.symm▸hb;replace hb:=(show σ a=_ from hx)▸hb;cases hb
 have bs:sb≠b:=λe=>by(replace hb:=e.symm▸hb;replace hb:=hs▸hb);cases hb
 refine aA (eS (a:=a) (xs:=xs) M (bkP lc k (.ptr b)) ∅ ⋯ (by dsimp only;rw[dU _ ba];exact hx) few (dA (F:=F) M kN hf hc (aC M (v:=.int lc.1) aD (aC M (v:=.int lc.2) aD (aC M (v:=.ptr b) aD aG))) (hF b _ rfl)) rfl ?_)
 refine aA (eP (a:=sb) (xs:=stk fr) M (.tup [.ptr a,f8 cl]) ∅ ⋯ (by dsimp only;rw[dU _ m.tree.ne.1,dU _ bs];exact hs) (bH M (aC M aD (aC M aD aG))) rfl m.fewS ?_)
 refine aA (aH M (.str [bkC k]) (aB (show some (PV.str ch.cps.toList)=_ by rw[hch])) ∅ ?_)
 refine aA (aH M (.ptr b) aD ∅ ?_)
 refine aA (b8 M (.int p) (.int 1) ⋯ (aB rfl) ∅ (of_eq bM ?_))
 exact hQ _ (w3 m hx hb (av p) hlt hcl hk (by walk_at "co") rfl)
theorem zld(m:Mid U root sb J p c lc a cl fr ts)(hx:J.σ a=some (.lst xs))(hcl:cl≠some c)(hc:c=123)(hQ:∀st',j4 U root sb p st'->Q .next st'):wSs cP knP (br2 3) Q J:=by
 (apply nfs;case h=>(show ?ya63=?yb63;refine(?_:∀_:(?ya63=?yb63),(?ya63=?yb63)) ?_;rotate_left;(conv=>lhs;whnf;dsimp only[lU,erS,erE,fF,erO]);exactλ_=>by kernel_rfl!))
 exact qY (k:=.cur) (F:=zB) m hx hcl ⟨hc,rfl⟩ ⋯ rfl rfl (λb K h=>⟨_,_,_,rfl,h⟩) rfl ∅ hQ
theorem zk9(m:Mid U root sb J p c lc a cl fr ts)(hx:J.σ a=some (.lst xs))(hcl:cl≠some c)(hc:c=91)(hQ:∀st',j4 U root sb p st'->Q .next st'):wSs cP knP (br2 4) Q J:=by
 (apply nfs;case h=>(show ?ya64=?yb64;refine(?_:∀_:(?ya64=?yb64),(?ya64=?yb64)) ?_;rotate_left;(conv=>lhs;whnf;dsimp only[lU,erS,erE,fF,erO]);exactλ_=>by kernel_rfl!))
 exact qY (k:=.sqr) (F:=y5) m hx hcl ⟨hc,rfl⟩ ⋯ rfl rfl (λb K h=>⟨_,_,_,rfl,h⟩) rfl ∅ hQ
theorem zlb(m:Mid U root sb J p c lc a cl fr ts)(hx:J.σ a=some (.lst xs))(hcl:cl≠some c)(hc:c=40)(hQ:∀st',j4 U root sb p st'->Q .next st'):wSs cP knP (br2 5) Q J:=by
 (apply nfs;case h=>(show ?ya65=?yb65;refine(?_:∀_:(?ya65=?yb65),(?ya65=?yb65)) ?_;rotate_left;(conv=>lhs;whnf;dsimp only[lU,erS,erE,fF,erO]);exactλ_=>by kernel_rfl!))
 exact qY (k:=.par) (F:=y8) m hx hcl ⟨hc,rfl⟩ ⋯ rfl rfl (λb K h=>⟨_,_,_,rfl,h⟩) rfl ∅ hQ
theorem zlf{q:Nat×PF}{fr':Rows}(m:Mid U root sb J p c lc a (some c) (q ::fr') ts)(hQ:∀st',j4 U root sb p st'->Q .next st'):wSs cP knP (br2 6) Q J:=by
 have M:=a0
 obtain⟨ρ,σ⟩:=J
 refine eJ (L:=LX U root sb p lc c a (f8 (some c))) m.core ?_
 (apply nfs;case h=>(show ?ya66=?yb66;refine(?_:∀_:(?ya66=?yb66),(?ya66=?yb66)) ?_;rotate_left;(conv=>lhs;whnf;dsimp only[lU,erS,erE,fF,erO]);exactλ_=>by kernel_rfl!))
 refine aA (zjf (a:=sb) (xs:=stk fr') (v:=.ptr q.1) (w:=f8 q.2.e) ∅ ⋯ m.stk ∅ ∅ ?_)
 refine aA (b8 M (.int p) (.int 1) ⋯ (aB rfl) ∅ (of_eq bM ?_))
 exact hQ _ (zd9 m (by walk_at "co") rfl)
end
section
variable {Q:Fl->St->Prop}{U:List Nat}{root sb:Nat}{J:St}{p c:Nat}{lc:Nat×Nat}{a:Nat}{cl:Option Nat}{fr:Rows}{ts xs:List PV}
theorem zk8(m:Mid U root sb J p c lc a cl fr ts)(hx:J.σ a=some (.lst xs))(hcl:cl≠some c)(hq:c=34\/c=39)(hQ:∀st',j4 U root sb p st'->Q .next st'):wSs cP knP (br2 8) Q J:=by
 have M:=a0
 obtain⟨ρ,σ⟩:=J
 have ha:=m.ha
 have hlt:=m.lt
 have hd:=m.drop
 have hx2:=m.lt2
 have hx3:=ar hx2 (show 1000000<2000000 by decide)
 have few:=(m.few hx).1
 refine eJ (L:=LX U root sb p lc c a (f8 cl)) m.core ?_
 (apply nfs;case h=>(show ?ya67=?yb67;refine(?_:∀_:(?ya67=?yb67),(?ya67=?yb67)) ?_;rotate_left;(conv=>lhs;whnf;dsimp only[lU,erS,erE,fF,erO]);exactλ_=>by kernel_rfl!))
 unfold knP
 have few2:=(m.few hx).2
 have hw:((U.drop (p+1)).take (p+1+lS c (U.drop (p+1)) - (p+1))).length<=100000:=af (gH _ _ _) (af m.hlen (by decide))
 have hK:∀v q o,v=(U.drop (p+1)).take (p+1+lS c (U.drop (p+1)) - (p+1))->(U[p+1+lS c (U.drop (p+1))]?=some c/\q=p+1+lS c (U.drop (p+1))+1/\o=[])\/(U[p+1+lS c (U.drop (p+1))]?=none/\q=p+1+lS c (U.drop (p+1))/\o=lcS "eof-in-string")->NxT U p c (.str v) q o:=λv q o h1 h2=>⟨hq,_,rfl,h1,h2⟩
 have hB:∀m,U[p+1+lS c (U.drop (p+1))]?=some 10->NxT U p c (.err (lcS "bad-string") m) (p+1+lS c (U.drop (p+1))) []:=λm h=>⟨rfl,.inl ⟨hq,rfl,rfl,h⟩⟩
 have hF:∀K,K (zkN c ((U.drop (p+1)).take (p+1+lS c (U.drop (p+1)) - (p+1))) (p+1+lS c (U.drop (p+1))) U[p+1+lS c (U.drop (p+1))]?)->tX [.str U,.int p] K:=λK hK=>⟨U,p,c,_,rfl,hx2,ha,m.at_,hq,rfl,hK⟩
 have hS:∀d,U[p+1+lS c (U.drop (p+1))]?=some d->d=c\/d=10:=λd h=>by
  have:=lD (f:=λd=>d !=c&&d !=10) h
  by_cases e:d=c
  ·exact .inl e
  ·rw[bne_iff_ne.mpr e,eo]at this
   exact .inr (by simpa using this)
 have hT:p+1+lS c (U.drop (p+1))<=U.length:=aZ (n:=p+1) hlt (pT _ _)
 have hpT:p<p+1+lS c (U.drop (p+1)):=aj (av p) (am _ _)
 clear hd
 generalize (U.drop (p+1)).take (p+1+lS c (U.drop (p+1)) - (p+1))=v at hw hK hF
 generalize p+1+lS c (U.drop (p+1))=T at hK hB hF hS hT hpT
 have hK:=λq o h=>hK v q o rfl h
 cases hg:U[T]? with
 |none=>
  rw[hg]at hF
  refine aA (eV M (.str v) (.int T) (jO "eof-in-string" "EOF in string") (aR (F:=tX) M ⋯ rfl (aC M (v:=.str U) aD (aC M (v:=.int p) aD aG)) (hF _ ⟨.inl rfl,rfl⟩)) ∅ ∅ ∅ ?_)
  refine aA (bI M true (fM (v:=.str v) M ⋯ ⋯ rfl) (λ_=>?_) (λh=>by(exfalso;cases h)))
  refine aA (xC M ⋯ rfl ⋯ ⋯ hw ∅ (by decide+kernel) λy=>?_)
  refine aA (bI M true (fM (v:=jO "eof-in-string" "EOF in string") M ⋯ ⋯ rfl) (λ_=>?_) (λh=>by(exfalso;cases h)))
  refine aA (aH M (.str (slc y none (some (-((1:Nat):Int))))) (zgK M aD (by decide)) ∅ ?_)
  generalize slc y none (some (-((1:Nat):Int)))=y
  (repeat(first |refine aX ?_|dsimp only[cG]))
  refine aA (eS M (tkP lc y (.str v)) ∅ ⋯ hx few (dA (F:=tR) M ⋯ rfl rfl (aC M (v:=.int lc.1) aD (aC M (v:=.int lc.2) aD (aC M (v:=.str v) aD (aC M (v:=.str y) aD aG)))) ⟨_,_,_,_,rfl,rfl⟩) rfl ?_)
  (repeat(first |refine aX ?_|dsimp only[cG]))
  refine aA (bI M true (fM (v:=jO "eof-in-string" "EOF in string") M ⋯ ⋯ rfl) (λ_=>?_) (λh=>by(exfalso;cases h)))
  refine aA (zeE (lc:=lc) (a:=a) (xs:=xs++[tkP lc y (.str v)]) (k:="eof-in-string") (m:="EOF in string") ⋯ ⋯ ⋯ ⋯ ⋯ ⋯ ⋯ ⋯ ⋯ (aN _ _ _) (by rw[bj];exact few2) ?_)
  (repeat(first |refine aX ?_|dsimp only[cG]))
  exact hQ _ (w0 m y hx hpT hT hcl (t:=.str v) (hK T _ (.inr ⟨hg,rfl,rfl⟩)) (by decide+kernel) (by walk_at "co") rfl)
 |some d=>
  rw[hg]at hF
  replace hF:∀K,K (if d=c then .tup [.str v,.int (T+1:Nat),.none]else .tup [.none,.int T,jO "bad-string" "Bad string token"])->tX [.str U,.int p] K:=hF
  by_cases e:d=c
  ·rw[if_pos e]at hF
   subst e
   refine aA (eV M (.str v) (.int (T+1:Nat)) .none (aR (F:=tX) M ⋯ rfl (aC M (v:=.str U) aD (aC M (v:=.int p) aD aG)) (hF _ ⟨.inl rfl,rfl⟩)) ∅ ∅ ∅ ?_)
   refine aA (bI M true (fM (v:=.str v) M ⋯ ⋯ rfl) (λ_=>?_) (λh=>by(exfalso;cases h)))
   refine aA (xC M ⋯ rfl ⋯ ⋯ hw ∅ (by decide+kernel) λy=>?_)
   refine aA (bI M false (jT M ⋯ ⋯) (λh=>by(exfalso;cases h)) (λ_=>?_))
   (repeat(first |refine aX ?_|dsimp only[cG]))
   refine aA (eS M (tkP lc y (.str v)) ∅ ⋯ hx few (dA (F:=tR) M ⋯ rfl rfl (aC M (v:=.int lc.1) aD (aC M (v:=.int lc.2) aD (aC M (v:=.str v) aD (aC M (v:=.str y) aD aG)))) ⟨_,_,_,_,rfl,rfl⟩) rfl ?_)
   (repeat(first |refine aX ?_|dsimp only[cG]))
   refine aA (bI M false (jT M ⋯ ⋯) (λh=>by(exfalso;cases h)) (λ_=>?_))
   (repeat(first |refine aX ?_|dsimp only[cG]))
   exact hQ _ (bV m y hx (dl hpT) (bK hg) hcl (t:=.str v) (hK (T+1) _ (.inl ⟨hg,rfl,rfl⟩)) (by walk_at "co") rfl)
  ·rw[if_neg e]at hF
   have h10:U[T]?=some 10:=hg.trans (congrArg some ((hS d hg).resolve_left e))
   refine aA (eV M .none (.int T) (jO "bad-string" "Bad string token") (aR (F:=tX) M ⋯ rfl (aC M (v:=.str U) aD (aC M (v:=.int p) aD aG)) (hF _ ⟨.inl rfl,rfl⟩)) ∅ ∅ ∅ ?_)
   refine aA (bI M false (jT M ⋯ ⋯) (λh=>by(exfalso;cases h)) (λ_=>?_))
   (repeat(first |refine aX ?_|dsimp only[cG]))
   refine aA (bI M true (fM (v:=jO "bad-string" "Bad string token") M ⋯ ⋯ rfl) (λ_=>?_) (λh=>by(exfalso;cases h)))
   refine aA (zeE (lc:=lc) (a:=a) (xs:=xs) (k:="bad-string") (m:="Bad string token") ⋯ ⋯ ⋯ ⋯ ⋯ ⋯ ⋯ ⋯ ⋯ hx few ?_)
   (repeat(first |refine aX ?_|dsimp only[cG]))
   exact hQ _ (bV m [] hx hpT hT hcl (t:=.err (lcS "bad-string") (lcS "Bad string token")) (hB _ h10) (by walk_at "co") rfl)
theorem zle(m:Mid U root sb J p c lc a cl fr ts)(hx:J.σ a=some (.lst xs))(hcl:cl≠some c)(hp:[47,42].isPrefixOf (U.drop p)=true)(hQ:∀st',j4 U root sb p st'->Q .next st')(hB:∀st',ziV U root st'->Q .brk st'):wSs cP knP (br2 9) Q J:=by
 have M:=a0
 obtain⟨ρ,σ⟩:=J
 have ha:=m.ha
 have hlt:=m.lt
 have hd:=m.drop
 have hx2:=m.lt2
 have hx3:=ar hx2 (show 1000000<2000000 by decide)
 have few:=(m.few hx).1
 refine eJ (L:=LX U root sb p lc c a (f8 cl)) m.core ?_
 (apply nfs;case h=>(show ?ya68=?yb68;refine(?_:∀_:(?ya68=?yb68),(?ya68=?yb68)) ?_;rotate_left;(conv=>lhs;whnf;dsimp only[lU,erS,erE,fF,erO]);exactλ_=>by kernel_rfl!))
 unfold knP
 have hp2:p+2<=U.length:=iC (aq hlt) hp
 refine(zjO hp2).elim (a2 λhf hi=>?_) (x1 λk=>a4 λhf hk hpk hi=>?_)
 ·refine aA (aH M (.int (-1)) (zgJ hp2 hx2 hf ⋯ ⋯ ⋯ ⋯) ∅ ?_)
  refine aA (bI M true (aS M (bL (a:=.int (-1)) (b:=.int (-1)) M aD (nD M (aB rfl)) rfl)) (λ_=>?_) (λh=>by(exfalso;cases h)))
  refine aA (bI M true (eR (c:=false) M (aS M aD)) (λ_=>?_) (λh=>by(exfalso;cases h)))
  refine aA (eS M (tkP lc [] (.com (U.drop (p+2)))) ∅ ⋯ hx few (dA (F:=tU) M ⋯ rfl rfl (aC M (v:=.int lc.1) aD (aC M (v:=.int lc.2) aD (aC M (v:=.str (U.drop (p+2))) (zii (x:=U) (i:=p+2) M aD (aP (i:=p) (j:=2) M aD (aB rfl)) hp2 hx3) aG))) ⟨_,_,_,rfl,rfl⟩) rfl ?_)
  (repeat(first |refine aX ?_|dsimp only[cG]))
  have hl:(U.drop (p+2)).length=U.length - (p+2):=bv
  have ht:NxT U p c (.com (U.drop (p+2))) U.length []:=⟨rfl,hp,hi,by exact List.take_length.symm▸rfl,.inl ⟨by(refine hl.symm▸?_;exact(bp hp2).symm▸rfl),rfl⟩⟩
  have ho:=m.opn.step (ns:=[tkP lc [] (.com (U.drop (p+2)))]) λE r g=>by refine m.hlc.symm▸?_;exact .tok cl p c _ [] U.length E r m.at_ hcl ht g
  exact aA (iB (hB _ (xX (m.tree.push hx λs=>aQ _ _ (pD _ _ _)) m.root ho (by walk_at "co"))))
 ·have hk2:k+2<=U.length:=by
   have hkl:k<=U.length:=aw λq=>by replace hpk:=(az (aq q))▸hpk;(exfalso;cases hpk)
   exact iC hkl hpk
  have hvl:((U.drop (p+2)).take (k - (p+2))).length=k - (p+2):=by(refine bz.symm▸?_;refine bv.symm▸?_);exact ce (je (ej (ej hk2)) _)
  have ht:NxT U p c (.com ((U.drop (p+2)).take (k - (p+2)))) (k+2) []:=⟨rfl,hp,hi,by exact hvl.symm▸rfl,.inr (by(refine hvl.symm▸?_;refine(bp hk).symm▸?_);exact⟨hpk,rfl⟩)⟩
  have hpq:p<k+2:=aj (aj (bg (by decide)) hk) (am k 2)
  refine aA (aH M (.int k) (zgJ hp2 hx2 hf ⋯ ⋯ ⋯ ⋯) ∅ ?_)
  refine aA (bI M false (aS M (bL (a:=.int k) (b:=.int (-1)) M aD (nD M (aB rfl)) (decide_eq_false (by omega)))) (λh=>by(exfalso;cases h)) (λ_=>?_))
  refine aA (bI M true (eR (c:=false) M (aS M aD)) (λ_=>?_) (λh=>by(exfalso;cases h)))
  refine aA (eS M (tkP lc [] (.com ((U.drop (p+2)).take (k - (p+2))))) ∅ ⋯ hx few (dA (F:=tU) M ⋯ rfl rfl (aC M (v:=.int lc.1) aD (aC M (v:=.int lc.2) aD (aC M (gW (x:=U) (i:=p+2) (j:=k) M aD (aP (i:=p) (j:=2) M aD (aB rfl)) aD hk (ai (ej (ej hk2)) hx3)) aG))) ⟨_,_,_,rfl,rfl⟩) rfl ?_)
  refine aA (b8 M (.int k) (.int 2) ⋯ (aB rfl) ∅ (of_eq bM ?_))
  exact hQ _ (bV m [] hx hpq hk2 hcl ht (by walk_at "co") rfl)
theorem zlg(m:Mid U root sb J p c lc a cl fr ts)(hx:J.σ a=some (.lst xs))(hcl:cl≠some c)(h3:[60,33,45,45].isPrefixOf (U.drop p)=true)(hQ:∀st',j4 U root sb p st'->Q .next st'):wSs cP knP (br2 10) Q J:=by
 have M:=a0
 obtain⟨ρ,σ⟩:=J
 have ha:=m.ha
 have hlt:=m.lt
 have hd:=m.drop
 have hx2:=m.lt2
 have hx3:=ar hx2 (show 1000000<2000000 by decide)
 have few:=(m.few hx).1
 refine eJ (L:=LX U root sb p lc c a (f8 cl)) m.core ?_
 (apply nfs;case h=>(show ?ya69=?yb69;refine(?_:∀_:(?ya69=?yb69),(?ya69=?yb69)) ?_;rotate_left;(conv=>lhs;whnf;dsimp only[lU,erS,erE,fF,erO]);exactλ_=>by kernel_rfl!))
 unfold knP
 have hq:p+4<=U.length:=iC (aq hlt) h3
 have ht:NxT U p c (.lit (lcS "<!--")) (p+4) []:=⟨rfl,.inl ⟨by decide+kernel,h3⟩,rfl⟩
 refine aA (eS M (tkP lc [] (.lit (lcS "<!--"))) ∅ ⋯ hx few (dA (F:=iS) M ⋯ rfl rfl (aC M (v:=.int lc.1) aD (aC M (v:=.int lc.2) aD (aC M (v:=.str (lcS "<!--")) (aB rfl) aG))) ⟨_,_,_,rfl,rfl⟩) rfl ?_)
 refine aA (b8 M (.int p) (.int 4) ⋯ (aB rfl) ∅ (of_eq bM ?_))
 exact hQ _ (bV m [] hx (bg (by decide)) hq hcl ht (by walk_at "co") rfl)
theorem zkd(m:Mid U root sb J p c lc a cl fr ts)(hx:J.σ a=some (.lst xs))(hcl:cl≠some c)(h3:[124,124].isPrefixOf (U.drop p)=true)(hQ:∀st',j4 U root sb p st'->Q .next st'):wSs cP knP (br2 11) Q J:=by
 have M:=a0
 obtain⟨ρ,σ⟩:=J
 have ha:=m.ha
 have hlt:=m.lt
 have hd:=m.drop
 have hx2:=m.lt2
 have hx3:=ar hx2 (show 1000000<2000000 by decide)
 have few:=(m.few hx).1
 refine eJ (L:=LX U root sb p lc c a (f8 cl)) m.core ?_
 (apply nfs;case h=>(show ?ya70=?yb70;refine(?_:∀_:(?ya70=?yb70),(?ya70=?yb70)) ?_;rotate_left;(conv=>lhs;whnf;dsimp only[lU,erS,erE,fF,erO]);exactλ_=>by kernel_rfl!))
 unfold knP
 have hq:p+2<=U.length:=iC (aq hlt) h3
 have ht:NxT U p c (.lit (lcS "||")) (p+2) []:=⟨rfl,.inl ⟨by decide+kernel,h3⟩,rfl⟩
 refine aA (eS M (tkP lc [] (.lit (lcS "||"))) ∅ ⋯ hx few (dA (F:=iS) M ⋯ rfl rfl (aC M (v:=.int lc.1) aD (aC M (v:=.int lc.2) aD (aC M (v:=.str (lcS "||")) (aB rfl) aG))) ⟨_,_,_,rfl,rfl⟩) rfl ?_)
 refine aA (b8 M (.int p) (.int 2) ⋯ (aB rfl) ∅ (of_eq bM ?_))
 exact hQ _ (bV m [] hx (bg (by decide)) hq hcl ht (by walk_at "co") rfl)
theorem brEq(m:Mid U root sb J p c lc a cl fr ts)(hx:J.σ a=some (.lst xs))(hcl:cl≠some c)(hc:[126,124,94,36,42].contains c=true)(hl:U[p+1]?≠some 61->NxT U p c (.lit [c]) (p+1) [])(hQ:∀st',j4 U root sb p st'->Q .next st'):wSs cP knP (br2 12) Q J:=by
 have M:=a0
 obtain⟨ρ,σ⟩:=J
 have ha:=m.ha
 have hlt:=m.lt
 have hd:=m.drop
 have hx2:=m.lt2
 have hx3:=ar hx2 (show 1000000<2000000 by decide)
 have few:=(m.few hx).1
 refine eJ (L:=LX U root sb p lc c a (f8 cl)) m.core ?_
 (apply nfs;case h=>(show ?ya71=?yb71;refine(?_:∀_:(?ya71=?yb71),(?ya71=?yb71)) ?_;rotate_left;(conv=>lhs;whnf;dsimp only[lU,erS,erE,fF,erO]);exactλ_=>by kernel_rfl!))
 unfold knP
 refine aA (b8 M (.int p) (.int 1) ⋯ (aB rfl) ∅ (of_eq bM ?_))
 refine aA (bI M (U[p+1]?==some 61) (aS M (uR 61 U (p+1)▸kF (e:=p+1) (q:=ae "=") M aD aD hlt hx3 rfl)) (λh=>?_) (λh=>?_))
 ·have h:U[p+1]?=some 61:=eq_of_beq h
  have ht:NxT U p c (.lit ([c]++[61])) (p+1+1) []:=by
   refine⟨rfl,.inl ⟨?_,?_⟩,rfl⟩
   ·exact ay.mp (show([126,124,94,36,42].all λc=>longs.contains ([c]++[61]))=true by decide+kernel) c (jb.mp hc)
   ·rw[hd,fQ h]
    show((c==c)&&((61==61)&&true))=true
    rw[beq_self_eq_true];rfl
  refine aA (b8 M (.int (p+1:Nat)) (.int 1) ⋯ (aB rfl) ∅ (of_eq bM ?_))
  refine aA (eS M (tkP lc [] (.lit ([c]++[61]))) ∅ ⋯ hx few (dA (F:=iS) M ⋯ rfl rfl (aC M (v:=.int lc.1) aD (aC M (v:=.int lc.2) aD (aC M (v:=.str ([c]++[61])) (qR M aD (aB rfl) (gj rfl)) aG))) ⟨_,_,_,rfl,rfl⟩) rfl ?_)
  exact hQ _ (bV m [] hx (dl (av p)) (bK h) hcl ht (by walk_at "co") rfl)
 ·have h:U[p+1]?≠some 61:=λe=>by replace h:=e▸h;cases h
  refine aA (eS M (tkP lc [] (.lit [c])) ∅ ⋯ hx few (dA (F:=iS) M ⋯ rfl rfl (aC M (v:=.int lc.1) aD (aC M (v:=.int lc.2) aD (aC M (v:=.str [c]) aD aG))) ⟨_,_,_,rfl,rfl⟩) rfl ?_)
  exact hQ _ (bV m [] hx (av p) hlt hcl (hl h) (by walk_at "co") rfl)
end
theorem zkZ{Q:Fl->St->Prop}{J:St}{L:List (Str×PV)}{f:Fl}(h:dJ L J.ρ)(k:Q f J):Q f ⟨bB L J.ρ,J.σ⟩:=by
 rw[<- dI L h];exact k
theorem hJ{Q:Fl->St->Prop}{J:St}{C:Ctx}{H:Kn}{ss:List Stmt}{L:List (Str×PV)}(h:dJ L J.ρ)(k:wSs C H ss Q J):wSs C H ss Q ⟨bB L J.ρ,J.σ⟩:=by
 rw[<- dI L h];exact k
theorem fS{a b:Nat}(h:a≠b):(a==b)=false:=beq_eq_false_iff_ne.mpr h
theorem zi4{C:Ctx}{H:Kn}{e:Expr}{J:St}{b b':Bool}(h:b'=b)(k:tv C H e J b'):tv C H e J b:=h▸k
theorem nobr{c:Nat}(h:eM c=true)(hb:bT c=false)(h1:c≠123)(h2:c≠91)(h3:c≠40)(hs:[41,93,125].contains c=false)(h4:c≠34)(h5:c≠39):[32,10,9,34,39,40,41,91,93,123,125].contains c=false:=by
 have e:=cF (f:=λc=>[32,10,9,34,39,40,41,91,93,123,125].contains c) (g:=λc=>bT c||((c==123||(c==91||c==40))||([41,93,125].contains c||(c==34||c==39)))) (by decide+kernel) h
 have e:_=(bT c||((c==123||(c==91||c==40))||([41,93,125].contains c||(c==34||c==39)))):=e
 rw[hb,fS h1,fS h2,fS h3,hs,fS h4,fS h5]at e
 exact e
section
variable {Q:Fl->St->Prop}{U:List Nat}{root sb:Nat}{J:St}{p c:Nat}{lc:Nat×Nat}{a:Nat}{cl:Option Nat}{fr:Rows}{ts xs:List PV}
theorem ncl{f:Nat->Bool}(k:([41,93,125].all λd=>!f d)=true)(h:f c=true):[41,93,125].contains c=false:=by
 cases hc:[41,93,125].contains c with
 |false=>rfl
 |true=>
  have:=ay.mp k c (jb.mp hc)
  rw[h]at this;cases this
theorem zi3{H:Kn}{p1 p2 p3 p4 p5 p6 p7 p8 p9 q1 q2 q3 q4 q5 q6 q7 q8 q9 r1 r2 r3 r4:Pos}{k1 k2 k3 k4 k5 k6:Nat}(h1:H "c"=some .local)(h2:H "pos"=some .local)(h3:H "length"=some .local)(h4:H "css"=some .local)
  (g1:J.ρ "c"=some (.str [c])) (g2:J.ρ "pos"=some (.int p)) (g3:J.ρ "length"=some (.int U.length)) (g4:J.ρ "css"=some (.str U)) (ha:Al U) (hat:U[p]?=some c):
  tv cP H (.BoolOp .And [.Compare (.Name (ae "c") p1) [.In] [.Constant (.str (ae "Uu")) k1 p2] p3,.Compare (.BinOp (.Name (ae "pos") p4) .Add (.Constant (.int 2) k2 p5) p6) [.Lt] [.Name (ae "length") p7] p8,
   .Compare (.Subscript (.Name (ae "css") p9) (.BinOp (.Name (ae "pos") q1) .Add (.Constant (.int 1) k3 q2) q3) q4) [.Eq] [.Constant (.str (ae "+")) k4 q5] q6,
   .Compare (.Subscript (.Name (ae "css") q7) (.BinOp (.Name (ae "pos") q8) .Add (.Constant (.int 2) k5 q9) r1) r2) [.In] [.Constant (.str (ae "0123456789abcdefABCDEF?")) k6 r3] r4] p0) J (pO (U.drop p)):=by
 have M:=a0
 have hU:decide (c∈(ae "Uu").cps.toList)=(c==117||c==85):=cF (f:=λc=>decide (c∈(ae "Uu").cps.toList)) (g:=λc=>c==117||c==85) (by decide+kernel) (ha.at hat)
 have t1:ev cP H (.Compare (.Name (ae "c") p1) [.In] [.Constant (.str (ae "Uu")) k1 p2] p3) J (.bool (c==117||c==85)):=hU▸dE M (aE h1 g1)
 have t2:ev cP H (.Compare (.BinOp (.Name (ae "pos") p4) .Add (.Constant (.int 2) k2 p5) p6) [.Lt] [.Name (ae "length") p7] p8) J (.bool (decide (p+2<U.length))):=fC (a:=p+2) M (aP (i:=p) (j:=2) M (aE h2 g2) (aB rfl)) (aE h3 g3)
 have e0:pO (U.drop p)=(((c==117||c==85)&&U[p+1]?==some 43)&&zbT (U.drop (p+2))):=by
  unfold pO
  rw[dk,bw,bw,show p+0=p from rfl,hat];rfl
 rw[e0]
 by_cases hl:p+2<U.length
 ·have i1:U[p+1]?=some U[p+1]:=ah (fg hl)
  have i2:U[p+2]?=some U[p+2]:=ah hl
  have hH:decide (U[p+2]∈(ae "0123456789abcdefABCDEF?").cps.toList)=(bD U[p+2]||U[p+2]==63):=cF (f:=λc=>decide (c∈(ae "0123456789abcdefABCDEF?").cps.toList)) (g:=λc=>bD c||c==63) (by decide+kernel) (ha.get hl)
  refine zi4 (b':=(c==117||c==85)&&(decide (p+2<U.length)&&(decide (U[p+1]=43)&&(bD U[p+2]||U[p+2]==63)))) ?_ (bS M (aS M t1) λ_=>bS M (aS M t2) λ_=>bS M (aS M (cS M (bR (n:=p+1) M rfl (aE h4 g4) (aP (i:=p) (j:=1) M (aE h2 g2) (aB rfl)) i1) ∅)) λ_=>bJ (hH▸aS M (dE M (bR (n:=p+2) M rfl (aE h4 g4) (aP (i:=p) (j:=2) M (aE h2 g2) (aB rfl)) i2))))
  unfold zbT
  rw[decide_eq_true hl,eo,bZ,i1,i2,Bool.and_assoc];rfl
 ·have hs:zbT (U.drop (p+2))=false:=by rw[az (aw hl)];rfl
  exact zi4 (b':=(c==117||c==85)&&(decide (p+2<U.length)&&false)) (by rw[hs,ew,ew,ew]) (bS M (aS M t1) λ_=>bS M (aS M t2) λh=>absurd (of_decide_eq_true h) hl)
theorem zj8(m:Mid U root sb J p c lc a cl fr ts)(hx:J.σ a=some (.lst xs))(hC:∀st',j4 U root sb p st'->Q .cont st')(hn:bT c=false->aO (U.drop p)=false->Q .next J):wS cP knP (kA 5 gF) Q J:=by
 have M:=a0
 have ha:=m.ha
 have hx3:=ar m.lt2 (by decide:1000000<2000000)
 have core:=m.core
 have i0:bT c=true->wSs cP knP (br1 0) Q ⟨bB (LX U root sb p lc c a (f8 cl)) J.ρ,J.σ⟩:=λh=>hJ core (brWs m hx (m.ncl (ncl (f:=bT) rfl h)) h hC)
 have i1:pO (U.drop p)=true->wSs cP knP (br1 1) Q ⟨bB (LX U root sb p lc c a (f8 cl)) J.ρ,J.σ⟩:=λh=>hJ core (zla m hx (m.ncl (ncl (f:=λc=>pO (c ::U.drop (p+1))) rfl (m.drop▸h))) h hC)
 have i2:[45,45,62].isPrefixOf (U.drop p)=true->wSs cP knP (br1 2) Q ⟨bB (LX U root sb p lc c a (f8 cl)) J.ρ,J.σ⟩:=λh=>hJ core (zlh m hx (m.ncl (ncl (f:=λc=>[45,45,62].isPrefixOf (c ::U.drop (p+1))) rfl (m.drop▸h))) h hC)
 have i3:aO (U.drop p)=true->[45,45,62].isPrefixOf (U.drop p)=false->pO (U.drop p)=false->wSs cP knP (br1 3) Q ⟨bB (LX U root sb p lc c a (f8 cl)) J.ρ,J.σ⟩:=λh h3 h4=>hJ core (brId m hx (m.ncl (ncl (f:=λc=>aO (c ::U.drop (p+1))) rfl (m.drop▸h))) h h3 h4 hC)
 have hn:=λh h'=>zkZ (Q:=Q) core (hn h h')
 refine zfa core ?_
 (apply nf1;case h=>(show ?ya72=?yb72;refine(?_:∀_:(?ya72=?yb72),(?ya72=?yb72)) ?_;rotate_left;(conv=>lhs;whnf;dsimp only[lU,erS,erE,fF,erO]);exactλ_=>by kernel_rfl!))
 refine bI M (bT c) (kB c▸aS M (dE M aD)) (λh=>i0 h) (λh1=>?_)
 refine aA (bI M (pO (U.drop p)) (zi3 ⋯ ⋯ ⋯ ⋯ ⋯ ⋯ ⋯ ⋯ ha m.at_) (λh=>i1 h) (λh2=>?_))
 refine aA (bI M ([45,45,62].isPrefixOf (U.drop p)) (aS M (kF (q:=ae "-->") M aD aD (aq m.lt) hx3 rfl)) (λh=>i2 h) (λh3=>?_))
 exact aA (bI M (aO (U.drop p)) (aS M (zig ⋯ ⋯ ⋯ ⋯ ⋯ m.lt2 ha m.at_)) (λh4=>i3 h4 h3 h2) (λh4=>hn h1 h4))
theorem zhH{o:Option (Nat×Bool)}{ρ:fD}(hp:dJ [("end",(o.elim .none λe=>.int (p+e.1:Nat))),("plain",(o.elim (.bool false) λe=>.bool e.2))] ρ):
  (o=none/\ρ "end"=some .none)\/∃z b,o=some (z,b)/\ρ "end"=some (.int ((p+z:Nat)))/\ρ "plain"=some (.bool b):=by
 refine a2 (λh1 h2=>?_) (List.cons.inj hp)
 cases o with
 |none=>exact .inl ⟨rfl,h1⟩
 |some e=>exact .inr ⟨e.1,e.2,rfl,h1,(List.cons.inj h2).1⟩
theorem zje(hc:[126,124,94,36,42].contains c=true)(h2:[124,124].isPrefixOf (c ::U.drop (p+1))=false)(h:U[p+1]?≠some 61):zhw c (U.drop (p+1))=true:=by
 have hm:=jb.mp hc
 have ne:∀k,[126,124,94,36,42].contains k=false->c≠k:=λk hk e=>by(replace hc:=e▸hc;replace hc:=hk▸hc);cases hc
 have h61:(U[p+1]?==some 61)=false:=beq_eq_false_iff_ne.mpr h
 unfold zhw
 rw[if_neg (ne 64 rfl),if_neg (ne 35 rfl),if_neg (ne 47 rfl),bZ,h61]
 by_cases e:c=124
 ·rw[if_pos e]
  subst e
  cases hg:(U[p+1]?==some 124)with
  |false=>rfl
  |true=>
   replace h2:=(fQ (eq_of_beq hg))▸h2;cases h2
 ·rw[if_neg e,if_pos];rfl
  have e2:[126,94,36,42].contains c=[126,124,94,36,42].contains c:=by
   show(c==126||(c==94||(c==36||(c==42||false))))=(c==126||(c==124||(c==94||(c==36||(c==42||false)))))
   rw[fS e,gt]
  rw[e2];exact hc
theorem zhv(h1:c≠64)(h2:c≠35)(h3:[47,42].isPrefixOf (c ::U.drop (p+1))=false)(h4:[60,33,45,45].isPrefixOf (c ::U.drop (p+1))=false)(hc:[126,124,94,36,42].contains c=false):zhw c (U.drop (p+1))=true:=by
 have ne:∀k,[126,124,94,36,42].contains k=true->c≠k:=λk hk e=>by(replace hc:=e▸hc;replace hc:=hk▸hc);cases hc
 unfold zhw
 rw[if_neg h1,if_neg h2,bZ]
 by_cases e:c=47
 ·rw[if_pos e]
  subst e
  cases hg:(U[p+1]?==some 42)with
  |false=>rfl
  |true=>replace h3:=(fQ (eq_of_beq hg))▸h3;cases h3
 ·rw[if_neg e,if_neg (ne 124 rfl),if_neg,h4];rfl
  show¬(c==126||(c==94||(c==36||(c==42||false))))=true
  rw[fS (ne 126 rfl),fS (ne 94 rfl),fS (ne 36 rfl),fS (ne 42 rfl)];decide
theorem zj5{σ:Nat->Option Cell}(c:Nat)(cl:Option Nat):zaX σ .Eq (.str [c]) (f8 cl) λr=>r=decide (cl=some c):=by
 cases cl with
 |none=>rfl
 |some d=>exact decide_eq_decide.mpr ⟨λh=>congrArg some (List.cons.inj h).1.symm,λh=>congrArg (λn=>[n]) (Option.some.inj h).symm⟩
theorem zj7(m:Mid U root sb J p c lc a cl fr ts)(hx:J.σ a=some (.lst xs))(hb:bT c=false)(hid:aO (U.drop p)=false)
  (hp:dJ [("end",((nV (U.drop p)).elim .none λe=>.int (p+e.1:Nat))),("plain",((nV (U.drop p)).elim (.bool false) λe=>.bool e.2))] J.ρ)
  (hN:∀st',j4 U root sb p st'->Q .next st') (hB:∀st',ziV U root st'->Q .brk st'):wS cP knP (kA 7 gF) Q J:=by
 have M:=a0
 have ha:=m.ha
 have hac:=ha.at m.at_
 have hle:=aq m.lt
 have hx3:=ar m.lt2 (by decide:1000000<2000000)
 have hd:=m.drop
 refine(zhH hp).elim (a2 λhn he=>?_) (x2 λz b=>a3 λhn g1 g2=>?_)
 ·have f:=aF he m.core
  clear hp he
  have i1:=λ(h:c=64)=>hJ f (brAt m hx (m.ncl (by refine h.symm▸?_;rfl)) h (λh'=>zkw m hid hn (by refine h.symm▸?_;rfl) (by refine h.symm▸?_;show(!aO _)=true;refine h'.symm▸?_;rfl)) hN)
  have i2:=λ(h:c=35)=>hJ f (zkb m hx (m.ncl (by refine h.symm▸?_;rfl)) h (λh'=>zkw m hid hn (by refine h.symm▸?_;rfl) (by refine h.symm▸?_;show(!((U.drop (p+1))[0]?).any bC)=true;rw[bZ,h'];rfl)) hN)
  have i3:=λ(h:c=123)=>hJ f (zld m hx (m.ncl (by refine h.symm▸?_;rfl)) h hN)
  have i4:=λ(h:c=91)=>hJ f (zk9 m hx (m.ncl (by refine h.symm▸?_;rfl)) h hN)
  have i5:=λ(h:c=40)=>hJ f (zlb m hx (m.ncl (by refine h.symm▸?_;rfl)) h hN)
  have i6:cl=some c->wSs cP knP (br2 6) Q ⟨bB (("end",.none) ::LX U root sb p lc c a (f8 cl)) J.ρ,J.σ⟩:=λh=>hJ f (by
   subst h
   cases fr with
   |nil=>cases m.opn.1
   |cons q fr=>exact zlf m hN)
  have i7:=λ(h:cl≠some c) (h':[41,93,125].contains c=true)=>hJ f (zix m hx h h' hN)
  have i8:=λ(h:c=34\/c=39)=>hJ f (zk8 m hx (m.ncl (by rcases h with h|h<;>(refine h.symm▸?_;rfl))) h hN)
  have i9:=λ(h:cl≠some c) (h':[47,42].isPrefixOf (U.drop p)=true)=>hJ f (zle m hx h h' hN hB)
  have i10:=λ(h:cl≠some c) (h':[60,33,45,45].isPrefixOf (U.drop p)=true)=>hJ f (zlg m hx h h' hN)
  have i11:=λ(h:cl≠some c) (h':[124,124].isPrefixOf (U.drop p)=true)=>hJ f (zkd m hx h h' hN)
  have i12:=λ(h:cl≠some c) (h0:[32,10,9,34,39,40,41,91,93,123,125].contains c=false) (h':[126,124,94,36,42].contains c=true) (h2:[124,124].isPrefixOf (U.drop p)=false)=>hJ f (brEq m hx h h' (λh3=>zkw m hid hn h0 (zje h' (hd▸h2) h3)) hN)
  have i13:=λ(h:cl≠some c) (h0:[32,10,9,34,39,40,41,91,93,123,125].contains c=false) (h1:c≠64) (h2:c≠35) (h3:[47,42].isPrefixOf (U.drop p)=false) (h4:[60,33,45,45].isPrefixOf (U.drop p)=false) (h5:[126,124,94,36,42].contains c=false)=>hJ f (zkc m hx h (zkw m hid hn h0 (zhv h1 h2 (hd▸h3) (hd▸h4) h5)) hN)
  refine zfa f ?_
  clear f m hN hB hn
  (apply nf1;case h=>(show ?ya73=?yb73;refine(?_:∀_:(?ya73=?yb73),(?ya73=?yb73)) ?_;rotate_left;(conv=>lhs;whnf;dsimp only[lU,erS,erE,fF,erO]);exactλ_=>by kernel_rfl!))
  refine bI M false (jT M ⋯ ⋯) (λh=>by(exfalso;cases h)) (λ_=>?_)
  refine aA (bI M (decide (c=64)) (aS M (cS M aD ∅)) (λg=>i1 (of_decide_eq_true g)) (λn1=>?_))
  refine aA (bI M (decide (c=35)) (aS M (cS M aD ∅)) (λg=>i2 (of_decide_eq_true g)) (λn2=>?_))
  refine aA (bI M (decide (c=123)) (aS M (cS M aD ∅)) (λg=>i3 (of_decide_eq_true g)) (λn3=>?_))
  refine aA (bI M (decide (c=91)) (aS M (cS M aD ∅)) (λg=>i4 (of_decide_eq_true g)) (λn4=>?_))
  refine aA (bI M (decide (c=40)) (aS M (cS M aD ∅)) (λg=>i5 (of_decide_eq_true g)) (λn5=>?_))
  refine aA (bI M (decide (cl=some c)) (aS M (bL (a:=.str [c]) (b:=f8 cl) M aD aD (zj5 c cl))) (λg=>i6 (of_decide_eq_true g)) (λn6=>?_))
  have n6:=of_decide_eq_false n6
  have hs:decide (c∈(ae "}])").cps.toList)=[41,93,125].contains c:=cF (f:=λc=>decide (c∈(ae "}])").cps.toList)) (g:=λc=>[41,93,125].contains c) (by decide+kernel) hac
  refine aA (bI M ([41,93,125].contains c) (hs▸aS M (dE M aD)) (λg=>i7 n6 g) (λn7=>?_))
  clear hs
  refine aA (bI M (decide (c=34)||decide (c=39)) (aS M (zdj M aD)) (λq=>i8 ((gg.mp q).imp of_decide_eq_true of_decide_eq_true)) (λn8=>?_))
  have n8:=gb.mp n8
  have h0:=nobr hac hb (of_decide_eq_false n3) (of_decide_eq_false n4) (of_decide_eq_false n5) n7 (of_decide_eq_false n8.1) (of_decide_eq_false n8.2)
  clear n3 n4 n5 n7 n8 hb i1 i2 i3 i4 i5 i6 i7 i8
  refine aA (bI M ([47,42].isPrefixOf (U.drop p)) (aS M (kF (q:=ae "/*") M aD aD hle hx3 rfl)) (λg=>i9 n6 g) (λn9=>?_))
  refine aA (bI M ([60,33,45,45].isPrefixOf (U.drop p)) (aS M (kF (q:=ae "<!--") M aD aD hle hx3 rfl)) (λg=>i10 n6 g) (λn10=>?_))
  refine aA (bI M ([124,124].isPrefixOf (U.drop p)) (aS M (kF (q:=ae "||") M aD aD hle hx3 rfl)) (λg=>i11 n6 g) (λn11=>?_))
  have he:decide (c∈(ae "~|^$*").cps.toList)=[126,124,94,36,42].contains c:=cF (f:=λc=>decide (c∈(ae "~|^$*").cps.toList)) (g:=λc=>[126,124,94,36,42].contains c) (by decide+kernel) hac
  exact aA (bI M ([126,124,94,36,42].contains c) (he▸aS M (dE M aD)) (λg=>i12 n6 h0 g n11) (λg=>i13 n6 h0 (of_decide_eq_false n1) (of_decide_eq_false n2) n9 n10 g))
 ·have f:dJ [("end",.int ((p+z:Nat))),("plain",.bool b)] J.ρ:=aF g1 (aF g2 rfl)
  have br:=hJ f (zlc m hx (m.ncl (ncl (f:=λc=>(nV (c ::U.drop (p+1))).isSome) rfl (by(refine hd▸?_;refine hn.symm▸?_);rfl))) hn g1 g2 hN)
  refine zfa f ?_
  (apply nf1;case h=>(show ?ya74=?yb74;refine(?_:∀_:(?ya74=?yb74),(?ya74=?yb74)) ?_;rotate_left;(conv=>lhs;whnf;dsimp only[lU,erS,erE,fF,erO]);exactλ_=>by kernel_rfl!))
  exact bI M true (fM (v:=.int (p+z:Nat)) M ⋯ ⋯ rfl) (λ_=>br) (λh=>by(exfalso;cases h))
end
theorem qJ{C:Ctx}{H:Kn}{o:Expr}{p q:Str}{x y:List Nat}{k1 k2:Nat}{p1 p2 p3 p4:Pos}{J:St}(M:CtxMono C)(h:ev C H o J (.str x))(hl:x.length<=1000000)(hp:p.cps.toList≠[])(hq:q.cps.toList.length=1)(hpq:p≠q)(hy:mP p.cps.toList q.cps.toList x=y):
  ev C H (.Call (.Attribute o (ae "replace") p1) [.Constant (.str p) k1 p2,.Constant (.str q) k2 p3] [] p4) J (.str y):=
 ⟨rfl,bA (e:=o) M h ⟨rfl,hl,hp,hq,hpq,congrArg _ hy,rfl⟩⟩
theorem u6{σ:Nat->Option Cell}{x:List Nat}{c:Nat}{i j:Int}{K:PV->(Nat->Option Cell)->Prop}:jG σ "rfind" (.str x) [.str [c],.int i,.int j] K=okI i (okI j (K (.int (fY c x i.toNat j.toNat)) σ)):=by kernel_rfl
theorem u7{σ:Nat->Option Cell}{x:List Nat}{c:Nat}{i j:Int}{K:PV->(Nat->Option Cell)->Prop}:jG σ "count" (.str x) [.str [c],.int i,.int j] K=okI i (okI j (K (.int ((((x.take j.toNat).drop i.toNat).count c:Nat):Int)) σ)):=by kernel_rfl
theorem adv0{p t l:Nat}(h:t<=p):(p:Int) - ((l+(p - t):Nat):Int)=(t:Int) - l:=(congrArg (λz:Int=>z - ((l+(p - t):Nat):Int)) (congrArg Int.ofNat (bp h).symm)).trans (Int.add_sub_add_right t (p - t:Nat) l)
section
variable {Q:Fl->St->Prop}{U:List Nat}{root sb:Nat}{J st':St}{p t c a:Nat}{lc:Nat×Nat}{cl:Option Nat}{fr:Rows}{ts xs:List PV}
theorem numS(m:Mid U root sb J p c lc a cl fr ts)(h:∀ρ,dJ (LX U root sb p lc c a (f8 cl)) ρ->dJ [("end",((nV (U.drop p)).elim .none λe=>.int (p+e.1:Nat))),("plain",((nV (U.drop p)).elim (.bool false) λe=>.bool e.2))] ρ->Q .next ⟨ρ,J.σ⟩):wS cP knP (kA 6 gF) Q J:=by
 have M:=a0
 refine zfa m.core ?_
 (apply nf1;case h=>(show ?ya75=?yb75;refine(?_:∀_:(?ya75=?yb75),(?ya75=?yb75)) ?_;rotate_left;(conv=>lhs;whnf;dsimp only[lU,erS,erE,fF,erO]);exactλ_=>by kernel_rfl!))
 refine fP M ((nV (U.drop p)).elim .none λe=>.int (p+e.1:Nat)) ((nV (U.drop p)).elim (.bool false) λe=>.bool e.2) (aR (F:=zf6) M ⋯ rfl (aC M (v:=.str U) aD (aC M (v:=.int p) aD aG)) ⟨U,p,rfl,m.lt2,m.ha,aq m.lt,.inl rfl,?_⟩) ∅ ∅ (h _ (by walk_at "co") (by walk_at "co"))
 rw[zjt]
 cases nV (U.drop p)<;>rfl
theorem zi6(mid:∀st2:St,st2.σ=J.σ->dJ (LX U root sb p lc c a (f8 cl)) st2.ρ->Mid U root sb st2 p c lc a cl fr ts)(core:dJ (LX U root sb p lc c a (f8 cl)) J.ρ)
  (hC:∀st',j4 U root sb p st'->Q .cont st') (hN:∀st',j4 U root sb p st'->Q .next st') (hB:∀st',ziV U root st'->Q .brk st'):wSs cP knP [kA 5 gF,kA 6 gF,kA 7 gF] Q J:=by
 have m:=mid J rfl core
 refine x1 (λxs=>a2 λhx _=>?_) m.tree.top
 refine aA (zj8 m hx hC λhb hid=>?_)
 refine aA (numS m λρ core2 hp=>?_)
 exact aA (zj7 (mid ⟨ρ,J.σ⟩ rfl core2) hx hb hid hp hN hB)
theorem zba(hlen:U.length<=600)(ha:Al U)(htp:t<=p)(hlt:p<U.length)(hcore:dJ (LZ U root sb p t (eX (U.take t)).1 ((t:Int) - (eX (U.take t)).2) a (f8 cl)) J.ρ)
  (tree:Tree sb J.σ a fr ts) (hs:J.σ sb=some (.lst (stk fr))) (hw:wt ts fr<=2*p) (hr:zN a fr=root) (ho:Opn U p cl ts (fr.map (·.2)))
  (hC:∀st',j4 U root sb p st'->Q .cont st') (hN:∀st',j4 U root sb p st'->Q .next st') (hB:∀st',ziV U root st'->Q .brk st'):wSs cP knP gF Q J:=by
 have M:=a0
 have hx2:U.length<1000000:=ai hlen (by decide)
 have lt62:∀{i},i<=U.length->i<2000000:=λh=>ai h (ar hx2 (by decide))
 obtain⟨ρ,σ⟩:=J
 have tA:=λ(lp:Nat×Nat) (J:St) (hσ:J.σ=σ) (h1:lp=eX (U.take p)) (h2:dJ (LX U root sb p lp U[p] a (f8 cl)) J.ρ)=>@zi6 Q U root sb J p U[p] a lp cl fr ts (λst2 g1 g2=>⟨hlen,ha,ah hlt,h1,g2,by(refine g1.symm▸?_;refine hσ.symm▸?_);exact tree,by(refine g1.symm▸?_;refine hσ.symm▸?_);exact hs,hw,hr,ho⟩) h2 hC hN hB
 clear tree hs hw hr ho hC hN hB
 refine eJ (L:=LZ U root sb p t (eX (U.take t)).1 ((t:Int) - (eX (U.take t)).2) a (f8 cl)) hcore ?_
 clear hcore
 have hg:U[p]?=some U[p]:=ah hlt
 have hnl:=xO (U:=U) (t:=t) (p - t) (by refine(bp htp).symm▸?_;exact aq hlt)
 replace hnl:=(bp htp)▸hnl
 generalize eX (U.take t)=lt at hnl ⊢
 generalize eX (U.take p)=lp at hnl tA
 have hB:gF=kA 0 gF ::kA 1 gF ::kA 2 gF ::kA 3 gF ::kA 4 gF ::[kA 5 gF,kA 6 gF,kA 7 gF]:=by kernel_rfl
 refine hB.symm▸?_
 clear hB
 generalize hT:[kA 5 gF,kA 6 gF,kA 7 gF]=T at tA ⊢
 clear hT
 apply nfs
 case h=>
  show ?nl1=?nr1
  refine(?nlf:∀_:(?nl1=?nr1),(?nl1=?nr1)) ?nld
  case nld=>conv=>lhs;(conv=>pattern (kA 0 _);whnf);(conv=>pattern (kA 1 _);whnf);(conv=>pattern (kA 2 _);whnf);(conv=>pattern (kA 3 _);whnf);(conv=>pattern (kA 4 _);whnf);dsimp only[lU,erS,erE,fF,erO]
  case nlf=>exactλ_=>by kernel_rfl!
 unfold knP at tA ⊢
 refine aA (aH M (.int (fY 10 U t p)) (nE M aD (aC M (v:=.str [10]) (aB rfl) (aC M (v:=.int t) aD (aC M (v:=.int p) aD aG))) rfl ∅ (of_eq u6 ⟨cg t,zaV (lt62 (af htp (aq hlt))),cg p,zaV (lt62 (aq hlt)),rfl,rfl⟩)) ∅ ?_)
 refine c8 M (λst1=>st1.σ=σ/\dJ (LZ U root sb p t lp.1 ((p:Int) - lp.2) a (f8 cl)) st1.ρ)
  (bI M (!decide (fY 10 U t p=-1)) (aS M (bL (a:=.int (fY 10 U t p)) (b:=.int (-1)) M aD (nD M (aB rfl)) rfl)) (λh=>?_) (λh=>?_)) ?_
 ·rcases hnl with⟨h1,_⟩|⟨k,h1,h2,h3⟩
  ·replace h:=h1▸h;(exfalso;cases h)
  ·have hk:k<=U.length:=af (h3▸am k lp.2) (aq hlt)
   refine h1.symm▸?_;refine h2.symm▸?_;refine(show(p:Int) - lp.2=k by rw[<- h3];show((k:Int)+(lp.2:Int)) - lp.2=k;exact il _ _).symm▸?_
   refine aA (b8 M (.int lt.1) (.int (1+(((U.take k).drop t).count 10:Nat))) ⋯ (aP (i:=1) M (aB rfl) (nE M aD (aC M (v:=.str [10]) (aB rfl) (aC M (v:=.int t) aD (aC M (v:=.int k) aD aG))) rfl ∅ (of_eq u7 ⟨cg t,zaV (lt62 (af htp (aq hlt))),cg k,zaV (lt62 hk),rfl,rfl⟩))) ∅ (of_eq bM ?_))
   exact aA (aH M (.int k) aD ∅ ⟨rfl,by walk_at "co"⟩)
 ·rcases hnl with⟨h1,h2,h3⟩|⟨k,h1,h2,h3⟩
  ·refine h2.symm▸?_;refine h3.symm▸?_;refine(adv0 htp).symm▸?_
   exact⟨rfl,by walk_at "co"⟩
  ·replace h:=h1▸h;(exfalso;cases h)
 ·clear hnl
  rintro⟨ρ1,σ1⟩ ⟨hσ,hco⟩
  subst hσ
  refine eJ (L:=LZ U root sb p t lp.1 ((p:Int) - lp.2) a (f8 cl)) hco ?_
  clear hco
  refine aA (aH M (.int ((p:Int) - ((p:Int) - lp.2))) (yB (i:=p) (j:=(p:Int) - lp.2) M aD aD) ∅ ?_)
  refine(show(p:Int) - ((p:Int) - lp.2)=lp.2 from Int.sub_sub_self _ _).symm▸?_
  refine aA (aH M (.int p) aD ∅ ?_)
  refine aA (aH M (.str [U[p]]) (bR M rfl aD aD hg) ∅ ?_)
  exact tA lp _ rfl rfl (by walk_at "co")
end
noncomputable def ziI(x U:List Nat):Prop:=∃a b c,mP [0] [65533] x=a/\mP [13,10] [10] a=b/\mP [13] [10] b=c/\mP [12] [10] c=U/\a.length<=600/\b.length<=600/\c.length<=600
theorem zS(x U:List Nat)(K:PV->Prop)(hx:x.length<=600)(hm:ziI x U)(hc:U.length<=600)(ha:Al U)(hK:∀R,Lay U none 0 R U.length->K (.list R)):
  wSs cP (cV (aK H0 628)) (aV H0 628) (gQ K) ⟨bB [("css",.str x),("skip_comments",.bool false)] (λ_=>none),λ_=>none⟩:=by
 have M:=a0
 have tb:=@zba
 (apply nfe;case h=>(show ?ya26=?yb26;refine(?_:∀_:(?ya26=?yb26),(?ya26=?yb26)) ?_;rotate_left;(conv=>lhs;whnf;dsimp only[lU,erS,erE,fF,erO]);exactλ_=>by kernel_rfl!))
 refine aA (aH M (.str U) ?_ ∅ ?_)
 ·refine x3 (λa b c=>a7 λh1 h2 h3 h4 l1 l2 l3=>?_) hm
  have le:∀{n:Nat},n<=600->n<=1000000:=λh=>af h (by decide)
  exact qJ M (qJ M (qJ M (qJ M (aE ⋯ ⋯) (le hx) (by decide+kernel) ∅ (by decide+kernel) h1) (le l1) (by decide+kernel) ∅ (by decide+kernel) h2) (le l2) (by decide+kernel) ∅ (by decide+kernel) h3) (le l3) (by decide+kernel) ∅ (by decide+kernel) h4
 clear hm
 refine aA (aH M (.int U.length) (cQ M ⋯ rfl rfl ∅ aD) ∅ ?_)
 refine aA (pJ M (.int ((0:Nat):Int)) (aB rfl) ∅ ∅ ?_)
 refine aA (aH M (.int ((1:Nat):Int)) (aB rfl) ∅ ?_)
 refine aA (aH M (.int (-1)) (nD M (aB rfl)) ∅ ?_)
 refine aA (zhz (by rfl) ∅ ∅ λa hna=>?_)
 refine aA (aH M .none (aB rfl) ∅ ?_)
 refine aA (mM (by rfl) ∅ λb hb=>?_)
 have hab:b≠a:=λq=>by
  subst q
  dsimp only at hb
  rw[aN]at hb;cases hb
 refine c8 M (λJ=>ziV U a J)
  (eG M (λn J=>Inv U a b n J) ?_ (U.length - 0) _ ⟨0,0,a,none,[],[],rfl,bh _,dq _,by walk_at "co",⟨ez.mpr ⟨λm=>hab (be.mp m),ez.mpr ⟨bu,jl⟩⟩,⟨[],?_,rfl⟩,trivial,?_⟩,aN _ _ _,bh _,rfl,rfl,λ_ _ g=>g⟩) ?_
 ·rintro n ⟨ρ,σ⟩ ⟨p,t,a',cl,fr,ts,rfl,htp,hp,hcore,tree,hs,hw,hr,ho⟩
  refine⟨decide (p<U.length),?_,λhc'=>?_,λhc'=>?_⟩
  ·rw[show ρ=bB _ ρ from dI _ hcore]
   exact aS M (fC M aD aD)
  ·exact tb hc ha htp (of_decide_eq_true hc') hcore tree hs hw hr ho (λst' h=>h) (λst' h=>h) (λst' h=>h)
  ·have hpe:=fx hp (aw (of_decide_eq_false hc'))
   exact xX tree hr (hpe▸ho) (by rw[show ρ=bB _ ρ from dI _ hcore];walk_at "co")
 ·dsimp only
  rw[dU _ (Ne.symm hab),aN]
 ·dsimp only
  rw[aN];rfl
 ·rintro⟨ρ,σ⟩ ⟨h1,xs,R,h2,h3,h4⟩
  refine eJ h1 ?_
  exact aA (aM M (.ptr a) aD ⟨.list R,.inr ⟨a,_,rfl,h2,h3⟩,hK R h4⟩)
noncomputable def rI:Fn:=λps K=>∃x U:List Nat,ps=[.str x]/\x.length<=600/\ziI x U/\U.length<=600/\Al U/\∀R,Lay U none 0 R U.length->K (.list R)
theorem tY:aW rI:=λ_ _ _ h=>e2 λ_ _=>c5 λk R t=>h _ (k R t)
theorem zk7(hB:BsOk (bs w.params h mb))(hmb:HMb mb):CtxOk prog w (bs w.params h mb) cP 4:=by
 refine c7 hmb yV yU (by simp) (λe he=>?_) (λe he=>?_) (by simp)
 ·simp only[cPf,bb,bu,or_false]at he
  rcases he with rfl|rfl|rfl|rfl|rfl|rfl|rfl|rfl|rfl
  ·exact⟨.ref 642,by kernel_rfl,(ze5 hB hmb).le (by decide)⟩
  ·exact⟨.ref 649,by kernel_rfl,(ze6 hB hmb).le (by decide)⟩
  ·exact⟨.ref 613,by kernel_rfl,(zcy hB hmb).le (by decide)⟩
  ·exact⟨.ref 26,by kernel_rfl,(sI hB hmb).le (by decide)⟩
  ·exact⟨.ref 670,by kernel_rfl,(zcp hB hmb).le (by decide)⟩
  ·exact⟨.ref 656,by kernel_rfl,(zcw hB hmb).le (by decide)⟩
  ·exact⟨.ref 41,by kernel_rfl,(zag hB).le (by decide)⟩
  ·exact⟨.ref 34,by kernel_rfl,(zai hB).le (by decide)⟩
  ·exact⟨.ref 677,by kernel_rfl,(zcv hB hmb).le (by decide)⟩
 ·simp only[cPc,bb,bu,or_false]at he
  rcases he with rfl|rfl|rfl|rfl|rfl|rfl|rfl|rfl|rfl|rfl|rfl|rfl|rfl|rfl|rfl|rfl|rfl
  ·exact⟨.ref 206,by kernel_rfl,(zab hB hmb).le (by decide)⟩
  ·exact⟨.ref 235,by kernel_rfl,(sG hB hmb).le (by decide)⟩
  ·exact⟨.ref 479,by kernel_rfl,(zad hB hmb).le (by decide)⟩
  ·exact⟨.ref 265,by kernel_rfl,(zcs hB hmb).le (by decide)⟩
  ·exact⟨.ref 295,by kernel_rfl,(vA hB hmb).le (by decide)⟩
  ·exact⟨.ref 134,by kernel_rfl,(zaf hB hmb).le (by decide)⟩
  ·exact⟨.ref 600,by kernel_rfl,(zcr hB hmb).le (by decide)⟩
  ·exact⟨.ref 163,by kernel_rfl,(zcq hB hmb).le (by decide)⟩
  ·exact⟨.ref 325,by kernel_rfl,(z5 hB hmb).le (by decide)⟩
  ·exact⟨.ref 355,by kernel_rfl,(z4 hB hmb).le (by decide)⟩
  ·exact⟨.ref 104,by kernel_rfl,(zac hB hmb).le (by decide)⟩
  ·exact⟨.ref 385,by kernel_rfl,(z7 hB hmb).le (by decide)⟩
  ·exact⟨.ref 415,by kernel_rfl,(zaa hB hmb).le (by decide)⟩
  ·exact⟨.ref 447,by kernel_rfl,(z8 hB hmb).le (by decide)⟩
  ·exact⟨.ref 513,by kernel_rfl,(z9 hB hmb).le (by decide)⟩
  ·exact⟨.ref 542,by kernel_rfl,(z6 hB hmb).le (by decide)⟩
  ·exact⟨.ref 571,by kernel_rfl,(zae hB hmb).le (by decide)⟩
theorem vB(hB:BsOk (bs w.params h mb))(hmb:HMb mb):Meets prog w (bs w.params h mb) 5 (.ref 628) rI:=by
 refine aU (k:=1) (params:=["css","skip_comments"]) (dv:=[.bool false]) (dp:=[.bool false]) hB (zk7 hB hmb) ∅ ∅ ∅ rfl (λ_=>.one (by simp[VRel])) (λS vals hl=>?_) λps K=>x2 λx U=>a6 λh1 h2 h3 h4 h5 h6=>?_
 ·refine x1 (λa zr1=>?_) (io.mp hl);subst zr1
  kernel_rfl
 ·subst h1
  exact⟨rfl,zS x U K h2 h3 h4 h5 h6⟩
noncomputable def cN0:Ctx:=mkC [] [] false [] []
theorem f9:CtxMono cN0:=bN (by simp) (by simp)
noncomputable def t1(s:String):List (List Nat):=[lcS s]
noncomputable def hexS:List (Nat×Nat):=[(48,0),(49,1),(50,2),(51,3),(52,4),(53,5),(54,6),(55,7),(56,8),(57,9),(97,10),(98,11),(99,12),(100,13),(101,14),(102,15),(65,10),(66,11),(67,12),(68,13),(69,14),(70,15)]
noncomputable def hexD:DL:=hexS.map λe=>([[e.1]],.i e.2)
noncomputable def opnD:DL:=[(t1 "() block",.s [40]),(t1 "[] block",.s [91]),(t1 "{} block",.s [123])]
noncomputable def clsD:DL:=[(t1 "() block",.s [41]),(t1 "[] block",.s [93]),(t1 "{} block",.s [125])]
noncomputable def stepS:List (String×Nat×String):=[("",48,"whole"),("",43,"sign"),("",46,"dot"),("sign",48,"whole"),("sign",46,"dot"),("whole",48,"whole"),("whole",46,"dot"),("whole",101,"e"),("dot",48,"point"),("point",48,"point"),("point",101,"e"),("e",48,"power"),("e",43,"e sign"),("e sign",48,"power"),("power",48,"power")]
noncomputable def stepD:DL:=stepS.map λe=>([lcS e.1,[e.2.1]],.s (lcS e.2.2))
section
theorem lW{fd:FuncData}{a:Nat}(h2:sY (HK w.params) a=some fd)(k:∀S,(sY (HK w.params) a).map (λfd=>peek (HK w.params) S (bindArgs fd ⟨[],[]⟩))=some (some []))(s:Shared)(vals:List Value)(X:(HK w.params).In s.heap)(hl:vals.length=0):BindsTo s fd ⟨vals,[]⟩ (([]:List Str).zip (vals++[])):=by
 refine kp_binds X λS=>?_
 cases gf.mp hl
 have:=k S
 rw[h2]at this
 show peek (HK w.params) S _=_
 simpa using this
theorem zcx(hB:BsOk (bs w.params h mb)):Meets prog w (bs w.params h mb) 1 (.ref 699) (hX (.dict false opnD)):=by
 refine x1 (λfd=>a3 λh1 h2 h3=>?_) (g9 (K:=HK w.params) (a:=699) ∅)
 conv at h1=>arg 4;whnf
 exact jV (b:=false) (D:=opnD) hB h1 ∅ ∅ ∅ (lW h2 λS=>by kernel_rfl)
theorem zcE(hB:BsOk (bs w.params h mb)):Meets prog w (bs w.params h mb) 1 (.ref 706) (hX (.dict false clsD)):=by
 refine x1 (λfd=>a3 λh1 h2 h3=>?_) (g9 (K:=HK w.params) (a:=706) ∅)
 conv at h1=>arg 4;whnf
 exact jV (b:=false) (D:=clsD) hB h1 ∅ ∅ ∅ (lW h2 λS=>by kernel_rfl)
theorem zah(hB:BsOk (bs w.params h mb)):Meets prog w (bs w.params h mb) 1 (.ref 713) (hX (.dict true stepD)):=by
 refine x1 (λfd=>a3 λh1 h2 h3=>?_) (g9 (K:=HK w.params) (a:=713) ∅)
 conv at h1=>arg 4;whnf
 exact jV (b:=true) (D:=stepD) hB h1 ∅ ∅ ∅ (lW h2 λS=>by kernel_rfl)
theorem zcB(hB:BsOk (bs w.params h mb)):Meets prog w (bs w.params h mb) 1 (.ref 685) (hX (.dict false hexD)):=by
 refine x1 (λfd=>a3 λh1 h2 h3=>?_) (g9 (K:=HK w.params) (a:=685) ∅)
 conv at h1=>arg 4;whnf
 exact zam (D:=hexD) hB h1 ∅ ∅ ∅ ∅ ∅ ∅ (lW h2 λS=>by kernel_rfl)
end
section
variable {C:Ctx}{H:Kn}
theorem zdm{l r:Expr}{p:Pos}{J:St}{c:Nat}{y:List Nat}(M:CtxMono C)(h1:ev C H l J (.str [c]))(h2:ev C H r J (.str y)):ev C H (.Compare l [.In] [r] p) J (.bool (decide (c∈y))):=bL M h1 h2 (mA _ _)
theorem yJ{l r:Expr}{p:Pos}{J:St}{x y:List Nat}(M:CtxMono C)(h1:ev C H l J (.str x))(h2:ev C H r J (.str y)):ev C H (.Compare l [.Eq] [r] p) J (.bool (decide (x=y))):=bL M h1 h2 rfl
theorem zgG{l r:Expr}{p:Pos}{J:St}{x y:List Nat}(M:CtxMono C)(h1:ev C H l J (.str x))(h2:ev C H r J (.str y)):ev C H (.Compare l [.NotEq] [r] p) J (.bool (!decide (x=y))):=bL M h1 h2 rfl
theorem fE{o l u:Expr}{p q:Pos}{J:St}{x:List Nat}{e:Nat}(M:CtxMono C)(h:ev C H o J (.str x))(hl:ev C H l J (.int e))(hu:ev C H u J (.int ((e:Int)+1)))(he:e<1000000):ev C H (.Subscript o (.Slice (some l) (some u) none q) p) J (.str (x[e]?).toList):=by
 rw[<- y1,<- sl1]
 exact sZ M h hl hu (xB he)
theorem mQ(o:Option Nat)(c:Nat):decide (o.toList=[c])=(o==some c):=by
 cases o with
 |none=>rfl
 |some d=>exact decide_eq_decide.mpr ⟨λh=>(List.cons.inj h).1,λh=>congrArg (λn=>[n]) h⟩
theorem lN{l:Expr}{q:Str}{k:Nat}{p p':Pos}{J:St}{o:Option Nat}{d:Nat}(M:CtxMono C)(h:ev C H l J (.str o.toList))(hq:q.cps.toList=[d]):ev C H (.Compare l [.Eq] [.Constant (.str q) k p] p') J (.bool (o==some d)):=
 mQ o d▸bL (b:=.str [d]) M h (aB (by rw[iJ,hq])) rfl
theorem qK{l:Expr}{q:Str}{k:Nat}{p p':Pos}{J:St}{o:Option Nat}(M:CtxMono C)(h:ev C H l J (.str o.toList))(hq:q.cps.toList=[]):ev C H (.Compare l [.NotEq] [.Constant (.str q) k p] p') J (.bool o.isSome):=
 bL (b:=.str []) M h (aB (by rw[iJ,hq])) (by cases o<;>rfl)
end
noncomputable def lettersL:List Nat:=lcS "abcdefghijklmnopqrstuvwxyzABCDEFGHIJKLMNOPQRSTUVWXYZ_"
noncomputable def Ao(o:Option Nat):Prop:=∀c,o=some c->eM c=true
theorem Al.ao{x:List Nat}(h:Al x)(i:Nat):Ao x[i]?:=λ_ e=>h.at e
noncomputable def zhb(f:Nat->Bool):Fn:=λps K=>∃o:Option Nat,ps=[.str o.toList]/\Ao o/\K (.bool (o.any f))
theorem iT(f:Nat->Bool):aW (zhb f):=λ_ _ _ h=>e1 λ_=>c2 (h _)
noncomputable def cHd:Ctx:=mkC [] [] false [("_law_LETTERS",.str lettersL)] []
theorem zfN:CtxMono cHd:=bN (by simp) (by simp)
theorem vG{w:World}{h:Heap}{mb:Str->Option Value}(hB:BsOk (bs w.params h mb)):∃u,mgK w.params (ae "_law_LETTERS")=some u/\VRel w.params (λa=>h.get? a) u (.str lettersL):=by
 have e:mgK w.params (ae "_law_LETTERS")=some (.str ⟨lettersL.toArray⟩ 1309):=by kernel_rfl
 exact⟨_,e,_,rfl,λc hc=>ar (of_decide_eq_true (ay.mp (show(lettersL.all λc=>decide (c<200))=true by decide+kernel) c hc)) (by decide),gj rfl⟩
theorem zc6(o:Option Nat)(K:PV->Prop)(ha:Ao o)(hK:K (.bool (o.any a1))):wSs cHd (cV (aK H0 727)) (aV H0 727) (gQ K) ⟨bB [("sign",.str o.toList)] (λ_=>none),λ_=>none⟩:=by
 have M:=zfN
 (apply nfe;case h=>(show ?ya27=?yb27;refine(?_:∀_:(?ya27=?yb27),(?ya27=?yb27)) ?_;rotate_left;(conv=>lhs;whnf;dsimp only[lU,erS,erE,fF,erO]);exactλ_=>by kernel_rfl!))
 cases o with
 |none=>exact aA (aM M (.bool ((none:Option Nat).isSome&&false)) (gN M (qK (o:=none) M aD ∅) λh=>by cases h) ⟨_,b6 _ _,hK⟩)
 |some c=>
  have hK:K (.bool ((some c).isSome&&(decide (c∈lettersL)||decide (127<c)))):=by
   rw[show(decide (c∈lettersL)||decide (127<c))=a1 c from mU (ha c rfl)];exact hK
  exact aA (aM M (.bool _) (gN M (qK (o:=some c) M aD ∅) λ_=>eL (kG M (zdm (c:=c) M aD (qO ⋯ rfl)) λ_=>eL (yI (c:=c) M ⋯ rfl rfl ∅ aD))) ⟨_,b6 _ _,hK⟩)
section
theorem zaq(hB:BsOk (bs w.params h mb))(hmb:HMb mb):Meets prog w (bs w.params h mb) 1 (.ref 727) (zhb a1):=by
 have hC:CtxOk prog w (bs w.params h mb) cHd 0:=c7 hmb (by simp) (by simp) (λe he=>by
  simp only[be]at he;subst he
  exact vG hB) (by simp) (by simp) (by simp)
 refine aU (k:=1) (params:=["sign"]) (dv:=[]) (dp:=[]) hB hC ∅ ∅ ∅ rfl (λ_=>.nil) (λS vals hl=>?_) λps K=>x1 λo=>a3 λh1 h2 h3=>?_
 ·refine x1 (λa zr1=>?_) (iF hl);subst zr1
  kernel_rfl
 ·subst h1
  exact⟨rfl,zc6 o K h2 h3⟩
end
noncomputable def cSg:Ctx:=mkC [("_law_name_head",zhb a1)] [] false [] []
theorem yS:CtxMono cSg:=bN (by simp[iT]) (by simp)
theorem zgY(hB:BsOk (bs w.params h mb))(hmb:HMb mb):CtxOk prog w (bs w.params h mb) cSg 1:=
 c7 hmb (by simp[iT]) (by simp) (by simp) (λe he=>by
  simp only[be]at he;subst he
  exact⟨.ref 727,by kernel_rfl,zaq hB hmb⟩) (by simp) (by simp)
theorem oX{C:Ctx}{H:Kn}{f:Nat->Bool}{e:Expr}{x:Str}{p q:Pos}{J:St}{o:Option Nat}(M:CtxMono C)(k:H x=some .globalImplicit)(hf:C.fn x=some (zhb f))(h:ev C H e J (.str o.toList))(ho:Ao o):ev C H (.Call (.Name x q) [e] [] p) J (.bool (o.any f)):=
 aR M k hf (aC M h aG) ⟨o,rfl,ho,.inl rfl,rfl⟩
theorem zbN(o:Option Nat)(K:PV->Prop)(ha:Ao o)(hK:K (.bool (o.any bC))):wSs cSg (cV (aK H0 734)) (aV H0 734) (gQ K) ⟨bB [("sign",.str o.toList)] (λ_=>none),λ_=>none⟩:=by
 have M:=yS
 (apply nfe;case h=>(show ?ya28=?yb28;refine(?_:∀_:(?ya28=?yb28),(?ya28=?yb28)) ?_;rotate_left;(conv=>lhs;whnf;dsimp only[lU,erS,erE,fF,erO]);exactλ_=>by kernel_rfl!))
 cases o with
 |none=>exact aA (aM M (.bool ((none:Option Nat).isSome&&false)) (gN M (qK (o:=none) M aD ∅) λh=>by cases h) ⟨_,b6 _ _,hK⟩)
 |some c=>
  have hK:K (.bool ((some c).isSome&&(decide (c∈(ae "-0123456789").cps.toList)||(some c).any a1))):=by
   rw[show((some c).isSome&&(decide (c∈(ae "-0123456789").cps.toList)||(some c).any a1))=bC c from cF (f:=λc=>(some c).isSome&&(decide (c∈(ae "-0123456789").cps.toList)||(some c).any a1)) (by decide+kernel) (ha c rfl)];exact hK
  exact aA (aM M (.bool _) (gN M (qK (o:=some c) M aD ∅) λ_=>eL (kG M (dE (c:=c) M aD) λ_=>eL (oX (o:=some c) M ⋯ rfl aD ha))) ⟨_,b6 _ _,hK⟩)
section
theorem oR(hB:BsOk (bs w.params h mb))(hmb:HMb mb):Meets prog w (bs w.params h mb) 2 (.ref 734) (zhb bC):=by
 refine aU (k:=1) (params:=["sign"]) (dv:=[]) (dp:=[]) hB (zgY hB hmb) ∅ ∅ ∅ rfl (λ_=>.nil) (λS vals hl=>?_) λps K=>x1 λo=>a3 λh1 h2 h3=>?_
 ·refine x1 (λa zr1=>?_) (iF hl);subst zr1
  kernel_rfl
 ·subst h1
  exact⟨rfl,zbN o K h2 h3⟩
end
structure Tx (U:List Nat):Prop where
 len:U.length<=600
 al:Al U
theorem Tx.lt{U:List Nat}(t:Tx U){i:Nat}(h:i<=U.length):i<1000:=ai (af h t.len) (by decide)
theorem zjJ{x:List Nat}(ha:Al x):aO x=((x[0]?).any a1||(x[0]?==some 45&&(x[1]?==some 45||(x[1]?).any a1))):=by
 cases x with
 |nil=>rfl
 |cons c r=>
  have h92:∀d,eM d=true->(d==92)=false:=λd hd=>fS (iY hd 92 (by decide))
  refine(?_:(a1 c||((c==45&&kD r)||(c==92&&!([92,10].isPrefixOf (c ::r)))))=(a1 c||((c==45)&&(r[0]?==some 45||(r[0]?).any a1))))
  rw[h92 c (ha c bk),iy,gu]
  cases r with
  |nil=>rfl
  |cons d r=>
   refine(?_:(a1 c||((c==45)&&((a1 d||d==45)||zft (d ::r))))=(a1 c||((c==45)&&(d==45||a1 d))))
   have he:zft (d ::r)=false:=by
    have:=h92 d (ha d (bc _ bk))
    unfold zft
    rw[show [92].isPrefixOf (d ::r)=((92==d)&&true)from rfl,BEq.comm,this];rfl
   rw[he,gu,Bool.or_comm (a1 d)]
noncomputable def lV:Fn:=λps K=>∃(U:List Nat) (i:Nat),ps=[.str U,.int i]/\Tx U/\i<100000/\K (.bool (aO (U.drop i)))
theorem lF:aW lV:=λ_ _ _ h=>e2 λ_ _=>c3 (h _)
theorem zeM(U:List Nat)(i:Nat)(K:PV->Prop)(t:Tx U)(hi:i<100000)(hK:K (.bool (aO (U.drop i)))):wSs cSg (cV (aK H0 741)) (aV H0 741) (gQ K) ⟨bB [("mended",.str U),("at",.int i)] (λ_=>none),λ_=>none⟩:=by
 have M:=yS
 have hi1:i<1000000:=ar hi (by decide)
 have hi2:i+1<1000000:=ai hi (by decide)
 rw[zjJ (t.al.drop i),bw,bw]at hK
 (apply nfe;case h=>(show ?ya29=?yb29;refine(?_:∀_:(?ya29=?yb29),(?ya29=?yb29)) ?_;rotate_left;(conv=>lhs;whnf;dsimp only[lU,erS,erE,fF,erO]);exactλ_=>by kernel_rfl!))
 refine aA (aH M (.str (U[i]?).toList) (fE M aD aD (aP (i:=i) (j:=1) M aD (aB rfl)) hi1) ∅ ?_)
 refine aA (aH M (.str (U[i+1]?).toList) (fE (e:=i+1) M aD (aP (i:=i) (j:=1) M aD (aB rfl)) (aP (i:=i) (j:=2) M aD (aB rfl)) hi2) ∅ ?_)
 exact aA (aM M (.bool _) (kG M (oX (o:=U[i]?) M ⋯ rfl aD (t.al.ao i)) λ_=>eL (gN M (lN (o:=U[i]?) M aD ∅) λ_=>eL (kG M (lN (o:=U[i+1]?) M aD ∅) λ_=>eL (oX (o:=U[i+1]?) M ⋯ rfl aD (t.al.ao (i+1)))))) ⟨_,b6 _ _,hK⟩)
theorem mW(hB:BsOk (bs w.params h mb))(hmb:HMb mb):Meets prog w (bs w.params h mb) 2 (.ref 741) lV:=by
 refine aU (k:=2) (params:=["mended","at"]) (dv:=[]) (dp:=[]) hB (zgY hB hmb) ∅ ∅ ∅ rfl (λ_=>.nil) (λS vals hl=>?_) λps K=>x2 λU i=>a4 λh1 h2 h3 h4=>?_
 ·refine x2 (λa b zr2=>?_) (fL hl);subst zr2
  kernel_rfl
 ·subst h1
  exact⟨rfl,zeM U i K h2 h3 h4⟩
section
variable {C:Ctx}{H:Kn}
theorem xD{tgt iter:Expr}{b o:List Stmt}{p:Pos}{Q:Fl->St->Prop}{J:St}(M:CtxMono C)(x:List Nat)(hn:x.length<=600)(hs:(cZ tgt).all (cY H)=true)(h:ev C H iter J (.str x))(I:Nat->St->Prop)
  (turn:∀i c J,x[i]?=some c->I i J->∃ρ1,k0 tgt (.str [c]) J.ρ=some ρ1/\wSs C H b (nW (I (i+1)) Q) ⟨ρ1,J.σ⟩)
  (fin:∀J,I x.length J->wSs C H o Q J) (h0:I 0 J):wS C H (.For tgt iter b o p) Q J:=by
 have hl:(x.map λc=>PV.str [c]).length=x.length:=cz _
 refine zhA M (.str x) (x.map λc=>.str [c]) rfl (by rw[hl];exact af hn (by decide)) hs h I (λi hi J hI=>?_) (λJ hI=>fin J (hl▸hI)) h0
 rw[List.getElem_map]
 exact turn i _ J (ah (hl▸hi)) hI
theorem d4{l r:Expr}{p:Pos}{J:St}{x:List Nat}(M:CtxMono C)(h1:ev C H l J (.str x))(h2:ev C H r J (.str x)):ev C H (.Compare l [.NotEq] [r] p) J (.bool false):=
 bL M h1 h2 (by show(!decide (x=x))=false;rw[decide_eq_true rfl];rfl)
theorem zhh{e:Expr}{J:St}{b b':Bool}(k:tv C H e J b')(h:b'=b):tv C H e J b:=h▸k
end
noncomputable def cWh:Ctx:=mkC [("_law_name_sign",zhb bC)] [] false [] []
theorem zfD:CtxMono cWh:=bN (by simp[iT]) (by simp)
noncomputable def iR:Fn:=λps K=>∃(U:List Nat) (i:Nat) (v:List Nat),ps=[.str U,.int i,.str v]/\Tx U/\i<=U.length/\v=(U.drop i).take (aY (U.drop i))/\1<=aY (U.drop i)/\K (.bool true)
theorem lQ:aW iR:=λ_ _ _ h=>e3 λ_ _ _=>c5 (h _)
theorem zD(U:List Nat)(i:Nat)(v:List Nat)(K:PV->Prop)(t:Tx U)(hi:i<=U.length)(hv:v=(U.drop i).take (aY (U.drop i)))(h1:1<=aY (U.drop i))(hK:K (.bool true)):wSs cWh (cV (aK H0 748)) (aV H0 748) (gQ K) ⟨bB [("mended",.str U),("at",.int i),("name",.str v)] (λ_=>none),λ_=>none⟩:=by
 have M:=zfD
 have hq:i+aY (U.drop i)<=U.length:=aZ hi (cW _)
 have hvl:v.length=aY (U.drop i):=by rw[hv,bz];exact ce (cW _)
 have hin:∀c∈v,bC c=true:=λc hc=>by
  rw[hv]at hc
  unfold aY at hc
  rw[<- fb.mp (gr bC)]at hc
  exact ay.mp im c hc
 have hst:(U[i+aY (U.drop i)]?).any bC=false:=by
  cases hg:U[i+aY (U.drop i)]? with
  |none=>rfl
  |some c=>exact lD (f:=bC) hg
 have hs:v=(U.drop i).take (i+aY (U.drop i) - i):=by rw[bx];exact hv
 have hne:decide (v=(ae "").cps.toList)=false:=decide_eq_false λe=>by rw[<- hvl,e]at h1;exact absurd h1 (by decide)
 have hx:i+aY (U.drop i)<1000:=t.lt hq
 clear hv h1
 generalize aY (U.drop i)=n at hq hvl hst hs hx
 (apply nfe;case h=>(show ?ya30=?yb30;refine(?_:∀_:(?ya30=?yb30),(?ya30=?yb30)) ?_;rotate_left;(conv=>lhs;whnf;dsimp only[lU,erS,erE,fF,erO]);exactλ_=>by kernel_rfl!))
 refine aA (aH M (.int ((i:Int)+(v.length:Nat))) (aP M aD (cQ M ⋯ rfl rfl ∅ aD)) ∅ ?_)
 rw[hvl,show(i:Int)+(n:Nat)=((i+n:Nat):Int)from rfl]
 refine aA (bI M (false||(false||false)) (dX M (hne▸aS M (eZ (q:="") M aD)) λ_=>dX M (aS M (d4 (x:=v) M (hs▸gW M aD aD aD (am i n) (ar hx (by decide))) aD)) λ_=>bJ (hst▸aS M (oX (o:=U[i+n]?) M ⋯ rfl (fE (e:=i+n) M aD aD (aP (i:=(i+n:Nat)) (j:=1) M aD (aB rfl)) (ar hx (by decide))) (t.al.ao _)))) (λh=>by(exfalso;cases h)) (λ_=>?_))
 refine c8 M (λ_=>True) (xD M v (af (hvl▸af (ed n i) hq) t.len) ∅ aD (λ_ _=>True) (λj c J hc _=>⟨_,rfl,?_⟩) (λJ _=>trivial) trivial) ?_
 ·have hcv:=fi hc
  have hal:Ao (some c):=λd e=>by
   have zq:=Option.some.inj e;subst zq
   rw[hs]at hcv
   exact t.al c (fz (jf hcv))
  have hcn:(some c).any bC=true:=hin c hcv
  exact aA (bI M (!(some c).any bC) (eR M (aS M (oX (o:=some c) M ⋯ rfl aD hal))) (λh=>by rw[hcn]at h;(exfalso;cases h)) (λ_=>trivial))
 ·exactλJ _=>aA (aM M (.bool true) (aB rfl) ⟨_,b6 _ _,hK⟩)
section
theorem mV(hB:BsOk (bs w.params h mb))(hmb:HMb mb):Meets prog w (bs w.params h mb) 3 (.ref 748) iR:=by
 have hC:CtxOk prog w (bs w.params h mb) cWh 2:=c7 hmb (by simp[iT]) (by simp) (by simp) (λe he=>by
  simp only[be]at he;subst he
  exact⟨.ref 734,by kernel_rfl,oR hB hmb⟩) (by simp) (by simp)
 refine aU (k:=3) (params:=["mended","at","name"]) (dv:=[]) (dp:=[]) hB hC ∅ ∅ ∅ rfl (λ_=>.nil) (λS vals hl=>?_) λps K=>x3 λU i v=>a6 λh1 h2 h3 h4 h5 h6=>?_
 ·refine x3 (λa b c zr3=>?_) (eF hl);subst zr3
  kernel_rfl
 ·subst h1
  exact⟨rfl,zD U i v K h2 h3 h4 h5 h6⟩
end
theorem lO(hmb:HMb mb):CtxOk prog w (bs w.params h mb) cN0 0:=c7 hmb (by simp) (by simp) (by simp) (by simp) (by simp) (by simp)
noncomputable def lI:Fn:=λps K=>∃(U:List Nat) (i:Nat),ps=[.str U,.int i]/\Tx U/\i<=U.length/\K (.int (i+a9 (U.drop i):Nat))
theorem lH:aW lI:=λ_ _ _ h=>e2 λ_ _=>c3 (h _)
theorem zdF(U:List Nat)(i:Nat)(K:PV->Prop)(hi:i<=U.length)(hK:K (.int (i+a9 (U.drop i):Nat))):wSs cN0 (cV (aK H0 755)) (aV H0 755) (gQ K) ⟨bB [("mended",.str U),("at",.int i)] (λ_=>none),λ_=>none⟩:=by
 have M:=f9
 (apply nfe;case h=>(show ?ya31=?yb31;refine(?_:∀_:(?ya31=?yb31),(?ya31=?yb31)) ?_;rotate_left;(conv=>lhs;whnf;dsimp only[lU,erS,erE,fF,erO]);exactλ_=>by kernel_rfl!))
 generalize hT:i+a9 (U.drop i)=T at hK
 refine c8 M (λJ=>dJ [("at",.int T)] J.ρ) (eG M (λn J=>∃e:Nat,n=U.length - e/\dJ [("mended",.str U),("at",.int e)] J.ρ/\e<=U.length/\e+a9 (U.drop e)=T) ?_ (U.length - i) _ ⟨i,rfl,by walk_at "co",hi,hT⟩) ?_
 ·refineλn J=>x1 λe=>a4 λhnn h1 h2 h3=>keepP J h1 ?_
  by_cases hl:e<U.length
  ·have hg:U[e]?=some U[e]:=ah hl
   refine⟨decide (e<U.length)&&bT U[e],bS M (aS M (fC M aD (cQ M ⋯ rfl rfl ∅ aD))) λ_=>bJ (kB U[e]▸aS M (dE M (bR M rfl aD aD hg))),λhc=>?_,λhc=>?_⟩
   ·have hs:=(gZ (x:=U) (i:=e) (by unfold gX;rw[hg];exact(ag.mp hc).2)).2
    exact aA (b8 M (.int e) (.int 1) ⋯ (aB rfl) ∅ (of_eq bM ⟨U.length - (e+1),hnn▸dd hl (av e),e+1,rfl,by walk_at "co",hl,by rw[<- h3,hs,dm];rfl⟩))
   ·rw[decide_eq_true hl,eo]at hc
    replace h3:=(gY (x:=U) (i:=e) (by unfold gX;rw[hg];exact hc))▸h3
    have h3:e=T:=h3
    subst h3
    refine(?_:dJ [("at",.int e)] _)
    walk_at "co"
  ·refine⟨decide (e<U.length)&&false,bS M (aS M (fC M aD (cQ M ⋯ rfl rfl ∅ aD))) λh=>absurd (of_decide_eq_true h) hl,λhc=>(by rw[ew]at hc;cases hc),λ_=>?_⟩
   replace h3:=(az (aw hl))▸h3
   have h3:e=T:=h3
   subst h3
   refine(?_:dJ [("at",.int e)] _)
   walk_at "co"
 ·exactλJ h1=>keepP J h1 (aA (aM M (.int T) aD ⟨_,aQ _ _ rfl,hK⟩))
theorem mX(hB:BsOk (bs w.params h mb))(hmb:HMb mb):Meets prog w (bs w.params h mb) 1 (.ref 755) lI:=by
 refine aU (k:=2) (params:=["mended","at"]) (dv:=[]) (dp:=[]) hB (lO hmb) ∅ ∅ ∅ rfl (λ_=>.nil) (λS vals hl=>?_) λps K=>x2 λU i=>a4 λh1 h2 h3 h4=>?_
 ·refine x2 (λa b zr2=>?_) (fL hl);subst zr2
  kernel_rfl
 ·subst h1
  exact⟨rfl,zdF U i K h3 h4⟩
section
variable {C:Ctx}{H:Kn}
theorem pY(o:Option Nat)(a b:Nat):decide (o.toList∈([[a],[b]]:List (List Nat)))=(o==some a||o==some b):=by
 rw[<- mQ,<- mQ,<- Bool.decide_or]
 exact decide_eq_decide.mpr (by rw[bb,be])
theorem zgd(x:List Nat)(j a k:Nat):decide ((x.drop j).take 2=[a,k])=(x[j]?==some a&&x[j+1]?==some k):=by
 by_cases h:j<x.length
 ·refine(ak h).symm▸?_;refine(ah h).symm▸?_;refine List.take_succ_cons.symm▸?_
  have e1:(x.drop (j+1)).take 1=(x[j+1]?).toList:=y1 x (j+1)
  refine e1.symm▸?_;refine(mQ x[j+1]? k)▸?_
  show _=(decide (x[j]=a)&&_)
  rw[<- Bool.decide_and]
  exact decide_eq_decide.mpr ⟨λh=>List.cons.inj h,λh=>by(refine h.1.symm▸?_;exact h.2.symm▸rfl)⟩
 ·(refine(az (aw h)).symm▸?_;refine(bt (aw h)).symm▸?_);rfl
theorem za8(x:List Nat)(j a b k:Nat):decide ((x.drop j).take 2∈([[a,k],[b,k]]:List (List Nat)))=((x[j]?==some a||x[j]?==some b)&&x[j+1]?==some k):=by
 rw[Bool.and_or_distrib_right,<- zgd,<- zgd,<- Bool.decide_or]
 exact decide_eq_decide.mpr (by rw[bb,be])
theorem tD{e:Expr}{q1 q2:Str}{k1 k2 k3:Nat}{p1 p2 p3 p:Pos}{J:St}{x u v:List Nat}(M:CtxMono C)(h:ev C H e J (.str x))(e1:q1.cps.toList=u)(e2:q2.cps.toList=v):
  ev C H (.Compare e [.In] [.Tuple [.Constant (.str q1) k1 p1,.Constant (.str q2) k2 p2] k3 p3] p) J (.bool (decide (x∈([u,v]:List (List Nat))))):=by
 subst e1;subst e2
 exact bL (a:=.str x) M h (bH M (aC M (aB rfl) (aC M (aB rfl) aG))) ⟨[q1.cps.toList,q2.cps.toList],rfl,rfl⟩
theorem yC{o l u:Expr}{p q:Pos}{J:St}{x:List Nat}{i:Nat}(M:CtxMono C)(h:ev C H o J (.str x))(hl:ev C H l J (.int i))(hu:ev C H u J (.int (i+2:Nat)))(hi:i<1000000):ev C H (.Subscript o (.Slice (some l) (some u) none q) p) J (.str ((x.drop i).take 2)):=by
 have:=gW (p:=p) (q:=q) M h hl hu (am i 2) (aj (Nat.add_lt_add_right hi 2) (by decide))
 rwa [bx]at this
theorem jN{l r:Expr}{p:Pos}{J:St}{a b:Nat}(M:CtxMono C)(h1:ev C H l J (.int a))(h2:ev C H r J (.int b)):ev C H (.Compare l [.Eq] [r] p) J (.bool (decide (a=b))):=bL M h1 h2 (decide_eq_decide.mpr Int.ofNat_inj)
theorem zjW{l r:Expr}{p:Pos}{J:St}{a b:Nat}(M:CtxMono C)(h1:ev C H l J (.int a))(h2:ev C H r J (.int b)):ev C H (.Compare l [.Gt] [r] p) J (.bool (decide (b<a))):=bL M h1 h2 (decide_eq_decide.mpr fy)
theorem zfq{l m r:Expr}{p:Pos}{J:St}{a b e:Nat}(M:CtxMono C)(h1:ev C H l J (.int a))(h2:ev C H m J (.int b))(h3:ev C H r J (.int e)):ev C H (.Compare l [.LtE,.LtE] [m,r] p) J (.bool (decide (a<=b)&&decide (b<=e))):=by
 refine bA (e:=l) M h1 (bA (e:=m) M h2 ?_)
 refine(?_:if decide ((a:Int)<=b)=true then wCh C [r] [.LtE] H (.int b) _ J else _)
 refine(show decide ((a:Int)<=b)=decide (a<=b)from decide_eq_decide.mpr ga).symm▸?_
 cases decide (a<=b)
 ·exact⟨rfl,rfl⟩
 ·exact bA (e:=r) M h3 ⟨rfl,congrArg PV.bool (decide_eq_decide.mpr ga),rfl⟩
end
noncomputable def zf8:Fn:=λps K=>∃(U:List Nat) (i:Nat),ps=[.str U,.int i]/\Tx U/\i<100000/\K (.bool (hW (U.drop i)))
theorem t8:aW zf8:=λ_ _ _ h=>e2 λ_ _=>c3 (h _)
theorem ziD(U:List Nat)(i:Nat)(K:PV->Prop)(hi:i<100000)(hK:K (.bool (hW (U.drop i)))):wSs cN0 (cV (aK H0 790)) (aV H0 790) (gQ K) ⟨bB [("mended",.str U),("at",.int i)] (λ_=>none),λ_=>none⟩:=by
 have M:=f9
 have hi1:i<1000000:=ar hi (by decide)
 have hi2:i+1<1000000:=ai hi (by decide)
 have hi3:i+2<1000000:=ai (gd (aq hi) 2) (by decide)
 have e:hW (U.drop i)=(decide ((U[i]?).toList∈([[117],[85]]:List (List Nat)))&&(decide ((U[i+1]?).toList∈([[114],[82]]:List (List Nat)))&&decide ((U.drop (i+2)).take 2∈([[108,40],[76,40]]:List (List Nat))))):=by
  unfold hW
  rw[pY,pY,za8,bw,bw,bw,bw,Bool.and_assoc,Bool.and_assoc];rfl
 rw[e]at hK
 (apply nfe;case h=>(show ?ya32=?yb32;refine(?_:∀_:(?ya32=?yb32),(?ya32=?yb32)) ?_;rotate_left;(conv=>lhs;whnf;dsimp only[lU,erS,erE,fF,erO]);exactλ_=>by kernel_rfl!))
 exact aA (aM M (.bool _) (gN M (tD M (fE M aD aD (aP (i:=i) (j:=1) M aD (aB rfl)) hi1) ∅ ∅) λ_=>gN M (tD M (fE (e:=i+1) M aD (aP (i:=i) (j:=1) M aD (aB rfl)) (aP (i:=i) (j:=2) M aD (aB rfl)) hi2) ∅ ∅) λ_=>eL (tD M (yC (i:=i+2) M aD (aP (i:=i) (j:=2) M aD (aB rfl)) (aP (i:=i) (j:=4) M aD (aB rfl)) hi3) ∅ ∅)) ⟨_,b6 _ _,hK⟩)
noncomputable def zf7:Fn:=λps K=>∃c:Nat,ps=[.str [c]]/\eM c=true/\K (.bool (jE c))
theorem pA:aW zf7:=λ_ _ _ h=>e1 λ_=>c2 (h _)
theorem zfS(c:Nat)(K:PV->Prop)(ha:eM c=true)(hK:K (.bool (jE c))):wSs cN0 (cV (aK H0 797)) (aV H0 797) (gQ K) ⟨bB [("sign",.str [c])] (λ_=>none),λ_=>none⟩:=by
 have M:=f9
 have e:(decide (c∈(ae " \n\t\"'()").cps.toList)||(decide (c<9)||(decide (c=11)||((decide (14<=c)&&decide (c<=31))||decide (c=127)))))=jE c:=
  cF (f:=λc=>decide (c∈(ae " \n\t\"'()").cps.toList)||(decide (c<9)||(decide (c=11)||((decide (14<=c)&&decide (c<=31))||decide (c=127))))) (by decide+kernel) ha
 rw[<- e]at hK
 (apply nfe;case h=>(show ?ya33=?yb33;refine(?_:∀_:(?ya33=?yb33),(?ya33=?yb33)) ?_;rotate_left;(conv=>lhs;whnf;dsimp only[lU,erS,erE,fF,erO]);exactλ_=>by kernel_rfl!))
 refine aA (aH M (.int c) (kX M ⋯ rfl rfl ∅ (aC M (v:=.str [c]) aD aG) (of_eq (B:=PV.int c=.int c) ∅ rfl)) ∅ ?_)
 exact aA (aM M (.bool _) (kG M (dE M aD) λ_=>kG M (fC (b:=9) M aD (aB rfl)) λ_=>kG M (jN (b:=11) M aD (aB rfl)) λ_=>kG M (zfq (a:=14) (e:=31) M (aB rfl) aD (aB rfl)) λ_=>eL (jN (b:=127) M aD (aB rfl))) ⟨_,b6 _ _,hK⟩)
section
theorem xQ(hB:BsOk (bs w.params h mb))(hmb:HMb mb):Meets prog w (bs w.params h mb) 1 (.ref 790) zf8:=by
 refine aU (k:=2) (params:=["mended","at"]) (dv:=[]) (dp:=[]) hB (lO hmb) ∅ ∅ ∅ rfl (λ_=>.nil) (λS vals hl=>?_) λps K=>x2 λU i=>a4 λh1 h2 h3 h4=>?_
 ·refine x2 (λa b zr2=>?_) (fL hl);subst zr2
  kernel_rfl
 ·subst h1
  exact⟨rfl,ziD U i K h3 h4⟩
theorem zcF(hB:BsOk (bs w.params h mb))(hmb:HMb mb):Meets prog w (bs w.params h mb) 1 (.ref 797) zf7:=by
 refine aU (k:=1) (params:=["sign"]) (dv:=[]) (dp:=[]) hB (lO hmb) ∅ ∅ ∅ rfl (λ_=>.nil) (λS vals hl=>?_) λps K=>x1 λc=>a3 λh1 h2 h3=>?_
 ·refine x1 (λa zr1=>?_) (iF hl);subst zr1
  kernel_rfl
 ·subst h1
  exact⟨rfl,zfS c K h2 h3⟩
end
noncomputable def cGd:Ctx:=mkC [("_law_bad_in_address",zf7)] [] false [] []
theorem zfO:CtxMono cGd:=bN (by simp[pA]) (by simp)
noncomputable def o9:Fn:=λps K=>∃v:List Nat,ps=[.str v]/\Tx v/\K (.bool (v.all λc=>!jE c))
theorem wO:aW o9:=λ_ _ _ h=>e1 λ_=>c2 (h _)
theorem zc7(v:List Nat)(K:PV->Prop)(t:Tx v)(hK:K (.bool (v.all λc=>!jE c))):wSs cGd (cV (aK H0 804)) (aV H0 804) (gQ K) ⟨bB [("signs",.str v)] (λ_=>none),λ_=>none⟩:=by
 have M:=zfO
 (apply nfe;case h=>(show ?ya34=?yb34;refine(?_:∀_:(?ya34=?yb34),(?ya34=?yb34)) ?_;rotate_left;(conv=>lhs;whnf;dsimp only[lU,erS,erE,fF,erO]);exactλ_=>by kernel_rfl!))
 refine c8 M (λ_=>v.all (λc=>!jE c)=true) (xD M v t.len ∅ aD (λi _=>v.all (λc=>!jE c)=(v.drop i).all λc=>!jE c) (λi c J hc hI=>⟨_,rfl,?_⟩) (λJ hI=>by rw[ia]at hI;exact hI) rfl) ?_
 ·have hl:=bK hc
  rw[ak hl,Option.some.inj ((ah hl).symm.trans hc),jp]at hI
  refine aA (bI M (jE c) (aS M (aR (F:=zf7) M ⋯ rfl (aC M (v:=.str [c]) aD aG) ⟨c,rfl,t.al.at hc,.inl rfl,rfl⟩)) (λhs=>?_) (λhs=>?_))
  ·rw[hs]at hI
   rw[hI]at hK
   exact aA (aM M (.bool false) (aB rfl) ⟨_,b6 _ _,hK⟩)
  ·rw[hs]at hI
   exact hI
 ·refineλJ hI=>?_
  rw[hI]at hK
  exact aA (aM M (.bool true) (aB rfl) ⟨_,b6 _ _,hK⟩)
theorem zar(hB:BsOk (bs w.params h mb))(hmb:HMb mb):Meets prog w (bs w.params h mb) 2 (.ref 804) o9:=by
 have hC:CtxOk prog w (bs w.params h mb) cGd 1:=c7 hmb (by simp[pA]) (by simp) (by simp) (λe he=>by
  simp only[be]at he;subst he
  exact⟨.ref 797,by kernel_rfl,zcF hB hmb⟩) (by simp) (by simp)
 refine aU (k:=1) (params:=["signs"]) (dv:=[]) (dp:=[]) hB hC ∅ ∅ ∅ rfl (λ_=>.nil) (λS vals hl=>?_) λps K=>x1 λv=>a3 λh1 h2 h3=>?_
 ·refine x1 (λa zr1=>?_) (iF hl);subst zr1
  kernel_rfl
 ·subst h1
  exact⟨rfl,zc7 v K h2 h3⟩
section
variable {C:Ctx}{H:Kn}
theorem gM{x:Str}{p q:Pos}{J:St}{v:PV}(M:CtxMono C)(k:H x=some .globalImplicit)(hf:C.fn x=some (hX v)):ev C H (.Call (.Name x q) [] [] p) J v:=aR (F:=hX v) M k hf aG ⟨rfl,.inl rfl,rfl⟩
theorem tC{l r:Expr}{p:Pos}{J:St}{x:List Nat}{es:DL}(M:CtxMono C)(h1:ev C H l J (.str x))(h2:ev C H r J (.dict false es)):ev C H (.Compare l [.In] [r] p) J (.bool (es.lookup [x]).isSome):=bL M h1 h2 rfl
theorem qN{o i:Expr}{p:Pos}{J:St}{x:List Nat}{es:DL}{d:DV}(M:CtxMono C)(hs:xW i=false)(h:ev C H o J (.dict false es))(h':ev C H i J (.str x))(hd:es.lookup [x]=some d):ev C H (.Subscript o i p) J (dvP d):=
 oY M hs h h' (by show opt (es.lookup [x]) _;rw[hd];rfl)
theorem kW{l r:Expr}{p:Pos}{J:St}{i j:Int}(M:CtxMono C)(h:ev C H l J (.int i))(h':ev C H r J (.int j))(hj:Builtin.Int.intBits j<=64):ev C H (.BinOp l .Mult r p) J (.int (i*j)):=
 bA (e:=l) M h (bA (e:=r) M h' ⟨hj,rfl,rfl⟩)
theorem gG{e:Expr}{J:St}{i j:Int}(k:ev C H e J (.int i))(h:i=j):ev C H e J (.int j):=h▸k
end
theorem xT:∀(l:List (Nat×Nat)) (c:Nat),(l.map λe=>(([[e.1]]:List (List Nat)),DV.i e.2)).lookup [[c]]=(l.lookup c).map λn=>.i n
 |[],_=>rfl
 |e ::l,c=>by
  rw[cf,cy,cy,show(([[c]]:List (List Nat))==[[e.1]])=(c==e.1)by
   show((c==e.1&&true)&&true)=_
   rw[fm,fm],xT l c]
  cases(c==e.1)<;>rfl
theorem qI{c:Nat}(h:eM c=true):hexD.lookup [[c]]=(eO 16 c).map λn=>.i n:=by
 have e:(hexS.lookup c==eO 16 c)=true:=kJ (P:=λc=>hexS.lookup c==eO 16 c) (by decide+kernel) h
 rw[<- eq_of_beq e]
 exact xT hexS c
theorem x0{o:Option Nat}(h:Ao o):(hexD.lookup [o.toList]).isSome=o.any bD:=by
 cases o with
 |none=>rfl
 |some c=>
  refine(?_:(hexD.lookup [[c]]).isSome=bD c)
  rw[qI (h c rfl),Option.isSome_map];rfl
noncomputable def cRo:Ctx:=mkC [("_law_HEX",hX (.dict false hexD))] [] false [] []
theorem yT:CtxMono cRo:=bN (by simp[eC]) (by simp)
theorem zgZ(hB:BsOk (bs w.params h mb))(hmb:HMb mb):CtxOk prog w (bs w.params h mb) cRo 1:=
 c7 hmb (by simp[eC]) (by simp) (by simp) (λe he=>by
  simp only[be]at he;subst he
  exact⟨.ref 685,by kernel_rfl,zcB hB⟩) (by simp) (by simp)
noncomputable def zhc:Fn:=λps K=>∃(U:List Nat) (i:Nat),ps=[.str U,.int i]/\Tx U/\i<100000/\K (.bool (pO (U.drop i)))
theorem tW:aW zhc:=λ_ _ _ h=>e2 λ_ _=>c3 (h _)
theorem zhB(U:List Nat)(i:Nat)(K:PV->Prop)(t:Tx U)(hi:i<100000)(hK:K (.bool (pO (U.drop i)))):wSs cRo (cV (aK H0 776)) (aV H0 776) (gQ K) ⟨bB [("mended",.str U),("at",.int i)] (λ_=>none),λ_=>none⟩:=by
 have M:=yT
 have hi1:i<1000000:=ar hi (by decide)
 have hi3:i+2<1000000:=ai (gd (aq hi) 2) (by decide)
 have e:pO (U.drop i)=(decide ((U.drop i).take 2∈([[117,43],[85,43]]:List (List Nat)))&&(U[i+2]?==some 63||(hexD.lookup [(U[i+2]?).toList]).isSome)):=by
  unfold pO zbT
  rw[za8,x0 (t.al.ao _),dk,bZ,bw,bw]
  refine congrArg _ ?_
  cases U[i+2]? with
  |none=>rfl
  |some c=>exact Bool.or_comm _ _
 rw[e]at hK
 (apply nfe;case h=>(show ?ya35=?yb35;refine(?_:∀_:(?ya35=?yb35),(?ya35=?yb35)) ?_;rotate_left;(conv=>lhs;whnf;dsimp only[lU,erS,erE,fF,erO]);exactλ_=>by kernel_rfl!))
 refine aA (aH M (.str (U[i+2]?).toList) (fE (e:=i+2) M aD (aP (i:=i) (j:=2) M aD (aB rfl)) (aP (i:=i) (j:=3) M aD (aB rfl)) hi3) ∅ ?_)
 exact aA (aM M (.bool _) (gN M (tD M (yC (i:=i) M aD aD (aP (i:=i) (j:=2) M aD (aB rfl)) hi1) ∅ ∅) λ_=>eL (kG M (lN (o:=U[i+2]?) M aD ∅) λ_=>eL (tC M aD (gM M ⋯ rfl)))) ⟨_,b6 _ _,hK⟩)
noncomputable def uC(b:Bool):List Nat:=if b=true then lcS "yes"else lcS "no"
noncomputable def lR:Fn:=λps K=>∃b:Bool,ps=[.bool b]/\K (.str (uC b))
theorem nP:aW lR:=λ_ _ _ h=>e1 λ_=>c1 (h _)
theorem zcH(b:Bool)(K:PV->Prop)(hK:K (.str (uC b))):wSs cN0 (cV (aK H0 825)) (aV H0 825) (gQ K) ⟨bB [("flag",.bool b)] (λ_=>none),λ_=>none⟩:=by
 have M:=f9
 (apply nfe;case h=>(show ?ya36=?yb36;refine(?_:∀_:(?ya36=?yb36),(?ya36=?yb36)) ?_;rotate_left;(conv=>lhs;whnf;dsimp only[lU,erS,erE,fF,erO]);exactλ_=>by kernel_rfl!))
 cases b
 ·exact aA (aM M (.str (uC false)) (bW (c:=false) M (aS M (bL (a:=.bool false) (b:=.bool true) M aD (aB rfl) rfl)) (λh=>by(exfalso;cases h)) (λ_=>bW (c:=true) M (aS M (bL (a:=.bool false) (b:=.bool false) M aD (aB rfl) rfl)) (λ_=>aB rfl) (λh=>by(exfalso;cases h)))) ⟨_,aQ _ _ rfl,hK⟩)
 ·exact aA (aM M (.str (uC true)) (bW (c:=true) M (aS M (bL (a:=.bool true) (b:=.bool true) M aD (aB rfl) rfl)) (λ_=>aB rfl) (λh=>by(exfalso;cases h))) ⟨_,aQ _ _ rfl,hK⟩)
noncomputable def zdU:Fn:=λps K=>∃r:List Nat,ps=[.str r]/\Tx r/\1<=r.length/\K (.int (zaW r))
theorem zaR:aW zdU:=λ_ _ _ h=>e1 λ_=>c3 (h _)
theorem zco{c:Nat}(h:eM c=true):decide (c∈(ae "0123456789").cps.toList)=b7 c:=cF (f:=λc=>decide (c∈(ae "0123456789").cps.toList)) (by decide+kernel) h
theorem zds(x:List Nat)(c t:Nat):zaA (x++[c]) t=if b7 c=true then zaA x t*10+c - 48 else zaA x t:=by unfold zaA;rw[List.foldl_append];rfl
theorem zfz{t c:Nat}(h:48<=c):((t:Int)*10+(c:Int)) - 48=((t*10+c - 48:Nat):Int):=(Int.ofNat_sub (af h (ed c (t*10)))).symm
theorem zfA(r:List Nat)(K:PV->Prop)(t:Tx r)(h1:1<=r.length)(hK:K (.int (zaW r))):wSs cN0 (cV (aK H0 769)) (aV H0 769) (gQ K) ⟨bB [("written",.str r)] (λ_=>none),λ_=>none⟩:=by
 have M:=f9
 (apply nfe;case h=>(show ?ya37=?yb37;refine(?_:∀_:(?ya37=?yb37),(?ya37=?yb37)) ?_;rotate_left;(conv=>lhs;whnf;dsimp only[lU,erS,erE,fF,erO]);exactλ_=>by kernel_rfl!))
 refine aA (aH M (.int ((0:Nat):Int)) (aB rfl) ∅ ?_)
 refine c8 M (λJ=>dJ [("written",.str r),("total",.int (zaA r 0:Nat))] J.ρ) (xD M r t.len ∅ aD (λi J=>dJ [("written",.str r),("total",.int (zaA (r.take i) 0:Nat))] J.ρ) (λi c J hc hI=>⟨_,rfl,?_⟩) (λJ hI=>by rw[List.take_length]at hI;exact hI) (by walk_at "co")) ?_
 ·have hl:=bK hc
  have e:r.take (i+1)=r.take i++[c]:=by rw[fe hl,Option.some.inj ((ah hl).symm.trans hc)]
  rw[e,zds,show J.ρ=bB _ J.ρ from dI _ hI]
  clear hI e
  generalize zaA (r.take i) 0=n
  refine aA (bI M (b7 c) (zco (t.al.at hc)▸aS M (dE M aD)) (λhd=>?_) (λhd=>?_))
  ·rw[if_pos hd]
   refine aA (aH M (.int (n*10+c - 48:Nat)) (gG (yB (j:=48) M (aP (i:=(n:Int)*10) (j:=c) M (kW M aD (aB rfl) (by decide+kernel)) (kX M ⋯ rfl rfl ∅ (aC M (v:=.str [c]) aD aG) (of_eq (B:=PV.int c=.int c) ∅ rfl))) (aB rfl)) (zfz (zjQ hd).2)) ∅ ?_)
   refine(?_:dJ _ _)
   walk_at "co"
  ·rw[if_neg (by rw[hd];decide)]
   refine(?_:dJ _ _)
   walk_at "co"
 ·refineλJ hI=>keepP J hI ?_
  have hg:r[0]?=some r[0]:=ah h1
  unfold zaW at hK
  refine aA (aM M (.int (if r[0]?=some 45 then -(zaA r 0:Int)else(zaA r 0:Int))) (bW (c:=decide (r[0]=45)) M (aS M (cS M (bR (n:=0) M rfl aD (aB rfl) hg) ∅)) (λh=>?_) (λh=>?_)) ⟨_,aQ _ _ rfl,hK⟩)
  ·rw[if_pos (by rw[hg,of_decide_eq_true h])]
   exact nD M aD
  ·rw[if_neg (by rw[hg];exactλq=>of_decide_eq_false h (Option.some.inj q))]
   exact aE ⋯ ⋯
section
theorem xP(hB:BsOk (bs w.params h mb))(hmb:HMb mb):Meets prog w (bs w.params h mb) 2 (.ref 776) zhc:=by
 refine aU (k:=2) (params:=["mended","at"]) (dv:=[]) (dp:=[]) hB (zgZ hB hmb) ∅ ∅ ∅ rfl (λ_=>.nil) (λS vals hl=>?_) λps K=>x2 λU i=>a4 λh1 h2 h3 h4=>?_
 ·refine x2 (λa b zr2=>?_) (fL hl);subst zr2
  kernel_rfl
 ·subst h1
  exact⟨rfl,zhB U i K h2 h3 h4⟩
theorem oU(hB:BsOk (bs w.params h mb))(hmb:HMb mb):Meets prog w (bs w.params h mb) 1 (.ref 825) lR:=by
 refine aU (k:=1) (params:=["flag"]) (dv:=[]) (dp:=[]) hB (lO hmb) ∅ ∅ ∅ rfl (λ_=>.nil) (λS vals hl=>?_) λps K=>x1 λb=>a2 λh1 h2=>?_
 ·refine x1 (λa zr1=>?_) (iF hl);subst zr1
  kernel_rfl
 ·subst h1;exact⟨rfl,zcH b K h2⟩
theorem zcD(hB:BsOk (bs w.params h mb))(hmb:HMb mb):Meets prog w (bs w.params h mb) 1 (.ref 769) zdU:=by
 refine aU (k:=1) (params:=["written"]) (dv:=[]) (dp:=[]) hB (lO hmb) ∅ ∅ ∅ rfl (λ_=>.nil) (λS vals hl=>?_) λps K=>x1 λr=>a4 λh1 h2 h3 h4=>?_
 ·refine x1 (λa zr1=>?_) (iF hl);subst zr1
  kernel_rfl
 ·subst h1;exact⟨rfl,zfA r K h2 h3 h4⟩
end
theorem zbR{f:Nat->Bool}{k j:Nat}{x:List Nat}(h:j<gV f k x):∃c,x[j]?=some c/\f c=true:=by
 refine x1 (λc=>a2 λh1 h2=>?_) (zhf (f:=f) (x:=x.take k) h)
 replace h1:=List.getElem?_take▸h1
 split at h1
 ·exact⟨c,h1,h2⟩
 ·exfalso;cases h1
theorem pK{f:Nat->Bool}{k c:Nat}{x:List Nat}(h:gV f k x<k)(hc:x[gV f k x]?=some c):f c=false:=
 uG (f:=f) (x:=x.take k) (by rw[List.getElem?_take,if_pos (show((x.take k).takeWhile f).length<k from h)];exact hc)
theorem oM(c:Nat):∀(y:List Nat) (acc:Nat),eD 16 acc (y++[c])=(eD 16 acc y).bind λn=>(eO 16 c).map λd=>n*16+d
 |[],acc=>by
  refine(?_:(match eO 16 c with |some d=>eD 16 (acc*16+d) []|none=>none)=_)
  cases eO 16 c<;>rfl
 |b ::y,acc=>by
  refine(?_:(match eO 16 b with |some d=>eD 16 (acc*16+d) (y++[c])|none=>none)=Option.bind (match eO 16 b with |some d=>eD 16 (acc*16+d) y|none=>none) _)
  cases eO 16 b with
  |none=>rfl
  |some d=>exact oM c y _
theorem sD{y:List Nat}{c d:Nat}(hy:∀e∈y,bD e=true)(hd:eO 16 c=some d):gL (y++[c])=gL y*16+d:=by
 have h:=uZ hy
 unfold gL
 rw[oM,h,hd];rfl
noncomputable def lwN(x:List Nat)(q j m:Nat):Nat:=gL (x.take j++au m q)
theorem zcI{x:List Nat}{A m q d:Nat}(hA:∀e∈x.take A,bD e=true)(hq:eO 16 q=some d):lwN x q A (m+1)=lwN x q A m*16+d:=by
 unfold lwN
 rw[List.replicate_succ',<- dw]
 exact sD (vZ hA (uQ (by unfold bD;rw[hq];rfl))) hq
theorem zgx{x:List Nat}{j c q d:Nat}(hA:∀e∈x.take j,bD e=true)(hc:x[j]?=some c)(hd:eO 16 c=some d):lwN x q (j+1) 0=lwN x q j 0*16+d:=by
 unfold lwN
 have hl:=bK hc
 rw[ie,ck,ck,fe hl,Option.some.inj ((ah hl).symm.trans hc)]
 exact sD hA hd
noncomputable def At3(A B j m:Nat):Prop:=(m=0/\j<A)\/(j=A/\m<B)\/(j=A/\m=B)
theorem zkm{A B j m:Nat}(h:At3 A B j m):j+m<=A+B:=h.elim (λq=>q.1▸af (aq q.2) (am A B)) λq=>q.elim (λq=>q.1▸cc (aq q.2) _) λq=>dz (q.1▸q.2▸rfl)
theorem dec6{n a b:Nat}(hn:n=6 - a)(e:b=a+1)(h:a<6):6 - b<n:=hn▸e▸dd h (av a)
theorem zgA{i A B j m l xl:Nat}(hxl:xl=l - (i+2))(hBx:A+B<=xl)(h6:A+B<=6)(h:(m=0/\j<A)\/(j=A/\m<B)):i+2+(j+m)<l/\i+2+(j+m)<i+8:=
 have s:j+m<A+B:=h.elim (λq=>q.1▸aj q.2 (am A B)) (λq=>q.1▸Nat.add_lt_add_left q.2 _)
 ⟨Nat.add_lt_of_lt_sub' (hxl▸aj s hBx),Nat.add_lt_add_left (aj s h6) (i+2)⟩
theorem zjC{i a l xl:Nat}(hxl:xl=l - (i+2))(hi:i+2<=l)(h:a<=xl):i+2+a<=l:=gp hi (hxl▸h)
theorem zdK{A B j m:Nat}(h:(m=0/\j<=A)\/(j=A/\m<=B)):At3 A B j m:=by
 have k:j=A->m<=B->At3 A B j m:=λe h=>.inr ((Nat.lt_or_eq_of_le h).imp (λh=>⟨e,h⟩) λh=>⟨e,h⟩)
 rcases h with⟨h1,h2⟩|⟨h1,h2⟩
 ·exact(Nat.lt_or_eq_of_le h2).elim (λh=>.inl ⟨h1,h⟩) λh=>k h (h1▸dq _)
 ·exact k h1 h2
noncomputable def zks:Fn:=λps K=>∃(U:List Nat) (i:Nat),ps=[.str U,.int i]/\Tx U/\i+2<=U.length/\K (.tup [.int (gL (fG (U.drop (i+2))).1:Nat),.int (gL (fG (U.drop (i+2))).2.1:Nat),.int (i+2+(fG (U.drop (i+2))).2.2:Nat)])
theorem zdP:aW zks:=λ_ _ _ h=>e2 λ_ _=>c3 (h _)
theorem zhC(U:List Nat)(i:Nat)(K:PV->Prop)(t:Tx U)(hi:i+2<=U.length)(hK:K (.tup [.int (gL (fG (U.drop (i+2))).1:Nat),.int (gL (fG (U.drop (i+2))).2.1:Nat),.int (i+2+(fG (U.drop (i+2))).2.2:Nat)])):
  wSs cRo (cV (aK H0 783)) (aV H0 783) (gQ K) ⟨bB [("mended",.str U),("at",.int i)] (λ_=>none),λ_=>none⟩:=by
 have M:=yT
 have lA:=fA bD 6 (U.drop (i+2))
 have lB:=fA (· ==63) (6 - cH (U.drop (i+2))) ((U.drop (i+2)).drop (cH (U.drop (i+2))))
 have gA:∀j,j<cH (U.drop (i+2))->∃c,(U.drop (i+2))[j]?=some c/\bD c=true:=λj h=>zbR h
 have gB:∀m,m<j0 (U.drop (i+2))->(U.drop (i+2))[cH (U.drop (i+2))+m]?=some 63:=λm h=>by
  obtain⟨c,h1,h2⟩:=zbR h
  rw[bw]at h1
  rw[h1,eq_of_beq h2]
 have sA:∀c,cH (U.drop (i+2))<6->(U.drop (i+2))[cH (U.drop (i+2))]?=some c->bD c=false:=λc h h'=>pK h h'
 have sB:∀c,cH (U.drop (i+2))+j0 (U.drop (i+2))<6->(U.drop (i+2))[cH (U.drop (i+2))+j0 (U.drop (i+2))]?=some c->c≠63:=λc h h' e=>by
  have:=pK (f:=λc=>c==63) (k:=6 - cH (U.drop (i+2))) (x:=(U.drop (i+2)).drop (cH (U.drop (i+2)))) (c:=c) (Nat.lt_sub_iff_add_lt'.mpr h) (by rw[bw];exact h')
  rw[e]at this;cases this
 have hA:∀j,j<=cH (U.drop (i+2))->∀e∈(U.drop (i+2)).take j,bD e=true:=λj hj e he=>by
  obtain⟨k,hk,e2⟩:=gx.mp he
  rw[bz]at hk
  obtain⟨c,h1,h2⟩:=gA k (aj (aj hk (fw _ _)) hj)
  rw[List.getElem_take]at e2
  rw[ah (aj hk (du _ _)),e2]at h1
  cases h1;exact h2
 have hD:fG (U.drop (i+2))=if j0 (U.drop (i+2))=0 then(if U[i+2+cH (U.drop (i+2))]?=some 45/\(U[i+2+cH (U.drop (i+2))+1]?).any bD=true then((U.drop (i+2)).take (cH (U.drop (i+2))),(U.drop (i+2+cH (U.drop (i+2))+1)).take (gV bD 6 (U.drop (i+2+cH (U.drop (i+2))+1))),cH (U.drop (i+2))+1+gV bD 6 (U.drop (i+2+cH (U.drop (i+2))+1)))else((U.drop (i+2)).take (cH (U.drop (i+2))),(U.drop (i+2)).take (cH (U.drop (i+2))),cH (U.drop (i+2))))
   else((U.drop (i+2)).take (cH (U.drop (i+2)))++au (j0 (U.drop (i+2))) 48,(U.drop (i+2)).take (cH (U.drop (i+2)))++au (j0 (U.drop (i+2))) 70,cH (U.drop (i+2))+j0 (U.drop (i+2))):=by
  unfold fG
  rw[dk,dk,bZ,bZ];rfl
 have hAx:cH (U.drop (i+2))<=(U.drop (i+2)).length:=lA.2
 have hBx:cH (U.drop (i+2))+j0 (U.drop (i+2))<=(U.drop (i+2)).length:=aZ hAx lB.2
 have hA6:cH (U.drop (i+2))<=6:=lA.1
 have hB6:cH (U.drop (i+2))+j0 (U.drop (i+2))<=6:=gp hA6 lB.1
 clear lA lB
 generalize fG (U.drop (i+2))=D at hK hD
 generalize cH (U.drop (i+2))=A at gA gB sA sB hA hD hAx hBx hA6 hB6
 generalize j0 (U.drop (i+2))=B at gB sB hD hBx hB6
 have hxl:(U.drop (i+2)).length=U.length - (i+2):=bv
 have hxg:∀j,(U.drop (i+2))[j]?=U[i+2+j]?:=λj=>bw
 have hAl:Al (U.drop (i+2)):=t.al.drop _
 generalize U.drop (i+2)=x at gA gB sA sB hA hD hAx hBx hxl hxg hAl
 (apply nfe;case h=>(show ?ya38=?yb38;refine(?_:∀_:(?ya38=?yb38),(?ya38=?yb38)) ?_;rotate_left;(conv=>lhs;whnf;dsimp only[lU,erS,erE,fF,erO]);exactλ_=>by kernel_rfl!))
 refine aA (aH M (.int (lwN x 48 0 0:Nat)) (aB rfl) ∅ ?_)
 refine aA (aH M (.int (lwN x 70 0 0:Nat)) (aB rfl) ∅ ?_)
 refine aA (aH M (.int ((0:Nat):Int)) (aB rfl) ∅ ?_)
 refine aA (aH M (.int (i+2+(0+0):Nat)) (aP (i:=i) (j:=2) M aD (aB rfl)) ∅ ?_)
 let F:Nat->Nat->List (Str×PV):=λj m=>[("mended",.str U),("at",.int i),("low",.int (lwN x 48 j m:Nat)),("high",.int (lwN x 70 j m:Nat)),("marks",.int m),("end",.int (i+2+(j+m):Nat))]
 refine c8 M (λJ=>dJ (F A B) J.ρ) (eG M (λn J=>∃j m:Nat,n=6 - (j+m)/\dJ (F j m) J.ρ/\At3 A B j m) ?_ (6 - (0+0)) _ ⟨0,0,rfl,by walk_at "co",zdK (.inl ⟨rfl,dq A⟩)⟩) ?_
 ·refineλn J=>x2 λj m=>a3 λhn h1 h3=>keepP J h1 ?_
  clear h1
  have hjm:j+m<=A+B:=zkm h3
  refine⟨decide (i+2+(j+m)<U.length)&&decide (i+2+(j+m)<i+8),bS M (aS M (fC M aD (cQ M ⋯ rfl rfl ∅ aD))) λ_=>bJ (aS M (fC (b:=i+8) M aD (aP (i:=i) (j:=8) M aD (aB rfl)))),λhc=>?_,λhc=>?_⟩
  ·obtain⟨hc1,hc2⟩:=ag.mp hc
   have hc6:j+m<6:=Nat.lt_of_add_lt_add_left (show i+2+(j+m)<i+2+6 from of_decide_eq_true hc2)
   obtain⟨c,hg⟩:∃c,U[i+2+(j+m)]?=some c:=⟨_,ah (of_decide_eq_true hc1)⟩
   have hgx:x[j+m]?=some c:=(hxg _).trans hg
   have hal:=t.al.at hg
   clear hc hc1 hc2
   have hin:(hexD.lookup [[c]]).isSome=bD c:=x0 (o:=some c) λd e=>by cases e;exact hal
   have cA:m=0->j<A->bD c=true:=λe h=>by
    obtain⟨d,h1,h2⟩:=gA j h
    rw[e,Nat.add_zero,h1]at hgx;cases hgx;exact h2
   have cB:j=A->m<B->c=63:=λe h=>by rw[e,gB m h]at hgx;cases hgx;rfl
   have cC:j=A->m=B->c≠63/\(m=0->bD c=false):=λe1 e2=>by
    subst e1;subst e2
    exact⟨sB c hc6 hgx,λe=>sA c (by rw[e]at hc6;exact hc6) (by rw[e]at hgx;exact hgx)⟩
   refine aA (aH M (.str [c]) (bR M rfl aD aD hg) ∅ ?_)
   refine c8 M (λst2=>∃j' m':Nat,j'+m'=j+m+1/\At3 A B j' m'/\dJ [("mended",.str U),("at",.int i),("low",.int (lwN x 48 j' m':Nat)),("high",.int (lwN x 70 j' m':Nat)),("marks",.int m'),("end",.int (i+2+(j+m):Nat))] st2.ρ)
    (bI M (decide (c=63)) (aS M (cS M aD ∅)) (λhq=>?_) (λhq=>?_)) ?_
   ·have hq:=of_decide_eq_true hq
    have h4:j=A/\m<B:=by
     rcases h3 with⟨e,h⟩|h|⟨e1,e2⟩
     ·have:=cA e h;rw[hq]at this;cases this
     ·exact h
     ·exact absurd hq (cC e1 e2).1
    have l1:((lwN x 48 j m:Nat):Int)*16=(lwN x 48 j (m+1):Nat):=by rw[zcI (d:=0) (hA j (dz h4.1)) rfl];rfl
    have l2:((lwN x 70 j m:Nat):Int)*16+15=(lwN x 70 j (m+1):Nat):=by rw[zcI (d:=15) (hA j (dz h4.1)) rfl];rfl
    refine aA (b8 M (.int m) (.int 1) ⋯ (aB rfl) ∅ (of_eq bM ?_))
    refine aA (aH M (.int (lwN x 48 j (m+1):Nat)) (gG (kW M aD (aB rfl) (by decide+kernel)) l1) ∅ ?_)
    refine aA (aH M (.int (lwN x 70 j (m+1):Nat)) (gG (aP (j:=15) M (kW M aD (aB rfl) (by decide+kernel)) (aB rfl)) l2) ∅ ?_)
    exact ex2 j (m+1) ⟨rfl,zdK (.inr ⟨h4.1,h4.2⟩),by walk_at "co"⟩
   ·have hq:=of_decide_eq_false hq
    refine aA (bI M (decide (m=0)&&bD c) (bS M (aS M (jN (b:=0) M aD (aB rfl))) λ_=>bJ (hin▸aS M (tC M aD (gM M ⋯ rfl)))) (λhh=>?_) (λhh=>?_))
    ·obtain⟨hm,hh⟩:=ag.mp hh
     have hm:=of_decide_eq_true hm
     subst hm
     have h4:j<A:=by
      rcases h3 with⟨_,h⟩|⟨e,h⟩|⟨e1,e2⟩
      ·exact h
      ·exact absurd (cB e h) hq
      ·rw[(cC e1 e2).2 rfl]at hh;cases hh
     obtain⟨d,hd⟩:=cj.mp (show(eO 16 c).isSome=true from hh)
     have l0:=zgx (q:=48) (hA j (aq h4)) hgx hd
     have l1:((lwN x 48 j 0:Nat):Int)*16+(d:Int)=(lwN x 48 (j+1) 0:Nat):=by rw[l0];rfl
     have l2:lwN x 70 (j+1) 0=lwN x 48 (j+1) 0:=rfl
     refine aA (aH M (.int (lwN x 48 (j+1) 0:Nat)) (gG (aP (j:=d) M (kW M aD (aB rfl) (by decide+kernel)) (qN (x:=[c]) (d:=.i d) M rfl (gM M ⋯ rfl) aD (by rw[qI hal,hd];rfl))) l1) ∅ ?_)
     refine aA (aH M (.int (lwN x 70 (j+1) 0:Nat)) (l2▸aD) ∅ ?_)
     exact ex2 (j+1) 0 ⟨rfl,zdK (.inl ⟨rfl,h4⟩),by walk_at "co"⟩
    ·have h4:j=A/\m=B:=by
      rcases h3 with⟨e,h⟩|⟨e,h⟩|h
      ·rw[e,cA e h]at hh;cases hh
      ·exact absurd (cB e h) hq
      ·exact h
     obtain⟨rfl,rfl⟩:=h4
     exact aA (iB (by walk_at "co"))
   ·refineλst2=>x2 λj' m'=>a3 λe h4 h1=>keepP st2 h1 ?_
    refine aA (b8 M (.int (i+2+(j+m):Nat)) (.int 1) ⋯ (aB rfl) ∅ (of_eq bM ⟨6 - (j'+m'),dec6 hn e hc6,j',m',rfl,?_,h4⟩))
    refine(?_:dJ [("mended",.str U),("at",.int i),("low",_),("high",_),("marks",_),("end",.int (i+2+(j'+m'):Nat))] _)
    rw[e]
    walk_at "co"
  ·have hc:¬(i+2+(j+m)<U.length/\i+2+(j+m)<i+8):=λh=>by rw[decide_eq_true h.1,decide_eq_true h.2]at hc;cases hc
   have h4:j=A/\m=B:=by
    rcases h3 with⟨e,h⟩|⟨e,h⟩|h
    ·exact absurd (zgA hxl hBx hB6 (.inl ⟨e,h⟩)) hc
    ·exact absurd (zgA hxl hBx hB6 (.inr ⟨e,h⟩)) hc
    ·exact h
   obtain⟨rfl,rfl⟩:=h4
   refine(?_:dJ (F j m) _)
   walk_at "co"
 ·refineλJ h1=>keepP J h1 ?_
  clear h1 gA gB sA sB hA hAl
  have hs6:i+2+(A+B)<=600:=af (zjC hxl hi hBx) t.len
  have hs:i+2+(A+B)<1000000:=ai hs6 (by decide)
  refine c8 M (λJ=>dJ [("low",.int (gL D.1:Nat)),("high",.int (gL D.2.1:Nat)),("end",.int (i+2+D.2.2:Nat))] J.ρ)
   (bI M (decide (B=0)&&(U[i+2+(A+B)]?==some 45&&(U[i+2+(A+B)+1]?).any bD)) (bS M (aS M (jN (b:=0) M aD (aB rfl))) λ_=>bS M (aS M (lN (o:=U[i+2+(A+B)]?) M (fE (e:=i+2+(A+B)) M aD aD (aP (i:=(i+2+(A+B):Nat)) (j:=1) M aD (aB rfl)) hs) ∅)) λ_=>bJ (x0 (t.al.ao _)▸aS M (tC M (fE (e:=i+2+(A+B)+1) M aD (aP (i:=(i+2+(A+B):Nat)) (j:=1) M aD (aB rfl)) (aP (i:=(i+2+(A+B):Nat)) (j:=2) M aD (aB rfl)) (ai (df hs6) (by decide))) (gM M ⋯ rfl)))) (λhc=>?_) (λhc=>?_)) ?_
  ·obtain⟨h0,hc⟩:=ag.mp hc
   obtain⟨h45,hh⟩:=ag.mp hc
   have h0:=of_decide_eq_true h0
   subst h0
   rw[if_pos rfl,if_pos ⟨eq_of_beq h45,hh⟩]at hD
   have hl:i+2+A+1<U.length:=by
    cases hg:U[i+2+A+1]? with
    |none=>rw[show U[i+2+(A+0)+1]?=none from hg]at hh;cases hh
    |some c=>exact bK hg
   clear hc h45 hh hs hs6
   have gC:∀j,j<gV bD 6 (U.drop (i+2+A+1))->∃c,(U.drop (i+2+A+1))[j]?=some c/\bD c=true:=λj h=>zbR h
   have sC:gV bD 6 (U.drop (i+2+A+1))<6->((U.drop (i+2+A+1))[gV bD 6 (U.drop (i+2+A+1))]?).any bD=false:=λh=>by
    cases hg:(U.drop (i+2+A+1))[gV bD 6 (U.drop (i+2+A+1))]? with
    |none=>rfl
    |some c=>exact pK h hg
   have hC:∀j,j<=gV bD 6 (U.drop (i+2+A+1))->∀e∈(U.drop (i+2+A+1)).take j,bD e=true:=λj hj e he=>mN e (by
    obtain⟨k,hk,e2⟩:=gx.mp he
    rw[List.getElem_take]at e2
    rw[bz]at hk
    exact gx.mpr ⟨k,by rw[bz];exact Nat.lt_min.mpr ⟨aj (aj hk (fw _ _)) hj,aj hk (du _ _)⟩,by rw[List.getElem_take];exact e2⟩)
   have lC:=fA bD 6 (U.drop (i+2+A+1))
   have hC6:gV bD 6 (U.drop (i+2+A+1))<=6:=lC.1
   have hCl:=aZ (n:=i+2+A+1) (aq hl) lC.2
   clear lC
   generalize gV bD 6 (U.drop (i+2+A+1))=Z at gC sC hC hD hC6 hCl
   have hyg:∀j,(U.drop (i+2+A+1))[j]?=U[i+2+A+1+j]?:=λj=>bw
   generalize U.drop (i+2+A+1)=y at gC sC hC hD hyg
   subst hD
   refine aA (aH M (.int (gL (y.take 0):Nat)) (aB rfl) ∅ ?_)
   refine aA (b8 M (.int (i+2+(A+0):Nat)) (.int 1) ⋯ (aB rfl) ∅ (of_eq bM ?_))
   refine aA (aH M (.int (i+2+A+1+6:Nat)) (aP (i:=(i+2+A+1:Nat)) (j:=6) M aD (aB rfl)) ∅ ?_)
   refine aA (eG M (λn J=>∃j:Nat,n=6 - j/\dJ [("mended",.str U),("low",.int (gL (x.take A):Nat)),("high",.int (gL (y.take j):Nat)),("last",.int (i+2+A+1+6:Nat)),("end",.int (i+2+A+1+j:Nat))] J.ρ/\j<=Z) ?_ (6 - 0) _ ⟨0,rfl,?_,dq Z⟩)
   ·refineλn J=>x1 λj=>a3 λhn h1 h3=>keepP J h1 ?_
    clear h1
    have hlt:i+2+A+1+j<1000000:=ai (af (cc h3 _) hCl) (ar (t.lt (bh _)) (by decide))
    refine⟨decide (i+2+A+1+j<i+2+A+1+6)&&(U[i+2+A+1+j]?).any bD,bS M (aS M (fC M aD aD)) λ_=>bJ (x0 (t.al.ao _)▸aS M (tC M (fE M aD aD (aP (i:=(i+2+A+1+j:Nat)) (j:=1) M aD (aB rfl)) hlt) (gM M ⋯ rfl))),λhc=>?_,λhc=>?_⟩
    ·obtain⟨hc1,hc2⟩:=ag.mp hc
     have hj6:j<6:=Nat.lt_of_add_lt_add_left (of_decide_eq_true hc1)
     have hjZ:j<Z:=ij h3 λe=>by
      have:=sC (e▸hj6)
      rw[<- e,hyg,hc2]at this;cases this
     obtain⟨c,hg,hx⟩:=gC j hjZ
     have hgc:U[i+2+A+1+j]?=some c:=(hyg j).symm.trans hg
     obtain⟨d,hd⟩:=cj.mp (show(eO 16 c).isSome=true from hx)
     have l0:lwN y 48 (j+1) 0=lwN y 48 j 0*16+d:=zgx (hC j h3) hg hd
     unfold lwN at l0
     rw[ie,ck,ck]at l0
     have l1:((gL (y.take j):Nat):Int)*16+(d:Int)=(gL (y.take (j+1)):Nat):=by rw[l0];rfl
     refine aA (aH M (.int (gL (y.take (j+1)):Nat)) (gG (aP (j:=d) M (kW M aD (aB rfl) (by decide+kernel)) (qN (x:=[c]) (d:=.i d) M rfl (gM M ⋯ rfl) (bR M rfl aD aD hgc) (by rw[qI (t.al.at hgc),hd];rfl))) l1) ∅ ?_)
     refine aA (b8 M (.int (i+2+A+1+j:Nat)) (.int 1) ⋯ (aB rfl) ∅ (of_eq bM ⟨6 - (j+1),hn▸dd hj6 (av j),j+1,rfl,?_,hjZ⟩))
     walk_at "co"
    ·have hjZ:j=Z:=fx h3 (aw λhjZ=>by
      obtain⟨c,hg,hx⟩:=gC j hjZ
      rw[decide_eq_true (Nat.add_lt_add_left (aj hjZ hC6) _),<- hyg,hg]at hc
      rw[show(some c).any bD=true from hx]at hc;cases hc)
     subst hjZ
     show dJ [("low",_),("high",_),("end",.int (i+2+(A+1+j):Nat))] _
     rw[<- bl,<- bl]
     walk_at "co"
   ·have e0:lwN x 48 A 0=gL (x.take A):=by unfold lwN;rw[ie,ck]
    rw[<- e0]
    walk_at "co"
  ·have e:D=(x.take A++au B 48,x.take A++au B 70,A+B):=by
    rw[hD]
    by_cases h0:B=0
    ·subst h0
     rw[if_pos rfl,if_neg (λh=>?_),ie,ie,ck];rfl
     rw[decide_eq_true rfl,eo,show(U[i+2+(A+0)]?==some 45)=true from beq_iff_eq.mpr h.1,show(U[i+2+(A+0)+1]?).any bD=true from h.2]at hc;cases hc
    ·rw[if_neg h0]
   subst e
   (repeat(first |refine aX ?_|dsimp only[cG]))
   refine(?_:dJ [("low",.int (lwN x 48 A B:Nat)),("high",.int (lwN x 70 A B:Nat)),("end",_)] _)
   walk_at "co"
  ·exactλJ h1=>keepP J h1 (aA (aM M (.tup [.int (gL D.1:Nat),.int (gL D.2.1:Nat),.int (i+2+D.2.2:Nat)]) (bH M (aC M aD (aC M aD (aC M aD aG)))) ⟨_,aQ _ _ rfl,hK⟩))
theorem ze3(hB:BsOk (bs w.params h mb))(hmb:HMb mb):Meets prog w (bs w.params h mb) 2 (.ref 783) zks:=by
 refine aU (k:=2) (params:=["mended","at"]) (dv:=[]) (dp:=[]) hB (zgZ hB hmb) ∅ ∅ ∅ rfl (λ_=>.nil) (λS vals hl=>?_) λps K=>x2 λU i=>a4 λh1 h2 h3 h4=>?_
 ·refine x2 (λa b zr2=>?_) (fL hl);subst zr2
  kernel_rfl
 ·subst h1
  exact⟨rfl,zhC U i K h2 h3 h4⟩
/-! the law's machine for numbers -/
inductive NS where
 |z|sg|wh|dt|pt|ex|es|pw
noncomputable def nsN(q:NS):List Nat:=NS.casesOn (motive:=λ_=>List Nat) q (lcS "") (lcS "sign") (lcS "whole") (lcS "dot") (lcS "point") (lcS "e") (lcS "e sign") (lcS "power")
noncomputable def kR(c:Nat):Bool:=c==43||c==45
noncomputable def isE(c:Nat):Bool:=c==101||c==69
noncomputable def zdB(c:Nat):Nat:=if b7 c=true then 48 else if kR c=true then 43 else if isE c=true then 101 else c
noncomputable def nx(q:NS)(c:Nat):Option NS:=
 NS.casesOn (motive:=λ_=>Option NS) q (if b7 c=true then some .wh else if kR c=true then some .sg else if c=46 then some .dt else none)
  (if b7 c=true then some .wh else if c=46 then some .dt else none)
  (if b7 c=true then some .wh else if c=46 then some .dt else if isE c=true then some .ex else none)
  (if b7 c=true then some .pt else none) (if b7 c=true then some .pt else if isE c=true then some .ex else none)
  (if b7 c=true then some .pw else if kR c=true then some .es else none) (if b7 c=true then some .pw else none) (if b7 c=true then some .pw else none)
noncomputable def fin(q:NS):Bool:=NS.casesOn (motive:=λ_=>Bool) q false false true false true false false true
noncomputable def fX:List Nat->NS->Nat->Nat->NS->Nat×NS
 |[],_,_,b,s=>(b,s)
 |c ::r,q,i,b,s=>(nx q c).elim (b,s) λq'=>if fin q'=true then fX r q' (i+1) (i+1) q' else fX r q' (i+1) b s
theorem eH(c:Nat)(r:List Nat)(q:NS)(i b:Nat)(s:NS):fX (c ::r) q i b s=(nx q c).elim (b,s) λq'=>if fin q'=true then fX r q' (i+1) (i+1) q' else fX r q' (i+1) b s:=rfl
theorem jB(c:Nat)(r:List Nat):b9 (c ::r)=if b7 c=true then b9 r+1 else 0:=by
 unfold b9
 rw[dh]
 split<;>rfl
theorem kY(c:Nat)(r:List Nat):d8 (c ::r) 0=b7 c:=rfl
theorem yO{c:Nat}(h:b7 c=true):isE c=false/\c≠46/\kR c=false:=by
 have h1:=of_decide_eq_true (ag.mp h).1
 have h2:=of_decide_eq_true (ag.mp h).2
 refine⟨?_,λe=>(by subst e;exact absurd h1 (by decide)),?_⟩
 ·unfold isE;rw[fS (λe=>by subst e;exact absurd h2 (by decide)),fS (λe=>by subst e;exact absurd h2 (by decide))];rfl
 ·unfold kR;rw[fS (λe=>by subst e;exact absurd h1 (by decide)),fS (λe=>by subst e;exact absurd h1 (by decide))];rfl
theorem pL(q:NS)(hq:fin q=true)(h:∀c,b7 c=true->nx q c=some q):∀(x:List Nat) (i:Nat),fX x q i i q=fX (x.drop (b9 x)) q (i+b9 x) (i+b9 x) q
 |[],_=>rfl
 |c ::r,i=>by
  rw[jB]
  by_cases hc:b7 c=true
  ·rw[if_pos hc,eH,h c hc]
   show(if fin q=true then fX r q (i+1) (i+1) q else _)=_
   rw[if_pos hq,pL q hq h r (i+1),bl i 1,bn 1];rfl
  ·rw[if_neg hc];rfl
theorem mB{x:List Nat}{c:Nat}{r:List Nat}(h:x.drop (b9 x)=c ::r):b7 c=false:=by
 have:=lD (f:=b7) (U:=x) (s:=0) (c:=c) (by rw[eg];show x[b9 x]?=some c;rw[<- bZ,h];rfl)
 exact this
theorem zjg(x:List Nat)(i:Nat):fX x .pw i i .pw=(i+b9 x,.pw):=by
 rw[pL .pw rfl λc h=>if_pos h]
 cases h:x.drop (b9 x)with
 |nil=>rfl
 |cons c r=>rw[eH,show nx .pw c=none from if_neg (by rw[mB h];decide)];rfl
theorem zbP{q:NS}(x:List Nat)(i b:Nat)(s:NS)(h1:∀c,b7 c=true->nx q c=some .pw)(h2:∀c r,x=c ::r->b7 c=false->nx q c=none):fX x q i b s=if d8 x 0=true then(i+b9 x,.pw)else(b,s):=by
 cases x with
 |nil=>rfl
 |cons c r=>
  rw[eH,kY]
  by_cases hc:b7 c=true
  ·rw[if_pos hc,h1 c hc,jB,if_pos hc]
   show fX r .pw (i+1) (i+1) .pw=_
   rw[zjg,bl,bn 1]
  ·rw[if_neg hc,h2 c r rfl (ek.mpr hc)];rfl
theorem zgk(c:Nat)(r:List Nat):bX (c ::r)=if kR c=true then 1 else 0:=by
 unfold bX kR
 by_cases h:(c==43||c==45)=true
 ·rw[if_pos h,if_pos ((gg.mp h).elim (λh=>.inr (congrArg some (eq_of_beq h))) λh=>.inl (congrArg some (eq_of_beq h)))]
 ·rw[if_neg h,if_neg λq=>h (q.elim (λe=>by rw[Option.some.inj e];rfl) λe=>by rw[Option.some.inj e];rfl)]
theorem zji(x:List Nat)(i b:Nat)(s:NS):fX x .ex i b s=if d8 x (bX x)=true then(i+bX x+b9 (x.drop (bX x)),.pw)else(b,s):=by
 cases x with
 |nil=>rfl
 |cons c r=>
  rw[zgk]
  by_cases hs:kR c=true
  ·have hd:b7 c=false:=by
    cases hd:b7 c with
    |false=>rfl
    |true=>replace hs:=((yO hd).2.2)▸hs;cases hs
   rw[if_pos hs,eH,show nx .ex c=some .es from(if_neg (by rw[hd];decide)).trans (if_pos hs)]
   exact zbP r (i+1) b s (λc h=>if_pos h) λc _ _ h=>if_neg (by refine h.symm▸?_;decide)
  ·refine(if_neg hs).symm▸?_
   exact zbP (c ::r) i b s (λc h=>if_pos h) λd t e h=>by
    refine a2 (λzq zp=>?_) (List.cons.inj e);subst zq;subst zp
    exact(if_neg (by refine h.symm▸?_;decide)).trans (if_neg hs)
theorem zbQ{q:NS}(x:List Nat)(i b:Nat)(s:NS)(h1:∀c,isE c=true->nx q c=some .ex)(h2:∀c r,x=c ::r->isE c=false->nx q c=none):fX x q i b s=(j3 x).elim (b,s) λg=>(i+g,.pw):=by
 cases x with
 |nil=>rfl
 |cons c r=>
  have e:(j3 (c ::r))=if isE c=true then(if d8 r (bX r)=true then some (b9 (r.drop (bX r))+(bX r+1))else none)else none:=by
   unfold j3 isE
   refine(?_:(if(some c:Option Nat)=some 101\/(some c:Option Nat)=some 69 then(if d8 r (bX r)=true then some (b9 (r.drop (bX r))+(bX r+1))else none)else none)=_)
   by_cases h:(c==101||c==69)=true
   ·rw[if_pos h,if_pos ((gg.mp h).imp (λh=>congrArg some (eq_of_beq h)) λh=>congrArg some (eq_of_beq h))]
   ·rw[if_neg h,if_neg λq=>h (q.elim (λe=>by rw[Option.some.inj e];rfl) λe=>by rw[Option.some.inj e];rfl)]
  rw[eH,e]
  by_cases hc:isE c=true
  ·rw[if_pos hc,h1 c hc]
   refine(?_:fX r .ex (i+1) b s=_)
   rw[zji]
   split
   ·refine(?_:_=(i+(b9 (r.drop (bX r))+(bX r+1)),NS.pw))
    rw[bn (b9 _),<- bl i,<- bl i,dm i (bX r) 1]
   ·rfl
  ·rw[if_neg hc,h2 c r rfl (ek.mpr hc)];rfl
theorem zjh(x:List Nat)(i:Nat):fX x .pt i i .pt=(j3 (x.drop (b9 x))).elim (i+b9 x,.pt) λg=>(i+b9 x+g,.pw):=by
 rw[pL .pt rfl λc h=>if_pos h]
 refine zbQ _ _ _ _ (λc h=>?_) λc r e h=>?_
 ·have:b7 c=false:=by
   cases hd:b7 c with
   |false=>rfl
   |true=>replace h:=((yO hd).1)▸h;cases h
  exact(if_neg (by rw[this];decide)).trans (if_pos h)
 ·exact(if_neg (by rw[mB e];decide)).trans (if_neg (by rw[h];decide))
theorem zjj(x:List Nat)(i b:Nat)(s:NS):fX x .dt i b s=if d8 x 0=true then(j3 (x.drop (b9 x))).elim (i+b9 x,.pt) (λg=>(i+b9 x+g,.pw))else(b,s):=by
 cases x with
 |nil=>rfl
 |cons c r=>
  rw[eH,kY]
  by_cases hc:b7 c=true
  ·rw[if_pos hc,show nx .dt c=some .pt from if_pos hc,jB,if_pos hc]
   show fX r .pt (i+1) (i+1) .pt=_
   rw[zjh,bl i 1,bn 1];rfl
  ·rw[if_neg hc,show nx .dt c=none from if_neg hc];rfl
noncomputable def qD(i:Nat)(o:Option (Nat×Bool))(r:Nat×NS):Prop:=(o=none/\r=(i,.z))\/∃n b,o=some (n,b)/\r.1=i+n/\fin r.2=true/\(b=true↔r.2=.wh)
theorem xU{x:List Nat}{i n k:Nat}{b:Bool}{q:NS}(hq:fin q=true)(hb:b=true↔q=.wh)(hk:k=i+n):qD i (some ((j3 x).elim (n,b) λg=>(g+n,false))) ((j3 x).elim (k,q) λg=>(k+g,.pw)):=by
 subst hk
 cases j3 x with
 |none=>exact .inr ⟨n,b,rfl,rfl,hq,hb⟩
 |some g=>exact .inr ⟨g+n,false,rfl,by rw[bn g,<- bl];rfl,rfl,λh=>(by(exfalso;cases h)),λh=>(by(exfalso;cases h))⟩
theorem expd{o:Option Nat}{n:Nat}:(o.getD 0+n,false)=o.elim (n,false) λg=>(g+n,false):=by
 cases o with
 |none=>exact congrArg (·,false) (eg n)
 |some g=>rfl
theorem zgn{x:List Nat}{i d k:Nat}{s:NS}(h46:∀c r,x=c ::r->b7 c=false){q:NS}{i0:Nat}(hi:i=i0+k)(hs:d≠0->q=.wh/\s=.wh)(h0:d=0->(q=.z\/q=.sg)/\s=.z)(hz:q=.z->∀c r,x=c ::r->kR c=false)(b:Nat)(hb:b=if d=0 then i0 else i):
  qD i0 ((kU x).elim (if d=0 then none else some ((j3 x).elim (k,true) λg=>(g+k,false))) λf=>some ((j3 (x.drop f)).getD 0+(f+k),false)) (fX x q i b s):=by
 have hdt:∀c r,x=c ::r->c=46->nx q c=some .dt:=λc r e hc=>by
  have h1:=h46 c r e
  subst hc
  by_cases hd:d=0
  ·rcases(h0 hd).1 with rfl|rfl<;>rfl
  ·rw[(hs hd).1];rfl
 have hno:d=0->∀c r,x=c ::r->c≠46->nx q c=none:=λhd c r e hc=>by
  have h1:=h46 c r e
  rcases(h0 hd).1 with rfl|rfl
  ·exact(if_neg (by rw[h1];decide)).trans ((if_neg (by rw[hz rfl c r e];decide)).trans (if_neg hc))
  ·exact(if_neg (by rw[h1];decide)).trans (if_neg hc)
 have rest:(∀c r,x=c ::r->c≠46)->kU x=none->qD i0 ((kU x).elim (if d=0 then none else some ((j3 x).elim (k,true) λg=>(g+k,false))) λf=>some ((j3 (x.drop f)).getD 0+(f+k),false)) (fX x q i b s):=λhn hf=>by
  rw[hf]
  refine(?_:qD i0 (if d=0 then none else some _) _)
  by_cases hd:d=0
  ·rw[if_pos hd]
   refine .inl ⟨rfl,?_⟩
   rw[hb,if_pos hd,(h0 hd).2]
   cases x with
   |nil=>rfl
   |cons c r=>rw[eH,hno hd c r rfl (hn c r rfl)];rfl
  ·rw[if_neg hd,hb,if_neg hd,(hs hd).1,(hs hd).2]
   rw[zbQ x i i .wh (λc h=>?_) λc r e h=>?_]
   ·exact xU rfl ⟨λ_=>rfl,λ_=>rfl⟩ hi
   ·have h1:b7 c=false:=by
     cases hd:b7 c with
     |false=>rfl
     |true=>replace h:=((yO hd).1)▸h;cases h
    have h2:c≠46:=λe=>by subst e;cases h
    exact(if_neg (by rw[h1];decide)).trans ((if_neg h2).trans (if_pos h))
   ·exact(if_neg (by rw[h46 c r e];decide)).trans ((if_neg (hn c r e)).trans (if_neg (by rw[h];decide)))
 cases x with
 |nil=>exact rest (λc r e=>by cases e) rfl
 |cons c r=>
  by_cases hc:c=46
  ·have hf:kU (c ::r)=if d8 r 0=true then some (b9 r+1)else none:=by
    subst hc
    refine(?_:(if(some 46:Option Nat)=some 46/\d8 r 0=true then some (b9 (r.drop 1)+2)else none)=_)
    cases r with
    |nil=>rfl
    |cons e t=>
     rw[kY,jB]
     by_cases he:b7 e=true
     ·rw[if_pos ⟨rfl,he⟩,if_pos he,if_pos he];rfl
     ·rw[if_neg λq=>he q.2,if_neg he]
   rw[eH,hdt c r rfl hc]
   refine(?_:qD i0 _ (fX r .dt (i+1) b s))
   rw[zjj,hf]
   by_cases hd1:d8 r 0=true
   ·rw[if_pos hd1,if_pos hd1]
    refine(?_:qD i0 (some ((j3 ((c ::r).drop (b9 r+1))).getD 0+(b9 r+1+k),false)) _)
    rw[expd]
    exact xU (q:=.pt) rfl ⟨λh=>(by cases h),λh=>(by cases h)⟩ (by rw[hi];omega)
   ·rw[if_neg hd1,if_neg hd1]
    refine(?_:qD i0 (if d=0 then none else some ((j3 (c ::r)).elim (k,true) λg=>(g+k,false))) _)
    have he:j3 (c ::r)=none:=by subst hc;rfl
    rw[he,hb]
    by_cases hd:d=0
    ·rw[if_pos hd,if_pos hd,(h0 hd).2];exact .inl ⟨rfl,rfl⟩
    ·rw[if_neg hd,if_neg hd,(hs hd).2];exact .inr ⟨k,true,rfl,hi,rfl,λ_=>rfl,λ_=>rfl⟩
  ·refine rest (λc' r' e=>by(refine a2 (λzq zp=>?_) (List.cons.inj e);subst zq;subst zp);exact hc) ?_
   unfold kU
   rw[if_neg λq=>hc (Option.some.inj q.1)]
theorem zb5(x:List Nat)(i:Nat):qD i (nV x) (fX x .z i i .z):=by
 unfold nV zju
 have key:∀(y:List Nat) (q:NS) (k:Nat),(q=.z\/q=.sg)->(q=.z->∀c r,y=c ::r->kR c=false)->qD i ((kU (y.drop (b9 y))).elim (if b9 y=0 then none else some ((j3 (y.drop (b9 y))).elim (b9 y+k,true) λg=>(g+(b9 y+k),false))) λf=>some ((j3 (y.drop (f+b9 y))).getD 0+(f+(b9 y+k)),false)) (fX y q (i+k) i .z):=λy q k hq hz=>by
  have e:(λf=>some ((j3 (y.drop (f+b9 y))).getD 0+(f+(b9 y+k)),false))=λf=>some ((j3 ((y.drop (b9 y)).drop f)).getD 0+(f+(b9 y+k)),false):=funext λf=>by(refine dk.symm▸?_;exact(bn f (b9 y)).symm▸rfl)
  refine e.symm▸?_
  clear e
  by_cases hd:b9 y=0
  ·refine hd.symm▸?_
   exact zgn (x:=y.drop 0) (d:=0) (k:=0+k) (s:=.z) (q:=q) (i:=i+k) (i0:=i) (b:=i) (λc r e=>mB (x:=y) (by rw[hd];exact e)) (by rw[eg]) (λh=>absurd rfl h) (λ_=>⟨hq,rfl⟩) (λe=>hz e) rfl
  ·cases y with
   |nil=>exact absurd rfl hd
   |cons c r=>
    have hc:b7 c=true:=by
     cases hc:b7 c with
     |true=>rfl
     |false=>rw[jB,hc]at hd;exact absurd rfl hd
    have e:fX (c ::r) q (i+k) i .z=fX (r.drop (b9 r)) .wh (i+k+1+b9 r) (i+k+1+b9 r) .wh:=by
     rw[eH,show nx q c=some .wh by rcases hq with rfl|rfl<;>exact if_pos hc]
     show fX r .wh (i+k+1) (i+k+1) .wh=_
     exact pL .wh rfl (λc h=>if_pos h) r _
    have hn:b9 (c ::r)=b9 r+1:=by rw[jB,if_pos hc]
    refine e.symm▸?_;refine hn.symm▸?_
    exact zgn (x:=r.drop (b9 r)) (d:=b9 r+1) (k:=b9 r+1+k) (s:=.wh) (q:=.wh) (i:=i+k+1+b9 r) (i0:=i) (λc r' e=>mB e) (by omega) (λ_=>⟨rfl,rfl⟩) (λh=>by(exfalso;cases h)) (λh=>by(exfalso;cases h)) (i+k+1+b9 r) rfl
 cases x with
 |nil=>exact .inl ⟨rfl,rfl⟩
 |cons c r=>
  rw[zgk]
  by_cases hs:kR c=true
  ·refine(if_pos hs).symm▸?_
   have hd:b7 c=false:=by
    cases hd:b7 c with
    |false=>rfl
    |true=>replace hs:=((yO hd).2.2)▸hs;(exfalso;cases hs)
   rw[eH,show nx .z c=some .sg from(if_neg (by rw[hd];decide)).trans (if_pos hs)]
   exact key r .sg 1 (.inr rfl) (λe=>by(exfalso;cases e))
  ·refine(if_neg hs).symm▸?_
   exact key (c ::r) .z 0 (.inl rfl) (λ_ d t e=>by(refine a2 (λzq zp=>?_) (List.cons.inj e);subst zq;subst zp);exact ek.mpr hs)
section
variable {C:Ctx}{H:Kn}
theorem yE{l r:Expr}{p:Pos}{J:St}{x y:List Nat}{es:DL}(M:CtxMono C)(h1:ev C H l J (.tup [.str x,.str y]))(h2:ev C H r J (.dict true es)):ev C H (.Compare l [.NotIn] [r] p) J (.bool (!(es.lookup [x,y]).isSome)):=bL M h1 h2 rfl
theorem zfr{o i:Expr}{p:Pos}{J:St}{x y:List Nat}{es:DL}{d:DV}(M:CtxMono C)(hs:xW i=false)(h:ev C H o J (.dict true es))(h':ev C H i J (.tup [.str x,.str y]))(hd:es.lookup [x,y]=some d):ev C H (.Subscript o i p) J (dvP d):=
 oY M hs h h' (by show opt (es.lookup [x,y]) _;rw[hd];rfl)
end
theorem zgy:∀(l:List (List (List Nat)×List Nat)) (k:List (List Nat)),(l.map λe=>(e.1,DV.s e.2)).lookup k=(l.lookup k).map .s
 |[],_=>rfl
 |e ::l,k=>by
  rw[cf,cy,cy,zgy l k]
  cases(k==e.1)<;>rfl
noncomputable def stepT:List (List (List Nat)×List Nat):=stepS.map λe=>([lcS e.1,[e.2.1]],lcS e.2.2)
noncomputable def allNS:List NS:=[.z,.sg,.wh,.dt,.pt,.ex,.es,.pw]
theorem zbv{c:Nat}(q:NS)(h:eM c=true):stepD.lookup [nsN q,[zdB c]]=(nx q c).map λq'=>.s (nsN q'):=by
 have e:(allNS.all λq=>stepT.lookup [nsN q,[zdB c]]==(nx q c).map nsN)=true:=kJ (P:=λc=>allNS.all λq=>stepT.lookup [nsN q,[zdB c]]==(nx q c).map nsN) (by decide+kernel) h
 have e2:=eq_of_beq (ay.mp e q (by cases q<;>simp[allNS]))
 have e3:stepD=stepT.map λe=>(e.1,DV.s e.2):=by unfold stepT stepD;rw[List.map_map];rfl
 rw[e3,zgy,e2,Option.map_map];rfl
theorem zjP(q:NS):decide (nsN q∈([lcS "whole",lcS "point",lcS "power"]:List (List Nat)))=fin q:=by cases q<;>decide+kernel
noncomputable def cNl:Ctx:=mkC [("_law_STEPS",hX (.dict true stepD))] [] false [] []
theorem zfJ:CtxMono cNl:=bN (by simp[eC]) (by simp)
noncomputable def kK:Fn:=λps K=>∃(U:List Nat) (i:Nat),ps=[.str U,.int i]/\Tx U/\i<=U.length/\K (.tup [.int (fX (U.drop i) .z i i .z).1,.str (nsN (fX (U.drop i) .z i i .z).2)])
theorem nN:aW kK:=λ_ _ _ h=>e2 λ_ _=>c3 (h _)
theorem zb4(U:List Nat)(i:Nat)(K:PV->Prop)(t:Tx U)(hi:i<=U.length)(hK:K (.tup [.int (fX (U.drop i) .z i i .z).1,.str (nsN (fX (U.drop i) .z i i .z).2)])):wSs cNl (cV (aK H0 762)) (aV H0 762) (gQ K) ⟨bB [("mended",.str U),("at",.int i)] (λ_=>none),λ_=>none⟩:=by
 have M:=zfJ
 generalize hR:fX (U.drop i) .z i i .z=R at hK
 (apply nfe;case h=>(show ?ya39=?yb39;refine(?_:∀_:(?ya39=?yb39),(?ya39=?yb39)) ?_;rotate_left;(conv=>lhs;whnf;dsimp only[lU,erS,erE,fF,erO]);exactλ_=>by kernel_rfl!))
 refine aA (aH M (.str (nsN .z)) (aB rfl) ∅ ?_)
 refine aA (aH M (.str (nsN .z)) (aB rfl) ∅ ?_)
 refine aA (aH M (.int i) aD ∅ ?_)
 refine aA (aH M (.int i) aD ∅ ?_)
 refine c8 M (λJ=>dJ [("best",.int R.1),("shape",.str (nsN R.2))] J.ρ) (eG M (λn J=>∃(e b:Nat) (q s:NS),n=U.length - e/\dJ [("mended",.str U),("state",.str (nsN q)),("shape",.str (nsN s)),("end",.int e),("best",.int b)] J.ρ/\e<=U.length/\fX (U.drop e) q e b s=R) ?_ (U.length - i) _ ⟨i,i,.z,.z,rfl,by walk_at "co",hi,hR⟩) ?_
 ·refineλn J=>x4 λe b q s=>a4 λhn h1 h2 h3=>keepP J h1 ?_
  clear h1
  refine⟨decide (e<U.length),aS M (fC M aD (cQ M ⋯ rfl rfl ∅ aD)),λhc=>?_,λhc=>?_⟩
  ·have hc:=of_decide_eq_true hc
   obtain⟨c,hg⟩:∃c,U[e]?=some c:=⟨_,ah hc⟩
   have hac:=t.al.at hg
   rw[fQ hg,eH]at h3
   refine aA (aH M (.str [c]) (bR M rfl aD aD hg) ∅ ?_)
   have m1:decide (c∈(ae "+-").cps.toList)=kR c:=cF (f:=λc=>decide (c∈(ae "+-").cps.toList)) (by decide+kernel) hac
   have m2:decide (c∈(ae "eE").cps.toList)=isE c:=cF (f:=λc=>decide (c∈(ae "eE").cps.toList)) (by decide+kernel) hac
   refine c8 M (λJ=>dJ [("mended",.str U),("step",.tup [.str (nsN q),.str [zdB c]]),("shape",.str (nsN s)),("end",.int e),("best",.int b)] J.ρ) (bI M (b7 c) (zco hac▸aS M (dE M aD)) (λh=>?_) (λh=>?_)) ?_
   ·have ec:zdB c=48:=if_pos h
    refine ec.symm▸?_
    exact aA (aH M (.tup [.str (nsN q),.str [48]]) (bH M (aC M aD (aC M (aB rfl) aG))) ∅ (by walk_at "co"))
   ·refine aA (bI M (kR c) (m1▸aS M (dE M aD)) (λh'=>?_) (λh'=>?_))
    ·have ec:zdB c=43:=(if_neg (by refine h.symm▸?_;decide)).trans (if_pos h')
     refine ec.symm▸?_
     exact aA (aH M (.tup [.str (nsN q),.str [43]]) (bH M (aC M aD (aC M (aB rfl) aG))) ∅ (by walk_at "co"))
    ·refine aA (bI M (isE c) (m2▸aS M (dE M aD)) (λh2=>?_) (λh2=>?_))
     ·have ec:zdB c=101:=(if_neg (by refine h.symm▸?_;decide)).trans ((if_neg (by refine h'.symm▸?_;decide)).trans (if_pos h2))
      refine ec.symm▸?_
      exact aA (aH M (.tup [.str (nsN q),.str [101]]) (bH M (aC M aD (aC M (aB rfl) aG))) ∅ (by walk_at "co"))
     ·have ec:zdB c=c:=(if_neg (by refine h.symm▸?_;decide)).trans ((if_neg (by refine h'.symm▸?_;decide)).trans (if_neg (by refine h2.symm▸?_;decide)))
      refine ec.symm▸?_
      exact aA (aH M (.tup [.str (nsN q),.str [c]]) (bH M (aC M aD (aC M aD aG))) ∅ (by walk_at "co"))
   ·refineλJ h1=>keepP J h1 ?_
    clear h1 m1 m2 h2 hg
    have hs:=zbv q hac
    cases hq:nx q c with
    |none=>
     rw[hq]at hs h3
     have h3:(b,s)=R:=h3
     subst h3
     refine aA (bI M (!(stepD.lookup [nsN q,[zdB c]]).isSome) (aS M (yE M aD (gM M ⋯ rfl))) (λ_=>?_) (λh=>by rw[hs]at h;(exfalso;cases h)))
     exact aA (iB (by walk_at "co"))
    |some q'=>
     rw[hq]at hs h3
     have h3:(if fin q'=true then fX (U.drop (e+1)) q' (e+1) (e+1) q' else fX (U.drop (e+1)) q' (e+1) b s)=R:=h3
     refine aA (bI M (!(stepD.lookup [nsN q,[zdB c]]).isSome) (aS M (yE M aD (gM M ⋯ rfl))) (λh=>by rw[hs]at h;(exfalso;cases h)) (λ_=>?_))
     refine aA (aH M (.str (nsN q')) (zfr (x:=nsN q) (y:=[zdB c]) (d:=.s (nsN q')) M rfl (gM M ⋯ rfl) aD hs) ∅ ?_)
     refine aA (b8 M (.int e) (.int 1) ⋯ (aB rfl) ∅ (of_eq bM ?_))
     refine aA (bI M (fin q') (zhh (aS M (bL (a:=.str (nsN q')) M aD (bH M (aC M (aB rfl) (aC M (aB rfl) (aC M (aB rfl) aG)))) ⟨[lcS "whole",lcS "point",lcS "power"],rfl,rfl⟩)) (zjP q')) (λh=>?_) (λh=>?_))
     ·rw[if_pos h]at h3
      refine aA (aH M (.str (nsN q')) aD ∅ ?_)
      refine aA (aH M (.int (e+1:Nat)) aD ∅ ?_)
      exact⟨U.length - (e+1),hn▸dd hc (av e),e+1,e+1,q',q',rfl,by walk_at "co",hc,h3⟩
     ·rw[if_neg (by refine h.symm▸?_;decide)]at h3
      exact⟨U.length - (e+1),hn▸dd hc (av e),e+1,b,q',s,rfl,by walk_at "co",hc,h3⟩
  ·rw[az (aw (of_decide_eq_false hc))]at h3
   have h3:(b,s)=R:=h3
   subst h3
   refine(?_:dJ [("best",.int b),("shape",.str (nsN s))] _)
   walk_at "co"
 ·exactλJ h1=>keepP J h1 (aA (aM M (.tup [.int R.1,.str (nsN R.2)]) (bH M (aC M aD (aC M aD aG))) ⟨_,aQ _ _ rfl,hK⟩))
theorem oS(hB:BsOk (bs w.params h mb))(hmb:HMb mb):Meets prog w (bs w.params h mb) 2 (.ref 762) kK:=by
 have hC:CtxOk prog w (bs w.params h mb) cNl 1:=c7 hmb (by simp[eC]) (by simp) (by simp) (λe he=>by
  simp only[be]at he;subst he
  exact⟨.ref 713,by kernel_rfl,zah hB⟩) (by simp) (by simp)
 refine aU (k:=2) (params:=["mended","at"]) (dv:=[]) (dp:=[]) hB hC ∅ ∅ ∅ rfl (λ_=>.nil) (λS vals hl=>?_) λps K=>x2 λU i=>a4 λh1 h2 h3 h4=>?_
 ·refine x2 (λa b zr2=>?_) (fL hl);subst zr2
  kernel_rfl
 ·subst h1
  exact⟨rfl,zb4 U i K h2 h3 h4⟩
section
variable {C:Ctx}{H:Kn}
noncomputable def zgW(e:Expr):Option PV:=exc none iJ (λ_=>none) (λ_=>none) (λ_ _ _=>none) (λ_ _=>none) (λ_ _=>none) e
theorem zdn{e:Expr}{J:St}{v:PV}(h:zgW e=some v):ev C H e J v:=by
 cases e<;>first |exact aB h|(exfalso;cases h)
theorem oW{J:St}(M:CtxMono C):∀{es:List Expr}{vs:List PV},es.map zgW=vs.map some->evs C H es J vs
 |[],[],_=>aG
 |e ::es,v ::vs,h=>by
  refine a2 (λh1 h2=>?_) (List.cons.inj h)
  exact aC M (zdn h1) (oW M h2)
theorem jY{e:Expr}{J:St}{x y:List Nat}(k:ev C H e J (.str x))(h:x=y):ev C H e J (.str y):=h▸k
theorem w6:∀zs:List (List Nat),fN (zs.map .str)=some zs
 |[]=>rfl
 |z ::r=>by show(fN (r.map .str)).map (z ::·)=_;rw[w6 r];rfl
theorem zjV{l r:Expr}{p:Pos}{J:St}{x:List Nat}{Y:List (List Nat)}(M:CtxMono C)(h1:ev C H l J (.str x))(h2:ev C H r J (.list (Y.map .str))):ev C H (.Compare l [.In] [r] p) J (.bool (decide (x∈Y))):=
 bL M h1 h2 ⟨Y,w6 Y,rfl⟩
end
noncomputable def zcL:PV:=.list (longs.map .str)
theorem vC(hB:BsOk (bs w.params h mb))(hmb:HMb mb):Meets prog w (bs w.params h mb) 1 (.ref 692) (hX zcL):=by
 refine aU (k:=0) (params:=[]) (dv:=[]) (dp:=[]) hB (lO hmb) ∅ ∅ ∅ rfl (λ_=>.nil) (λS vals hl=>?_) λps K=>a2 λh1 h2=>?_
 ·cases gf.mp hl;kernel_rfl
 ·subst h1
  refine⟨rfl,?_⟩
  have M:=f9
  (apply nfe;case h=>(show ?ya40=?yb40;refine(?_:∀_:(?ya40=?yb40),(?ya40=?yb40)) ?_;rotate_left;(conv=>lhs;whnf;dsimp only[lU,erS,erE,fF,erO]);exactλ_=>by kernel_rfl!))
  exact aA (aM M zcL (zif M rfl (oW M ∅)) ⟨_,aQ _ _ rfl,h2⟩)
noncomputable def cSl:Ctx:=mkC [("_law_opens_name",lV),("_law_numeral",kK),("_law_name_sign",zhb bC)] [] false [] []
theorem zgX:∀e∈[("_law_opens_name",lV),("_law_numeral",kK),("_law_name_sign",zhb bC)],aW e.2:=by
 simp only[bb,bu,or_false];rintro e (rfl|rfl|rfl)
 ·exact lF
 ·exact nN
 ·exact iT _
theorem zfE:CtxMono cSl:=bN zgX (by simp)
noncomputable def zf4:Fn:=λps K=>∃(U:List Nat) (i c:Nat),ps=[.str U,.int i]/\Tx U/\U[i]?=some c/\sgl c (U.drop (i+1))=true/\K (.bool true)
theorem o8:aW zf4:=λ_ _ _ h=>e3 λ_ _ _=>c4 (h _)
theorem kH{C:Ctx}{H:Kn}{l:Expr}{q:Str}{k:Nat}{p p':Pos}{J:St}{o:Option Nat}{d:Nat}(M:CtxMono C)(h:ev C H l J (.str o.toList))(hq:q.cps.toList=[d]):ev C H (.Compare l [.NotEq] [.Constant (.str q) k p] p') J (.bool (!(o==some d))):=
 mQ o d▸bL (b:=.str [d]) M h (aB (by rw[iJ,hq])) rfl
theorem zeB(U:List Nat)(i c:Nat)(K:PV->Prop)(t:Tx U)(hg:U[i]?=some c)(hs:sgl c (U.drop (i+1))=true)(hK:K (.bool true)):wSs cSl (cV (aK H0 811)) (aV H0 811) (gQ K) ⟨bB [("mended",.str U),("at",.int i)] (λ_=>none),λ_=>none⟩:=by
 have M:=zfE
 have hl:=bK hg
 have hi:=t.lt (aq hl)
 have hac:=t.al.at hg
 obtain⟨n1,hs⟩:=ag.mp hs
 obtain⟨n2,hs⟩:=ag.mp hs
 obtain⟨n3,hs⟩:=ag.mp hs
 have n1:[32,10,9,34,39,40,41,91,93,123,125].contains c=false:=by
  cases q:[32,10,9,34,39,40,41,91,93,123,125].contains c with
  |false=>rfl
  |true=>rw[q]at n1;cases n1
 have n2:aO (U.drop i)=false:=by
  rw[<- fQ hg]at n2
  cases q:aO (U.drop i)with
  |false=>rfl
  |true=>rw[q]at n2;cases n2
 have n3:fX (U.drop i) .z i i .z=(i,.z):=by
  rw[<- fQ hg]at n3
  have h:=zb5 (U.drop i) i
  rw[gw.mp n3]at h
  exact h.elim (λh=>h.2) (x2 λ_ _=>a4 λe _ _ _=>by cases e)
 have m1:decide (c∈(ae " \n\t\"'()[]{}").cps.toList)=[32,10,9,34,39,40,41,91,93,123,125].contains c:=cF (f:=λc=>decide (c∈(ae " \n\t\"'()[]{}").cps.toList)) (g:=λc=>[32,10,9,34,39,40,41,91,93,123,125].contains c) (by decide+kernel) hac
 rw[n1]at m1
 have m2:decide (c∈(ae "~^$*").cps.toList)=[126,94,36,42].contains c:=cF (f:=λc=>decide (c∈(ae "~^$*").cps.toList)) (g:=λc=>[126,94,36,42].contains c) (by decide+kernel) hac
 have m3:decide (nsN NS.z=(ae "").cps.toList)=true:=by decide+kernel
 unfold zhw at hs
 rw[bZ]at hs
 have hx:i<1000000:=ar hi (by decide)
 have hx1:i+1<1000000:=ai hi (by decide)
 have ret:∀{J:St}{b:Bool},b=true->gQ K (.ret (.bool b)) J:=λhb=>⟨_,b6 _ _,hb▸hK⟩
 (apply nfe;case h=>(show ?ya41=?yb41;refine(?_:∀_:(?ya41=?yb41),(?ya41=?yb41)) ?_;rotate_left;(conv=>lhs;whnf;dsimp only[lU,erS,erE,fF,erO]);exactλ_=>by kernel_rfl!))
 refine aA (aH M (.str [c]) (bR M rfl aD aD hg) ∅ ?_)
 refine aA (aH M (.str (U[i+1]?).toList) (fE (e:=i+1) M aD (aP (i:=i) (j:=1) M aD (aB rfl)) (aP (i:=i) (j:=2) M aD (aB rfl)) hx1) ∅ ?_)
 refine aA (bI M (false||(aO (U.drop i)||!decide (nsN (fX (U.drop i) .z i i .z).2=(ae "").cps.toList))) (dX M (m1▸aS M (dE M aD)) λ_=>dX M (aS M (aR (F:=lV) M ⋯ rfl (aC M (v:=.str U) aD (aC M (v:=.int i) aD aG)) ⟨U,i,rfl,t,ar hi (by decide),.inl rfl,rfl⟩)) λ_=>bJ (aS M (yF (q:="") M (oY M rfl (aR (F:=kK) (v:=.tup [.int (fX (U.drop i) .z i i .z).1,.str (nsN (fX (U.drop i) .z i i .z).2)]) M ⋯ rfl (aC M (v:=.str U) aD (aC M (v:=.int i) aD aG)) ⟨U,i,rfl,t,aq hl,.inl rfl,rfl⟩) (aB rfl) (show opt (some (PV.str (nsN (fX (U.drop i) .z i i .z).2))) (λr=>r=.str (nsN (fX (U.drop i) .z i i .z).2))from rfl))))) (λh=>by rw[n2,n3,m3]at h;cases h) (λ_=>?_))
 refine aA (bI M (decide (c=64)) (aS M (cS M aD ∅)) (λg=>?_) (λg=>?_))
 ·rw[if_pos (of_decide_eq_true g)]at hs
  exact aA (aM M (.bool _) (yD M (aR (F:=lV) M ⋯ rfl (aC M (v:=.str U) aD (aC M (v:=.int (i+1:Nat)) (aP (i:=i) (j:=1) M aD (aB rfl)) aG)) ⟨U,i+1,rfl,t,ai hi (by decide),.inl rfl,rfl⟩)) (ret hs))
 rw[if_neg (of_decide_eq_false g)]at hs
 refine aA (bI M (decide (c=35)) (aS M (cS M aD ∅)) (λg=>?_) (λg=>?_))
 ·rw[if_pos (of_decide_eq_true g)]at hs
  exact aA (aM M (.bool _) (yD M (oX (o:=U[i+1]?) M ⋯ rfl aD (t.al.ao _))) (ret hs))
 rw[if_neg (of_decide_eq_false g)]at hs
 refine aA (bI M (decide (c=47)) (aS M (cS M aD ∅)) (λg=>?_) (λg=>?_))
 ·rw[if_pos (of_decide_eq_true g)]at hs
  exact aA (aM M (.bool _) (kH (o:=U[i+1]?) M aD ∅) (ret hs))
 rw[if_neg (of_decide_eq_false g)]at hs
 refine aA (bI M (decide (c=124)) (aS M (cS M aD ∅)) (λg=>?_) (λg=>?_))
 ·rw[if_pos (of_decide_eq_true g)]at hs
  exact aA (aM M (.bool _) (gN M (kH (o:=U[i+1]?) M aD ∅) λ_=>eL (kH (o:=U[i+1]?) M aD ∅)) (ret hs))
 rw[if_neg (of_decide_eq_false g)]at hs
 refine aA (bI M ([126,94,36,42].contains c) (m2▸aS M (dE M aD)) (λg=>?_) (λg=>?_))
 ·rw[if_pos g]at hs
  exact aA (aM M (.bool _) (kH (o:=U[i+1]?) M aD ∅) (ret hs))
 rw[if_neg (by rw[g];decide),<- fQ hg]at hs
 have h4:(!decide ((U.drop i).take (i+4 - i)=(ae "<!--").cps.toList))=true:=by
  rw[bx]
  cases q:decide ((U.drop i).take 4=(ae "<!--").cps.toList)with
  |false=>rfl
  |true=>
   have e:[60,33,45,45].isPrefixOf (U.drop i)=true:=dn.mpr ((show [60,33,45,45]=(U.drop i).take 4 from(of_decide_eq_true q).symm)▸List.take_prefix 4 _)
   rw[e]at hs;cases hs
 exact aA (aM M (.bool _) (yF (q:="<!--") M (gW M aD aD (aP (i:=i) (j:=4) M aD (aB rfl)) (am i 4) (aj (Nat.add_lt_add_right hi 4) (by decide)))) (ret h4))
noncomputable def cSi:Ctx:=mkC [("_law_LONG_SIGNS",hX zcL),("_law_single",zf4)] [] false [] []
theorem zfF:CtxMono cSi:=bN (by simp[eC,o8]) (by simp)
noncomputable def zdO:Fn:=λps K=>∃(U:List Nat) (i:Nat) (v:List Nat),ps=[.str U,.int i,.str v]/\Tx U/\i<=U.length/\LitK (U.drop i) v/\K (.int (i+v.length:Nat))
theorem zaJ:aW zdO:=λ_ _ _ h=>e3 λ_ _ _=>c4 (h _)
theorem zeA(U:List Nat)(i:Nat)(v:List Nat)(K:PV->Prop)(t:Tx U)(hi:i<=U.length)(hv:LitK (U.drop i) v)(hK:K (.int (i+v.length:Nat))):wSs cSi (cV (aK H0 818)) (aV H0 818) (gQ K) ⟨bB [("mended",.str U),("at",.int i),("value",.str v)] (λ_=>none),λ_=>none⟩:=by
 have M:=zfF
 have hp:v.isPrefixOf (U.drop i)=true:=hv.elim (λh=>h.2) (x2 λc r=>a3 λe1 e2 _=>by
  rw[e1,e2]
  show((c==c)&&true)=true
  rw[beq_self_eq_true];rfl)
 have hq:i+v.length<=U.length:=iC hi hp
 have ht:v=(U.drop i).take (i+v.length - i):=by rw[bx];exact fb.mp (dn.mp hp)
 have hx:=t.lt hq
 (apply nfe;case h=>(show ?ya42=?yb42;refine(?_:∀_:(?ya42=?yb42),(?ya42=?yb42)) ?_;rotate_left;(conv=>lhs;whnf;dsimp only[lU,erS,erE,fF,erO]);exactλ_=>by kernel_rfl!))
 refine aA (aH M (.int (i+v.length:Nat)) (aP (i:=i) (j:=v.length) M aD (cQ M ⋯ rfl rfl ∅ aD)) ∅ ?_)
 refine aA (bI M false (aS M (d4 (x:=v) M (jY (gW M aD aD aD (am i _) (ar hx (by decide))) ht.symm) aD)) (λh=>by(exfalso;cases h)) (λ_=>?_))
 refine aA (bI M (decide (v∈longs)) (aS M (zjV M aD (gM M ⋯ rfl))) (λh=>?_) (λh=>?_))
 ·exact aA (aM M (.int (i+v.length:Nat)) aD ⟨_,aQ _ _ rfl,hK⟩)
 ·refine hv.elim (a2 λh1 _=>by rw[decide_eq_true (jb.mp h1)]at h;(exfalso;cases h)) (x2 λc r=>a3 λe1 e2 h3=>?_)
  subst e2
  have hg:U[i]?=some c:=by rw[<- bZ,e1];rfl
  have hr:U.drop (i+1)=r:=by rw[<- dk,e1];rfl
  refine aA (aM M (.int (i+[c].length:Nat)) (bW (c:=decide (([c]:List Nat).length=1)&&true) M (bS M (aS M (jN (a:=[c].length) (b:=1) M (cQ M ⋯ rfl rfl ∅ aD) (aB rfl))) λ_=>bJ (aS M (aR (F:=zf4) M ⋯ rfl (aC M (v:=.str U) aD (aC M (v:=.int i) aD aG)) ⟨U,i,c,rfl,t,hg,by rw[hr];exact h3,.inl rfl,rfl⟩))) (λ_=>by exact aE ⋯ ⋯) (λh=>by(exfalso;cases h))) ⟨_,aQ _ _ rfl,hK⟩)
section
theorem zcu(hB:BsOk (bs w.params h mb))(hmb:HMb mb):Meets prog w (bs w.params h mb) 3 (.ref 811) zf4:=by
 have hC:CtxOk prog w (bs w.params h mb) cSl 2:=c7 hmb zgX (by simp) (by simp) (λe he=>by
  simp only[bb,bu,or_false]at he
  rcases he with rfl|rfl|rfl
  ·exact⟨.ref 741,by kernel_rfl,mW hB hmb⟩
  ·exact⟨.ref 762,by kernel_rfl,oS hB hmb⟩
  ·exact⟨.ref 734,by kernel_rfl,oR hB hmb⟩) (by simp) (by simp)
 refine aU (k:=2) (params:=["mended","at"]) (dv:=[]) (dp:=[]) hB hC ∅ ∅ ∅ rfl (λ_=>.nil) (λS vals hl=>?_) λps K=>x3 λU i c=>a5 λh1 h2 h3 h4 h5=>?_
 ·refine x2 (λa b zr2=>?_) (fL hl);subst zr2
  kernel_rfl
 ·subst h1
  exact⟨rfl,zeB U i c K h2 h3 h4 h5⟩
theorem zct(hB:BsOk (bs w.params h mb))(hmb:HMb mb):Meets prog w (bs w.params h mb) 4 (.ref 818) zdO:=by
 have hC:CtxOk prog w (bs w.params h mb) cSi 3:=c7 hmb (by simp[eC,o8]) (by simp) (by simp) (λe he=>by
  simp only[bb,bu,or_false]at he
  rcases he with rfl|rfl
  ·exact⟨.ref 692,by kernel_rfl,(vC hB hmb).le (by decide)⟩
  ·exact⟨.ref 811,by kernel_rfl,zcu hB hmb⟩) (by simp) (by simp)
 refine aU (k:=3) (params:=["mended","at","value"]) (dv:=[]) (dp:=[]) hB hC ∅ ∅ ∅ rfl (λ_=>.nil) (λS vals hl=>?_) λps K=>x3 λU i v=>a5 λh1 h2 h3 h4 h5=>?_
 ·refine x3 (λa b c zr3=>?_) (eF hl);subst zr3
  kernel_rfl
 ·subst h1
  exact⟨rfl,zeA U i v K h2 h3 h4 h5⟩
end
section
variable {C:Ctx}{H:Kn}
theorem iI{x name:Str}{p1 p2:Pos}{J:St}{c:Nat}{fs:List PV}{v:PV}(hk:H x=some .local)(hx:J.ρ x=some (.inst c fs))(hv:(C.slot c name).bind (λi=>fs[i]?)=some v):ev C H (.Attribute (.Name x p1) name p2) J v:=by
 refine x1 (λi=>a2 λhs hv=>?_) (cu.mp hv)
 refine(?_:(if H x=some .globalImplicit then opt (C.val x) _ else opt (J.ρ x) _))
 rw[hk,kQ,hx]
 refine(?_:l5 (C.slot c name) _ λi=>opt fs[i]? _)
 rw[hs]
 refine(?_:opt fs[i]? _)
 rw[hv]
 exact⟨rfl,rfl⟩
theorem qQ{x name:Str}{p1 p2:Pos}{J:St}{c:Nat}{fs:List PV}{v:PV}(hk:H x=some .local)(hx:J.ρ x=some (.inst c fs))(hs:C.slot c name=none)(hv:C.cval c name=some v):ev C H (.Attribute (.Name x p1) name p2) J v:=by
 refine(?_:(if H x=some .globalImplicit then opt (C.val x) _ else opt (J.ρ x) _))
 rw[hk,kQ,hx]
 refine(?_:l5 (C.slot c name) _ _)
 rw[hs,iE,hv]
 exact⟨rfl,rfl⟩
theorem zfp{l r:Expr}{p:Pos}{J:St}{iv:Option Int}(M:CtxMono C)(h1:ev C H l J (zT iv))(h2:ev C H r J (zT iv)):ev C H (.Compare l [.NotEq] [r] p) J (.bool false):=by
 refine bL M h1 h2 ?_
 cases iv with
 |none=>exact⟨.none,rfl,rfl,rfl,dq _,rfl⟩
 |some n=>show(!decide (n=n))=false;rw[decide_eq_true rfl];rfl
end
noncomputable def cNu:Ctx:=mkC [("_law_numeral",kK),("_law_count",zdU),("_law_mark",lR),("_law_opens_name",lV),("_law_whole_name",iR)] [] false [] []
theorem zg0:∀e∈[("_law_numeral",kK),("_law_count",zdU),("_law_mark",lR),("_law_opens_name",lV),("_law_whole_name",iR)],aW e.2:=by
 simp only[bb,bu,or_false];rintro e (rfl|rfl|rfl|rfl|rfl)
 ·exact nN
 ·exact zaR
 ·exact nP
 ·exact lF
 ·exact lQ
theorem zfH:CtxMono cNu:=bN zg0 (by simp)
theorem zeQ{q:NS}{b:Bool}(hq:fin q=true)(hb:b=true↔q=.wh):decide (nsN q=(ae "whole").cps.toList)=b/\decide (nsN q=(ae "").cps.toList)=false:=by
 cases q<;>first |cases hq|skip
 ·exact⟨by rw[hb.mpr rfl];decide+kernel,by decide+kernel⟩
 ·exact⟨by rw[show b=false from ek.mpr λh=>by cases hb.mp h];decide+kernel,by decide+kernel⟩
 ·exact⟨by rw[show b=false from ek.mpr λh=>by cases hb.mp h];decide+kernel,by decide+kernel⟩
theorem mZ(U:List Nat)(i z q cl:Nat)(iv:Option Int)(r u ty:List Nat)(fs:List PV)(K:PV->Prop)(t:Tx U)(hi:i<=U.length)(hz:zha U i z iv r)
  (hrep:(cNu.slot cl "representation").bind (λi=>fs[i]?)=some (.str r)) (hint:(cNu.slot cl "int_value").bind (λi=>fs[i]?)=some (zT iv)) (hii:(cNu.slot cl "is_integer").bind (λi=>fs[i]?)=some (.bool iv.isSome))
  (hty:cNu.slot cl "type"=none) (hcv:cNu.cval cl "type"=some (.str ty)) (hun:ty=lcS "dimension" ->(cNu.slot cl "unit").bind (λi=>fs[i]?)=some (.str u))
  (hq:(ty=lcS "percentage"/\ U[i+z]?=some 37/\q=i+z+1)\/(ty=lcS "dimension"/\ NameK U (i+z) u q)\/(ty=lcS "number"/\ aO (U.drop (i+z))=false/\U[i+z]?≠some 37/\q=i+z)) (hK:K (.int q)):
  wSs cNu (cV (aK H0 832)) (aV H0 832) (gQ K) ⟨bB [("mended",.str U),("at",.int i),("node",.inst cl fs)] (λ_=>none),λ_=>none⟩:=by
 have M:=zfH
 refine x1 (λb=>a3 λhn hr hiv=>?_) hz
 have hzl:=xL hn
 have hle:i+z<=U.length:=aZ hi hzl.2
 have hx:=t.lt hle
 have hrun:=zb5 (U.drop i) i
 replace hrun:=hn▸hrun
 have hrun:(fX (U.drop i) .z i i .z).1=i+z/\fin (fX (U.drop i) .z i i .z).2=true/\(b=true↔(fX (U.drop i) .z i i .z).2=.wh):=hrun.elim (λh=>by cases h.1) (x2 λn b'=>a4 λe h1 h2 h3=>by cases e;exact⟨h1,h2,h3⟩)
 have hF:∀K,K (.tup [.int (fX (U.drop i) .z i i .z).1,.str (nsN (fX (U.drop i) .z i i .z).2)])->kK [.str U,.int i] K:=λK hK=>⟨U,i,rfl,t,hi,hK⟩
 replace hF:=hrun.1▸hF
 obtain⟨hw,hne⟩:=zeQ hrun.2.1 hrun.2.2
 generalize nsN (fX (U.drop i) .z i i .z).2=sh at hF hw hne
 clear hrun hz
 have hrt:(U.drop i).take (i+z - i)=r:=by rw[bx];exact hr.symm
 have hrl:r.length=z:=by rw[hr,bz];exact ce hzl.2
 have htr:Tx r:=⟨by rw[hrl];exact af (af (ed z i) hle) t.len,λc hc=>by replace hc:=hr▸hc;exact t.al c (fz (jf hc))⟩
 have hib:iv.isSome=b:=by rw[hiv];cases b<;>rfl
 have hsl:∀{ρ:fD}{σ:Nat->Option Cell}{p1 p2 p3 p4 p5:Pos},ρ "mended"=some (.str U)->ρ "at"=some (.int i)->ρ "end"=some (.int (i+z:Nat))->ev cNu (cV (aK H0 832)) (.Subscript (.Name (ae "mended") p1) (.Slice (some (.Name (ae "at") p2)) (some (.Name (ae "end") p3)) none p4) p5) ⟨ρ,σ⟩ (.str r):=λg1 g2 g3=>jY (gW M (aE ⋯ g1) (aE ⋯ g2) (aE ⋯ g3) (am i z) (ar hx (by decide))) hrt
 (apply nfe;case h=>(show ?ya43=?yb43;refine(?_:∀_:(?ya43=?yb43),(?ya43=?yb43)) ?_;rotate_left;(conv=>lhs;whnf;dsimp only[lU,erS,erE,fF,erO]);exactλ_=>by kernel_rfl!))
 refine aA (fP M (.int (i+z:Nat)) (.str sh) (aR (F:=kK) M ⋯ rfl (aC M (v:=.str U) aD (aC M (v:=.int i) aD aG)) (hF _ ⟨.inl rfl,rfl⟩)) ∅ ∅ ?_)
 refine aA (bI M (false||false) (dX M (hne▸aS M (eZ (q:="") M aD)) λ_=>bJ (aS M (d4 (x:=r) M (iI ⋯ ⋯ hrep) (hsl ⋯ ⋯ ⋯)))) (λh=>by(exfalso;cases h)) (λ_=>?_))
 refine aA (aH M (zT iv) (bW (c:=b) M (hw▸aS M (eZ (q:="whole") M aD)) (λh=>?_) (λh=>?_)) ∅ ?_)
 ·rw[hiv,if_pos h]
  exact aR (F:=zdU) M ⋯ rfl (aC M (v:=.str r) (hsl ⋯ ⋯ ⋯) aG) ⟨r,rfl,htr,by rw[hrl];exact hzl.1,.inl rfl,rfl⟩
 ·rw[hiv,if_neg (by rw[h];decide)]
  exact aB rfl
 refine aA (bI M (false||false) (dX M (aS M (zfp (iv:=iv) M (iI ⋯ ⋯ hint) aD)) λ_=>bJ (aS M (d4 (x:=uC iv.isSome) M (aR (F:=lR) M ⋯ rfl (aC M (v:=.bool iv.isSome) (iI ⋯ ⋯ hii) aG) ⟨_,rfl,.inl rfl,rfl⟩) (bW (c:=b) M (hw▸aS M (eZ (q:="whole") M aD)) (λh=>?_) (λh=>?_))))) (λh=>by(exfalso;cases h)) (λ_=>?_))
 ·rw[hib,h];exact aB rfl
 ·rw[hib,h];exact aB rfl
 clear hF hw hne hrt hrl htr hib hsl hint hii hrep hr hiv hn
 refine aA (aH M (.bool (U[i+z]?==some 37)) (lN (o:=U[i+z]?) M (fE (e:=i+z) M aD aD (aP (i:=(i+z:Nat)) (j:=1) M aD (aB rfl)) (ar hx (by decide))) ∅) ∅ ?_)
 refine aA (aH M (.bool (aO (U.drop (i+z)))) (aR (F:=lV) M ⋯ rfl (aC M (v:=.str U) aD (aC M (v:=.int (i+z:Nat)) aD aG)) ⟨U,i+z,rfl,t,ar hx (by decide),.inl rfl,rfl⟩) ∅ ?_)
 have tty:∀{ρ:fD}{σ:Nat->Option Cell}{p1 p2 p3 p4:Pos}{k:Nat}(s:String),ρ "node"=some (.inst cl fs)->tv cNu (cV (aK H0 832)) (.Compare (.Attribute (.Name (ae "node") p1) (ae "type") p2) [.Eq] [.Constant (.str (ae s)) k p3] p4) ⟨ρ,σ⟩ (decide (ty=lcS s)):=λs g=>aS M (eZ (q:=s) M (qQ ⋯ g hty hcv))
 refine hq.elim (a3 λe h37 eq=>?_) λhq=>hq.elim (a2 λe hN=>?_) (a4 λe hid h37 eq=>?_)
 ·refine aA (bI M (decide (ty=lcS "percentage")) (tty "percentage" ⋯) (λ_=>?_) (λh=>absurd e (of_decide_eq_false h)))
  refine aA (aM M (.int (i+z+1:Nat)) (bW (c:=U[i+z]?==some 37) M (aS M aD) (λ_=>aP (i:=(i+z:Nat)) (j:=1) M aD (aB rfl)) (λh=>by replace h:=h37▸h;(exfalso;cases h))) ⟨_,aQ _ _ rfl,eq▸hK⟩)
 ·have hn1:=kS (t.al.drop _) hN.1
  have hul:u.length=aY (U.drop (i+z)):=by rw[hN.2.2,bz];exact ce (cW _)
  refine aA (bI M (decide (ty=lcS "percentage")) (tty "percentage" ⋯) (λh=>?_) (λ_=>?_))
  ·replace h:=e▸h;exact absurd h (by decide+kernel)
  refine aA (bI M (decide (ty=lcS "dimension")) (tty "dimension" ⋯) (λ_=>?_) (λh=>absurd e (of_decide_eq_false h)))
  refine aA (aM M (.int (i+z+u.length:Nat)) (bW (c:=aO (U.drop (i+z))&&true) M (bS M (aS M aD) λ_=>bJ (aS M (aR (F:=iR) M ⋯ rfl (aC M (v:=.str U) aD (aC M (v:=.int (i+z:Nat)) aD (aC M (v:=.str u) (iI ⋯ ⋯ (hun e)) aG))) ⟨U,i+z,u,rfl,t,hle,hN.2.2,hn1,.inl rfl,rfl⟩))) (λ_=>aP (i:=(i+z:Nat)) (j:=u.length) M aD (kX M ⋯ rfl rfl ∅ (aC M (v:=.str u) (iI ⋯ ⋯ (hun e)) aG) (of_eq (B:=PV.int u.length=.int u.length) ∅ rfl))) (λh=>by replace h:=hN.1▸h;(exfalso;cases h))) ⟨_,aQ _ _ rfl,by rw[hul,<- hN.2.1];exact hK⟩)
 ·refine aA (bI M (decide (ty=lcS "percentage")) (tty "percentage" ⋯) (λh=>?_) (λ_=>?_))
  ·replace h:=e▸h;exact absurd h (by decide+kernel)
  refine aA (bI M (decide (ty=lcS "dimension")) (tty "dimension" ⋯) (λh=>?_) (λ_=>?_))
  ·replace h:=e▸h;exact absurd h (by decide+kernel)
  have h37:(U[i+z]?==some 37)=false:=beq_eq_false_iff_ne.mpr h37
  refine aA (aM M (.int (i+z:Nat)) (bW (c:=(U[i+z]?==some 37)||aO (U.drop (i+z))) M (dX M (aS M aD) λ_=>bJ (aS M aD)) (λh=>by(replace h:=h37▸h;replace h:=hid▸h);(exfalso;cases h)) (λ_=>by exact aE ⋯ ⋯)) ⟨_,aQ _ _ rfl,eq▸hK⟩)
noncomputable def zhI(t:Tk):Bool:=Tk.casesOn (motive:=λ_=>Bool) t (λ_=>false) (λ_ _=>false) (λ_=>false) (λ_=>false) (λ_=>false) (λ_ _=>false) (λ_=>false) (λ_=>false) (λ_ _=>true) (λ_ _=>true) (λ_ _ _=>true) (λ_=>false) (λ_ _=>false)
noncomputable def t6:Fn:=λps K=>∃(U:List Nat) (i c:Nat) (lc:Nat×Nat) (rep:List Nat) (tk:Tk) (q:Nat),ps=[.str U,.int i,tkP lc rep tk]/\Tx U/\i<=U.length/\zhI tk=true/\NxT U i c tk q []/\K (.int q)
theorem wL:aW t6:=λ_ _ _ h=>e7 λ_ _ _ _ _ _ _=>c5 (h _)
theorem zan(hB:BsOk (bs w.params h mb))(hmb:HMb mb):Meets prog w (bs w.params h mb) 4 (.ref 832) t6:=by
 have hC:CtxOk prog w (bs w.params h mb) cNu 3:=c7 hmb zg0 (by simp) (by simp) (λe he=>by
  simp only[bb,bu,or_false]at he
  rcases he with rfl|rfl|rfl|rfl|rfl
  ·exact⟨.ref 762,by kernel_rfl,(oS hB hmb).le (by decide)⟩
  ·exact⟨.ref 769,by kernel_rfl,(zcD hB hmb).le (by decide)⟩
  ·exact⟨.ref 825,by kernel_rfl,(oU hB hmb).le (by decide)⟩
  ·exact⟨.ref 741,by kernel_rfl,(mW hB hmb).le (by decide)⟩
  ·exact⟨.ref 748,by kernel_rfl,mV hB hmb⟩) (by simp) (by simp)
 refine aU (k:=3) (params:=["mended","at","node"]) (dv:=[]) (dp:=[]) hB hC ∅ ∅ ∅ rfl (λ_=>.nil) (λS vals hl=>?_) λps K=>x7 λU i c lc rep tk q=>a6 λh1 h2 h3 h4 h5 h6=>?_
 ·refine x3 (λa b c zr3=>?_) (eF hl);subst zr3
  kernel_rfl
 ·subst h1
  refine⟨rfl,?_⟩
  cases tk<;>first |cases h4|skip
  ·exact x1 (λz=>a4 λg1 g2 g3 g4=>mZ U i z q 415 _ _ [] (lcS "number") _ K h2 h3 g1 ⋯ ⋯ ⋯ ⋯ ⋯ (λe=>absurd e (by decide+kernel)) (.inr (.inr ⟨rfl,g2,g3,g4⟩)) h6) h5.2
  ·exact x1 (λz=>a3 λg1 g2 g3=>mZ U i z q 447 _ _ [] (lcS "percentage") _ K h2 h3 g1 ⋯ ⋯ ⋯ ⋯ ⋯ (λe=>absurd e (by decide+kernel)) (.inl ⟨rfl,g2,g3⟩) h6) h5.2
  ·exact x1 (λz=>a2 λg1 g2=>mZ U i z q 479 _ _ _ (lcS "dimension") _ K h2 h3 g1 ⋯ ⋯ ⋯ ⋯ ⋯ (λ_=>by kernel_rfl!) (.inr (.inl ⟨rfl,g2⟩)) h6) h5.2
noncomputable def t7:Fn:=λps K=>∃(U:List Nat) (i:Nat) (v:List Nat) (q:Nat),ps=[.str U,.int i,.str v]/\Tx U/\i<=U.length/\ComK U i v q/\K (.int q)
theorem wM:aW t7:=λ_ _ _ h=>e4 λ_ _ _ _=>c4 (h _)
theorem w4{x q:List Nat}(h:q.isPrefixOf x=true):x.take q.length=q:=(fb.mp (dn.mp h)).symm
theorem zcO(U:List Nat)(i:Nat)(v:List Nat)(q:Nat)(K:PV->Prop)(t:Tx U)(hi:i<=U.length)(hv:ComK U i v q)(hK:K (.int q)):wSs cN0 (cV (aK H0 839)) (aV H0 839) (gQ K) ⟨bB [("mended",.str U),("at",.int i),("value",.str v)] (λ_=>none),λ_=>none⟩:=by
 have M:=f9
 refine a4 (λh1 h2 h3 h4=>?_) hv
 have hi2:i+2<=U.length:=iC hi h1
 have hvl:v.length<=(U.drop (i+2)).length:=by
  have:=congrArg ip h3
  rw[bz]at this
  rw[this];exact du _ _
 have he:i+2+v.length<=U.length:=aZ hi2 hvl
 have h3:(U.drop (i+2)).take (i+2+v.length - (i+2))=v:=by rw[bx];exact h3.symm
 have hx:=t.lt he
 have hx2:i+2+v.length<2000000:=ar hx (by decide)
 have hxi:i<1000000:=ar (t.lt hi) (by decide)
 have h1:(U.drop i).take 2=[47,42]:=w4 h1
 (apply nfe;case h=>(show ?ya44=?yb44;refine(?_:∀_:(?ya44=?yb44),(?ya44=?yb44)) ?_;rotate_left;(conv=>lhs;whnf;dsimp only[lU,erS,erE,fF,erO]);exactλ_=>by kernel_rfl!))
 refine aA (aH M (.int (i+2+v.length:Nat)) (aP (i:=(i+2:Nat)) (j:=v.length) M (aP (i:=i) (j:=2) M aD (aB rfl)) (cQ M ⋯ rfl rfl ∅ aD)) ∅ ?_)
 refine aA (bI M (false||(false||false)) (dX M (aS M (d4 (x:=[47,42]) M (jY (yC (i:=i) M aD aD (aP (i:=i) (j:=2) M aD (aB rfl)) hxi) h1) (aB rfl))) λ_=>dX M (aS M (d4 (x:=v) M (jY (gW (i:=i+2) M aD (aP (i:=i) (j:=2) M aD (aB rfl)) aD (am _ _) hx2) h3) aD)) λ_=>bJ (aS M (bL (a:=.str [42,47]) (b:=.str v) M (aB rfl) aD h2))) (λh=>by(exfalso;cases h)) (λ_=>?_))
 refine h4.elim (a2 λe1 e2=>?_) (a2 λe1 e2=>?_)
 ·refine aA (bI M (decide (i+2+v.length=U.length)) (aS M (jN M aD (cQ M ⋯ rfl rfl ∅ aD))) (λ_=>?_) (λh=>absurd e1 (of_decide_eq_false h)))
  exact aA (aM M (.int (i+2+v.length:Nat)) aD ⟨_,aQ _ _ rfl,by rw[e1,<- e2];exact hK⟩)
 ·have hl2:i+2+v.length+2<=U.length:=iC he e1
  refine aA (bI M (decide (i+2+v.length=U.length)) (aS M (jN M aD (cQ M ⋯ rfl rfl ∅ aD))) (λh=>?_) (λ_=>?_))
  ·rw[of_decide_eq_true h]at hl2
   exact absurd hl2 (gh (bg (by decide)))
  refine aA (aM M (.int (i+2+v.length+2:Nat)) (bW (c:=decide ([42,47]=[42,47])) M (aS M (yJ (x:=[42,47]) (y:=[42,47]) M (jY (yC (i:=i+2+v.length) M aD aD (aP (i:=(i+2+v.length:Nat)) (j:=2) M aD (aB rfl)) (ar hx (by decide))) (w4 e1)) (aB rfl))) (λ_=>aP (i:=(i+2+v.length:Nat)) (j:=2) M aD (aB rfl)) (λh=>by(exfalso;cases h))) ⟨_,aQ _ _ rfl,e2▸hK⟩)
noncomputable def t5:Fn:=λps K=>∃(U:List Nat) (i c:Nat) (v:List Nat) (q:Nat) (o:List Nat),ps=[.str U,.int i,.str v]/\Tx U/\U[i]?=some c/\StrK U i c v q o/\K (.tup [.int q,.str o])
theorem wK:aW t5:=λ_ _ _ h=>e6 λ_ _ _ _ _ _=>c4 (h _)
theorem zid{C:Ctx}{H:Kn}{l r:Expr}{p:Pos}{J:St}{c:Nat}{y:List Nat}(M:CtxMono C)(h1:ev C H l J (.str [c]))(h2:ev C H r J (.str y)):ev C H (.Compare l [.NotIn] [r] p) J (.bool (!decide (c∈y))):=bL M h1 h2 (congrArg _ (mA _ _))
theorem bP{C:Ctx}{H:Kn}{e:Expr}{J:St}{b b':Bool}(k:ev C H e J (.bool b))(h:b=b'):ev C H e J (.bool b'):=h▸k
theorem zcJ(U:List Nat)(i c:Nat)(v:List Nat)(q:Nat)(o:List Nat)(K:PV->Prop)(t:Tx U)(hg:U[i]?=some c)(hv:StrK U i c v q o)(hK:K (.tup [.int q,.str o])):wSs cN0 (cV (aK H0 846)) (aV H0 846) (gQ K) ⟨bB [("mended",.str U),("at",.int i),("value",.str v)] (λ_=>none),λ_=>none⟩:=by
 have M:=f9
 have hl:=bK hg
 refine a2 (λhq=>x1 λT=>a3 λhT hv h4=>?_) hv
 have hTl:T<=U.length:=hT▸aZ (n:=i+1) hl (pT _ _)
 have hiT:i+1<=T:=hT▸am _ _
 have hvl:v.length=T - (i+1):=by rw[hv,bz,bv];exact ce (je hTl _)
 have he:i+1+v.length=T:=by rw[hvl];exact bp hiT
 have he2:((i+1:Nat):Int)+(v.length:Nat)=(T:Nat):=by rw[<- he];rfl
 have hin:∀d∈v,(d !=c&&d !=10)=true:=λd hd=>by
  have e:v=(U.drop (i+1)).takeWhile λd=>d !=c&&d !=10:=by
   rw[hv,hT,bx]
   exact(fb.mp (gr _)).symm
  replace hd:=e▸hd
  exact ay.mp im d hd
 have n1:decide (c∈v)=false:=decide_eq_false λh=>by have:=hin c h;rw[bne_self_eq_false]at this;(exfalso;cases this)
 have n2:decide (10∈v)=false:=decide_eq_false λh=>by have:=hin 10 h;rw[Bool.and_comm,bne_self_eq_false]at this;(exfalso;cases this)
 have n3:(!decide (c∈[34,39]))=false:=by rcases hq with rfl|rfl<;>rfl
 have hx:=t.lt hTl
 clear hT hvl hin
 (apply nfe;case h=>(show ?ya45=?yb45;refine(?_:∀_:(?ya45=?yb45),(?ya45=?yb45)) ?_;rotate_left;(conv=>lhs;whnf;dsimp only[lU,erS,erE,fF,erO]);exactλ_=>by kernel_rfl!))
 refine aA (aH M (.str [c]) (bR M rfl aD aD hg) ∅ ?_)
 dsimp only[cG]
 refine aA (aH M (.int T) (gG (aP (i:=(i+1:Nat)) (j:=v.length) M (aP (i:=i) (j:=1) M aD (aB rfl)) (cQ M ⋯ rfl rfl ∅ aD)) he2) ∅ ?_)
 refine aA (bI M (false||(false||(false||false))) (dX M (aS M (bP (zid (y:=[34,39]) M aD (aB rfl)) n3)) λ_=>dX M (aS M (d4 (x:=v) M (jY (gW (i:=i+1) M aD (aP (i:=i) (j:=1) M aD (aB rfl)) aD hiT (ar hx (by decide))) hv.symm) aD)) λ_=>dX M (aS M (bP (zdm (y:=v) M aD aD) n1)) λ_=>bJ (aS M (bP (zdm (c:=10) (y:=v) M (aB rfl) aD) n2))) (λh=>by(exfalso;cases h)) (λ_=>?_))
 refine h4.elim (a3 λe1 e2 e3=>?_) (a3 λe1 e2 e3=>?_)
 ·subst e2;subst e3
  refine aA (bI M (decide (T=U.length)) (aS M (jN M aD (cQ M ⋯ rfl rfl ∅ aD))) (λh=>absurd (bK e1) (by rw[of_decide_eq_true h];exact em _)) (λ_=>?_))
  exact aA (aM M (.tup [.int (T+1:Nat),.str []]) (bH M (aC M (bW (c:=decide (c=c)) M (aS M (yK M (bR M rfl aD aD e1) aD)) (λ_=>aP (i:=T) (j:=1) M aD (aB rfl)) (λh=>absurd rfl (of_decide_eq_false h))) (aC M (aB rfl) aG))) ⟨_,aQ _ _ rfl,hK⟩)
 ·subst e2;subst e3
  have hT:q=U.length:=fx hTl (aw λh=>by replace e1:=(ah h)▸e1;(exfalso;cases e1))
  refine aA (bI M (decide (q=U.length)) (aS M (jN M aD (cQ M ⋯ rfl rfl ∅ aD))) (λ_=>?_) (λh=>absurd hT (of_decide_eq_false h)))
  exact aA (aM M (.tup [.int q,.str (lcS "eof-in-string")]) (bH M (aC M aD (aC M (aB rfl) aG))) ⟨_,aQ _ _ rfl,hK⟩)
noncomputable def cAd:Ctx:=mkC [("_law_address_opens",zf8),("_law_good_address",o9),("_law_blanks",lI)] [] false [] []
theorem zg4:∀e∈[("_law_address_opens",zf8),("_law_good_address",o9),("_law_blanks",lI)],aW e.2:=by
 simp only[bb,bu,or_false];rintro e (rfl|rfl|rfl)
 ·exact t8
 ·exact wO
 ·exact lH
theorem yW:CtxMono cAd:=bN zg4 (by simp)
noncomputable def zdV:Fn:=λps K=>∃(U:List Nat) (i:Nat) (v:List Nat) (q:Nat) (o:List Nat),ps=[.str U,.int i,.str v]/\Tx U/\i<=U.length/\UrlK U i v q o/\K (.tup [.int q,.str o])
theorem zaS:aW zdV:=λ_ _ _ h=>e5 λ_ _ _ _ _=>c4 (h _)
theorem v0{U:List Nat}{i:Nat}(h:hW (U.drop i)=true):i+4<=U.length:=by
 have:=(ag.mp h).2
 rw[bw]at this
 exact bK (eq_of_beq this)
theorem Tx.cut{U:List Nat}(t:Tx U)(i n:Nat):Tx ((U.drop i).take n):=⟨af (gH _ _ _) t.len,λc hc=>t.al c (fz (jf hc))⟩
theorem zfW(U:List Nat)(i:Nat)(v:List Nat)(q:Nat)(o:List Nat)(K:PV->Prop)(t:Tx U)(hi:i<=U.length)(hv:UrlK U i v q o)(hK:K (.tup [.int q,.str o])):wSs cAd (cV (aK H0 853)) (aV H0 853) (gQ K) ⟨bB [("mended",.str U),("at",.int i),("value",.str v)] (λ_=>none),λ_=>none⟩:=by
 have M:=yW
 refine a2 (λhA=>x2 λs f=>a4 λhs hv hf h4=>?_) hv
 have hi4:=v0 hA
 have hsl:s<=U.length:=hs▸aZ (n:=i+4) hi4 (dG _)
 have hel:s+dF (U.drop s)<=U.length:=aZ hsl (kI _)
 have hfl:f<=U.length:=hf▸aZ hel (dG _)
 have hgood:v.all (λc=>!jE c)=true:=by
  rw[hv,show(U.drop s).take (dF (U.drop s))=(U.drop s).takeWhile λc=>!jE c from(fb.mp (gr _)).symm]
  exact im
 have htv:Tx v:=hv▸t.cut _ _
 have hvl:v.length=dF (U.drop s):=by rw[hv,bz];exact ce (kI _)
 generalize dF (U.drop s)=n at hv hf hel hvl
 have hx:=t.lt hel
 have hsv:(U.drop s).take (s+n - s)=v:=by rw[bx];exact hv.symm
 clear hv
 (apply nfe;case h=>(show ?ya46=?yb46;refine(?_:∀_:(?ya46=?yb46),(?ya46=?yb46)) ?_;rotate_left;(conv=>lhs;whnf;dsimp only[lU,erS,erE,fF,erO]);exactλ_=>by kernel_rfl!))
 refine aA (bI M (!hW (U.drop i)||!(v.all λc=>!jE c)) (dX M (eR M (aS M (aR (F:=zf8) M ⋯ rfl (aC M (v:=.str U) aD (aC M (v:=.int i) aD aG)) ⟨U,i,rfl,t,ar (t.lt hi) (by decide),.inl rfl,rfl⟩))) λ_=>bJ (eR M (aS M (aR (F:=o9) M ⋯ rfl (aC M (v:=.str v) aD aG) ⟨v,rfl,htv,.inl rfl,rfl⟩)))) (λh=>by(replace h:=hA▸h;replace h:=hgood▸h);(exfalso;cases h)) (λ_=>?_))
 refine aA (aH M (.int s) (hs▸aR (F:=lI) M ⋯ rfl (aC M (v:=.str U) aD (aC M (v:=.int (i+4:Nat)) (aP (i:=i) (j:=4) M aD (aB rfl)) aG)) ⟨U,i+4,rfl,t,hi4,.inl rfl,rfl⟩) ∅ ?_)
 have elen:∀{ρ:fD}{σ:Nat->Option Cell}{p1 p2 p3 p4 p5:Pos},ρ "first"=some (.int s)->ρ "value"=some (.str v)->ev cAd (cV (aK H0 853)) (.BinOp (.Name (ae "first") p1) .Add (.Call (.Name (ae "len") p2) [.Name (ae "value") p3] [] p4) p5) ⟨ρ,σ⟩ (.int (s+n:Nat)):=λg1 g2=>gG (aP (i:=s) (j:=v.length) M (aE ⋯ g1) (cQ M ⋯ rfl rfl ∅ (aE ⋯ g2))) (by rw[hvl];rfl)
 refine aA (aH M (.int f) (hf▸aR (F:=lI) M ⋯ rfl (aC M (v:=.str U) aD (aC M (v:=.int (s+n:Nat)) (elen ⋯ ⋯) aG)) ⟨U,s+n,rfl,t,hel,.inl rfl,rfl⟩) ∅ ?_)
 refine aA (bI M false (aS M (d4 (x:=v) M (jY (gW M aD aD (elen ⋯ ⋯) (am s n) (ar hx (by decide))) hsv) aD)) (λh=>by(exfalso;cases h)) (λ_=>?_))
 refine h4.elim (a3 λe1 e2 e3=>?_) (a3 λe1 e2 e3=>?_)
 ·subst e2;subst e3
  refine aA (bI M (decide (U.length<=f)) (aS M (qP M aD (cQ M ⋯ rfl rfl ∅ aD))) (λh=>absurd (bK e1) (Nat.not_lt_of_le (of_decide_eq_true h))) (λ_=>?_))
  exact aA (aM M (.tup [.int (f+1:Nat),.str []]) (bH M (aC M (bW (c:=decide (41=41)) M (aS M (cS M (bR M rfl aD aD e1) ∅)) (λ_=>aP (i:=f) (j:=1) M aD (aB rfl)) (λh=>by(exfalso;cases h))) (aC M (aB rfl) aG))) ⟨_,aQ _ _ rfl,hK⟩)
 ·subst e2;subst e3
  have hT:U.length<=q:=aw λh=>by replace e1:=(ah h)▸e1;(exfalso;cases e1)
  refine aA (bI M (decide (U.length<=q)) (aS M (qP M aD (cQ M ⋯ rfl rfl ∅ aD))) (λ_=>?_) (λh=>absurd hT (of_decide_eq_false h)))
  exact aA (aM M (.tup [.int q,.str (lcS "eof-in-url")]) (bH M (aC M aD (aC M (aB rfl) aG))) ⟨_,aQ _ _ rfl,hK⟩)
section
theorem zao(hB:BsOk (bs w.params h mb))(hmb:HMb mb):Meets prog w (bs w.params h mb) 1 (.ref 839) t7:=by
 refine aU (k:=3) (params:=["mended","at","value"]) (dv:=[]) (dp:=[]) hB (lO hmb) ∅ ∅ ∅ rfl (λ_=>.nil) (λS vals hl=>?_) λps K=>x4 λU i v q=>a5 λh1 h2 h3 h4 h5=>?_
 ·refine x3 (λa b c zr3=>?_) (eF hl);subst zr3
  kernel_rfl
 ·subst h1
  exact⟨rfl,zcO U i v q K h2 h3 h4 h5⟩
theorem zal(hB:BsOk (bs w.params h mb))(hmb:HMb mb):Meets prog w (bs w.params h mb) 1 (.ref 846) t5:=by
 refine aU (k:=3) (params:=["mended","at","value"]) (dv:=[]) (dp:=[]) hB (lO hmb) ∅ ∅ ∅ rfl (λ_=>.nil) (λS vals hl=>?_) λps K=>x6 λU i c v q o=>a5 λh1 h2 h3 h4 h5=>?_
 ·refine x3 (λa b c zr3=>?_) (eF hl);subst zr3
  kernel_rfl
 ·subst h1
  exact⟨rfl,zcJ U i c v q o K h2 h3 h4 h5⟩
theorem zg3(hB:BsOk (bs w.params h mb))(hmb:HMb mb):CtxOk prog w (bs w.params h mb) cAd 2:=
 c7 hmb zg4 (by simp) (by simp) (λe he=>by
  simp only[bb,bu,or_false]at he
  rcases he with rfl|rfl|rfl
  ·exact⟨.ref 790,by kernel_rfl,(xQ hB hmb).le (by decide)⟩
  ·exact⟨.ref 804,by kernel_rfl,zar hB hmb⟩
  ·exact⟨.ref 755,by kernel_rfl,(mX hB hmb).le (by decide)⟩) (by simp) (by simp)
theorem zcG(hB:BsOk (bs w.params h mb))(hmb:HMb mb):Meets prog w (bs w.params h mb) 3 (.ref 853) zdV:=by
 refine aU (k:=3) (params:=["mended","at","value"]) (dv:=[]) (dp:=[]) hB (zg3 hB hmb) ∅ ∅ ∅ rfl (λ_=>.nil) (λS vals hl=>?_) λps K=>x5 λU i v q o=>a5 λh1 h2 h3 h4 h5=>?_
 ·refine x3 (λa b c zr3=>?_) (eF hl);subst zr3
  kernel_rfl
 ·subst h1
  exact⟨rfl,zfW U i v q o K h2 h3 h4 h5⟩
end
theorem zgs{c:Nat}{v:List Nat}(h:v.length≠1):decide ([c]=v)=false:=decide_eq_false λe=>h (e▸rfl)
theorem zjr(d c:Nat):decide ([d]=[c])=decide (d=c):=decide_eq_decide.mpr ⟨λh=>(List.cons.inj h).1,λh=>h▸rfl⟩
section
variable {C:Ctx}{H:Kn}
theorem tB{l r:Expr}{p:Pos}{J:St}{d c:Nat}(M:CtxMono C)(h1:ev C H l J (.str [d]))(h2:ev C H r J (.str [c])):ev C H (.Compare l [.NotEq] [r] p) J (.bool (d !=c)):=bP (zgG M h1 h2) (congrArg not (zjr d c))
theorem zgI{e:Expr}{q1 q2 q3:Str}{k1 k2 k3 k4:Nat}{p1 p2 p3 p4 p:Pos}{J:St}{x u v t:List Nat}(M:CtxMono C)(h:ev C H e J (.str x))(e1:q1.cps.toList=u)(e2:q2.cps.toList=v)(e3:q3.cps.toList=t):
  ev C H (.Compare e [.In] [.Tuple [.Constant (.str q1) k1 p1,.Constant (.str q2) k2 p2,.Constant (.str q3) k3 p3] k4 p4] p) J (.bool (decide (x∈([u,v,t]:List (List Nat))))):=by
 subst e1;subst e2;subst e3
 exact bL (a:=.str x) M h (bH M (aC M (aB rfl) (aC M (aB rfl) (aC M (aB rfl) aG)))) ⟨[q1.cps.toList,q2.cps.toList,q3.cps.toList],rfl,rfl⟩
theorem zgm{t:Expr}{x:Str}{kk:Nat}{px pc pa pw:Pos}{Q:Fl->St->Prop}{ρ:fD}{σ:Nat->Option Cell}(M:CtxMono C)(f:Nat->Bool)(U:List Nat)(i:Nat)(hi:i<=U.length)(hs:cY H x=true)
  (test:∀e,tv C H t ⟨upd ρ x (.int (e:Nat)),σ⟩ ((U[e]?).any f))
  (k:Q .next ⟨upd ρ x (.int (i+((U.drop i).takeWhile f).length:Nat)),σ⟩):wS C H (.While t [.AugAssign (.Name x px) .Add (.Constant (.int 1) kk pc) pa] [] pw) Q ⟨upd ρ x (.int i),σ⟩:=by
 generalize hT:i+((U.drop i).takeWhile f).length=T at k
 refine eG M (λn J=>∃e:Nat,n=U.length - e/\J=⟨upd ρ x (.int e),σ⟩/\e<=U.length/\e+((U.drop e).takeWhile f).length=T) ?_ (U.length - i) _ ⟨i,rfl,rfl,hi,hT⟩
 refineλn J=>x1 λe=>a4 λhnn h1 h2 h3=>⟨(U[e]?).any f,h1▸test e,λhc=>?_,λhc=>?_⟩
 ·subst h1
  by_cases hl:e<U.length
  ·rw[ak hl,dh,show f U[e]=true by rw[ah hl]at hc;exact hc,if_pos rfl]at h3
   exact aA (b8 M (.int e) (.int 1) (za6 _ _ _) (aB rfl) hs (of_eq bM ⟨U.length - (e+1),hnn▸dd hl (av e),e+1,rfl,congrArg (St.mk · σ) (uF _ _ _ _),hl,by rw[<- h3,dm];rfl⟩))
  ·rw[bt (aw hl)]at hc;(exfalso;cases hc)
 ·subst h1
  have:(U.drop e).takeWhile f=[]:=by
   by_cases hl:e<U.length
   ·rw[ak hl,dh,show f U[e]=false by rw[ah hl]at hc;exact hc];rfl
   ·rw[az (aw hl)];rfl
  rw[this]at h3
  have h3:e=T:=h3
  subst h3
  exact k
end
noncomputable def zdT:Fn:=λps K=>∃(U:List Nat) (i c:Nat) (k:List Nat) (q:Nat),ps=[.str U,.int i,.str k]/\Tx U/\U[i]?=some c/\ErrK U i c k q/\K (.int q)
theorem zaQ:aW zdT:=λ_ _ _ h=>e5 λ_ _ _ _ _=>c4 (h _)
theorem zg8{U:List Nat}{e:Nat}{f:Nat->Bool}{b:Bool}(h:∀d,U[e]?=some d->b=f d):(decide (e<U.length)&&b)=(U[e]?).any f:=by
 by_cases hl:e<U.length
 ·rw[decide_eq_true hl,ah hl,eo];exact h _ (ah hl)
 ·rw[decide_eq_false hl,bt (aw hl)];rfl
theorem zcf(a b:Nat):PV.int (if(b:Int)<(a:Int)then(b:Int)else(a:Int))=.int (min a b:Nat):=by
 by_cases h:b<a
 ·rw[if_pos (fy.mpr h),ib (aq h)]
 ·rw[if_neg (λg=>h (fy.mp g)),ce (aw h)]
theorem zeR{U:List Nat}{s j m:Nat}(h1:s<=j)(h2:j<=m)(h:(U[j]?).any jE=true):(((U.drop s).take (m+1 - s)).all λc=>!jE c)=false:=by
 cases hg:U[j]? with
 |none=>rw[hg]at h;cases h
 |some c=>
  rw[hg]at h
  refine ek.mpr λk=>?_
  have:=ay.mp k c (fi (i:=j - s) (by rw[List.getElem?_take_of_lt (Nat.sub_lt_sub_right h1 (Nat.lt_succ_of_le h2)),bw,bp h1];exact hg))
  have h:jE c=true:=h
  rw[h]at this;cases this
theorem zfl(U:List Nat)(i c:Nat)(k:List Nat)(q:Nat)(K:PV->Prop)(t:Tx U)(hg:U[i]?=some c)(hv:ErrK U i c k q)(hK:K (.int q)):wSs cAd (cV (aK H0 860)) (aV H0 860) (gQ K) ⟨bB [("mended",.str U),("at",.int i),("kind",.str k)] (λ_=>none),λ_=>none⟩:=by
 have M:=yW
 have hl:=bK hg
 have hx:=t.lt (aq hl)
 (apply nfe;case h=>(show ?ya47=?yb47;refine(?_:∀_:(?ya47=?yb47),(?ya47=?yb47)) ?_;rotate_left;(conv=>lhs;whnf;dsimp only[lU,erS,erE,fF,erO]);exactλ_=>by kernel_rfl!))
 refine aA (aH M (.str [c]) (bR M rfl aD aD hg) ∅ ?_)
 dsimp only[cG]
 refine aA (aH M (.int (i+1:Nat)) (aP (i:=i) (j:=1) M aD (aB rfl)) ∅ ?_)
 dsimp only[cG]
 refine hv.elim (a4 λhq e1 e2 e3=>?_) λhv=>hv.elim (a2 λe1 hb=>?_) (a3 λe1 e2 e3=>?_)
 ·subst e1
  have n3:decide (c∈[34,39])=true:=by rcases hq with rfl|rfl<;>rfl
  refine aA (bI M (true&&true) (bS M (aS M (bP (eZ (q:="bad-string") (x:=lcS "bad-string") M aD) (by decide+kernel))) λ_=>bJ (aS M (bP (dE M aD) n3))) (λ_=>?_) (λh=>by(exfalso;cases h)))
  refine aA (zgm M (λd=>d !=c&&d !=10) U (i+1) hl ∅ (λe=>?_) ?_)
  ·refine zhh (bS M (aS M (fC M aD (cQ M ⋯ rfl rfl ∅ aD))) λh=>?_) (zg8 (b:=(U[e]?).any λd=>d !=c&&d !=10) λd hd=>by refine hd.symm▸?_;rfl)
   have hg':U[e]?=some (U[e]'(of_decide_eq_true h)):=ah _
   refine hg'.symm▸?_
   exact bS M (aS M (tB M (bR M rfl aD aD hg') aD)) λ_=>bJ (aS M (tB (c:=10) M (bR M rfl aD aD hg') (aB rfl)))
  ·have e2:i+1+((U.drop (i+1)).takeWhile λd=>d !=c&&d !=10).length=q:=e2.symm
   refine e2.symm▸?_
   dsimp only[cG]
   refine aA (aM M (.int q) (bW (c:=U[q]?==some 10) M (aS M (lN (o:=U[q]?) M (fE (e:=q) M aD aD (aP (i:=q) (j:=1) M aD (aB rfl)) (ar (t.lt (aq (bK e3))) (by decide))) ∅)) (λ_=>by exact aE ⋯ ⋯) (λh=>by replace h:=e3▸h;(exfalso;cases h))) ⟨_,aQ _ _ rfl,hK⟩)
 ·subst e1
  refine a2 (λhA=>x4 λs e j f=>a8 λhs he hq hquo hsj hji hfe hst=>?_) hb
  have hse:s<=e:=af hsj (af hji (aq hfe))
  have hA4:=v0 hA
  have hsl:s<=U.length:=hs▸aZ (n:=i+4) hA4 (dG _)
  have hel:e<=U.length:=he▸aZ hsl (zb2 _)
  have hxs:=t.lt hsl
  have hxe:=t.lt hel
  refine a2 (λhst hbf=>?_) hst
  refine aA (bI M (false&&false) (bS M (aS M (bP (eZ (q:="bad-string") (x:=lcS "bad-url") M aD) (by decide+kernel))) λh=>by(exfalso;cases h)) (λh=>by(exfalso;cases h)) (λ_=>?_))
  refine aA (bI M (true&&hW (U.drop i)) (bS M (aS M (bP (eZ (q:="bad-url") (x:=lcS "bad-url") M aD) (by decide+kernel))) λ_=>bJ (aS M (aR (F:=zf8) M ⋯ rfl (aC M (v:=.str U) aD (aC M (v:=.int i) aD aG)) ⟨U,i,rfl,t,ar hx (by decide),.inl rfl,rfl⟩))) (λ_=>?_) (λh=>by replace h:=hA▸h;(exfalso;cases h)))
  refine aA (aH M (.int s) (hs▸aR (F:=lI) M ⋯ rfl (aC M (v:=.str U) aD (aC M (v:=.int (i+4:Nat)) (aP (i:=i) (j:=4) M aD (aB rfl)) aG)) ⟨U,i+4,rfl,t,hA4,.inl rfl,rfl⟩) ∅ ?_)
  dsimp only[cG]
  refine aA (aH M (.int s) aD ∅ ?_)
  dsimp only[cG]
  refine aA (zgm M (λd=>d !=41) U s hsl ∅ (λe=>?_) ?_)
  ·refine zhh (bS M (aS M (fC M aD (cQ M ⋯ rfl rfl ∅ aD))) λh=>?_) (zg8 (b:=(U[e]?).any λd=>d !=41) λd hd=>by refine hd.symm▸?_;rfl)
   have hg':U[e]?=some (U[e]'(of_decide_eq_true h)):=ah _
   refine hg'.symm▸?_
   exact bJ (aS M (tB (c:=41) M (bR M rfl aD aD hg') (aB rfl)))
  have he2:s+((U.drop s).takeWhile λd=>d !=41).length=e:=he.symm
  refine he2.symm▸?_
  clear he2 he hs hv hb hA
  dsimp only[cG]
  refine aA (aH M (.int e) aD ∅ ?_)
  dsimp only[cG]
  refine aA (eG M (λn J=>∃m:Nat,n=m/\J=⟨upd (upd (upd (upd (upd (bB [("mended",.str U),("at",.int i),("kind",.str (lcS "bad-url"))] (λ_=>none)) "sign" (.str [c])) "end" (.int (i+1:Nat))) "first" (.int s)) "end" (.int e)) "last" (.int (m+1:Nat)),λ_=>none⟩/\f<=m/\m<e) ?_ (e - 1) _ ⟨e - 1,rfl,?_,Nat.le_sub_one_of_lt hfe,Nat.sub_lt (ai (dq _) hfe) Nat.zero_lt_one⟩)
  ·refineλn J=>x1 λm=>a4 λhnn h1 h2 h3=>?_
   subst h1
   have hg':U[m]?=some (U[m]'(aj h3 hel)):=ah _
   refine⟨decide (s<m+1)&&bT (U[m]'(aj h3 hel)),bS M (aS M (zjW (a:=m+1) (b:=s) M aD aD)) λ_=>bJ (kB _▸aS M (dE M (bR M rfl aD (gG (yB (i:=(m+1:Nat)) (j:=1) M aD (aB rfl)) (il m 1)) hg'))),λhc=>?_,λ_=>aX ?_⟩
   ·have hb:gX U m=true:=by unfold gX;refine hg'.symm▸?_;exact(ag.mp hc).2
    have hmf:f<m:=ij h2 λe=>by(replace hb:=e.symm▸hb;replace hb:=hbf▸hb);(exfalso;cases hb)
    refine aA (b8 M (.int (m+1:Nat)) (.int 1) ⋯ (aB rfl) ∅ ?_)
    cases m with
    |zero=>exact absurd hmf (jg _)
    |succ m=>exact⟨m,hnn▸av m,m,rfl,(congrArg (St.mk · _) (uF _ _ _ _)).trans (congrArg (λa:Int=>St.mk (upd _ _ (.int a)) _) (il ((m+1:Nat):Int) 1)),iu hmf,fg h3⟩
   ·have hm:m+1<2000000:=ar (ai h3 hxe) (by decide)
    have hsm:s<=m+1:=cq (af hsj (af hji h2))
    dsimp only[cG]
    refine aA (bI M (false||false) (dX M (aS M (bP (tD M (fE (e:=s) M aD aD (aP (i:=s) (j:=1) M aD (aB rfl)) (ar hxs (by decide))) ∅ ∅) ((pY U[s]? 34 39).trans hquo))) λ_=>bJ (aS M (aR (F:=o9) M ⋯ rfl (aC M (gW (i:=s) (j:=m+1) M aD aD aD hsm hm) aG) ⟨_,rfl,t.cut _ _,.inl rfl,congrArg PV.bool (zeR hsj (af hji h2) hst)⟩))) (λh=>by(exfalso;cases h)) (λ_=>?_))
    refine aA (aM M (.int (min (e+1) U.length:Nat)) (kX M ⋯ rfl rfl ∅ (aC M (v:=.int (e+1:Nat)) (aP (i:=e) (j:=1) M aD (aB rfl)) (aC M (v:=.int (U.length:Nat)) (cQ M ⋯ rfl rfl ∅ aD) aG)) (of_eq (B:=PV.int (if((U.length:Nat):Int)<((e+1:Nat):Int)then((U.length:Nat):Int)else((e+1:Nat):Int))=.int (min (e+1) U.length:Nat)) ∅ (zcf _ _))) ⟨_,aQ _ _ rfl,hq▸hK⟩)
  ·exact(Nat.sub_add_cancel (ai (dq _) hfe)).symm▸rfl
 ·subst e1;subst e3
  have hc:decide ([c]∈([[41],[93],[125]]:List (List Nat)))=true:=by
   rw[List.contains_cons,List.contains_cons,List.contains_cons,List.contains_nil,gu,ey,ey]at e2
   rcases e2 with e2|e2|e2<;>(refine(eq_of_beq e2).symm▸?_;rfl)
  refine aA (bI M (false&&false) (bS M (aS M (bP (eZ (q:="bad-string") (x:=[c]) M aD) (zgs (by decide+kernel)))) λh=>by(exfalso;cases h)) (λh=>by(exfalso;cases h)) (λ_=>?_))
  refine aA (bI M (false&&false) (bS M (aS M (bP (eZ (q:="bad-url") (x:=[c]) M aD) (zgs (by decide+kernel)))) λh=>by(exfalso;cases h)) (λh=>by(exfalso;cases h)) (λ_=>?_))
  refine aA (aM M (.int (i+1:Nat)) (bW (c:=decide ([c]=[c])&&true) M (bS M (aS M (yJ (x:=[c]) (y:=[c]) M aD aD)) λ_=>bJ (aS M (bP (zgI M aD ∅ ∅ ∅) hc))) (λ_=>by exact aE ⋯ ⋯) (λh=>by rw[decide_eq_true rfl]at h;(exfalso;cases h))) ⟨_,aQ _ _ rfl,hK⟩)
theorem zcC(hB:BsOk (bs w.params h mb))(hmb:HMb mb):Meets prog w (bs w.params h mb) 3 (.ref 860) zdT:=by
 refine aU (k:=3) (params:=["mended","at","kind"]) (dv:=[]) (dp:=[]) hB (zg3 hB hmb) ∅ ∅ ∅ rfl (λ_=>.nil) (λS vals hl=>?_) λps K=>x5 λU i c k q=>a5 λh1 h2 h3 h4 h5=>?_
 ·refine x3 (λa b c zr3=>?_) (eF hl);subst zr3
  kernel_rfl
 ·subst h1
  exact⟨rfl,zfl U i c k q K h2 h3 h4 h5⟩
section
variable {C:Ctx}{H:Kn}
theorem zie{e:Expr}{q1 q2:Str}{k1 k2 k3:Nat}{p1 p2 p3 p:Pos}{J:St}{x u v:List Nat}(M:CtxMono C)(h:ev C H e J (.str x))(e1:q1.cps.toList=u)(e2:q2.cps.toList=v):
  ev C H (.Compare e [.NotIn] [.Tuple [.Constant (.str q1) k1 p1,.Constant (.str q2) k2 p2] k3 p3] p) J (.bool (!decide (x∈([u,v]:List (List Nat))))):=by
 subst e1;subst e2
 exact bL (a:=.str x) M h (bH M (aC M (aB rfl) (aC M (aB rfl) aG))) ⟨[q1.cps.toList,q2.cps.toList],rfl,rfl⟩
theorem qM{e:Expr}{p q:Pos}{J:St}{v:List Nat}(M:CtxMono C)(k:H "len"=some .globalImplicit)(hf:C.fn "len"=none)(hc:C.cls "len"=none)(hb:C.bi "len"=true)(h:ev C H e J (.str v)):ev C H (.Call (.Name (ae "len") q) [e] [] p) J (.int v.length):=
 kX M k hf hc hb (aC M h aG) (of_eq (B:=PV.int v.length=.int v.length) ∅ rfl)
theorem dT{x:Str}{e:Expr}{px p:Pos}{ss:List Stmt}{Q:Fl->St->Prop}{J:St}(M:CtxMono C)(v:PV)(h:ev C H e J v)(hs:cY H x=true)(k:wSs C H ss Q ⟨upd J.ρ x v,J.σ⟩):wSs C H (.Assign [.Name x px] e p ::ss) Q J:=aA (aH M v h hs k)
theorem hZ{e:Expr}{p:Pos}{ss:List Stmt}{Q:Fl->St->Prop}{J:St}(M:CtxMono C)(v:PV)(h:ev C H e J v)(k:Q (.ret v) J):wSs C H (.Return (some e) p ::ss) Q J:=aA (aM M v h k)
theorem gT{t:Expr}{b:List Stmt}{p:Pos}{ss:List Stmt}{Q:Fl->St->Prop}{J:St}(M:CtxMono C)(c:Bool)(h:tv C H t J c)(hc:c=true->False)(k:wSs C H ss Q J):wSs C H (.If t b [] p ::ss) Q J:=aA (bI M c h (λe=>(hc e).elim) λ_=>aX k)
theorem zhm{t:Expr}{b o:List Stmt}{p:Pos}{ss:List Stmt}{Q:Fl->St->Prop}{J:St}(M:CtxMono C)(h:tv C H t J false)(k:wSs C H o (cG (λst1=>wSs C H ss Q st1) Q) J):wSs C H (.If t b o p ::ss) Q J:=aA (bI M false h (λe=>nomatch e) λ_=>k)
theorem w8{t:Expr}{b o:List Stmt}{p:Pos}{ss:List Stmt}{Q:Fl->St->Prop}{J:St}(M:CtxMono C)(h:tv C H t J true)(k:wSs C H b (cG (λst1=>wSs C H ss Q st1) Q) J):wSs C H (.If t b o p ::ss) Q J:=aA (bI M true h (λ_=>k) λe=>nomatch e)
end
noncomputable def cNm:Ctx:=mkC [("_law_opens_name",lV),("_law_whole_name",iR),("_law_mark",lR),("_law_range_opens",zhc),("_law_blanks",lI),("_law_address_opens",zf8)] [] false [] []
theorem zg1:∀e∈[("_law_opens_name",lV),("_law_whole_name",iR),("_law_mark",lR),("_law_range_opens",zhc),("_law_blanks",lI),("_law_address_opens",zf8)],aW e.2:=by
 simp only[bb,bu,or_false];rintro e (rfl|rfl|rfl|rfl|rfl|rfl)
 ·exact lF
 ·exact lQ
 ·exact nP
 ·exact tW
 ·exact lH
 ·exact t8
theorem zfI:CtxMono cNm:=bN zg1 (by simp)
noncomputable def NmK(U:List Nat)(i c cl:Nat)(fs:List PV)(v:List Nat)(q:Nat)(ty:List Nat):Prop:=
 (ty=lcS "at-keyword"/\ (cNm.slot cl "value").bind (λi=>fs[i]?)=some (.str v)/\c=64/\NameK U (i+1) v q)
 \/ (ty=lcS "hash"/\ (cNm.slot cl "value").bind (λi=>fs[i]?)=some (.str v)/\(cNm.slot cl "is_identifier").bind (λi=>fs[i]?)=some (.bool (aO (U.drop (i+1))))/\c=35/\(U[i+1]?).any bC=true/\q=i+1+aY (U.drop (i+1))/\v=(U.drop (i+1)).take (aY (U.drop (i+1))))
 \/ (ty=lcS "ident"/\ (cNm.slot cl "value").bind (λi=>fs[i]?)=some (.str v)/\NameK U i v q/\U[q]?≠some 40/\[45,45,62].isPrefixOf (U.drop i)=false/\pO (U.drop i)=false)
 \/ (ty=lcS "function"/\ (cNm.slot cl "name").bind (λi=>fs[i]?)=some (.str v)/\∃e,NameK U i v e/\U[e]?=some 40/\q=e+1/\(hW (U.drop i)=true->quo U[q+a9 (U.drop q)]?=true))
theorem zeU{x:List Nat}(h:(x[0]?).any bC=true):1<=aY x:=by
 cases x with
 |nil=>cases h
 |cons c r=>unfold aY;rw[dh,show bC c=true from h];exact df (dq _)
theorem zj9{x:List Nat}(h:[45,45,62].isPrefixOf x=false):decide (x.take 3=[45,45,62])=false:=decide_eq_false λe=>by
 replace h:=(dn.mpr (show [45,45,62] <+:x from e▸List.take_prefix 3 x))▸h;cases h
theorem zeV(U:List Nat)(i c cl:Nat)(fs:List PV)(v:List Nat)(q:Nat)(ty:List Nat)(K:PV->Prop)(t:Tx U)(hg:U[i]?=some c)(hty:cNm.slot cl "type"=none)(hcv:cNm.cval cl "type"=some (.str ty))(hv:NmK U i c cl fs v q ty)(hK:K (.int q)):wSs cNm (cV (aK H0 867)) (aV H0 867) (gQ K) ⟨bB [("mended",.str U),("at",.int i),("node",.inst cl fs)] (λ_=>none),λ_=>none⟩:=by
 have M:=zfI
 have hl:=bK hg
 have hx:=t.lt (aq hl)
 have hx1:=t.lt hl
 (apply nfe;case h=>(show ?ya48=?yb48;refine(?_:∀_:(?ya48=?yb48),(?ya48=?yb48)) ?_;rotate_left;(conv=>lhs;whnf;dsimp only[lU,erS,erE,fF,erO]);exactλ_=>by kernel_rfl!))
 have ewh:∀{e1 e2:Expr}{p1 p2 p3:Pos}{J:St}(j:Nat),J.ρ "mended"=some (.str U)->j<=U.length->v=(U.drop j).take (aY (U.drop j))->1<=aY (U.drop j)->ev cNm (cV (aK H0 867)) e1 J (.int (j:Nat))->ev cNm (cV (aK H0 867)) e2 J (.str v)->ev cNm (cV (aK H0 867)) (.Call (.Name (ae "_law_whole_name") p1) [.Name (ae "mended") p2,e1,e2] [] p3) J (.bool true):=λj g0 g1 g2 g3 g4 g5=>
  aR (F:=iR) M ⋯ rfl (aC M (v:=.str U) (aE ⋯ g0) (aC M g4 (aC M g5 aG))) ⟨U,j,v,rfl,t,g1,g2,g3,.inl rfl,rfl⟩
 have eop:∀{e1:Expr}{p1 p2 p3:Pos}{J:St}(j:Nat),J.ρ "mended"=some (.str U)->j<100000->ev cNm (cV (aK H0 867)) e1 J (.int (j:Nat))->ev cNm (cV (aK H0 867)) (.Call (.Name (ae "_law_opens_name") p1) [.Name (ae "mended") p2,e1] [] p3) J (.bool (aO (U.drop j))):=λj g0 g1 g4=>
  aR (F:=lV) M ⋯ rfl (aC M (v:=.str U) (aE ⋯ g0) (aC M g4 aG)) ⟨U,j,rfl,t,g1,.inl rfl,rfl⟩
 have tno:∀{p1 p2 p3:Pos}{k:Nat}(s:String) (ρ:fD) (σ:Nat->Option Cell),ρ "kind"=some (.str ty)->decide (ty=lcS s)=false->tv cNm (cV (aK H0 867)) (.Compare (.Name (ae "kind") p1) [.Eq] [.Constant (.str (ae s)) k p2] p3) ⟨ρ,σ⟩ false:=λs ρ σ g h=>aS M (bP (eZ (q:=s) M (aE ⋯ g)) h)
 have tye:∀{p1 p2 p3:Pos}{k:Nat}(s:String) (ρ:fD) (σ:Nat->Option Cell),ρ "kind"=some (.str ty)->ty=lcS s->tv cNm (cV (aK H0 867)) (.Compare (.Name (ae "kind") p1) [.Eq] [.Constant (.str (ae s)) k p2] p3) ⟨ρ,σ⟩ true:=λs ρ σ g h=>aS M (bP (eZ (q:=s) M (aE ⋯ g)) (decide_eq_true h))
 have esl:∀{x:String}{pv:PV}{p1 p2:Pos}(ρ:fD) (σ:Nat->Option Cell),(cNm.slot cl x).bind (λi=>fs[i]?)=some pv->ρ "node"=some (.inst cl fs)->ev cNm (cV (aK H0 867)) (.Attribute (.Name (ae "node") p1) (ae x) p2) ⟨ρ,σ⟩ pv:=λρ σ g1 g2=>iI ⋯ g2 g1
 refine dT M (.str ty) (qQ (fs:=fs) ⋯ ⋯ hty hcv) ∅ ?_
 refine hv.elim (a4 λe1 e2 e3 e4=>?_) λhv=>hv.elim (a7 λe1 e2 e3 e4 e5 e6 e7=>?_) λhv=>hv.elim (a6 λe1 e2 e3 e4 e5 e6=>?_) (a3 λe1 e2=>x1 λe=>a4 λe3 e4 e5 e6=>?_)
 ·subst e3
  have hn1:=kS (t.al.drop _) e4.1
  have hvl:v.length=aY (U.drop (i+1)):=by(refine e4.2.2.symm▸?_;refine bz.symm▸?_);exact ce (cW _)
  refine w8 M (tye "at-keyword" _ _ ⋯ e1) ?_
  refine gT M (false||(!aO (U.drop (i+1))||!true)) (dX M (aS M (tB (d:=64) (c:=64) M (bR M rfl aD aD hg) (aB rfl))) λ_=>dX M (eR M (aS M (eop (i+1) ⋯ (ar hx1 (by decide)) (aP (i:=i) (j:=1) M aD (aB rfl))))) λ_=>bJ (eR M (aS M (ewh (i+1) ⋯ hl e4.2.2 hn1 (aP (i:=i) (j:=1) M aD (aB rfl)) (esl _ _ e2 ⋯))))) (λh=>by replace h:=e4.1▸h;(exfalso;cases h)) ?_
  exact hZ M (.int (i+1+v.length:Nat)) (aP (i:=(i+1:Nat)) (j:=v.length) M (aP (i:=i) (j:=1) M aD (aB rfl)) (qM M ⋯ rfl rfl ∅ (esl _ _ e2 ⋯))) ⟨_,aQ _ _ rfl,by(refine hvl.symm▸?_;refine e4.2.1▸?_);exact hK⟩
 ·subst e4
  have hn1:=zeU (x:=U.drop (i+1)) (by rw[bZ];exact e5)
  have hvl:v.length=aY (U.drop (i+1)):=by(refine e7.symm▸?_;refine bz.symm▸?_);exact ce (cW _)
  refine gT M false (tno "at-keyword" _ _ ⋯ (by refine e1.symm▸?_;decide+kernel)) (λh=>by(exfalso;cases h)) ?_
  refine w8 M (tye "hash" _ _ ⋯ e1) ?_
  refine dT M (.str (uC (aO (U.drop (i+1))))) (bW (c:=aO (U.drop (i+1))) M (aS M (eop (i+1) ⋯ (ar hx1 (by decide)) (aP (i:=i) (j:=1) M aD (aB rfl)))) (λh=>by refine h.symm▸?_;exact aB rfl) (λh=>by refine h.symm▸?_;exact aB rfl)) ∅ ?_
  refine gT M (false||(!true||false)) (dX M (aS M (tB (d:=35) (c:=35) M (bR M rfl aD aD hg) (aB rfl))) λ_=>dX M (eR M (aS M (ewh (i+1) ⋯ hl e7 hn1 (aP (i:=i) (j:=1) M aD (aB rfl)) (esl _ _ e2 ⋯)))) λ_=>bJ (aS M (d4 (x:=uC (aO (U.drop (i+1)))) M (aR (F:=lR) M ⋯ rfl (aC M (esl _ _ e3 ⋯) aG) ⟨_,rfl,.inl rfl,rfl⟩) aD))) (λh=>by(exfalso;cases h)) ?_
  exact hZ M (.int (i+1+v.length:Nat)) (aP (i:=(i+1:Nat)) (j:=v.length) M (aP (i:=i) (j:=1) M aD (aB rfl)) (qM M ⋯ rfl rfl ∅ (esl _ _ e2 ⋯))) ⟨_,aQ _ _ rfl,by(refine hvl.symm▸?_;refine e6▸?_);exact hK⟩
 ·have hn1:=kS (t.al.drop _) e3.1
  have hvl:v.length=aY (U.drop i):=by(refine e3.2.2.symm▸?_;refine bz.symm▸?_);exact ce (cW _)
  have hq:i+v.length=q:=by refine hvl.symm▸?_;exact e3.2.1.symm
  have hqx:=t.lt (hq▸hvl▸aZ (aq hl) (cW _))
  refine gT M false (tno "at-keyword" _ _ ⋯ (by refine e1.symm▸?_;decide+kernel)) (λh=>by(exfalso;cases h)) ?_
  refine gT M false (tno "hash" _ _ ⋯ (by refine e1.symm▸?_;decide+kernel)) (λh=>by(exfalso;cases h)) ?_
  refine dT M (.str v) (bW (c:=false) M (tno "function" _ _ ⋯ (by refine e1.symm▸?_;decide+kernel)) (λh=>by(exfalso;cases h)) (λ_=>esl _ _ e2 ⋯)) ∅ ?_
  refine dT M (.int (i+v.length:Nat)) (aP (i:=i) (j:=v.length) M aD (qM M ⋯ rfl rfl ∅ aD)) ∅ ?_
  refine hq.symm▸?_
  refine gT M (!aO (U.drop i)||!true) (dX M (eR M (aS M (eop i ⋯ (ar hx (by decide)) aD))) λ_=>bJ (eR M (aS M (ewh i ⋯ (aq hl) e3.2.2 hn1 aD aD)))) (λh=>by replace h:=e3.1▸h;(exfalso;cases h)) ?_
  refine w8 M (tye "ident" _ _ ⋯ e1) ?_
  refine gT M (false||(false||pO (U.drop i))) (dX M (aS M (bP (lN (o:=U[q]?) M (fE (e:=q) M aD aD (aP (i:=q) (j:=1) M aD (aB rfl)) (ar hqx (by decide))) ∅) (beq_eq_false_iff_ne.mpr e4))) λ_=>dX M (aS M (bP (yJ (x:=(U.drop i).take (i+3 - i)) (y:=[45,45,62]) M (gW (i:=i) (j:=i+3) M aD aD (aP (i:=i) (j:=3) M aD (aB rfl)) (am i 3) (aj (Nat.add_lt_add_right hx 3) (by decide))) (aB rfl)) (by rw[bx];exact zj9 e5))) λ_=>bJ (aS M (aR (F:=zhc) M ⋯ rfl (aC M (v:=.str U) aD (aC M (v:=.int i) aD aG)) ⟨U,i,rfl,t,ar hx (by decide),.inl rfl,rfl⟩))) (λh=>by replace h:=e6▸h;(exfalso;cases h)) ?_
  exact hZ M (.int q) aD ⟨_,aQ _ _ rfl,hK⟩
 ·have hn1:=kS (t.al.drop _) e3.1
  have hvl:v.length=aY (U.drop i):=by(refine e3.2.2.symm▸?_;refine bz.symm▸?_);exact ce (cW _)
  have hq:i+v.length=e:=by refine hvl.symm▸?_;exact e3.2.1.symm
  have hel:=bK e4
  have hqx:=t.lt (aq hel)
  have hel1:q<=U.length:=e5▸hel
  have hbx:=t.lt (aZ hel1 (dG _))
  refine gT M false (tno "at-keyword" _ _ ⋯ (by refine e1.symm▸?_;decide+kernel)) (λh=>by(exfalso;cases h)) ?_
  refine gT M false (tno "hash" _ _ ⋯ (by refine e1.symm▸?_;decide+kernel)) (λh=>by(exfalso;cases h)) ?_
  refine dT M (.str v) (bW (c:=true) M (tye "function" _ _ ⋯ e1) (λ_=>esl _ _ e2 ⋯) (λh=>by(exfalso;cases h))) ∅ ?_
  refine dT M (.int (i+v.length:Nat)) (aP (i:=i) (j:=v.length) M aD (qM M ⋯ rfl rfl ∅ aD)) ∅ ?_
  refine hq.symm▸?_
  refine gT M (!aO (U.drop i)||!true) (dX M (eR M (aS M (eop i ⋯ (ar hx (by decide)) aD))) λ_=>bJ (eR M (aS M (ewh i ⋯ (aq hl) e3.2.2 hn1 aD aD)))) (λh=>by replace h:=e3.1▸h;(exfalso;cases h)) ?_
  refine gT M false (tno "ident" _ _ ⋯ (by refine e1.symm▸?_;decide+kernel)) (λh=>by(exfalso;cases h)) ?_
  refine gT M false (aS M (bP (zgG (x:=(U[e]?).toList) (y:=[40]) M (fE (e:=e) M aD aD (aP (i:=e) (j:=1) M aD (aB rfl)) (ar hqx (by decide))) (aB rfl)) (by refine e4.symm▸?_;rfl))) (λh=>by(exfalso;cases h)) ?_
  refine dT M (.int (q+a9 (U.drop q):Nat)) (aR (F:=lI) M ⋯ rfl (aC M (v:=.str U) aD (aC M (v:=.int q) (e5▸aP (i:=e) (j:=1) M aD (aB rfl)) aG)) ⟨U,q,rfl,t,hel1,.inl rfl,rfl⟩) ∅ ?_
  generalize q+a9 (U.drop q)=g at e6 hbx
  refine gT M (hW (U.drop i)&&!quo U[g]?) (bS M (aS M (aR (F:=zf8) M ⋯ rfl (aC M (v:=.str U) aD (aC M (v:=.int i) aD aG)) ⟨U,i,rfl,t,ar hx (by decide),.inl rfl,rfl⟩)) λ_=>bJ (aS M (bP (zie M (fE (e:=g) M aD aD (aP (i:=g) (j:=1) M aD (aB rfl)) (ar hbx (by decide))) ∅ ∅) (congrArg not (pY U[g]? 34 39))))) (λh=>?_) ?_
  ·rw[e6 (ag.mp h).1,Bool.and_comm]at h;(exfalso;cases h)
  exact hZ M (.int (e+1:Nat)) (aP (i:=e) (j:=1) M aD (aB rfl)) ⟨_,aQ _ _ rfl,e5▸hK⟩
noncomputable def zdQ:Fn:=λps K=>∃(U:List Nat) (i c cl:Nat) (fs:List PV) (q:Nat) (ty:List Nat),ps=[.str U,.int i,.inst cl fs]/\Tx U/\U[i]?=some c/\cNm.slot cl "type"=none/\cNm.cval cl "type"=some (.str ty)/\(∃v,NmK U i c cl fs v q ty)/\K (.int q)
theorem zaN:aW zdQ:=λ_ _ _ h=>e7 λ_ _ _ _ _ _ _ h'=>⟨h'.1,h'.2.1,h'.2.2.1,h'.2.2.2.1,h'.2.2.2.2.1,h'.2.2.2.2.2.1,h _ h'.2.2.2.2.2.2⟩
theorem zcz(hB:BsOk (bs w.params h mb))(hmb:HMb mb):Meets prog w (bs w.params h mb) 4 (.ref 867) zdQ:=by
 have hC:CtxOk prog w (bs w.params h mb) cNm 3:=c7 hmb zg1 (by simp) (by simp) (λe he=>by
  simp only[bb,bu,or_false]at he
  rcases he with rfl|rfl|rfl|rfl|rfl|rfl
  ·exact⟨.ref 741,by kernel_rfl,(mW hB hmb).le (by decide)⟩
  ·exact⟨.ref 748,by kernel_rfl,mV hB hmb⟩
  ·exact⟨.ref 825,by kernel_rfl,(oU hB hmb).le (by decide)⟩
  ·exact⟨.ref 776,by kernel_rfl,(xP hB hmb).le (by decide)⟩
  ·exact⟨.ref 755,by kernel_rfl,(mX hB hmb).le (by decide)⟩
  ·exact⟨.ref 790,by kernel_rfl,(xQ hB hmb).le (by decide)⟩) (by simp) (by simp)
 refine aU (k:=3) (params:=["mended","at","node"]) (dv:=[]) (dp:=[]) hB hC ∅ ∅ ∅ rfl (λ_=>.nil) (λS vals hl=>?_) λps K=>x7 λU i c cl fs q ty=>a7 λh1 h2 h3 h4 h5 h6 h7=>?_
 ·refine x3 (λa b c zr3=>?_) (eF hl);subst zr3
  kernel_rfl
 ·subst h1
  exact⟨rfl,x1 (λv h6=>zeV U i c cl fs v q ty K h2 h3 h4 h5 h6 h7) h6⟩
theorem zgp{U:List Nat}{i:Nat}(h:pO (U.drop i)=true):i+2<=U.length:=by
 have:=(ag.mp (ag.mp h).1).2
 rw[bw]at this
 exact bK (eq_of_beq this)
theorem NameK.bd{U v:List Nat}{p q:Nat}(ha:Al U)(hp:p<=U.length)(h:NameK U p v q):p<q/\q<=U.length:=by
 rw[h.2.1]
 exact⟨bg (kS (ha.drop _) h.1),aZ hp (cW _)⟩
theorem LitK.bd{U v:List Nat}{p:Nat}(hp:p<=U.length)(h:LitK (U.drop p) v):p<p+v.length/\p+v.length<=U.length:=by
 refine h.elim (a2 λh1 h2=>⟨bg (List.length_pos_iff.mpr λe=>?_),iC hp h2⟩) (x2 λc r=>a3 λh1 h2 _=>?_)
 ·rw[e]at h1;revert h1;decide+kernel
 ·rw[h2];exact⟨av p,aZ (m:=1) hp (by rw[h1];exact df (dq _))⟩
theorem ErrK.bd{U k:List Nat}{p c q:Nat}(hg:U[p]?=some c)(h:ErrK U p c k q):p<q/\q<=U.length:=by
 refine h.elim (a4 λ_ _ e g=>⟨e▸fq _ (av p),aq (bK g)⟩) λh=>h.elim (λh=>a2 (λhA=>x4 λs e j f=>a8 λhs he hq _ hsj hji hfe _=>?_) h.2) (a3 λ_ _ e=>e▸⟨av p,bK hg⟩)
 rw[hq]
 have hps:p<s:=hs▸fq _ (bg (by decide))
 exact⟨Nat.lt_min.mpr ⟨dl (aj hps (af hsj (af hji (aq hfe)))),bK hg⟩,du _ _⟩
theorem StrK.bd{U v o:List Nat}{p c q:Nat}(hg:U[p]?=some c)(h:StrK U p c v q o):p<q/\q<=U.length:=by
 refine a2 (λ_=>x1 λT=>a3 λhT _ h4=>?_) h
 have h1:p<T:=hT▸fq _ (av p)
 refine h4.elim (a3 λe1 e2 _=>e2▸⟨dl h1,bK e1⟩) (a3 λe1 e2 _=>e2▸⟨h1,hT▸aZ (n:=p+1) (bK hg) (pT _ _)⟩)
theorem UrlK.bd{U v o:List Nat}{p q:Nat}(h:UrlK U p v q o):p<q/\q<=U.length:=by
 refine a2 (λhA=>x2 λs f=>a4 λhs _ hf h4=>?_) h
 have hsl:s<=U.length:=hs▸aZ (n:=p+4) (v0 hA) (dG _)
 have hps:p<s:=hs▸fq _ (bg (by decide))
 have h1:p<f:=hf▸aj hps (af (am _ _) (am _ _))
 refine h4.elim (a3 λe1 e2 _=>e2▸⟨dl h1,bK e1⟩) (a3 λe1 e2 _=>e2▸⟨h1,hf▸aZ (aZ hsl (kI _)) (dG _)⟩)
theorem ComK.bd{U v:List Nat}{p q:Nat}(hp:p<=U.length)(h:ComK U p v q):p<q/\q<=U.length:=by
 refine a4 (λh1 _ h3 h4=>?_) h
 have hi2:p+2<=U.length:=iC hp h1
 refine h4.elim (a2 λ_ e=>(by rw[e];exact⟨aj (bg (Nat.zero_lt_succ 1)) hi2,bh _⟩)) (a2 λe1 e2=>?_)
 rw[e2]
 refine⟨fq _ (fq _ (bg (by decide))),iC (aZ hi2 ?_) e1⟩
 have:=congrArg ip h3
 rw[bz]at this
 rw[this];exact du _ _
theorem xK{U:List Nat}{p c q:Nat}{t:Tk}{o:List Nat}(ha:Al U)(hg:U[p]?=some c)(h:NxT U p c t q o):p<q/\q<=U.length:=by
 have hl:=bK hg
 have hp:=aq hl
 have hz:∀{z iv r},zha U p z iv r->1<=z/\p+z<=U.length:=x1 λb h=>⟨(xL h.1).1,aZ hp (xL h.1).2⟩
 cases t with
 |ws v=>
  rw[h.2.2.1]
  refine⟨bg ?_,aZ hp (dG _)⟩
  rw[ak hl,Option.some.inj ((ah hl).symm.trans hg)]
  unfold a9
  rw[dh,h.2.1];exact gz _
 |rng a b=>
  rw[h.2.2.1]
  exact⟨fq _ (bg (by decide)),aZ (zgp h.2.1) zbU⟩
 |lit v=>rw[h.2.2];exact h.2.1.bd hp
 |ident v=>exact h.2.1.bd ha hp
 |atk v=>exact(h.2.2.bd ha hl).imp_left fg
 |hash v b=>rw[h.2.2.2.2.1];exact⟨fq _ (av p),aZ (n:=p+1) hl (cW _)⟩
 |str v=>exact StrK.bd hg h
 |url v=>exact UrlK.bd h
 |num iv r=>exact x1 (λz (h:zha U p z iv r/\aO (U.drop (p+z))=false/\U[p+z]?≠some 37/\q=p+z)=>⟨h.2.2.2▸bg (hz h.1).1,h.2.2.2▸(hz h.1).2⟩) h.2
 |pct iv r=>exact x1 (λz (h:zha U p z iv r/\U[p+z]?=some 37/\q=p+z+1)=>⟨h.2.2▸dl (bg (hz h.1).1),h.2.2▸bK h.2.1⟩) h.2
 |dim iv r u=>exact x1 (λz h=>(h.2.bd ha (hz h.1).2).imp_left (ar (bg (hz h.1).1))) h.2
 |com v=>exact h.2.bd hp
 |err k m=>exact h.2.bd hg
noncomputable def nY(c:Nat):Bool:=c==40||c==91||c==123
noncomputable def uV(U:List Nat)(p:Nat):Nat:=(U.drop p).countP nY
theorem l6{U:List Nat}{p q:Nat}(h:p<=q):uV U q<=uV U p:=(List.drop_sublist_drop_left _ h).countP_le
theorem zgr{U:List Nat}{p j x:Nat}(h:p<=j)(hg:U[j]?=some x)(hx:nY x=true):uV U (j+1)<uV U p:=by
 have hl:=bK hg
 refine aj (ii (av _) ?_) (l6 h)
 unfold uV
 rw[ak hl,Option.some.inj ((ah hl).symm.trans hg),List.countP_cons_of_pos hx]
theorem zkf{U:List Nat}{p c s:Nat}{b:Bk}(ha:Al U)(hg:U[p]?=some c)(h:ziL U p c b s):p<s/\s<=U.length/\uV U s<uV U p:=by
 have hl:=bK hg
 have key:c=40\/c=91\/c=123->s=p+1->p<s/\s<=U.length/\uV U s<uV U p:=λh e=>e▸⟨av p,hl,zgr (bh p) hg (by rcases h with rfl|rfl|rfl<;>rfl)⟩
 cases b with
 |par=>exact key (.inl h.1) h.2
 |sqr=>exact key (.inr (.inl h.1)) h.2
 |cur=>exact key (.inr (.inr h.1)) h.2
 |fn v=>exact x1 (λq h=>by
   have:=h.1.bd ha (aq hl)
   rw[h.2.2.1]
   exact⟨dl this.1,bK h.2.1,zgr (aq this.1) h.2.1 rfl⟩) h
theorem zcP{U:List Nat}(ha:Al U){cl:Option Nat}{p:Nat}{E:List PV}{r:Nat}(h:Lay U cl p E r):p<=U.length->p<=r/\r<=U.length/\E.length+2*p<=2*r:=by
 have J:∀{p q r k:Nat}{n:Nat},p<q->n<=2->k+2*q<=2*r->(k+n)+2*p<=2*r:=λ{p q r k n} h1 h2 h3=>by
  refine af ?_ h3
  rw[bl]
  refine cc (af (gd h2 _) ?_) k
  rw[bn,show 2*p+2=2*(p+1)from rfl]
  exact ei 2 h1
 induction h with
 |nil cl p=>exactλh=>⟨bh p,h,dz (eg _)⟩
 |tok cl p c t rep q E r h1 h2 h3 h4 ih=>
  have b:=xK ha h1 h3
  exactλh=>(ih b.2).imp (af (aq b.1)) (And.imp_right (J (n:=1) b.1 (by decide)))
 |two cl p c t rep q o m E r h1 h2 h3 _ h4 ih=>
  have b:=xK ha h1 h3
  exactλh=>(ih b.2).imp (af (aq b.1)) (And.imp_right (J (n:=2) b.1 (bh 2)))
 |blk cl p c b s C q q' E r h1 h2 h3 h4 h5 h6 ih1 ih2=>
  have b:=zkf ha h1 h3
  have i:=ih1 b.2.1
  have g:p<q'/\q'<=U.length:=h5.elim (λe=>e.2▸⟨aj b.1 i.1,i.2.1⟩) λe=>e.2▸⟨dl (aj b.1 i.1),bK e.1⟩
  exactλh=>(ih2 g.2).imp (af (aq g.1)) (And.imp_right (J (n:=1) g.1 (by decide)))
noncomputable def Plc(U:List Nat)(P:List PV):Prop:=∀i,i<U.length->P[i]?=some (uT (eX (U.take i)))
noncomputable def InK(U:List Nat)(n x s:Nat)(C:List PV)(q:Nat):Prop:=s<=U.length/\uV U s<n/\∃q0,Lay U (some x) s C q0/\((U[q0]?=none/\q=q0)\/(U[q0]?=some x/\q=q0+1))
section
variable {C:Ctx}{H:Kn}
theorem zhx{Q:Fl->St->Prop}:cG (λst1=>wSs C H [] Q st1) Q=Q:=funext λfl=>funext λJ=>by cases fl<;>rfl
theorem jJ{s:Stmt}{Q:Fl->St->Prop}{J:St}(h:wS C H s Q J):wSs C H [s] Q J:=aA (by rw[zhx];exact h)
theorem w9{t:Expr}{b:List Stmt}{p:Pos}{ss:List Stmt}{Q:Fl->St->Prop}{J:St}(M:CtxMono C)(c:Bool)(h:tv C H t J c)(hb:c=true->wSs C H b (cG (λst1=>wSs C H ss Q st1) Q) J)(ho:c=false->wSs C H ss Q J):wSs C H (.If t b [] p ::ss) Q J:=aA (bI M c h hb λe=>aX (ho e))
theorem zjb{x y z:Str}{e:Expr}{kk:Nat}{px py pz pt p:Pos}{ss:List Stmt}{Q:Fl->St->Prop}{J:St}(M:CtxMono C)(v w u:PV)(h:ev C H e J (.tup [v,w,u]))(hs:cY H x=true)(hs':cY H y=true)(hs'':cY H z=true)(k:wSs C H ss Q ⟨upd (upd (upd J.ρ x v) y w) z u,J.σ⟩):
  wSs C H (.Assign [.Tuple [.Name x px,.Name y py,.Name z pz] kk pt] e p ::ss) Q J:=aA (eV M v w u h hs hs' hs'' k)
theorem zgg{x y:Str}{e:Expr}{kk:Nat}{px py pt p:Pos}{ss:List Stmt}{Q:Fl->St->Prop}{J:St}(M:CtxMono C)(v w:PV)(h:ev C H e J (.tup [v,w]))(hs:cY H x=true)(hs':cY H y=true)(k:wSs C H ss Q ⟨upd (upd J.ρ x v) y w,J.σ⟩):
  wSs C H (.Assign [.Tuple [.Name x px,.Name y py] kk pt] e p ::ss) Q J:=aA (fP M v w h hs hs' k)
theorem yG{l r:Expr}{p:Pos}{J:St}{a:Int}(M:CtxMono C)(h1:ev C H l J (.int a))(h2:ev C H r J (.int a)):ev C H (.Compare l [.NotEq] [r] p) J (.bool false):=bL M h1 h2 (by show(!decide (a=a))=false;rw[decide_eq_true rfl];rfl)
theorem zih{e:Expr}{q1 q2 q3:String}{k1 k2 k3 k4:Nat}{p1 p2 p3 p4 p:Pos}{J:St}{x:List Nat}(M:CtxMono C)(h:ev C H e J (.str x)):
  ev C H (.Compare e [.In] [.Tuple [.Constant (.str (ae q1)) k1 p1,.Constant (.str (ae q2)) k2 p2,.Constant (.str (ae q3)) k3 p3] k4 p4] p) J (.bool (decide (x∈([lcS q1,lcS q2,lcS q3]:List (List Nat))))):=zgI M h rfl rfl rfl
end
noncomputable def tV(n:Nat):Fn:=λps K=>∃(U:List Nat) (P E:List PV) (p:Nat) (cl:Option Nat) (r:Nat),ps=[.str U,.list P,.list E,.int p,.str cl.toList]/\Tx U/\Plc U P/\p<=U.length/\uV U p<=n/\Lay U cl p E r/\K (.int r)
theorem lE(n:Nat):aW (tV n):=λ_ _ _ h=>e6 λ_ _ _ _ _ _=>c6 (h _)
noncomputable def wN(n:Nat):Fn:=λps K=>∃(U:List Nat) (P E:List PV) (s x q:Nat),ps=[.str U,.list P,.list E,.int s,.str [x]]/\Tx U/\Plc U P/\InK U n x s E q/\K (.int q)
theorem zaO(n:Nat):aW (wN n):=λ_ _ _ h=>e6 λ_ _ _ _ _ _=>c4 (h _)
noncomputable def cIn(n:Nat):Ctx:=mkC [("_law_row",tV n)] [] false [] []
theorem zfM(n:Nat):CtxMono (cIn n):=bN (by simp[lE]) (by simp)
theorem zfc(n:Nat)(U:List Nat)(P E:List PV)(s x q:Nat)(K:PV->Prop)(t:Tx U)(hP:Plc U P)(hI:InK U (n+1) x s E q)(hK:K (.int q)):wSs (cIn n) (cV (aK H0 881)) (aV H0 881) (gQ K) ⟨bB [("mended",.str U),("places",.list P),("nodes",.list E),("at",.int s),("closer",.str [x])] (λ_=>none),λ_=>none⟩:=by
 have M:=zfM n
 refine a3 (λhs hn=>x1 λq0=>a2 λhL hq=>?_) hI
 have hb:=zcP t.al hL hs
 (apply nfe;case h=>(show ?ya49=?yb49;refine(?_:∀_:(?ya49=?yb49),(?ya49=?yb49)) ?_;rotate_left;(conv=>lhs;whnf;dsimp only[lU,erS,erE,fF,erO]);exactλ_=>by kernel_rfl!))
 refine dT M (.int q0) (aR (F:=tV n) M ⋯ rfl (aC M (v:=.str U) aD (aC M (v:=.list P) aD (aC M (v:=.list E) aD (aC M (v:=.int s) aD (aC M (v:=.str [x]) aD aG))))) ⟨U,P,E,s,some x,q0,rfl,t,hP,hs,iu hn,hL,.inr rfl,rfl⟩) ∅ ?_
 refine w9 M (decide (0<=q0)&&decide (q0<U.length)) (bS M (aS M (qP (a:=q0) (b:=0) M aD (aB rfl))) λ_=>bJ (aS M (fC M aD (cQ M ⋯ rfl rfl ∅ aD)))) (λh=>?_) (λh=>?_)
 ·refine hq.elim (λe=>?_) (a2 λe1 e2=>?_)
  ·have:=of_decide_eq_true (ag.mp h).2
   rw[ah this]at e;cases e.1
  ·exact hZ M (.int (q0+1:Nat)) (bW (c:=decide (x=x)) M (aS M (yK M (bR M rfl aD aD e1) aD)) (λ_=>aP (i:=q0) (j:=1) M aD (aB rfl)) (λh=>absurd rfl (of_decide_eq_false h))) ⟨_,aQ _ _ rfl,e2▸hK⟩
 ·refine hq.elim (a2 λ_ e2=>?_) (a2 λe1 e2=>?_)
  ·exact hZ M (.int q0) aD ⟨_,aQ _ _ rfl,e2▸hK⟩
  ·rw[decide_eq_true (bK e1),decide_eq_true (dq q0)]at h;cases h
noncomputable def zkY:List (List Nat):=["string","url","error","whitespace","comment","number","percentage","dimension","unicode-range","literal","() block","[] block","{} block","at-keyword","hash","ident","function"].map lcS
noncomputable def kn(k:Nat):List Nat:=(zkY[k]?).getD []
theorem zkX(j:Nat)(s:String)(h:(fh 17).all (λk=>decide (kn k=lcS s)==(k==j))=true){k:Nat}(hk:k<17):decide (kn k=(ae s).cps.toList)=(k==j):=eq_of_beq (ay.mp h k (fu.mpr hk))
theorem zjF{k:Nat}(hk:k<17):decide (kn k∈([lcS "number",lcS "percentage",lcS "dimension"]:List (List Nat)))=(k==5||k==6||k==7):=eq_of_beq (ay.mp (show(fh 17).all (λk=>decide (kn k∈([lcS "number",lcS "percentage",lcS "dimension"]:List (List Nat)))==(k==5||k==6||k==7))=true by decide+kernel) k (fu.mpr hk))
theorem zjE{k:Nat}(hk:k<17):(opnD.lookup [kn k]).isSome=(k==10||k==11||k==12):=eq_of_beq (ay.mp (show(fh 17).all (λk=>(opnD.lookup [kn k]).isSome==(k==10||k==11||k==12))=true by decide+kernel) k (fu.mpr hk))
noncomputable def SlK(cl:Nat)(fs:List PV)(s:String)(v:PV):Prop:=(cNm.slot cl s).bind (λi=>fs[i]?)=some v
theorem jQ{b:Bool}{A B:Prop}(e:b=true)(h:cond b A B):A:=by subst e;exact h
theorem jR{b:Bool}{A B:Prop}(e:b=false)(h:cond b A B):B:=by subst e;exact h
noncomputable def NdZ(U:List Nat)(n p c cl:Nat)(fs:List PV)(q k:Nat):Prop:=
 cond (k==10||k==11||k==12) (∃x C,SlK cl fs "content" (.list C)/\opnD.lookup [kn k]=some (.s [c])/\clsD.lookup [kn k]=some (.s [x])/\InK U n x (p+1) C q)<|
 cond (k==16) (∃s C,(∃v,NmK U p c cl fs v s (kn k))/\SlK cl fs "arguments" (.list C)/\InK U n 41 s C q) (∃v,NmK U p c cl fs v q (kn k))
noncomputable def NdY(U:List Nat)(n p c cl:Nat)(fs:List PV)(q k:Nat):Prop:=
 cond (k==9) (∃v,SlK cl fs "value" (.str v)/\LitK (U.drop p) v/\q=p+v.length)<|NdZ U n p c cl fs q k
noncomputable def NdX(U:List Nat)(n p c cl:Nat)(fs:List PV)(q k:Nat):Prop:=
 cond (k==8) (pO (U.drop p)=true/\SlK cl fs "start" (.int (gL (fG (U.drop (p+2))).1:Nat))/\SlK cl fs "end" (.int (gL (fG (U.drop (p+2))).2.1:Nat))/\q=p+2+(fG (U.drop (p+2))).2.2)<|NdY U n p c cl fs q k
noncomputable def NdW(U:List Nat)(n p c cl:Nat)(fs:List PV)(q k:Nat):Prop:=
 cond (k==5||k==6||k==7) (∃lc rep t,.inst cl fs=tkP lc rep t/\zhI t=true/\NxT U p c t q [])<|NdX U n p c cl fs q k
noncomputable def NdV(U:List Nat)(n p c cl:Nat)(fs:List PV)(q k:Nat):Prop:=
 cond (k==4) (∃v,SlK cl fs "value" (.str v)/\ComK U p v q)<|NdW U n p c cl fs q k
noncomputable def NdU(U:List Nat)(n p c cl:Nat)(fs:List PV)(q k:Nat):Prop:=
 cond (k==3) (p<q/\q<=U.length/\q=p+a9 (U.drop p)/\SlK cl fs "value" (.str ((U.drop p).take (q - p))))<|NdV U n p c cl fs q k
noncomputable def NdT(U:List Nat)(n p c cl:Nat)(fs:List PV)(q k:Nat):Prop:=
 cond (k==2) (∃x,SlK cl fs "kind" (.str x)/\ErrK U p c x q)<|NdU U n p c cl fs q k
noncomputable def NdK(U:List Nat)(n p c cl:Nat)(fs:List PV)(q:Nat)(o:List Nat)(k:Nat):Prop:=
 cond (k==0) (∃v,SlK cl fs "value" (.str v)/\StrK U p c v q o)<|
 cond (k==1) (∃v,SlK cl fs "value" (.str v)/\UrlK U p v q o)<|
 (o=[]/\NdT U n p c cl fs q k)
noncomputable def t4(n:Nat):Fn:=λps K=>∃(U:List Nat) (P:List PV) (p c cl:Nat) (fs:List PV) (q:Nat),∃(o:List Nat) (k:Nat),ps=[.str U,.list P,.inst cl fs,.int p]/\(Tx U/\Plc U P/\U[p]?=some c/\cNm.slot cl "type"=none/\cNm.cval cl "type"=some (.str (kn k))/\k<17/\NdK U n p c cl fs q o k)/\K (.tup [.int q,.str o])
theorem nO(n:Nat):aW (t4 n):=λ_ _ _ h=>e7 λ_ _ _ _ _ _ _=>e2 λ_ _=>c2 (h _)
noncomputable def cNd(n:Nat):Ctx:=mkC [("_law_string",t5),("_law_address",zdV),("_law_fault",zdT),("_law_blanks",lI),("_law_comment",t7),("_law_number",t6),("_law_range",zks),("_law_range_opens",zhc),("_law_sign",zdO),("_law_OPENERS",hX (.dict false opnD)),("_law_CLOSERS",hX (.dict false clsD)),("_law_inside",wN n),("_law_name",zdQ)] [] false [] []
theorem zg2(n:Nat):∀e∈[("_law_string",t5),("_law_address",zdV),("_law_fault",zdT),("_law_blanks",lI),("_law_comment",t7),("_law_number",t6),("_law_range",zks),("_law_range_opens",zhc),("_law_sign",zdO),("_law_OPENERS",hX (.dict false opnD)),("_law_CLOSERS",hX (.dict false clsD)),("_law_inside",wN n),("_law_name",zdQ)],aW e.2:=by
 simp only[bb,bu,or_false];rintro e (rfl|rfl|rfl|rfl|rfl|rfl|rfl|rfl|rfl|rfl|rfl|rfl|rfl)
 ·exact wK
 ·exact zaS
 ·exact zaQ
 ·exact lH
 ·exact wM
 ·exact wL
 ·exact zdP
 ·exact tW
 ·exact zaJ
 ·exact eC _
 ·exact eC _
 ·exact zaO n
 ·exact zaN
theorem zfK(n:Nat):CtxMono (cNd n):=bN (zg2 n) (by simp)
theorem zcd(n:Nat)(U:List Nat)(P:List PV)(p c cl:Nat)(fs:List PV)(q:Nat)(o:List Nat)(k:Nat)(K:PV->Prop)(t:Tx U)(hP:Plc U P)(hg:U[p]?=some c)(hty:cNm.slot cl "type"=none)(hcv:cNm.cval cl "type"=some (.str (kn k)))(hk:k<17)(hv:NdK U n p c cl fs q o k)(hK:K (.tup [.int q,.str o])):
  wSs (cNd n) (cV (aK H0 874)) (aV H0 874) (gQ K) ⟨bB [("mended",.str U),("places",.list P),("node",.inst cl fs),("at",.int p)] (λ_=>none),λ_=>none⟩:=by
 have M:=zfK n
 have hl:=bK hg
 have hp:=aq hl
 have hx:=t.lt hp
 (apply nfe;case h=>(show ?ya50=?yb50;refine(?_:∀_:(?ya50=?yb50),(?ya50=?yb50)) ?_;rotate_left;(conv=>lhs;whnf;dsimp only[lU,erS,erE,fF,erO]);exactλ_=>by kernel_rfl!))
 have esl:∀{x:String}{pv:PV}{p1 p2:Pos}(ρ:fD) (σ:Nat->Option Cell),SlK cl fs x pv->ρ "node"=some (.inst cl fs)->ev (cNd n) (cV (aK H0 874)) (.Attribute (.Name (ae "node") p1) (ae x) p2) ⟨ρ,σ⟩ pv:=λρ σ g1 g2=>iI ⋯ g2 g1
 have tk:∀{p1 p2 p3:Pos}{j:Nat}(i:Nat) (s:String) (ρ:fD) (σ:Nat->Option Cell),ρ "kind"=some (.str (kn k))->(fh 17).all (λk=>decide (kn k=lcS s)==(k==i))=true->tv (cNd n) (cV (aK H0 874)) (.Compare (.Name (ae "kind") p1) [.Eq] [.Constant (.str (ae s)) j p2] p3) ⟨ρ,σ⟩ (k==i):=λi s ρ σ g h=>aS M (bP (eZ (q:=s) M (aE ⋯ g)) (zkX i s h hk))
 refine dT M (.str (kn k)) (qQ (fs:=fs) ⋯ ⋯ hty hcv) ∅ ?_
 refine w9 M (k==0) (tk 0 "string" _ _ ⋯ (by decide+kernel)) (λe=>?_) (λe=>?_)
 ·replace hv:=jQ e hv
  exact x1 (λv (h:SlK cl fs "value" (.str v)/\StrK U p c v q o)=>hZ M (.tup [.int q,.str o]) (aR (F:=t5) M ⋯ rfl (aC M (v:=.str U) aD (aC M (v:=.int p) aD (aC M (v:=.str v) (esl _ _ h.1 ⋯) aG))) ⟨U,p,c,v,q,o,rfl,t,hg,h.2,.inl rfl,rfl⟩) ⟨_,aQ _ _ rfl,hK⟩) hv
 replace hv:=jR e hv
 refine w9 M (k==1) (tk 1 "url" _ _ ⋯ (by decide+kernel)) (λe=>?_) (λe=>?_)
 ·replace hv:=jQ e hv
  exact x1 (λv (h:SlK cl fs "value" (.str v)/\UrlK U p v q o)=>hZ M (.tup [.int q,.str o]) (aR (F:=zdV) M ⋯ rfl (aC M (v:=.str U) aD (aC M (v:=.int p) aD (aC M (v:=.str v) (esl _ _ h.1 ⋯) aG))) ⟨U,p,v,q,o,rfl,t,hp,h.2,.inl rfl,rfl⟩) ⟨_,aQ _ _ rfl,hK⟩) hv
 replace hv:=jR e hv
 clear e
 refine a2 (λho hw=>?_) hv
 clear hv
 subst ho
 have fin:∀{J:St},J.ρ "end"=some (.int q)->wSs (cNd n) (cV (aK H0 874)) [] (cG (λJ=>dJ [("end",.int q)] J.ρ) (gQ K)) J:=λg=>aF g rfl
 refine c8 M (λJ=>dJ [("end",.int q)] J.ρ) ?_ (λJ h=>keepP J h (hZ M (.tup [.int q,.str []]) (bH M (aC M aD (aC M (aB rfl) aG))) ⟨_,aQ _ _ rfl,hK⟩))
 refine bI M (k==2) (tk 2 "error" _ _ ⋯ (by decide+kernel)) (λe=>?_) (λe=>?_)
 ·replace hw:=jQ e hw
  exact x1 (λx (h:SlK cl fs "kind" (.str x)/\ErrK U p c x q)=>dT M (.int q) (aR (F:=zdT) M ⋯ rfl (aC M (v:=.str U) aD (aC M (v:=.int p) aD (aC M (v:=.str x) (esl _ _ h.1 ⋯) aG))) ⟨U,p,c,x,q,rfl,t,hg,h.2,.inl rfl,rfl⟩) ∅ (fin ⋯)) hw
 replace hw:=jR e hw
 refine jJ (bI M (k==3) (tk 3 "whitespace" _ _ ⋯ (by decide+kernel)) (λe=>?_) (λe=>?_))
 ·replace hw:=jQ e hw
  refine a4 (λh1 h2 h3 (h4:SlK cl fs "value" (.str ((U.drop p).take (q - p))))=>?_) hw
  refine dT M (.int q) (h3▸aR (F:=lI) M ⋯ rfl (aC M (v:=.str U) aD (aC M (v:=.int p) aD aG)) ⟨U,p,rfl,t,hp,.inl rfl,rfl⟩) ∅ ?_
  refine gT M (decide (q=p)||false) (dX M (aS M (jN M aD aD)) λ_=>bJ (aS M (d4 (x:=(U.drop p).take (q - p)) M (esl _ _ h4 ⋯) (gW (i:=p) (j:=q) M aD aD aD (aq h1) (ar (t.lt h2) (by decide)))))) (λh=>by rw[decide_eq_false (ix h1)]at h;(exfalso;cases h)) (fin ⋯)
 replace hw:=jR e hw
 refine jJ (bI M (k==4) (tk 4 "comment" _ _ ⋯ (by decide+kernel)) (λe=>?_) (λe=>?_))
 ·replace hw:=jQ e hw
  exact x1 (λx (h:SlK cl fs "value" (.str x)/\ComK U p x q)=>dT M (.int q) (aR (F:=t7) M ⋯ rfl (aC M (v:=.str U) aD (aC M (v:=.int p) aD (aC M (v:=.str x) (esl _ _ h.1 ⋯) aG))) ⟨U,p,x,q,rfl,t,hp,h.2,.inl rfl,rfl⟩) ∅ (fin ⋯)) hw
 replace hw:=jR e hw
 refine jJ (bI M (k==5||k==6||k==7) (aS M (bP (zih M aD) (zjF hk))) (λe=>?_) (λe=>?_))
 ·replace hw:=jQ e hw
  exact x3 (λlc rep tt (h:.inst cl fs=tkP lc rep tt/\zhI tt=true/\NxT U p c tt q [])=>dT M (.int q) (aR (F:=t6) M ⋯ rfl (aC M (v:=.str U) aD (aC M (v:=.int p) aD (aC M (v:=.inst cl fs) aD aG))) ⟨U,p,c,lc,rep,tt,q,congrArg (λa=>[PV.str U,.int p,a]) h.1,t,hp,h.2.1,h.2.2,.inl rfl,rfl⟩) ∅ (fin ⋯)) hw
 replace hw:=jR e hw
 refine jJ (bI M (k==8) (tk 8 "unicode-range" _ _ ⋯ (by decide+kernel)) (λe=>?_) (λe=>?_))
 ·replace hw:=jQ e hw
  refine a4 (λh1 (h2:SlK cl fs "start" (.int (gL (fG (U.drop (p+2))).1:Nat))) (h3:SlK cl fs "end" (.int (gL (fG (U.drop (p+2))).2.1:Nat))) h4=>?_) hw
  refine zjb M (.int (gL (fG (U.drop (p+2))).1:Nat)) (.int (gL (fG (U.drop (p+2))).2.1:Nat)) (.int q) (h4▸aR (F:=zks) M ⋯ rfl (aC M (v:=.str U) aD (aC M (v:=.int p) aD aG)) ⟨U,p,rfl,t,zgp h1,.inl rfl,rfl⟩) ∅ ∅ ∅ ?_
  refine gT M (!pO (U.drop p)||(false||false)) (dX M (eR M (aS M (aR (F:=zhc) M ⋯ rfl (aC M (v:=.str U) aD (aC M (v:=.int p) aD aG)) ⟨U,p,rfl,t,ar hx (by decide),.inl rfl,rfl⟩))) λ_=>dX M (aS M (yG M (esl _ _ h2 ⋯) aD)) λ_=>bJ (aS M (yG M (esl _ _ h3 ⋯) aD))) (λh=>by rw[h1]at h;(exfalso;cases h)) (fin ⋯)
 replace hw:=jR e hw
 refine jJ (bI M (k==9) (tk 9 "literal" _ _ ⋯ (by decide+kernel)) (λe=>?_) (λe=>?_))
 ·replace hw:=jQ e hw
  exact x1 (λx (h:SlK cl fs "value" (.str x)/\LitK (U.drop p) x/\q=p+x.length)=>dT M (.int q) (h.2.2▸aR (F:=zdO) M ⋯ rfl (aC M (v:=.str U) aD (aC M (v:=.int p) aD (aC M (v:=.str x) (esl _ _ h.1 ⋯) aG))) ⟨U,p,x,rfl,t,hp,h.2.1,.inl rfl,rfl⟩) ∅ (fin ⋯)) hw
 replace hw:=jR e hw
 have ein:∀{e1 e2 e3:Expr}{p1 p2 p3 p4:Pos}{s x:Nat}{E:List PV}(ρ:fD) (σ:Nat->Option Cell),ρ "mended"=some (.str U)->ρ "places"=some (.list P)->ev (cNd n) (cV (aK H0 874)) e1 ⟨ρ,σ⟩ (.list E)->ev (cNd n) (cV (aK H0 874)) e2 ⟨ρ,σ⟩ (.int s)->ev (cNd n) (cV (aK H0 874)) e3 ⟨ρ,σ⟩ (.str [x])->InK U n x s E q->
   ev (cNd n) (cV (aK H0 874)) (.Call (.Name (ae "_law_inside") p1) [.Name (ae "mended") p2,.Name (ae "places") p3,e1,e2,e3] [] p4) ⟨ρ,σ⟩ (.int q):=λ{e1 e2 e3 p1 p2 p3 p4 s x E} ρ σ g1 g2 g3 g4 g5 g6=>aR (F:=wN n) M ⋯ rfl (aC M (v:=.str U) (aE ⋯ g1) (aC M (v:=.list P) (aE ⋯ g2) (aC M g3 (aC M g4 (aC M g5 aG))))) ⟨U,P,E,s,x,q,rfl,t,hP,g6,.inr rfl,rfl⟩
 refine jJ (bI M (k==10||k==11||k==12) (aS M (bP (tC M aD (gM M ⋯ rfl)) (zjE hk))) (λe=>?_) (λe=>?_))
 ·replace hw:=jQ e hw
  refine x2 (λx E (h:SlK cl fs "content" (.list E)/\opnD.lookup [kn k]=some (.s [c])/\clsD.lookup [kn k]=some (.s [x])/\InK U n x (p+1) E q)=>?_) hw
  refine dT M (.int (-1)) (nD M (aB rfl)) ∅ ?_
  refine jJ (bI M (decide (c=c)) (aS M (yK M (bR M rfl aD aD hg) (qN (es:=opnD) (x:=kn k) (d:=.s [c]) M rfl (gM (v:=.dict false opnD) M ⋯ rfl) aD h.2.1))) (λ_=>?_) (λh=>absurd rfl (of_decide_eq_false h)))
  exact dT M (.int q) (ein _ _ ⋯ ⋯ (esl _ _ h.1 ⋯) (aP (i:=p) (j:=1) M aD (aB rfl)) (qN (es:=clsD) (x:=kn k) (d:=.s [x]) M rfl (gM (v:=.dict false clsD) M ⋯ rfl) aD h.2.2.1) h.2.2.2) ∅ (fin ⋯)
 replace hw:=jR e hw
 have enm:∀{p1 p2 p3 p4 p5:Pos}(ρ:fD) (σ:Nat->Option Cell) (s:Nat),ρ "mended"=some (.str U)->ρ "at"=some (.int p)->ρ "node"=some (.inst cl fs)->(∃v,NmK U p c cl fs v s (kn k))->ev (cNd n) (cV (aK H0 874)) (.Call (.Name (ae "_law_name") p1) [.Name (ae "mended") p2,.Name (ae "at") p3,.Name (ae "node") p4] [] p5) ⟨ρ,σ⟩ (.int s):=λρ σ s g1 g2 g3 g4=>
  aR (F:=zdQ) M ⋯ rfl (aC M (v:=.str U) (aE ⋯ g1) (aC M (v:=.int p) (aE ⋯ g2) (aC M (v:=.inst cl fs) (aE ⋯ g3) aG))) ⟨U,p,c,cl,fs,s,kn k,rfl,t,hg,hty,hcv,g4,.inl rfl,rfl⟩
 cases e16:k==16 with
 |true=>
  replace hw:=jQ e16 hw
  refine x2 (λs E (h:(∃v,NmK U p c cl fs v s (kn k))/\SlK cl fs "arguments" (.list E)/\InK U n 41 s E q)=>?_) hw
  refine dT M (.int s) (enm _ _ s ⋯ ⋯ ⋯ h.1) ∅ ?_
  refine jJ (bI M (true&&decide (0<=s)) (bS M (e16▸tk 16 "function" _ _ ⋯ (by decide+kernel)) λ_=>bJ (aS M (qP (a:=s) (b:=0) M aD (aB rfl)))) (λ_=>?_) (λh=>by rw[decide_eq_true (dq s)]at h;(exfalso;cases h)))
  exact dT M (.int q) (ein _ _ ⋯ ⋯ (esl _ _ h.2.1 ⋯) aD (aB rfl) h.2.2) ∅ (fin ⋯)
 |false=>
  replace hw:=jR e16 hw
  refine dT M (.int q) (enm _ _ q ⋯ ⋯ ⋯ hw) ∅ ?_
  exact gT M (false&&false) (bS M (e16▸tk 16 "function" _ _ ⋯ (by decide+kernel)) λh=>by(exfalso;cases h)) (λh=>by(exfalso;cases h)) (fin ⋯)
theorem slk{cl:Nat}{fs:List PV}{s:String}{v:PV}(h:(cNm.slot cl s).bind (λi=>fs[i]?)=some v):SlK cl fs s v:=h
noncomputable def NdO(U:List Nat)(n p c:Nat)(lc:Nat×Nat)(nd:PV)(q:Nat)(o:List Nat):Prop:=∃cl fs k,nd=.inst cl fs/\cNm.slot cl "type"=none/\cNm.cval cl "type"=some (.str (kn k))/\k<17/\NdK U n p c cl fs q o k/\SlK cl fs "source_line" (.int lc.1)/\SlK cl fs "source_column" (.int lc.2)
theorem e9{cl:Nat}{fs:List PV}{s:String}{v:PV}(i:Nat)(h:cNm.slot cl s=some i)(e:fs[i]?=some v):SlK cl fs s v:=(congrArg (λo:Option Nat=>o.bind λi=>fs[i]?) h).trans e
theorem ndo{U:List Nat}{n p c:Nat}{lc:Nat×Nat}{q:Nat}{o:List Nat}{fs:List PV}(cl k:Nat)(h1:cNm.slot cl "type"=none)(h2:cNm.cval cl "type"=some (.str (kn k)))(h3:k<17)(h4:NdK U n p c cl fs q o k)(h5:SlK cl fs "source_line" (.int lc.1))(h6:SlK cl fs "source_column" (.int lc.2)):NdO U n p c lc (.inst cl fs) q o:=
 ex3 cl fs k ⟨rfl,h1,h2,h3,h4,h5,h6⟩
theorem zgv{U:List Nat}{n p c q:Nat}{t:Tk}{o:List Nat}(lc:Nat×Nat)(rep:List Nat)(hq:p<q/\q<=U.length)(h:NxT U p c t q o):NdO U n p c lc (tkP lc rep t) q o:=by
 cases t with
 |ws v=>exact a4 (λh1 h2 h3 h4=>by subst h4;exact ndo 163 3 ⋯ ⋯ (by decide) ⟨h1,hq.1,hq.2,h3,e9 0 ⋯ rfl⟩ (e9 2 ⋯ rfl) (e9 1 ⋯ rfl)) h
 |rng a b=>exact a5 (λh1 h2 h3 h4 h5=>by subst h4;subst h5;exact ndo 385 8 ⋯ ⋯ (by decide) ⟨h1,h2,e9 1 ⋯ rfl,e9 0 ⋯ rfl,h3⟩ (e9 3 ⋯ rfl) (e9 2 ⋯ rfl)) h
 |lit v=>exact ndo 206 9 ⋯ ⋯ (by decide) ⟨h.1,v,e9 0 ⋯ rfl,h.2⟩ (e9 2 ⋯ rfl) (e9 1 ⋯ rfl)
 |ident v=>exact ndo 235 15 ⋯ ⋯ (by decide) ⟨h.1,v,.inr (.inr (.inl ⟨by kernel_rfl,e9 1 ⋯ rfl,h.2⟩))⟩ (e9 3 ⋯ rfl) (e9 2 ⋯ rfl)
 |atk v=>exact ndo 265 13 ⋯ ⋯ (by decide) ⟨h.1,v,.inl ⟨by kernel_rfl,e9 1 ⋯ rfl,h.2⟩⟩ (e9 3 ⋯ rfl) (e9 2 ⋯ rfl)
 |hash v b=>exact a6 (λh1 h2 h3 h4 h5 h6=>by subst h4;exact ndo 295 14 ⋯ ⋯ (by decide) ⟨h1,v,.inr (.inl ⟨by kernel_rfl,e9 1 ⋯ rfl,e9 0 ⋯ rfl,h2,h3,h5,h6⟩)⟩ (e9 3 ⋯ rfl) (e9 2 ⋯ rfl)) h
 |str v=>exact ndo 325 0 ⋯ ⋯ (by decide) ⟨v,e9 1 ⋯ rfl,h⟩ (e9 3 ⋯ rfl) (e9 2 ⋯ rfl)
 |url v=>exact ndo 355 1 ⋯ ⋯ (by decide) ⟨v,e9 1 ⋯ rfl,h⟩ (e9 3 ⋯ rfl) (e9 2 ⋯ rfl)
 |num iv r=>exact ndo 415 5 ⋯ ⋯ (by decide) ⟨h.1,lc,rep,.num iv r,rfl,rfl,rfl,h.2⟩ (e9 5 ⋯ rfl) (e9 4 ⋯ rfl)
 |pct iv r=>exact ndo 447 6 ⋯ ⋯ (by decide) ⟨h.1,lc,rep,.pct iv r,rfl,rfl,rfl,h.2⟩ (e9 5 ⋯ rfl) (e9 4 ⋯ rfl)
 |dim iv r u=>exact ndo 479 7 ⋯ ⋯ (by decide) ⟨h.1,lc,rep,.dim iv r u,rfl,rfl,rfl,h.2⟩ (e9 7 ⋯ rfl) (e9 6 ⋯ rfl)
 |com v=>exact ndo 134 4 ⋯ ⋯ (by decide) ⟨h.1,v,e9 0 ⋯ rfl,h.2⟩ (e9 2 ⋯ rfl) (e9 1 ⋯ rfl)
 |err k m=>exact ndo 104 2 ⋯ ⋯ (by decide) ⟨h.1,k,e9 0 ⋯ rfl,h.2⟩ (e9 3 ⋯ rfl) (e9 2 ⋯ rfl)
theorem zjy{U:List Nat}{n p c s q:Nat}{b:Bk}{C:List PV}(lc:Nat×Nat)(h:ziL U p c b s)(hI:InK U n (bkC b) s C q):NdO U n p c lc (bkP lc b (.list C)) q []:=by
 cases b with
 |par=>exact a2 (λh1 h2=>by subst h1;subst h2;exact ndo 513 10 ⋯ ⋯ (by decide) ⟨rfl,41,C,e9 0 ⋯ rfl,by kernel_rfl,by kernel_rfl,hI⟩ (e9 2 ⋯ rfl) (e9 1 ⋯ rfl)) h
 |sqr=>exact a2 (λh1 h2=>by subst h1;subst h2;exact ndo 542 11 ⋯ ⋯ (by decide) ⟨rfl,93,C,e9 0 ⋯ rfl,by kernel_rfl,by kernel_rfl,hI⟩ (e9 2 ⋯ rfl) (e9 1 ⋯ rfl)) h
 |cur=>exact a2 (λh1 h2=>by subst h1;subst h2;exact ndo 571 12 ⋯ ⋯ (by decide) ⟨rfl,125,C,e9 0 ⋯ rfl,by kernel_rfl,by kernel_rfl,hI⟩ (e9 2 ⋯ rfl) (e9 1 ⋯ rfl)) h
 |fn v=>exact ndo 600 16 ⋯ ⋯ (by decide) ⟨rfl,s,C,⟨v,.inr (.inr (.inr ⟨by kernel_rfl,e9 2 ⋯ rfl,h⟩))⟩,e9 0 ⋯ rfl,hI⟩ (e9 4 ⋯ rfl) (e9 3 ⋯ rfl)
noncomputable def RowI(U:List Nat)(cl:Option Nat)(r:Nat)(z:Nat×Nat)(o:List Nat)(a:Nat)(L:List PV):Prop:=(o=[]/\Lay U cl a L r)\/(o≠[]/\∃m L',L=tkP z [] (.err o m) ::L'/\Lay U cl a L' r)
theorem zhU{U:List Nat}{cl:Option Nat}{n a r:Nat}{nd:PV}{L:List PV}(ha:Al U)(hn:uV U a<=n)(h:Lay U cl a (nd ::L) r):
  ∃c q o,U[a]?=some c/\cl≠some c/\NdO U n a c (eX (U.take a)) nd q o/\q<=U.length/\uV U q<=n/\RowI U cl r (eX (U.take a)) o q L:=by
 cases h with
 |tok _ _ c t rep q E r h1 h2 h3 h4=>
  have b:=xK ha h1 h3
  exact ex3 c q ([]) ⟨h1,h2,zgv _ _ b h3,b.2,af (l6 (aq b.1)) hn,.inl ⟨rfl,h4⟩⟩
 |two _ _ c t rep q o m E r h1 h2 h3 h5 h4=>
  have b:=xK ha h1 h3
  exact ex3 c q o ⟨h1,h2,zgv _ _ b h3,b.2,af (l6 (aq b.1)) hn,.inr ⟨h5,m,E,rfl,h4⟩⟩
 |blk _ _ c b s C q q' E r h1 h2 h3 h4 h5 h6=>
  have b':=zkf ha h1 h3
  have i:=zcP ha h4 b'.2.1
  have g:a<q'/\q'<=U.length:=h5.elim (λe=>e.2▸⟨aj b'.1 i.1,i.2.1⟩) λe=>e.2▸⟨dl (aj b'.1 i.1),bK e.1⟩
  exact ex3 c q' ([]) ⟨h1,h2,zjy _ h3 ⟨b'.2.1,aj b'.2.2 hn,q,h4,h5⟩,g.2,af (l6 (aq g.1)) hn,.inl ⟨rfl,h6⟩⟩
section
variable {C:Ctx}{H:Kn}
theorem zdk{l r:Expr}{p:Pos}{J:St}{lc:Nat×Nat}(M:CtxMono C)(h1:ev C H l J (uT lc))(h2:ev C H r J (uT lc)):ev C H (.Compare l [.NotEq] [r] p) J (.bool false):=
 bL M h1 h2 ⟨uT lc,aQ _ _ rfl,aQ _ _ rfl,rfl,show 1<=4000 by decide,rfl⟩
theorem zh5{α:Type}(x:List α)(i:Nat):sU x (i:Int)=x[i]?:=by
 unfold sU;rw[if_neg (fk.mpr (cg i)),jo]
theorem vP{o i:Expr}{p:Pos}{J:St}{xs:List PV}{j:Nat}{v:PV}(M:CtxMono C)(hs:xW i=false)(h:ev C H o J (.list xs))(h':ev C H i J (.int j))(hd:xs[j]?=some v):ev C H (.Subscript o i p) J v:=
 oY M hs h h' (by show opt (sU xs (j:Int)) _;rw[zh5,hd];rfl)
end
noncomputable def cRw(n:Nat):Ctx:=mkC [("_law_node",t4 n)] [] false [] []
theorem zfG(n:Nat):CtxMono (cRw n):=bN (by simp[nO]) (by simp)
noncomputable def rowE(U:List Nat)(P:List PV)(cl:Option Nat)(a:Nat)(o:List Nat)(z:Nat×Nat):List (Str×PV):=[("mended",.str U),("places",.list P),("closer",.str cl.toList),("at",.int a),("owed",.str o),("start",uT z)]
noncomputable def RowS(U:List Nat)(P:List PV)(cl:Option Nat)(n r:Nat)(L:List PV)(J:St):Prop:=∃(a:Nat) (o:List Nat) (z:Nat×Nat),dJ (rowE U P cl a o z) J.ρ/\a<=U.length/\uV U a<=n/\RowI U cl r z o a L
theorem zeF(n:Nat)(U:List Nat)(P E:List PV)(p:Nat)(cl:Option Nat)(r:Nat)(K:PV->Prop)(t:Tx U)(hP:Plc U P)(hp:p<=U.length)(hn:uV U p<=n)(hL:Lay U cl p E r)(hK:K (.int r)):
  wSs (cRw n) (cV (aK H0 888)) (aV H0 888) (gQ K) ⟨bB [("mended",.str U),("places",.list P),("nodes",.list E),("at",.int p),("closer",.str cl.toList)] (λ_=>none),λ_=>none⟩:=by
 have M:=zfG n
 have hEl:E.length<=bU:=by
  have b:=zcP t.al hL hp
  refine af (af (am _ _) (af b.2.2 (ei 2 (af b.2.1 t.len)))) (by decide)
 (apply nfe;case h=>(show ?ya51=?yb51;refine(?_:∀_:(?ya51=?yb51),(?ya51=?yb51)) ?_;rotate_left;(conv=>lhs;whnf;dsimp only[lU,erS,erE,fF,erO]);exactλ_=>by kernel_rfl!))
 refine dT M (.str []) (aB rfl) ∅ ?_
 refine dT M (uT (0,0)) (bH M (aC M (aB rfl) (aC M (aB rfl) aG))) ∅ ?_
 refine c8 M (λJ=>dJ [("at",.int r),("owed",.str [])] J.ρ) (zhA M (.list E) E rfl hEl ∅ aD (λi J=>RowS U P cl n r (E.drop i) J) (λi hi J=>x3 λa o z=>a4 λh1 ha hn h4=>keepP J h1 ?_) (λJ=>x3 λa o z=>a4 λh1 ha hn h4=>keepP J h1 (aX ?_)) ⟨p,[],(0,0),by walk_at "co",hp,hn,.inl ⟨rfl,hL⟩⟩) (λJ h=>keepP J h (hZ M (.int r) (bW (c:=decide (([]:List Nat)=(ae "").cps.toList)) M (aS M (eZ (q:="") M aD)) (λ_=>by exact aE ⋯ ⋯) (λh=>absurd h (by decide))) ⟨_,aQ _ _ rfl,hK⟩))
 ·refine⟨_,rfl,?_⟩
  rw[ak hi]at h4
  generalize E[i]=nd at h4
  generalize E.drop (i+1)=L at h4
  have esl:∀{cl':Nat}{fs:List PV}{x:String}{pv:PV}{p1 p2:Pos}(ρ:fD) (σ:Nat->Option Cell),SlK cl' fs x pv->ρ "node"=some (.inst cl' fs)->ev (cRw n) (cV (aK H0 888)) (.Attribute (.Name (ae "node") p1) (ae x) p2) ⟨ρ,σ⟩ pv:=λρ σ g1 g2=>iI ⋯ g2 g1
  refine h4.elim (a2 λho hL=>?_) (a2 λho=>x2 λm L'=>a2 λe hL=>?_)
  ·subst ho
   refine x3 (λc q o'=>a6 λh1 h2 h3 h5 h6 h7=>x3 (λcl' fs k=>a7 λg1 g2 g3 g4 g5 g6 g7=>?_) h3) (zhU t.al hn hL)
   subst g1
   have hal:=bK h1
   refine dT M (uT (eX (U.take a))) (bH M (aC M (esl _ _ g6 ⋯) (aC M (esl _ _ g7 ⋯) aG))) ∅ ?_
   refine jJ (bI M false (aS M (bP (yF (q:="") (x:=[]) M aD) (by decide))) (λh=>by(exfalso;cases h)) (λ_=>?_))
   refine gT M (decide (U.length<=a)||(decide ([c]=cl.toList)||false)) (dX M (aS M (qP M aD (cQ M ⋯ rfl rfl ∅ aD))) λ_=>dX M (aS M (yJ (x:=[c]) (y:=cl.toList) M (bR M rfl aD aD h1) aD)) λ_=>bJ (aS M (zdk (lc:=eX (U.take a)) M (vP M rfl aD aD (hP a hal)) aD))) (λh=>?_) ?_
   ·rw[decide_eq_false (gh hal),decide_eq_false (λe=>h2 (by cases cl with
     |none=>(exfalso;cases e)
     |some d=>exact((List.cons.inj e).1).symm▸rfl))]at h;(exfalso;cases h)
   refine dT M (uT (eX (U.take a))) aD ∅ ?_
   refine zgg M (.int q) (.str o') (aR (F:=t4 n) M ⋯ rfl (aC M (v:=.str U) aD (aC M (v:=.list P) aD (aC M (v:=.inst cl' fs) aD (aC M (v:=.int a) aD aG)))) ⟨U,P,a,c,cl',fs,q,o',k,rfl,⟨t,hP,h1,g2,g3,g4,g5⟩,.inl rfl,rfl⟩) ∅ ∅ ?_
   refine gT M (decide (q<0)) (aS M (fC (a:=q) (b:=0) M aD (aB rfl))) (λh=>absurd (of_decide_eq_true h) (jg q)) (aX ?_)
   exact ex3 q o' (eX (U.take a)) ⟨by walk_at "co",h5,h6,h7⟩
  ·refine a2 (λe1 e2=>?_) (List.cons.inj e)
   subst e1;subst e2
   refine dT M (uT z) (bH M (aC M (esl (cl':=104) (fs:=[.str o,.str m,.int z.2,.int z.1]) _ _ (slk ⋯) ⋯) (aC M (esl (cl':=104) (fs:=[.str o,.str m,.int z.2,.int z.1]) _ _ (slk ⋯) ⋯) aG))) ∅ ?_
   refine jJ (bI M true (aS M (bP (yF (q:="") (x:=o) M aD) (by refine(decide_eq_false (show o≠(ae "").cps.toList from ho)).symm▸?_;rfl))) (λ_=>?_) (λh=>by(exfalso;cases h)))
   refine gT M (false||(false||false)) (dX M (aS M (d4 (x:=lcS "error") M (qQ (c:=104) (fs:=[.str o,.str m,.int z.2,.int z.1]) ⋯ ⋯ ⋯ ⋯) (aB rfl))) λ_=>dX M (aS M (d4 (x:=o) M (esl (cl':=104) (fs:=[.str o,.str m,.int z.2,.int z.1]) _ _ (slk ⋯) ⋯) aD)) λ_=>bJ (aS M (zdk (lc:=z) M aD aD))) (λh=>by(exfalso;cases h)) ?_
   refine dT M (.str []) (aB rfl) ∅ (aX ?_)
   exact ex3 a ([]) z ⟨by walk_at "co",ha,hn,.inl ⟨rfl,hL⟩⟩
 ·rw[ia]at h4
  refine h4.elim (a2 λho hL=>?_) (a2 λ_=>x2 λm L'=>a2 λe _=>by(exfalso;cases e))
  subst ho
  have e:a=r:=by cases hL;rfl
  subst e
  refine(?_:dJ [("at",.int a),("owed",.str [])] _)
  walk_at "co"
section
theorem zdc{α:Type}{l:List α}(h:l.length=4):∃a b c d,l=[a,b,c,d]:=by obtain⟨a,r,e,h⟩:=iK h;obtain⟨b,c,d,q⟩:=eF h;exact ex4 a b c d (by rw[e,q])
theorem zdf{α:Type}{l:List α}(h:l.length=5):∃a b c d e,l=[a,b,c,d,e]:=by obtain⟨a,r,e,h⟩:=iK h;obtain⟨b,c,d,f,q⟩:=zdc h;exact ex5 a b c d f (by rw[e,q])
theorem zap(hB:BsOk (bs w.params h mb))(m:Nat):Meets prog w (bs w.params h mb) m (.ref 881) (wN 0):=by
 refine x1 (λfd=>a3 λh1 h2 h3=>?_) (g9 (K:=HK w.params) (a:=881) ∅)
 exact⟨fR hB h1,λA E G s args ps K hA hi ho ht hv h=>(x6 (λU P E s x q=>a5 λ_ _ _ h4 _=>jg _ h4.2.1) h:False).elim⟩
theorem zcA{n m:Nat}(hB:BsOk (bs w.params h mb))(hmb:HMb mb)(hR:Meets prog w (bs w.params h mb) m (.ref 888) (tV n)):Meets prog w (bs w.params h mb) (m+1) (.ref 881) (wN (n+1)):=by
 have hC:CtxOk prog w (bs w.params h mb) (cIn n) m:=c7 hmb (by simp[lE]) (by simp) (by simp) (λe he=>by
  simp only[be]at he;subst he
  exact⟨.ref 888,by kernel_rfl,hR⟩) (by simp) (by simp)
 refine aU (k:=5) (params:=["mended","places","nodes","at","closer"]) (dv:=[]) (dp:=[]) hB hC ∅ ∅ ∅ rfl (λ_=>.nil) (λS vals hl=>?_) λps K=>x6 λU P E s x q=>a5 λh1 h2 h3 h4 h5=>?_
 ·refine x5 (λa b c d e zr5=>?_) (zdf hl);subst zr5
  kernel_rfl
 ·subst h1
  exact⟨rfl,zfc n U P E s x q K h2 h3 h4 h5⟩
theorem oT{n m:Nat}(hB:BsOk (bs w.params h mb))(hmb:HMb mb)(hm:4<=m)(hI:Meets prog w (bs w.params h mb) m (.ref 881) (wN n)):Meets prog w (bs w.params h mb) (m+1) (.ref 874) (t4 n):=by
 have hC:CtxOk prog w (bs w.params h mb) (cNd n) m:=c7 hmb (zg2 n) (by simp) (by simp) (λe he=>by
  simp only[bb,bu,or_false]at he
  rcases he with rfl|rfl|rfl|rfl|rfl|rfl|rfl|rfl|rfl|rfl|rfl|rfl|rfl
  ·exact⟨.ref 846,by kernel_rfl,(zal hB hmb).le (af (by decide) hm)⟩
  ·exact⟨.ref 853,by kernel_rfl,(zcG hB hmb).le (af (by decide) hm)⟩
  ·exact⟨.ref 860,by kernel_rfl,(zcC hB hmb).le (af (by decide) hm)⟩
  ·exact⟨.ref 755,by kernel_rfl,(mX hB hmb).le (af (by decide) hm)⟩
  ·exact⟨.ref 839,by kernel_rfl,(zao hB hmb).le (af (by decide) hm)⟩
  ·exact⟨.ref 832,by kernel_rfl,(zan hB hmb).le hm⟩
  ·exact⟨.ref 783,by kernel_rfl,(ze3 hB hmb).le (af (by decide) hm)⟩
  ·exact⟨.ref 776,by kernel_rfl,(xP hB hmb).le (af (by decide) hm)⟩
  ·exact⟨.ref 818,by kernel_rfl,(zct hB hmb).le hm⟩
  ·exact⟨.ref 699,by kernel_rfl,(zcx hB).le (af (by decide) hm)⟩
  ·exact⟨.ref 706,by kernel_rfl,(zcE hB).le (af (by decide) hm)⟩
  ·exact⟨.ref 881,by kernel_rfl,hI⟩
  ·exact⟨.ref 867,by kernel_rfl,(zcz hB hmb).le hm⟩) (by simp) (by simp)
 refine aU (k:=4) (params:=["mended","places","node","at"]) (dv:=[]) (dp:=[]) hB hC ∅ ∅ ∅ rfl (λ_=>.nil) (λS vals hl=>?_) λps K=>x7 λU P p c cl fs q=>x2 λo k=>a3 λh1 h2 h3=>a7 (λg1 g2 g3 g4 g5 g6 g7=>?_) h2
 ·refine x4 (λa b c d zr4=>?_) (zdc hl);subst zr4
  kernel_rfl
 ·subst h1
  exact⟨rfl,zcd n U P p c cl fs q o k K g1 g2 g3 g4 g5 g6 g7 h3⟩
theorem sH{n m:Nat}(hB:BsOk (bs w.params h mb))(hmb:HMb mb)(hN:Meets prog w (bs w.params h mb) m (.ref 874) (t4 n)):Meets prog w (bs w.params h mb) (m+1) (.ref 888) (tV n):=by
 have hC:CtxOk prog w (bs w.params h mb) (cRw n) m:=c7 hmb (by simp[nO]) (by simp) (by simp) (λe he=>by
  simp only[be]at he;subst he
  exact⟨.ref 874,by kernel_rfl,hN⟩) (by simp) (by simp)
 refine aU (k:=5) (params:=["mended","places","nodes","at","closer"]) (dv:=[]) (dp:=[]) hB hC ∅ ∅ ∅ rfl (λ_=>.nil) (λS vals hl=>?_) λps K=>x6 λU P E p cl r=>a7 λh1 h2 h3 h4 h5 h6 h7=>?_
 ·refine x5 (λa b c d e zr5=>?_) (zdf hl);subst zr5
  kernel_rfl
 ·subst h1
  exact⟨rfl,zeF n U P E p cl r K h2 h3 h4 h5 h6 h7⟩
theorem zaj(hB:BsOk (bs w.params h mb))(hmb:HMb mb)(n:Nat):Meets prog w (bs w.params h mb) (6+3*n) (.ref 888) (tV n):=by
 induction n with
 |zero=>exact sH hB hmb (oT hB hmb (bh 4) (zap hB 4))
 |succ n ih=>exact sH hB hmb (oT hB hmb (af (show 4<=6+1 by decide) (gd (am 6 _) 1)) (zcA hB hmb ih))
end
/-! how the reader mends zeros and line ends,and how the law does -/
noncomputable def md1(c:Nat):Nat:=if c=0 then 65533 else if c=13\/c=12 then 10 else c
noncomputable def gD:List Nat->List Nat
 |[]=>[]
 |c ::r=>if c=13/\r.head?=some 10 then gD r else md1 c ::gD r
noncomputable def mT:Option Nat->List Nat->List Nat
 |_,[]=>[]
 |l,c ::r=>if c=10/\l=some 13 then mT (some c) r else md1 c ::mT (some c) r
theorem ze0(x:List Nat):∀l:Option Nat,mT l x=if l=some 13/\x.head?=some 10 then gD x.tail else gD x:=by
 induction x with
 |nil=>exactλl=>(ite_self _).symm
 |cons c r ih=>
  intro l
  show(if c=10/\l=some 13 then mT (some c) r else md1 c ::mT (some c) r)=if l=some 13/\some c=some 10 then gD r else if c=13/\r.head?=some 10 then gD r else md1 c ::gD r
  rw[ih (some c)]
  by_cases h:c=10/\l=some 13
  ·rw[if_pos h,if_neg (show¬(some c=some 13/\r.head?=some 10)fromλq=>absurd (h.1.symm.trans (Option.some.inj q.1)) (by decide)),if_pos ⟨h.2,congrArg some h.1⟩]
  ·rw[if_neg h,if_neg (show¬(l=some 13/\some c=some 10)fromλq=>h ⟨Option.some.inj q.2,q.1⟩)]
   by_cases h13:c=13/\r.head?=some 10
   ·rw[if_pos h13,if_pos ⟨congrArg some h13.1,h13.2⟩]
    cases r with
    |nil=>cases h13.2
    |cons d r'=>
     have e:d=10:=Option.some.inj h13.2
     subst e
     rw[h13.1]
     show 10 ::gD r'=if(10:Nat)=13/\r'.head?=some 10 then _ else 10 ::gD r'
     rw[if_neg (λq=>absurd q.1 (by decide))]
   ·rw[if_neg h13,if_neg (λq=>h13 ⟨Option.some.inj q.1,q.2⟩)]
theorem z0(x:List Nat):mT none x=gD x:=(ze0 x none).trans (if_neg λq=>by cases q.1)
noncomputable def rY(m:List Nat):List PV:=(fh m.length).map λi=>uT (eX (m.take i))
theorem zb0(m:List Nat)(d:Nat):rY (m++[d])=rY m++[uT (eX m)]:=by
 unfold rY
 rw[bj,List.length_singleton,List.range_succ,List.map_append,List.map_singleton,List.take_left]
 exact congrArg (· ++_) (ic λi hi=>by rw[List.take_append_of_le_length (aq (fu.mp hi))])
theorem zhE(U:List Nat):Plc U (rY U):=λi hi=>by
 unfold rY
 rw[fj,List.getElem?_range hi];rfl
theorem zhS(m:List Nat)(d:Nat):eX (m++[d])=if d=10 then((eX m).1+1,1)else((eX m).1,(eX m).2+1):=jD (1,1) m [d]
theorem zb1(m:List Nat):∀L:List Nat,zaz (L.map λi=>uT (eX (m.take i)))=true:=λL=>by
 induction L with
 |nil=>rfl
 |cons i L ih=>exact ih
noncomputable def cMe:Ctx:=mkC [] [] false [] [592]
theorem zfL:CtxMono cMe:=bN (by simp) (by simp)
noncomputable def MeS(x:List Nat)(a:Nat)(i:Nat)(J:St):Prop:=∃(m:List Nat) (l:Option Nat),dJ [("mended",.str m),("places",.ptr a),("line",.int (eX m).1),("column",.int (eX m).2),("last",.str l.toList)] J.ρ/\J.σ a=some (.lst (rY m))/\m.length<=i/\m++mT l (x.drop i)=gD x
theorem mem_nl{c:Nat}:decide (c∈(ae "\r\n\x0c").cps.toList)=(md1 c==10) :=by
 show decide (c∈[13,10,12])=_
 unfold md1
 by_cases h0:c=0
 ·subst h0;rfl
 by_cases h1:c=13
 ·subst h1;rfl
 by_cases h2:c=12
 ·subst h2;rfl
 rw[if_neg h0,if_neg (λq=>q.elim h1 h2)]
 by_cases h3:c=10
 ·subst h3;rfl
 ·rw[beq_eq_false_iff_ne.mpr h3,decide_eq_false]
  rw[bb,bb,be]
  exactλq=>q.elim h1 λq=>q.elim h3 h2
theorem zcl(x:List Nat)(K:PV ->Prop)(hx:x.length<=600)(hK:K (.tup [.str (gD x),.list (rY (gD x))])):wSs cMe (cV (aK H0 720)) (aV H0 720) (gQ K) ⟨bB [("text",.str x)] (λ_=>none),λ_=>none⟩ :=by
 have M :=zfL
 (apply nfe;case h=>(show ?ya52=?yb52;refine(?_:∀_:(?ya52=?yb52),(?ya52=?yb52)) ?_;rotate_left;(conv=>lhs;whnf;dsimp only[lU,erS,erE,fF,erO]);exactλ_=>by kernel_rfl!))
 refine dT M (.str []) (aB rfl) ∅ ?_
 refine aA (mM (by rfl) ∅ λa hna=>?_)
 dsimp only[cG]
 refine dT M (.int ((1:Nat):Int)) (aB rfl) ∅ ?_
 refine dT M (.int ((1:Nat):Int)) (aB rfl) ∅ ?_
 refine dT M (.str []) (aB rfl) ∅ ?_
 refine c8 M (λJ=>dJ [("mended",.str (gD x)),("places",.ptr a)] J.ρ/\J.σ a=some (.lst (rY (gD x)))) (xD M x hx ∅ aD (MeS x a) ?_ ?_ ⟨[],none,by walk_at "co",aN (λ_=>none) a (.lst []),bh 0,z0 x⟩) ?_
 ·refineλi c J hc=>x2 λm l=>a4 λh1 h2 h3 h4=>keepP J h1 ⟨_,rfl,?_⟩
  have hl:=bK hc
  have hm:m.length<bU:=ai h3 (aj hl (af hx (by decide)))
  rw[ak hl,Option.some.inj ((ah hl).symm.trans hc)]at h4
  generalize J.σ=σ at h2
  refine w9 M (!(decide (c=10)&&(l==some 13))) (eR M (bS M (aS M (cS M aD ∅)) λ_=>bJ (aS M (lN (o:=l) M aD ∅)))) (λh=>?_) (λh=>?_)
  ·have hn:¬(c=10/\l=some 13):=λq=>by rw[q.1,q.2]at h;cases h
   have h4:m++(if c=10/\l=some 13 then mT (some c) (x.drop (i+1))else md1 c ::mT (some c) (x.drop (i+1)))=gD x:=h4
   rw[if_neg hn,<- List.singleton_append,<- dw]at h4
   have hml:(m++[md1 c]).length<=i+1:=by rw[bj];exact df h3
   have hpl:=zb0 m (md1 c)
   have hlc:=zhS m (md1 c)
   refine aA (eP M (uT (eX m)) ∅ ⋯ h2 (bH M (aC M aD (aC M aD aG))) rfl (by unfold rY;rw[cz,iw];exact hm) ?_)
   dsimp only[cG]
   have hs2:bE σ a (.lst (rY m++[uT (eX m)])) a=some (.lst (rY (m++[md1 c]))):=by rw[hpl];exact aN _ _ _
   generalize bE σ a (.lst (rY m++[uT (eX m)]))=σ2 at hs2
   cases hnl:(md1 c==10)with
   |true=>
    have e10:=eq_of_beq hnl
    rw[e10]at hlc hs2 h4 hml
    rw[if_pos rfl]at hlc
    refine w8 M (aS M (bP (dE M aD) (mem_nl.trans hnl))) ?_
    refine aA (b8 M (.str m) (.str [10]) ⋯ (aB rfl) ∅ (of_eq zc3 ⟨by exact hm,?_⟩))
    dsimp only[cG]
    refine aA (b8 M (.int (eX m).1) (.int 1) ⋯ (aB rfl) ∅ (of_eq bM ?_))
    dsimp only[cG]
    refine dT M (.int ((1:Nat):Int)) (aB rfl) ∅ (aX ?_)
    dsimp only[cG]
    refine aX ?_
    dsimp only[cG]
    refine dT M (.str (some c).toList) aD ∅ (aX ?_)
    exact ex2 (m++[10]) (some c) ⟨by rw[hlc];walk_at "co",hs2,hml,h4⟩
   |false=>
    have hne:md1 c≠10:=beq_eq_false_iff_ne.mp hnl
    rw[if_neg hne]at hlc
    refine zhm M (aS M (bP (dE M aD) (mem_nl.trans hnl))) ?_
    refine aA (b8 M (.str m) (.str [md1 c]) ⋯ (bW (c:=decide (c=0)) M (aS M (cS M aD ∅)) (λh=>?_) (λh=>?_)) ∅ (of_eq zc3 ⟨by exact hm,?_⟩))
    ·rw[of_decide_eq_true h];exact aB ∅
    ·have e:md1 c=c:=by
      unfold md1 at hne ⊢
      rw[if_neg (of_decide_eq_false h)]at hne ⊢
      exact if_neg λq=>hne (if_pos q)
     rw[e];exact aE ⋯ ⋯
    dsimp only[cG]
    refine aA (b8 M (.int (eX m).2) (.int 1) ⋯ (aB rfl) ∅ (of_eq bM ?_))
    dsimp only[cG]
    refine aX ?_
    dsimp only[cG]
    refine aX ?_
    dsimp only[cG]
    refine dT M (.str (some c).toList) aD ∅ (aX ?_)
    exact ex2 (m++[md1 c]) (some c) ⟨by rw[hlc];walk_at "co",hs2,hml,h4⟩
  ·have hy:c=10/\l=some 13:=by
    cases e:(decide (c=10)&&(l==some 13))with
    |true=>exact⟨of_decide_eq_true (ag.mp e).1,eq_of_beq (ag.mp e).2⟩
    |false=>rw[e]at h;cases h
   have h4:m++(if c=10/\l=some 13 then mT (some c) (x.drop (i+1))else md1 c ::mT (some c) (x.drop (i+1)))=gD x:=h4
   rw[if_pos hy]at h4
   refine dT M (.str (some c).toList) aD ∅ (aX ?_)
   exact ex2 m (some c) ⟨by walk_at "co",h2,cq h3,h4⟩
 ·refineλJ=>x2 λm l=>a4 λh1 h2 _ h4=>keepP J h1 (aX ?_)
  rw[ia]at h4
  have h4:m++[]=gD x:=h4
  rw[ck]at h4
  subst h4
  exact⟨by walk_at "co",h2⟩
 ·refineλJ=>a2 λh1 h2=>keepP J h1 ?_
  exact hZ M (.tup [.str (gD x),.ptr a]) (bH M (aC M aD (aC M aD aG))) ⟨.tup [.str (gD x),.list (rY (gD x))],⟨_,rfl,_,_,rfl,rfl,_,_,rfl,.inr ⟨a,_,rfl,h2,gJ _ _ (zb1 _ _)⟩,rfl⟩,hK⟩
noncomputable def zC:Fn:=λps K=>∃x:List Nat,ps=[.str x]/\x.length<=600/\K (.tup [.str (gD x),.list (rY (gD x))])
theorem wI:aW zC:=λ_ _ _ h=>e1 λ_=>c2 (h _)
theorem zak(hB:BsOk (bs w.params h mb))(hmb:HMb mb):Meets prog w (bs w.params h mb) 1 (.ref 720) zC:=by
 have hC:CtxOk prog w (bs w.params h mb) cMe 0:=c7 hmb (by simp) (by simp) (by simp) (by simp) (by simp) (by simp)
 refine aU (k:=1) (params:=["text"]) (dv:=[]) (dp:=[]) hB hC ∅ ∅ ∅ rfl (λ_=>.nil) (λS vals hl=>?_) λps K=>x1 λx=>a3 λh1 h2 h3=>?_
 ·refine x1 (λa zr1=>?_) (iF hl);subst zr1
  kernel_rfl
 ·subst h1
  exact⟨rfl,zcl x K h2 h3⟩
noncomputable def yQ:List Nat->List Nat
 |[]=>[]
 |c ::r=>if c=13/\r.head?=some 10 then yQ r else c ::yQ r
noncomputable def fK(k q c:Nat):Nat:=if k=c then q else c
theorem zjo(k q:Nat):∀(n:Nat) (x:List Nat),x.length<n->c9 [k] [q] n x=x.map (fK k q)
 |n+1,[],_=>rfl
 |n+1,c ::x,h=>by
  have ih:=zjo k q n x (iq h)
  refine(?_:(if((k==c)&&true)=true then [q]++c9 [k] [q] n x else c ::c9 [k] [q] n x)=fK k q c ::x.map (fK k q))
  rw[fm,fK]
  by_cases e:k=c
  ·rw[if_pos (beq_iff_eq.mpr e),if_pos e,ih];rfl
  ·rw[if_neg (λq=>e (beq_iff_eq.mp q)),if_neg e,ih]
theorem zhD:∀(n:Nat) (x:List Nat),x.length<n->c9 [13,10] [10] n x=yQ x
 |n+1,[],_=>rfl
 |n+1,[c],h=>by
  refine(?_:(if((13==c)&&false)=true then _ else c ::c9 [13,10] [10] n [])=if c=13/\(none:Option Nat)=some 10 then _ else [c])
  rw[ew,zc1,if_neg (λq=>by cases q.2)]
  cases n<;>rfl
 |n+1,c ::d ::x,h=>by
  have ih:=zhD n (d ::x) (iq h)
  have ih2:=zhD n x (fg (iq h))
  refine(?_:(if((13==c)&&((10==d)&&true))=true then 10 ::c9 [13,10] [10] n x else c ::c9 [13,10] [10] n (d ::x))=if c=13/\some d=some 10 then yQ (d ::x)else c ::yQ (d ::x))
  by_cases e:c=13/\some d=some 10
  ·rw[if_pos e,ih2,e.1,Option.some.inj e.2]
   rw[if_pos (show(13==13&&(10==10&&true))=true from rfl)]
   refine(?_:10 ::yQ x=if 10=13/\x.head?=some 10 then _ else 10 ::yQ x)
   rw[if_neg (λq=>absurd q.1 (by decide))]
  ·rw[if_neg e,ih,if_neg (λq=>?_)]
   rw[fm,ag,beq_iff_eq,beq_iff_eq]at q
   exact e ⟨q.1.symm,congrArg some q.2.symm⟩
theorem zkU(c:Nat):fK 12 10 (fK 13 10 (fK 0 65533 c))=md1 c:=by
 unfold md1 fK
 by_cases h0:0=c
 ·subst h0;rfl
 by_cases h1:13=c
 ·subst h1;rfl
 by_cases h2:12=c
 ·subst h2;rfl
 ·rw[if_neg h0,if_neg h1,if_neg h2,if_neg (Ne.symm h0),if_neg (λq=>q.elim (Ne.symm h1) (Ne.symm h2))]
theorem u9:∀x:List Nat,((yQ (x.map (fK 0 65533))).map (fK 13 10)).map (fK 12 10)=gD x
 |[]=>rfl
 |c ::r=>by
  have ih:=u9 r
  have e:(fK 0 65533 c=13/\(r.map (fK 0 65533)).head?=some 10)=(c=13/\r.head?=some 10):=by
   have z:∀k d,k=13\/k=10->(fK 0 65533 d=k)=(d=k):=λk d hk=>propext (by
    unfold fK
    by_cases h:0=d
    ·subst h
     rw[if_pos rfl]
     rcases hk with rfl|rfl<;>exact⟨λh=>absurd h (by decide),λh=>absurd h (by decide)⟩
    ·rw[if_neg h])
   rw[z 13 c (.inl rfl)]
   cases r with
   |nil=>rfl
   |cons d r=>
    refine(?_:(c=13/\some (fK 0 65533 d)=some 10)=(c=13/\some d=some 10))
    rw[Option.some.injEq,Option.some.injEq,z 10 d (.inr rfl)]
  refine(?_:((if fK 0 65533 c=13/\(r.map (fK 0 65533)).head?=some 10 then yQ (r.map (fK 0 65533))else fK 0 65533 c ::yQ (r.map (fK 0 65533))).map (fK 13 10)).map (fK 12 10)=if c=13/\r.head?=some 10 then gD r else md1 c ::gD r)
  simp only[e]
  split
  ·exact ih
  ·rw[cf,cf,ih,zkU]
theorem mD:∀x:List Nat,(yQ x).length<=x.length
 |[]=>bh _
 |c ::r=>by
  refine(?_:(if c=13/\r.head?=some 10 then yQ r else c ::yQ r).length<=_)
  split
  ·exact cq (mD r)
  ·exact df (mD r)
theorem zeY(x:List Nat):(gD x).length<=x.length:=by
 rw[<- u9,cz,cz]
 exact af (mD _) (by rw[cz];exact bh _)
theorem zeZ{x:List Nat}(h:x.length<=600):ziI x (gD x):=by
 have hl:(yQ (x.map (fK 0 65533))).length<=600:=af (mD _) (by rw[cz];exact h)
 refine ex3 _ _ _ ⟨rfl,rfl,rfl,?_,?_,?_,?_⟩
 all_goals simp only[mP,zjo _ _ _ _ (av _),zhD _ _ (av _)]
 ·exact u9 x
 ·rw[cz];exact h
 ·exact hl
 ·rw[cz];exact hl
theorem l8:∀x:List Nat,(gD x).Sublist (x.map md1)
 |[]=>.slnil
 |c ::r=>by
  refine(?_:(if c=13/\r.head?=some 10 then gD r else md1 c ::gD r).Sublist (md1 c ::r.map md1))
  split
  ·exact(l8 r).cons _
  ·exact(l8 r).cons₂ _
theorem zjq(c:Nat):nY (md1 c)=nY c:=by
 unfold md1
 by_cases h0:c=0
 ·subst h0;rfl
 rw[if_neg h0]
 split
 ·rename_i h;rcases h with rfl|rfl<;>rfl
 ·rfl
theorem zeX(x:List Nat):(gD x).countP nY<=x.countP nY:=by
 refine af (l8 x).countP_le ?_
 rw[List.countP_map,show nY∘md1=nY from funext zjq]
 exact bh _
theorem zhN{x:List Nat}(h:∀c∈x,eM (md1 c)=true):Al (gD x):=λc hc=>by
 refine x1 (λd=>a2 λhd e=>?_) (jj.mp ((l8 x).subset hc))
 exact e▸h d hd
/-! the pieces -/
noncomputable def piecesZ:List (List Nat×Nat):=([[97],[13,10],[40],[49],[34],[45],[42,47],[41],[117,114,108,40],[32],[101,51],[39],[47,42],[123],[43],[117,43,49,63],[93],[46,53],[10],[35],[45,45,62],[233],[125],[37],[102,40],[13],[64],[60,33,45,45],[91],[69,45,50],[124],[119987],[61],[85],[45,45],[12],[42],[98,41],[0],[9],[58],[48],[126],[85,82,76,40,32],[34],[43,55],[47],[120],[94,61],[63],[85,43,97,48,45,66,70],[39],[124,124],[95],[1],[45,49,46],[36],[59],[13,10],[42,47],[93],[125],[127],[33]]:List (List Nat)).zipIdx 1244
noncomputable def pV:List PV:=piecesZ.map λe=>.str e.1
noncomputable def pW(p:List Nat):Bool:=decide (p.length<=8)&&(decide (p.countP nY<=1)&&p.all λc=>eM (md1 c)&&decide (c<1114112))
theorem rZ:piecesZ.all (λe=>pW e.1)=true:=by decide+kernel
theorem zeL(n:Nat)(h:n<64):∃p:List Nat,pV[n]?=some (.str p)/\pW p=true:=by
 have hl:n<piecesZ.length:=ii h (by decide+kernel)
 refine⟨piecesZ[n].1,?_,ay.mp rZ _ (List.getElem_mem hl)⟩
 unfold pV
 rw[fj,ah hl];rfl
theorem rU{P:Params}{G:GM}:∀(l:List (List Nat×Nat)),(∀e∈l,pW e.1=true)->VRels P G (l.map λe=>Value.str ⟨e.1.toArray⟩ e.2) (l.map λe=>PV.str e.1)
 |[],_=>.nil
 |e ::l,h=>by
  have h1:=h e bk
  have h2:=ag.mp h1
  have h3:=ag.mp h2.2
  exact .cons ⟨e.2,rfl,λc hc=>of_decide_eq_true (ag.mp (ay.mp h3.2 c hc)).2,af (of_decide_eq_true h2.1) (by decide)⟩ (rU l λd hd=>h d (bc _ hd))
theorem zR{w:World}{h:Heap}{mb:Str->Option Value}(hB:BsOk (bs w.params h mb)):∃u,mgK w.params (ae "_law_PIECES")=some u/\VRel w.params (λa=>h.get? a) u (.list pV):=by
 have ho:(HK w.params).lookup 678=some ⟨.type "list",none,.seq (piecesZ.map λe=>Value.str ⟨e.1.toArray⟩ e.2).toArray 0,#[]⟩:=by kernel_rfl
 exact⟨.ref 678,by kernel_rfl,678,_,_,_,rfl,hB.kin _ _ ho,rfl,rfl,rfl,by rw[ir,cz];decide+kernel,rU piecesZ λe he=>ay.mp rZ e he⟩
section
variable {C:Ctx}{H:Kn}
theorem zkF{x:Str}{es:List Expr}{vs:List PV}{F:Fn}{p q:Pos}{J:St}{Q:PV->St->Prop}(M:CtxMono C)(k:H x=some .globalImplicit)(hf:C.fn x=some F)(hs:evs C H es J vs)(h:F (vs.map (der J.σ)) λr=>(vs.any sP=false\/jU r=true)/\Q r J):wE C (.Call (.Name x q) es [] p) H Q J:=by
 refine⟨rfl,k,by unfold nX;refine hf.symm▸?_;rfl,dB M es (λrs st1=>a2 λh1 h2=>?_) hs⟩
 subst h1 h2
 unfold iM
 refine hf.symm▸?_
 exact h
theorem zkM{f g:Str}{a b d e r:Expr}{es:List Expr}{va vb vd ve:PV}{vs:List PV}{F F':Fn}{n:Nat}{p q p2 p3 p4 q4:Pos}{J:St}{Q:Fl->St->Prop}(M:CtxMono C)(kf:H f=some .globalImplicit)(hf:C.fn f=some F)(kg:H g=some .globalImplicit)(hg:C.fn g=some F')
  (ha:ev C H a J va) (hb:ev C H b J vb) (hs:evs C H es J vs) (hd:ev C H d J vd) (he:ev C H e J ve) (hr:ev C H r J (.int n)) (hQ:Q (.ret (.bool true)) J)
  (h:F' (vs.map (der J.σ)) λR=>(vs.any sP=false\/jU R=true)/\F ([va,vb,R,vd,ve].map (der J.σ)) λx=>jU x=true/\x=.int n):
  wS C H (.Return (some (.Compare (.Call (.Name f q) [a,b,.Call (.Name g q4) es [] p4,d,e] [] p) [.Eq] [r] p2)) p3) Q J:=by
 refine(?_:wE C (.Compare (.Call (.Name f q) [a,b,.Call (.Name g q4) es [] p4,d,e] [] p) [.Eq] [r] p2) H (λv st1=>Q (.ret v) st1) J)
 rw[zi1]
 rw[uE]
 refine⟨rfl,kf,by unfold nX;rw[hf];rfl,?_⟩
 rw[gR]
 refine bA M ha ?_
 rw[gR]
 refine bA M hb ?_
 rw[gR]
 refine zkF M kg hg hs (M.1 g F' hg _ _ _ (λR k=>⟨k.1,?_⟩) h)
 rw[gR]
 refine bA M hd ?_
 rw[gR]
 refine bA M he ?_
 rw[mJ]
 refine(?_:iM C f [va,vb,R,vd,ve] J _)
 unfold iM
 rw[hf]
 refine M.1 f F hf _ _ _ (λx k=>⟨.inr k.1,?_⟩) k.2
 rw[k.2]
 refine(?_:wCh C [r] [.Eq] H (.int n) _ J)
 rw[zhe]
 refine bA M hr ?_
 refine(?_:true=true/\Q (.ret (.bool (decide ((n:Int)=n)))) J)
 rw[decide_eq_true (rfl:(n:Int)=n)]
 exact⟨rfl,hQ⟩
end
noncomputable def cLf:List (String×Fn):=[("_law_mend",zC),("_law_row",tV 20),("parse_component_value_list",rI)]
noncomputable def cL:Ctx:=mkC cLf [] false [("_law_PIECES",.list pV)] []
theorem zka:∀e∈cLf,aW e.2:=by
 simp only[cLf,bb,bu,or_false];rintro e (rfl|rfl|rfl)
 ·exact wI
 ·exact lE _
 ·exact tY
theorem ziw:CtxMono cL:=bN zka (by simp)
noncomputable def Bld(x:List Nat)(i:Nat):Prop:=x.length<=8*i/\x.countP nY<=i/\∀c∈x,eM (md1 c)=true
theorem Bld.app{x p:List Nat}{i:Nat}(h:Bld x i)(hp:pW p=true):Bld (x++p) (i+1):=by
 have h2:=ag.mp hp
 have h3:=ag.mp h2.2
 refine⟨?_,?_,λc hc=>(ig.mp hc).elim (h.2.2 c) λhc=>(ag.mp (ay.mp h3.2 c hc)).1⟩
 ·rw[bj];exact ft h.1 (of_decide_eq_true h2.1)
 ·rw[List.countP_append];exact ft h.2.1 (of_decide_eq_true h3.1)
theorem ziA:∀k<20,Builtin.Int.intBits ((k:Nat):Int)<=64:=by decide+kernel
theorem ze8(is:List Int)(K:PV->Prop)(hK:K (.bool true)):wSs cL (cV (aK H0 895)) (aV H0 895) (gQ K) ⟨bB [("script",.list (is.map .int))] (λ_=>none),λ_=>none⟩:=by
 have M:=ziw
 (apply nfe;case h=>(show ?ya53=?yb53;refine(?_:∀_:(?ya53=?yb53),(?ya53=?yb53)) ?_;rotate_left;(conv=>lhs;whnf;dsimp only[lU,erS,erE,fF,erO]);exactλ_=>by kernel_rfl!))
 refine dT M (.str []) (aB rfl) ∅ ?_
 generalize hN:min 20 (is.map PV.int).length=N
 have hN20:N<=20:=hN▸fw _ _
 have hNl:N<=is.length:=by rw[<- hN,cz];exact du _ _
 have hlen:((fh ((N:Int) - 0).toNat).map λ(k:Nat)=>PV.int (0+k)).length=N:=by rw[cz,iw,Int.sub_zero,jo]
 refine c8 M (λJ=>∃x,Bld x 20/\dJ [("text",.str x)] J.ρ)
  (zhA M (.rng 0 N) _ rfl (by rw[hlen];exact af hN20 (by decide)) ∅ (kX M ⋯ rfl rfl ∅ (aC M (v:=.int N) (gG (kX M ⋯ rfl rfl ∅ (aC M (v:=.int (20:Nat)) (aB rfl) (aC M (v:=.int ((is.map PV.int).length:Nat)) (kX M ⋯ rfl rfl ∅ (aC M (v:=.list (is.map .int)) aD aG) (of_eq (B:=PV.int ((is.map PV.int).length:Nat)=.int (is.map PV.int).length) ∅ rfl)) aG)) (of_eq (B:=PV.int (if(((is.map PV.int).length:Nat):Int)<((20:Nat):Int)then(((is.map PV.int).length:Nat):Int)else((20:Nat):Int))=.int (min 20 (is.map PV.int).length:Nat)) ∅ (zcf _ _))) (congrArg (λn:Nat=>(n:Int)) hN)) aG) (of_eq (B:=(0:Int)<=0/\(0:Int)<=16777216/\0<=(N:Int)/\(N:Int)<=16777216/\PV.rng 0 N=.rng 0 N) ∅ ⟨Int.le_refl 0,by decide,cg _,ga.mpr (af hN20 (by decide)),rfl⟩))
   (λi J=>∃x,Bld x i/\dJ [("script",.list (is.map .int)),("text",.str x)] J.ρ) ?_ ?_ ⟨[],⟨bh _,bh _,λc h=>(by cases h)⟩,by walk_at "co"⟩) ?_
 ·refineλi hi J=>x1 λx=>a2 λh1 h2=>keepP J h2 ⟨_,rfl,?_⟩
  replace hi:=hlen▸hi
  have hi20:=aj hi hN20
  have hij:(0:Int)+((i:Nat):Int)=i:=Int.zero_add _
  rw[List.getElem_map,List.getElem_range,hij]
  have hgi:(is.map PV.int)[i]?=some (.int (is[i]'(aj hi hNl))):=by rw[fj,ah (aj hi hNl)];rfl
  generalize is[i]'(aj hi hNl)=s at hgi
  generalize hn:((s+7*(i:Int))%64).toNat=n
  have hm:(s+7*(i:Int))%64=(n:Nat):=by rw[<- hn];exact(Int.toNat_of_nonneg (Int.emod_nonneg _ (by decide))).symm
  have hn64:n<64:=fy.mp (hm▸Int.emod_lt_of_pos _ (by decide))
  refine x1 (λp=>a2 λhp1 hp2=>?_) (zeL n hn64)
  have hx:x.length+p.length<=bU:=af (af (dz bj.symm) (h1.app hp2).1) (af (ei 8 hi20) (by decide))
  exact aA (b8 M (.str x) (.str p) ⋯ (vP (j:=n) M rfl (qO ⋯ rfl) (gG (zjU (i:=s+7*(i:Int)) (j:=64) M (aP M (vP (j:=i) M rfl aD aD hgi) (kW (i:=7) (j:=i) M (aB rfl) aD (ziA i hi20))) (aB rfl) (by decide)) hm) hp1) ∅ (of_eq zc3 ⟨hx,⟨x++p,h1.app hp2,by walk_at "co"⟩⟩))
 ·refineλJ=>x1 λx=>a2 λh1 h2=>keepP J h2 (aX ⟨x,?_,by walk_at "co"⟩)
  replace h1:=hlen▸h1
  exact⟨af h1.1 (ei 8 hN20),af h1.2.1 hN20,h1.2.2⟩
 ·refineλJ=>x1 λx=>a2 λh1 h2=>keepP J h2 ?_
  have hl:x.length<=600:=af h1.1 (by decide)
  have tx:Tx (gD x):=⟨af (zeY x) hl,zhN h1.2.2⟩
  refine zgg M (.str (gD x)) (.list (rY (gD x))) (aR (F:=zC) M ⋯ rfl (aC M (v:=.str x) aD aG) ⟨x,rfl,hl,.inl rfl,rfl⟩) ∅ ∅ ?_
  exact aA (zkM (F:=tV 20) (F':=rI) (vs:=[.str x]) (va:=.str (gD x)) (vb:=.list (rY (gD x))) (vd:=.int (0:Nat)) (ve:=.str []) (n:=(gD x).length) M ⋯ rfl ⋯ rfl aD aD (aC M aD aG) (aB rfl) (aB rfl) (cQ M ⋯ rfl rfl ∅ aD) ⟨_,b6 _ _,hK⟩
   ⟨x,gD x,rfl,hl,zeZ hl,tx.len,tx.al,λR hR=>⟨.inl rfl,⟨gD x,rY (gD x),R,0,none,(gD x).length,rfl,tx,zhE _,dq _,af (zeX x) h1.2.1,hR,rfl,rfl⟩⟩⟩)
section
variable {prog:Program}{w:World}{B:Bs}{C:Ctx}{n:Nat}
theorem zeu{loc x:Str}{k:Nat}{p:Pos}(ok:okC (.str x)=true):zkp prog w B C n loc (.Constant (.str x) k p):=by
 intro A E cw env H G J s Q hx hA hE hκ O hw
 have hw:Q (.str x.cps.toList) J:=hw
 refine Calls.Constant_str ?_
 have hi:InH G s.heap:=(O 1 (bh 1)).rep.inh
 refine ex2 G J ⟨⟨.str x.cps.toList,hw,?_⟩,O (s.toks+1) (df (dq _)),(GS.toks hi _).tr⟩
 have ok:=ag.mp (show(x.cps.toList.all (· <1114112)&&decide (x.cps.toList.length<=16777216))=true from ok)
 exact⟨_,rfl,λc hc=>of_decide_eq_true (ay.mp ok.1 c hc),of_decide_eq_true ok.2⟩
end
theorem zas(hB:BsOk (bs w.params h mb))(hmb:HMb mb):
  zkq prog w (bs w.params h mb) 70 (.ref 895) (λps K=>∃is:List Int,ps=[.list (is.map .int)]/\K (.bool true)):=by
 have hC:CtxOk prog w (bs w.params h mb) cL 69:=by
  refine c7 hmb zka (by simp) (λe he=>?_) (λe he=>?_) (by simp) (by simp)
  ·simp only[be]at he;subst he
   exact zR hB
  ·simp only[cLf,bb,bu,or_false]at he
   rcases he with rfl|rfl|rfl
   ·exact⟨.ref 720,by kernel_rfl,(zak hB hmb).le (by decide)⟩
   ·exact⟨.ref 888,by kernel_rfl,(zaj hB hmb 20).le (by decide)⟩
   ·exact⟨.ref 628,by kernel_rfl,(vB hB hmb).le (by decide)⟩
 refine x1 (λfd=>a3 λh1 h2 h3=>?_) (g9 (K:=HK w.params) (a:=895) ∅)
 rw[(at0 _ _).1]at h3
 rw[(at0 _ _).2]at h1
 have hloc:fd.scope.names.lookup (ae "script")=some .local:=by rw[h3];kernel_rfl
 have hbd:aV H0 895=kA 0 (aV H0 895) ::(aV H0 895).tail:=by kernel_rfl
 have hs0:ziG prog w (bs w.params h mb) cL 69 (ae "script") (kA 0 (aV H0 895)):=by
  conv in(kA _ _)=>whnf
  exact rP (zeu (by decide+kernel)) rfl rfl
 have hss:iQ prog w (bs w.params h mb) cL 69 (aV H0 895).tail:=zkH hB hC ∅
 have hs1:=zL hs0 hss
 have hbind:∀(s:Shared) (vals:List Value),(HK w.params).In s.heap->vals.length=1->BindsTo s fd ⟨vals,[]⟩ ((["script"].map ae).zip (vals++[])):=λs vals X hl=>by
  refine kp_binds X λS=>?_
  refine x1 (λa zr1=>?_) (io.mp hl);subst zr1
  have:(sY (HK w.params) 895).map (λfd=>peek (HK w.params) S (bindArgs fd ⟨[a],[]⟩))=some (some ((["script"].map ae).zip ([a]++[]))):=by kernel_rfl
  rw[h2]at this
  show peek (HK w.params) S _=_
  simpa using this
 rw[hbd]at h1
 refine⟨fR hB h1,λA E G s args ps K hA hi ho hv=>x1 λis=>a2 λhps hK=>?_⟩
 subst hps
 refine kE (n:=69) (tk0:=False) (k:=1) (dv:=[]) (dp:=[]) (params:=["script"].map ae) (W:=λQ J=>wSs cL (cV fd.scope.names) (kA 0 (aV H0 895) ::(aV H0 895).tail) Q J) hB h1
  (λA E env G J sh Q hA hE hκ _ O _ hw=>hs1 A E env _ G J sh Q hloc hA hE hκ O hw) (λx hx=>?_) rfl (λ_=>.nil) hbind A E G s args _ K hA hi bq ho hv ⟨rfl,?_⟩
 ·simp only[cf,jh,be]at hx;subst hx
  exact .inl hloc
 ·rw[<- hbd,h3]
  exact ze8 is K hK
theorem zb8{h:Heap}{a:Addr}{m m':Str->Option Value}(x:h.Ns a m)(y:h.Ns a m'):m=m':=by
 refine x3 (λo es ep=>a4 λh1 h2 _ h4=>?_) x
 refine x3 (λo' es' ep'=>a4 λg1 g2 _ g4=>?_) y
 rw[h1]at g1;(have zq:=Option.some.inj g1;subst zq)
 rw[h2]at g2;cases g2
 funext name
 rw[<- h4,<- g4]
theorem rJ{P:Params}{h:Heap}{G:GM}:∀{nums:List Int}{vs:List Value},WellAll P h vs (ofPys (nums.map PyData.int))->VRels P G vs (nums.map PV.int)
 |[],vs,x=>by
  replace x:=(show ofPys (([]:List Int).map PyData.int)=[]from rfl)▸x
  cases x;exact .nil
 |i ::r,vs,x=>by
  replace x:=(show ofPys ((i ::r).map PyData.int)=WData.int i ::ofPys (r.map PyData.int)from rfl)▸x
  cases x with
  |cons h1 h2=>
   cases h1 with
   |int _ t=>exact .cons (by simp[VRel]) (rJ h2)
theorem wR{P:Params}{h:Heap}:∀{ds:List WData}{vs:List Value},WellAll P h vs ds->vs.length=ds.length
 |[],vs,x=>by cases x;rfl
 |d ::ds,vs,x=>by cases x with |cons h1 h2=>simp[wR h2]
noncomputable def zfx(h:Heap)(P:Nat):Heap:=h.update P λ_=>{cls:=.none,data:=.freed}
theorem qT(h:Heap){P a:Nat}(ne:a≠P):(zfx h P).get? a=h.get? a:=(Heap.SameBut.update ..).2 a ne
theorem yN(h:Heap)(P:Nat):(zfx h P).get? P=none:=by
 obtain⟨objs,l⟩:=h
 show(match(objs.modify P λ_=>{cls:=.none,data:=.freed})[P]? with
  |some ⟨_,_,.freed,_⟩=>none
  |o=>o)=none
 rw[Array.getElem?_modify,if_pos rfl]
 cases objs[P]?<;>rfl
noncomputable def tF(h:Heap):Heap:=zfx (zfx h 29) 36
theorem qS(h:Heap){a:Nat}(ne:¬XS a):(tF h).get? a=h.get? a:=(qT _ λq=>ne (.inr q)).trans (qT _ λq=>ne (.inl q))
theorem zfw(h:Heap){a:Nat}(q:XS a):(tF h).get? a=none:=by
 rcases q with rfl|rfl
 ·exact(qT _ (by decide)).trans (yN _ _)
 ·exact yN _ _
theorem zfv(h:Heap):∀a o,(tF h).get? a=some o->¬XS a/\h.get? a=some o:=λa o e=>by
 have ne:¬XS a:=λq=>by replace e:=(zfw h q)▸e;cases e
 exact⟨ne,by rw[<- qS h ne];exact e⟩
theorem zb9{h:Heap}{a:Nat}{m:Str->Option Value}(x:h.Ns a m)(t:TabX h):(tF h).Ns a m:=by
 have ne:=t.ns x
 refine x3 (λo es ep=>a2 λe r=>?_) x
 exact ex3 o es ep ⟨by rw[qS h ne];exact e,r⟩
theorem ze7{h:Heap}(x:h.NoLimit)(t:TabX h):(tF h).NoLimit:=by
 refine x1 (λmc=>a2 λn q=>?_) x
 exact⟨mc,zb9 n t,q⟩
theorem zk1{P:Params}{h:Heap}(KX:(MH.HX P).In h):(HK P).In h/\(HK P).In (tF h):=by
 have e0:∀a,XS a->(HK P).lookup a=none:=λa q=>by rcases q with rfl|rfl<;>kernel_rfl
 have k:∀a o,(HK P).lookup a=some o->¬XS a/\h.get? a=some o:=λa o e=>by
  have ne:¬XS a:=λq=>by replace e:=(e0 a q)▸e;cases e
  refine⟨ne,KX a o ?_⟩
  refine(?_:gy a ((29,_) ::(36,_) ::HK P)=some o)
  rw[cy,beq_eq_false_iff_ne.mpr (show a≠29 fromλq=>ne (.inl q))]
  refine(?_:gy a ((36,_) ::HK P)=some o)
  rw[cy,beq_eq_false_iff_ne.mpr (show a≠36 fromλq=>ne (.inr q))]
  exact e
 exact⟨λa o e=>(k a o e).2,λa o e=>by rw[qS h (k a o e).1];exact(k a o e).2⟩
theorem zhk{w:World}{prog:Program}{s₁:Shared}{mg mb:Str->Option Value}{fa l:Addr}{nums:List Int}{Q:Value->Shared->Prop}{E:Value->Shared->Prop}(KX:(MH.HX w.params).In s₁.heap)(hT:s₁.heap.Ns mainGlobals mg)(hb:s₁.heap.Ns builtinsNs mb)(hl:s₁.heap.NoLimit)
  (hmb:HMb mb) (hmg:mg (ae "law")=some (.ref fa)) (hg:s₁.gens=#[]) (hw:Well w.params s₁.heap (.ref l) (ofPy (PyData.list (nums.map PyData.int)))) (hlen:nums.length<=63)
  (hQ:∀s',OldK s₁.heap s'.heap->s'.os=s₁.os->AllBare s'.gens->Q (.bool true) s'):wpAny (model prog w) callerA (call (.ref fa) [.ref l]) Q E s₁:=by
 refine a2 (λK1 K2=>?_) (zk1 KX)
 have hx0:∀b,XS b->s₁.heap.get? b=some {cls:=.none,data:=.fields #[]}:=λb q=>by rcases q with rfl|rfl<;>exact KX _ _ rfl
 have ht:TabX s₁.heap:=λb q=>⟨_,#[],hx0 b q,rfl,trivial,rfl⟩
 have hB:BsOk (bs w.params (tF s₁.heap) mb):=zfP K2 (zb9 hb ht) (ze7 hl ht)
 have e1:mg=mgK w.params:=zb8 hT (zfP K1 hb hl).g
 have e2:fa=895:=by
  rw[e1]at hmg
  have h2:mgK w.params (ae "law")=some (.ref 895):=by kernel_rfl
  rw[h2]at hmg
  cases hmg;rfl
 subst e2
 have hm:=zas (prog:=prog) hB hmb
 have code:∀b,XS b->isCodeTable s₁.heap b:=λb q=>by
  rcases q with rfl|rfl
  ·obtain⟨o,vs,file,tf,flags,tg,inF,text,tt,h1,hc,r1,r2,_⟩:=yR (zfP K1 hb hl)
   refine ex3 33 o vs ⟨h1,hc,r1,?_⟩
   unfold Array.getD at r2
   split at r2
   ·rename_i q;rw[fv q];exact congrArg some r2
   ·cases r2
  ·obtain⟨o,vs,file,tf,flags,tg,inF,text,tt,h1,hc,r1,r2,_⟩:=zdz (zfP K1 hb hl)
   refine ex3 40 o vs ⟨h1,hc,r1,?_⟩
   unfold Array.getD at r2
   split at r2
   ·rename_i q;rw[fv q];exact congrArg some r2
   ·cases r2
 haveI:∀a,Decidable (XS a):=λa=>by unfold XS;infer_instance
 obtain⟨G,hG⟩:∃G:GM,G=λa=>if XS a then none else s₁.heap.get? a:=⟨_,rfl⟩
 have hGi:InH G s₁.heap:=by
  refine⟨λa o e=>?_,λa q=>by rw[hG];exact if_pos q,ht⟩
  rw[hG]at e
  have e:(if XS a then none else s₁.heap.get? a)=some o:=e
  by_cases q:XS a
  ·rw[if_pos q]at e;cases e
  ·rw[if_neg q]at e;exact e
 have hGo:Over (bs w.params (tF s₁.heap) mb) G:=λa o e=>by
  refine a2 (λne e=>?_) (zfv _ a o e)
  rw[hG];exact(if_neg ne).trans e
 have hv:VRels w.params G [.ref l] [.list (nums.map PV.int)]:=by
  refine .one ?_
  rw[show ofPy (PyData.list (nums.map PyData.int))=WData.list (ofPys (nums.map PyData.int))from rfl]at hw
  cases hw with
  |list h1 h2=>
   rename_i vs
   have hln:=wR h2
   rw[ofPys_eq,cz,cz]at hln
   have ne:¬XS l:=ht.nd h1 λps q=>by cases q
   simp only[VRel]
   exact ex4 l _ _ _ ⟨rfl,by rw[hG];exact(if_neg ne).trans h1,rfl,rfl,rfl,by simp;unfold bU;omega,by simpa using rJ h2⟩
 have hA:Room 70 callerA:=⟨rfl,by decide+kernel,by decide+kernel⟩
 refine wpAny_mono (hm.2 callerA E G s₁ [.ref l] [.list (nums.map PV.int)] (λr=>r=.bool true) hA hGi hGo hv ⟨nums,rfl,rfl⟩) (λv s' ⟨r,G',hr,gs,hvr⟩=>?_) λ_ _ e=>e
 subst hr
 simp only[VRel]at hvr
 subst hvr
 refine hQ s' ⟨λb o e=>?_,λb o e=>?_⟩ gs.os (gs.gens (.of_eq hg))
 ·by_cases q:XS b
  ·rw[hx0 b q]at e;(have zq:=Option.some.inj e;subst zq)
   refine x2 (λo' ps=>a4 λt1 _ _ t2=>?_) (gs.inh.tab b q)
   refine .inr (.inl ⟨code b q,rfl,#[],ps,rfl,?_⟩)
   rw[t1,t2,Array.empty_append]
  ·exact .inl (gs.keep b o q e)
 ·by_cases q:XS b
  ·refine x2 (λo' ps=>a2 λt1 _=>?_) (gs.inh.tab b q)
   exact⟨o',t1⟩
  ·exact⟨o,gs.keep b o q e⟩
theorem top4:PySem.Challenge.rw_te0060_04.Holds:=MH.hd (by
 intro w s₀ s₁ mg mb G Y fa o pm cd doc dV kV ho hd hcd hD hmg hg args vals as hpre hlay hrd hwl hlo
 have KX:(MH.HX w.params).In s₁.heap:=Y
 refine Ground.open G ?_
 intro T B D TE TW
 try(refine guard_noD D (by decide+kernel) ?_;clear D)
 wrow_args hpre hlay hrd hwl hlo
 rename_i nums hs hlay0 hL1 hr1 hl2 la1 la2 l vs la3 hL ra w1 r0 hI hr hc1 hc2
 refine zhk (mg:=mg) (mb:=mb) KX T.g T.b T.nolimit T.builtins hmg hg w1 (by omega) λs' h1 h2 h3=>?_
 refine⟨.inl ⟨.bool true,.bool true,[],rfl,λ_=>rfl,ReadsW.bool true,?_,λ_=>⟨jl,by simp⟩⟩,h1,h2,h3⟩
 first |rfl|kernel_rfl|(trace_state;simp[PySem.Challenge.rw_te0060_04]))
end Mine
end
theorem PySem.Challenge.cw_te0060_04_holds : PySem.Challenge.rw_te0060_04.Holds := by
  exact Mine.top4
