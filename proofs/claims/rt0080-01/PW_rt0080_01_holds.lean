import PyProof.Rows.All
import Wide.All
import OpenK.AllK
import KE.KPar
import KE.KLam
import Wide.FinOn
import PyProof.IsiH_list
import PySem.Challenge.RW_rt0080_01
set_option Elab.async false
set_option maxRecDepth 100000
set_option autoImplicit false
set_option compiler.extract_closed false
set_option linter.all false
-- Elim
section

namespace Mine
theorem and2E {a1 a2 C : Prop} (h : a1 ∧ a2) (k : a1 → a2 → C) : C := k (h.1) (h.2)
theorem and3E {a1 a2 a3 C : Prop} (h : a1 ∧ a2 ∧ a3) (k : a1 → a2 → a3 → C) : C := k (h.1) (h.2.1) (h.2.2)
theorem and4E {a1 a2 a3 a4 C : Prop} (h : a1 ∧ a2 ∧ a3 ∧ a4) (k : a1 → a2 → a3 → a4 → C) : C := k (h.1) (h.2.1) (h.2.2.1) (h.2.2.2)
theorem and5E {a1 a2 a3 a4 a5 C : Prop} (h : a1 ∧ a2 ∧ a3 ∧ a4 ∧ a5) (k : a1 → a2 → a3 → a4 → a5 → C) : C := k (h.1) (h.2.1) (h.2.2.1) (h.2.2.2.1) (h.2.2.2.2)
theorem and6E {a1 a2 a3 a4 a5 a6 C : Prop} (h : a1 ∧ a2 ∧ a3 ∧ a4 ∧ a5 ∧ a6) (k : a1 → a2 → a3 → a4 → a5 → a6 → C) : C := k (h.1) (h.2.1) (h.2.2.1) (h.2.2.2.1) (h.2.2.2.2.1) (h.2.2.2.2.2)
theorem and10E {a1 a2 a3 a4 a5 a6 a7 a8 a9 a10 C : Prop} (h : a1 ∧ a2 ∧ a3 ∧ a4 ∧ a5 ∧ a6 ∧ a7 ∧ a8 ∧ a9 ∧ a10) (k : a1 → a2 → a3 → a4 → a5 → a6 → a7 → a8 → a9 → a10 → C) : C := k (h.1) (h.2.1) (h.2.2.1) (h.2.2.2.1) (h.2.2.2.2.1) (h.2.2.2.2.2.1) (h.2.2.2.2.2.2.1) (h.2.2.2.2.2.2.2.1) (h.2.2.2.2.2.2.2.2.1) (h.2.2.2.2.2.2.2.2.2)
theorem ex1E {t1 : Sort _} {p : t1 → Prop} {C : Prop} (h : ∃ x1, p x1) (k : ∀ x1, p x1 → C) : C := (h.elim fun x1 h1 => k x1 h1)
theorem ex2E {t1 : Sort _} {t2 : Sort _} {p : t1 → t2 → Prop} {C : Prop} (h : ∃ x1 x2, p x1 x2) (k : ∀ x1 x2, p x1 x2 → C) : C := (h.elim fun x1 h1 => (h1.elim fun x2 h2 => k x1 x2 h2))
theorem ex3E {t1 : Sort _} {t2 : Sort _} {t3 : Sort _} {p : t1 → t2 → t3 → Prop} {C : Prop} (h : ∃ x1 x2 x3, p x1 x2 x3) (k : ∀ x1 x2 x3, p x1 x2 x3 → C) : C := (h.elim fun x1 h1 => (h1.elim fun x2 h2 => (h2.elim fun x3 h3 => k x1 x2 x3 h3)))
theorem ex4E {t1 : Sort _} {t2 : Sort _} {t3 : Sort _} {t4 : Sort _} {p : t1 → t2 → t3 → t4 → Prop} {C : Prop} (h : ∃ x1 x2 x3 x4, p x1 x2 x3 x4) (k : ∀ x1 x2 x3 x4, p x1 x2 x3 x4 → C) : C := (h.elim fun x1 h1 => (h1.elim fun x2 h2 => (h2.elim fun x3 h3 => (h3.elim fun x4 h4 => k x1 x2 x3 x4 h4))))
theorem ex6E {t1 : Sort _} {t2 : Sort _} {t3 : Sort _} {t4 : Sort _} {t5 : Sort _} {t6 : Sort _} {p : t1 → t2 → t3 → t4 → t5 → t6 → Prop} {C : Prop} (h : ∃ x1 x2 x3 x4 x5 x6, p x1 x2 x3 x4 x5 x6) (k : ∀ x1 x2 x3 x4 x5 x6, p x1 x2 x3 x4 x5 x6 → C) : C := (h.elim fun x1 h1 => (h1.elim fun x2 h2 => (h2.elim fun x3 h3 => (h3.elim fun x4 h4 => (h4.elim fun x5 h5 => (h5.elim fun x6 h6 => k x1 x2 x3 x4 x5 x6 h6))))))
theorem ex7E {t1 : Sort _} {t2 : Sort _} {t3 : Sort _} {t4 : Sort _} {t5 : Sort _} {t6 : Sort _} {t7 : Sort _} {p : t1 → t2 → t3 → t4 → t5 → t6 → t7 → Prop} {C : Prop} (h : ∃ x1 x2 x3 x4 x5 x6 x7, p x1 x2 x3 x4 x5 x6 x7) (k : ∀ x1 x2 x3 x4 x5 x6 x7, p x1 x2 x3 x4 x5 x6 x7 → C) : C := (h.elim fun x1 h1 => (h1.elim fun x2 h2 => (h2.elim fun x3 h3 => (h3.elim fun x4 h4 => (h4.elim fun x5 h5 => (h5.elim fun x6 h6 => (h6.elim fun x7 h7 => k x1 x2 x3 x4 x5 x6 x7 h7)))))))
theorem ex8E {t1 : Sort _} {t2 : Sort _} {t3 : Sort _} {t4 : Sort _} {t5 : Sort _} {t6 : Sort _} {t7 : Sort _} {t8 : Sort _} {p : t1 → t2 → t3 → t4 → t5 → t6 → t7 → t8 → Prop} {C : Prop} (h : ∃ x1 x2 x3 x4 x5 x6 x7 x8, p x1 x2 x3 x4 x5 x6 x7 x8) (k : ∀ x1 x2 x3 x4 x5 x6 x7 x8, p x1 x2 x3 x4 x5 x6 x7 x8 → C) : C := (h.elim fun x1 h1 => (h1.elim fun x2 h2 => (h2.elim fun x3 h3 => (h3.elim fun x4 h4 => (h4.elim fun x5 h5 => (h5.elim fun x6 h6 => (h6.elim fun x7 h7 => (h7.elim fun x8 h8 => k x1 x2 x3 x4 x5 x6 x7 x8 h8))))))))
end Mine
end
-- K39
section
open PySem PySem.W PySem.Calls PyProof.Rows
namespace Mine
noncomputable def nthS : List Stmt → Nat → Stmt
  | s :: _, 0 => s
  | _ :: r, n + 1 => nthS r n
  | [], _ => default
noncomputable def prmS : Stmt → Arguments
  | .FunctionDef _ a _ _ _ _ _ _ _ _ => a
  | _ => default
noncomputable def bodS : Stmt → List Stmt
  | .FunctionDef _ _ b _ _ _ _ _ _ _ => b
  | .ClassDef _ _ _ b _ _ _ _ _ _ _ => b
  | _ => []
noncomputable def scpS : Stmt → Scope
  | .FunctionDef _ _ _ _ _ _ s _ _ _ => s
  | _ => default
noncomputable def tS (i : Nat) : Stmt := nthS PySem.Challenge.pw_rt0080_01.main.body i
noncomputable def mS (i j : Nat) : Stmt := nthS (bodS (tS i)) j
noncomputable abbrev vs (s : String) (t : Nat) : Value := .str (Str.ofString s) t
noncomputable abbrev vi (i : Int) : Value := .int i 0
noncomputable abbrev tO (l : Array Value) : Obj := { cls := .type "tuple", data := .seq l }
noncomputable abbrev cO (l : Array Value) : Obj := { cls := .type "code", data := .fields l }
noncomputable abbrev de (P : Params) (k : String) (t : Nat) (v : Value) : DictEntry := { hash := PyData.keyHash P (Str.ofString k), key := .str (Str.ofString k) t, val := v }
noncomputable abbrev di (k : Nat) (t : Nat) (v : Value) : DictEntry := { hash := k, key := .int k t, val := v }
noncomputable abbrev fO (s : Stmt) (n q m : String) (t : Nat) (c : Addr) : Obj := { cls := .type "function", data := .func (fnOf (Str.ofString n) (Str.ofString q) (prmS s) (bodS s) (scpS s) .none .none .none (.str (Str.ofString m) t) none (.ref c) .none) }
noncomputable def K39 (P : Params) : Frag := [
(2, { cls := .none, data := Data.dict #[de P "\x69mport.loaded._sre" 183 (.bool true), de P "class._frozen_importlib.BuiltinImporter" 185 (.ref 14), de P "watched.\x69mport" 206 (.ref 18), de P "class._frozen_importlib.ModuleSpec" 216 (.ref 22), de P "sys.modules.booked-epoch" 245 ((vi 3)), de P "\x69mport.later-laid._sre" 270 (.bool true), de P "watched.library" 272 (.ref 27), de P "watched.library-objects" 0 (vs "\x0c" 0), de P "watched.library-deep._sre" 273 (vs "\x04\x00\x00\x0b\x04\x00\x00\x0b\x04\x00\x00\x03\x04\x00\x00\x0b\x08\x04dict\x02" 0), de P "type.__subclasses__.Exception.0" 307 ((vi 48)), de P "type.__subclasses__.Exception.n" 308 ((vi 1))] 11 }),
(3, { cls := .type "dict", data := Data.dict #[de P "__name__" 165 (vs "law_rt0080_01" 725), de P "__doc__" 166 (.none), de P "__package__" 167 (.none), de P "__loader__" 168 (.builtin "__main__.__loader__#opaque"), de P "__spec__" 169 (.none), de P "__annotations__" 170 (.ref 6), de P "__builtins__" 171 (.ref 4), de P "__file__" 173 (vs "/claim/cut.py" 172), de P "__cached__" 174 (.none), de P "_sre" 275 (.ref 12), de P "_wall" 288 (.ref 38), de P "Error" 310 (.ref 48), de P "error_reply" 326 (.ref 61), de P "parse257" 337 (.ref 70), de P "_twin_re_1" 377 (.ref 75), de P "translate" 386 (.ref 82), de P "_special_chars_map" 534 (.ref 84), de P "escape" 541 (.ref 94), de P "_translate" 562 (.ref 101), de P "_join_translated_parts" 575 (.ref 108), de P "_plain_name" 586 (.ref 115), de P "ABCMeta" 612 (.ref 132), de P "_ABCLike" 655 (.ref 165), de P "_abc_plain_meta" 662 (.ref 174), de P "fspath" 674 (.ref 181), de P "_check_arg_types" 687 (.ref 188), de P "_get_sep" 696 (.ref 195), de P "join" 707 (.ref 202), de P "split" 718 (.ref 209), de P "commonpath" 724 (.ref 214), de P "_law_doubled" 733 (.ref 221), de P "_law_above" 741 (.ref 228), de P "_law_plain" 753 (.ref 235), de P "_law_runs" 759 (.ref 240), de P "_law_shares" 772 (.ref 247), de P "_law_cut" 785 (.ref 254), de P "law" 791 (.ref 259)] 37 }),
(32, tO #[]),
(34, tO #[vs "k" 285]),
(35, tO #[]),
(37, cO #[vs "_wall" 282, vs "_wall" 283, vs "/claim/cut.py" 284, (vi 2), (vi 1), (vi 0), (vi 0), (vi 3), .ref 32, .bool true, (vi 276), .ref 33, .none, .ref 34, .ref 35, .ref 36, (vi 286), (vi 2), vs "/claim/cut.py" 287]),
(38, fO (tS 1) "_wall" "_wall" "__main__" 164 37),
(39, tO #[.type "Exception"]),
(46, tO #[]),
(47, { cls := .type "dict", data := Data.dict #[de P "__module__" 298 (vs "cpy313.ftplib" 289), de P "__firstlineno__" 302 (Value.int 6 301), de P "__static_attributes__" 303 (.ref 46), de P "__weakref__" 305 (.ref 49), de P "__doc__" 306 (.none)] 3 }),
(48, { cls := .type "type", data := Data.cls { name := Str.ofString "Error", bases := [.type "Exception"], mro := [.ref 48, .type "Exception", .type "BaseException", .type "object"], ns := 47, qualname := Str.ofString "Error", subclasses := [.ref 61] }, slots := #[some (.ref 39), none, some (vs "Error" 291), some (vs "Error" 299), some (.builtin "Exception.__new__"), some (.bool true)] }),
(49, { cls := .type "getset_descriptor", data := Data.fields #[vs "__weakref__" 304, .ref 48, .builtin "ExceptionGroup.__weakref__", .none] }),
(52, tO #[.ref 48]),
(59, tO #[]),
(60, { cls := .type "dict", data := Data.dict #[de P "__module__" 318 (vs "cpy313.ftplib" 289), de P "__firstlineno__" 322 (Value.int 8 321), de P "__static_attributes__" 323 (.ref 59), de P "__doc__" 324 (.none)] 2 }),
(61, { cls := .type "type", data := Data.cls { name := Str.ofString "error_reply", bases := [.ref 48], mro := [.ref 61, .ref 48, .type "Exception", .type "BaseException", .type "object"], ns := 60, qualname := Str.ofString "error_reply" }, slots := #[some (.ref 52), none, some (vs "error_reply" 311), some (vs "error_reply" 319), some (.builtin "Exception.__new__"), some (.bool true)] }),
(64, tO #[]),
(66, tO #[vs "resp" 330, vs "dirname" 331, vs "i" 332, vs "n" 333, vs "c" 334]),
(67, tO #[]),
(69, cO #[vs "parse257" 327, vs "parse257" 328, vs "/claim/cut.py" 329, (vi 10), (vi 1), (vi 0), (vi 0), (vi 3), .ref 64, .bool true, (vi 276), .ref 65, .none, .ref 66, .ref 67, .ref 68, (vi 335), (vi 10), vs "/claim/cut.py" 336]),
(70, fO (tS 5) "parse257" "parse257" "cpy313.ftplib" 289 69),
(74, tO #[(vi 14), (vi 14), (vi 4), (vi 1), (vi 1), (vi 9), (vi 0), (vi 64), (vi 0), (vi 1342177280), (vi 0), (vi 0), (vi 0), (vi 0), (vi 0), (vi 17), (vi 0), (vi 13), (vi 11), (vi 9), (vi 0), (vi 64), (vi 0), (vi 1342177280), (vi 0), (vi 0), (vi 0), (vi 0), (vi 0), (vi 17), (vi 1), (vi 1)]),
(75, { cls := .type "re.Pattern", data := Data.fields #[vs "([&~|])" 341, Value.int 32 376, (vi 1), .none, .none, .ref 74, (vi 0)] }),
(76, tO #[]),
(78, tO #[vs "pat" 381, vs "STAR" 382, vs "parts" 383]),
(79, tO #[]),
(81, cO #[vs "translate" 378, vs "translate" 379, vs "/claim/cut.py" 380, (vi 29), (vi 1), (vi 0), (vi 0), (vi 3), .ref 76, .bool true, (vi 276), .ref 77, .none, .ref 78, .ref 79, .ref 80, (vi 384), (vi 29), vs "/claim/cut.py" 385]),
(82, fO (tS 8) "translate" "translate" "cpy313.fnmatch" 338 81),
(84, { cls := .type "dict", data := Data.dict #[di 40 390 (vs "\\(" 394), di 41 396 (vs "\\)" 400), di 91 402 (vs "\\[" 406), di 93 408 (vs "\\]" 412), di 123 414 (vs "\\{" 418), di 125 420 (vs "\\}" 424), di 63 426 (vs "\\?" 430), di 42 432 (vs "\\*" 436), di 43 438 (vs "\\+" 442), di 45 444 (vs "\\-" 448), di 124 450 (vs "\\|" 454), di 94 456 (vs "\\^" 460), di 36 462 (vs "\\$" 466), di 92 468 (vs "\\\\" 472), di 46 474 (vs "\\." 478), di 38 480 (vs "\\&" 484), di 126 486 (vs "\\~" 490), di 35 492 (vs "\\#" 496), di 32 498 (vs "\\ " 502), di 9 504 (vs "\\\t" 508), di 10 510 (vs "\\\n" 514), di 13 516 (vs "\\\x0d" 520), di 11 522 (vs "\\\x0b" 526), di 12 528 (vs "\\\x0c" 532)] 24 }),
(88, tO #[]),
(90, tO #[vs "pattern" 538]),
(91, tO #[]),
(93, cO #[vs "escape" 535, vs "escape" 536, vs "/claim/cut.py" 537, (vi 35), (vi 1), (vi 0), (vi 0), (vi 3), .ref 88, .bool true, (vi 276), .ref 89, .none, .ref 90, .ref 91, .ref 92, (vi 539), (vi 35), vs "/claim/cut.py" 540]),
(94, fO (tS 11) "escape" "escape" "re" 387 93),
(95, tO #[]),
(97, tO #[vs "pat" 547, vs "STAR" 548, vs "QUESTION_MARK" 549, vs "res" 550, vs "add" 551, vs "i" 552, vs "n" 553, vs "c" 554, vs "j" 555, vs "stuff" 556, vs "chunks" 557, vs "k" 558, vs "chunk" 559]),
(98, tO #[]),
(100, cO #[vs "_translate" 544, vs "_translate" 545, vs "/claim/cut.py" 546, (vi 42), (vi 3), (vi 0), (vi 0), (vi 3), .ref 95, .bool true, (vi 276), .ref 96, .none, .ref 97, .ref 98, .ref 99, (vi 560), (vi 42), vs "/claim/cut.py" 561]),
(101, fO (tS 13) "_translate" "_translate" "cpy313.fnmatch" 542 100),
(102, tO #[]),
(104, tO #[vs "inp" 566, vs "STAR" 567, vs "res" 568, vs "add" 569, vs "i" 570, vs "n" 571, vs "fixed" 572]),
(105, tO #[]),
(107, cO #[vs "_join_translated_parts" 563, vs "_join_translated_parts" 564, vs "/claim/cut.py" 565, (vi 104), (vi 2), (vi 0), (vi 0), (vi 3), .ref 102, .bool true, (vi 276), .ref 103, .none, .ref 104, .ref 105, .ref 106, (vi 573), (vi 104), vs "/claim/cut.py" 574]),
(108, fO (tS 14) "_join_translated_parts" "_join_translated_parts" "cpy313.fnmatch" 542 107),
(109, tO #[]),
(111, tO #[vs "x" 581, vs "what" 582, vs "kind" 583]),
(112, tO #[]),
(114, cO #[vs "_plain_name" 578, vs "_plain_name" 579, vs "/claim/cut.py" 580, (vi 132), (vi 2), (vi 0), (vi 0), (vi 3), .ref 109, .bool true, (vi 276), .ref 110, .none, .ref 111, .ref 112, .ref 113, (vi 584), (vi 132), vs "/claim/cut.py" 585]),
(115, fO (tS 16) "_plain_name" "_plain_name" "os" 576 114),
(116, tO #[.type "type"]),
(123, tO #[]),
(125, tO #[vs "cls" 604, vs "subclass" 605]),
(126, tO #[]),
(128, cO #[vs "register" 601, vs "ABCMeta.register" 602, vs "/claim/cut.py" 603, (vi 140), (vi 2), (vi 0), (vi 0), (vi 3), .ref 123, .bool true, (vi 276), .ref 124, .none, .ref 125, .ref 126, .ref 127, (vi 606), (vi 140), vs "/claim/cut.py" 607]),
(129, fO (mS 18 0) "register" "ABCMeta.register" "abc" 587 128),
(130, tO #[]),
(131, { cls := .type "dict", data := Data.dict #[de P "__module__" 596 (vs "abc" 587), de P "__firstlineno__" 600 (Value.int 138 599), de P "register" 608 (.ref 129), de P "__static_attributes__" 609 (.ref 130), de P "__doc__" 610 (.none)] 2 }),
(132, { cls := .type "type", data := Data.cls { name := Str.ofString "ABCMeta", bases := [.type "type"], mro := [.ref 132, .type "type", .type "object"], ns := 131, qualname := Str.ofString "ABCMeta", subclasses := [.ref 165] }, slots := #[some (.ref 116), none, some (vs "ABCMeta" 589), some (vs "ABCMeta" 597), some (.builtin "type.__new__"), some (.bool true)] }),
(135, tO #[.ref 132]),
(142, tO #[]),
(144, tO #[vs "cls" 630, vs "instance" 631, vs "C" 632]),
(145, tO #[]),
(147, cO #[vs "__instancecheck__" 627, vs "_ABCLike.__instancecheck__" 628, vs "/claim/cut.py" 629, (vi 145), (vi 2), (vi 0), (vi 0), (vi 3), .ref 142, .bool true, (vi 276), .ref 143, .none, .ref 144, .ref 145, .ref 146, (vi 633), (vi 145), vs "/claim/cut.py" 634]),
(148, fO (mS 20 0) "__instancecheck__" "_ABCLike.__instancecheck__" "collections.abc" 613 147),
(149, tO #[]),
(151, tO #[vs "cls" 639, vs "C" 640]),
(152, tO #[]),
(154, cO #[vs "__subclasscheck__" 636, vs "_ABCLike.__subclasscheck__" 637, vs "/claim/cut.py" 638, (vi 151), (vi 2), (vi 0), (vi 0), (vi 3), .ref 149, .bool true, (vi 276), .ref 150, .none, .ref 151, .ref 152, .ref 153, (vi 641), (vi 151), vs "/claim/cut.py" 642]),
(155, fO (mS 20 1) "__subclasscheck__" "_ABCLike.__subclasscheck__" "collections.abc" 613 154),
(156, tO #[]),
(158, tO #[vs "cls" 647, vs "subclass" 648]),
(159, tO #[]),
(161, cO #[vs "register" 644, vs "_ABCLike.register" 645, vs "/claim/cut.py" 646, (vi 156), (vi 2), (vi 0), (vi 0), (vi 3), .ref 156, .bool true, (vi 276), .ref 157, .none, .ref 158, .ref 159, .ref 160, (vi 649), (vi 156), vs "/claim/cut.py" 650]),
(162, fO (mS 20 2) "register" "_ABCLike.register" "collections.abc" 613 161),
(163, tO #[]),
(164, { cls := .type "dict", data := Data.dict #[de P "__module__" 622 (vs "collections.abc" 613), de P "__firstlineno__" 626 (Value.int 143 625), de P "__instancecheck__" 635 (.ref 148), de P "__subclasscheck__" 643 (.ref 155), de P "register" 651 (.ref 162), de P "__static_attributes__" 652 (.ref 163), de P "__doc__" 653 (.none)] 2 }),
(165, { cls := .type "type", data := Data.cls { name := Str.ofString "_ABCLike", bases := [.ref 132], mro := [.ref 165, .ref 132, .type "type", .type "object"], ns := 164, qualname := Str.ofString "_ABCLike" }, slots := #[some (.ref 135), none, some (vs "_ABCLike" 615), some (vs "_ABCLike" 623), some (.builtin "type.__new__"), some (.bool true)] }),
(168, tO #[]),
(170, tO #[vs "C" 659]),
(171, tO #[]),
(173, cO #[vs "_abc_plain_meta" 656, vs "_abc_plain_meta" 657, vs "/claim/cut.py" 658, (vi 158), (vi 1), (vi 0), (vi 0), (vi 3), .ref 168, .bool true, (vi 276), .ref 169, .none, .ref 170, .ref 171, .ref 172, (vi 660), (vi 158), vs "/claim/cut.py" 661]),
(174, fO (tS 21) "_abc_plain_meta" "_abc_plain_meta" "collections.abc" 613 173),
(175, tO #[]),
(177, tO #[vs "path" 668, vs "kind" 669, vs "hook" 670, vs "given" 671]),
(178, tO #[]),
(180, cO #[vs "fspath" 665, vs "fspath" 666, vs "/claim/cut.py" 667, (vi 162), (vi 1), (vi 0), (vi 0), (vi 3), .ref 175, .bool true, (vi 276), .ref 176, .none, .ref 177, .ref 178, .ref 179, (vi 672), (vi 162), vs "/claim/cut.py" 673]),
(181, fO (tS 23) "fspath" "fspath" "os" 663 180),
(182, tO #[]),
(184, tO #[vs "funcname" 680, vs "args" 681, vs "hasstr" 682, vs "hasbytes" 683, vs "s" 684]),
(185, tO #[]),
(187, cO #[vs "_check_arg_types" 677, vs "_check_arg_types" 678, vs "/claim/cut.py" 679, (vi 179), (vi 1), (vi 0), (vi 0), (vi 7), .ref 182, .bool true, (vi 276), .ref 183, .none, .ref 184, .ref 185, .ref 186, (vi 685), (vi 179), vs "/claim/cut.py" 686]),
(188, fO (tS 25) "_check_arg_types" "_check_arg_types" "cpy313.genericpath" 675 187),
(189, tO #[]),
(191, tO #[vs "path" 693]),
(192, tO #[]),
(194, cO #[vs "_get_sep" 690, vs "_get_sep" 691, vs "/claim/cut.py" 692, (vi 191), (vi 1), (vi 0), (vi 0), (vi 3), .ref 189, .bool true, (vi 276), .ref 190, .none, .ref 191, .ref 192, .ref 193, (vi 694), (vi 191), vs "/claim/cut.py" 695]),
(195, fO (tS 27) "_get_sep" "_get_sep" "cpy313.posixpath" 688 194),
(196, tO #[]),
(198, tO #[vs "a" 700, vs "p" 701, vs "sep" 702, vs "path" 703, vs "b" 704]),
(199, tO #[]),
(201, cO #[vs "join" 697, vs "join" 698, vs "/claim/cut.py" 699, (vi 196), (vi 1), (vi 0), (vi 0), (vi 7), .ref 196, .bool true, (vi 276), .ref 197, .none, .ref 198, .ref 199, .ref 200, (vi 705), (vi 196), vs "/claim/cut.py" 706]),
(202, fO (tS 28) "join" "join" "cpy313.posixpath" 688 201),
(203, tO #[]),
(205, tO #[vs "p" 711, vs "sep" 712, vs "i" 713, vs "head" 714, vs "tail" 715]),
(206, tO #[]),
(208, cO #[vs "split" 708, vs "split" 709, vs "/claim/cut.py" 710, (vi 213), (vi 1), (vi 0), (vi 0), (vi 3), .ref 203, .bool true, (vi 276), .ref 204, .none, .ref 205, .ref 206, .ref 207, (vi 716), (vi 213), vs "/claim/cut.py" 717]),
(209, fO (tS 29) "split" "split" "cpy313.posixpath" 688 208),
(210, tO #[]),
(213, cO #[vs "commonpath" 719, vs "commonpath" 720, vs "/claim/cut.py" 721, (vi 221), (vi 1), (vi 0), (vi 0), (vi 3), .ref 210, .bool true, (vi 276), .ref 211, .none, .none, .none, .ref 212, (vi 722), (vi 221), vs "/claim/cut.py" 723]),
(214, fO (tS 30) "commonpath" "commonpath" "cpy313.posixpath" 688 213),
(215, tO #[]),
(217, tO #[vs "text" 730]),
(218, tO #[]),
(220, cO #[vs "_law_doubled" 727, vs "_law_doubled" 728, vs "/claim/cut.py" 729, (vi 251), (vi 1), (vi 0), (vi 0), (vi 3), .ref 215, .bool true, (vi 276), .ref 216, .none, .ref 217, .ref 218, .ref 219, (vi 731), (vi 251), vs "/claim/cut.py" 732]),
(221, fO (tS 32) "_law_doubled" "_law_doubled" "law_rt0080_01" 725 220),
(222, tO #[]),
(224, tO #[vs "one" 737, vs "folder" 738]),
(225, tO #[]),
(227, cO #[vs "_law_above" 734, vs "_law_above" 735, vs "/claim/cut.py" 736, (vi 253), (vi 2), (vi 0), (vi 0), (vi 3), .ref 222, .bool true, (vi 276), .ref 223, .none, .ref 224, .ref 225, .ref 226, (vi 739), (vi 253), vs "/claim/cut.py" 740]),
(228, fO (tS 33) "_law_above" "_law_above" "law_rt0080_01" 725 227),
(229, tO #[]),
(231, tO #[vs "run" 745, vs "told" 746, vs "k" 747, vs "size" 748, vs "sign" 749, vs "closed" 750]),
(232, tO #[]),
(234, cO #[vs "_law_plain" 742, vs "_law_plain" 743, vs "/claim/cut.py" 744, (vi 255), (vi 1), (vi 0), (vi 0), (vi 3), .ref 229, .bool true, (vi 276), .ref 230, .none, .ref 231, .ref 232, .ref 233, (vi 751), (vi 255), vs "/claim/cut.py" 752]),
(235, fO (tS 34) "_law_plain" "_law_plain" "law_rt0080_01" 725 234),
(236, tO #[]),
(239, cO #[vs "_law_runs" 754, vs "_law_runs" 755, vs "/claim/cut.py" 756, (vi 265), (vi 1), (vi 0), (vi 0), (vi 3), .ref 236, .bool true, (vi 276), .ref 237, .none, .none, .none, .ref 238, (vi 757), (vi 265), vs "/claim/cut.py" 758]),
(240, fO (tS 35) "_law_runs" "_law_runs" "law_rt0080_01" 725 239),
(241, tO #[]),
(243, tO #[vs "runs" 763, vs "text" 764, vs "at" 765, vs "shares" 766, vs "run" 767, vs "k" 768, vs "end" 769]),
(244, tO #[]),
(246, cO #[vs "_law_shares" 760, vs "_law_shares" 761, vs "/claim/cut.py" 762, (vi 274), (vi 2), (vi 0), (vi 0), (vi 3), .ref 241, .bool true, (vi 276), .ref 242, .none, .ref 243, .ref 244, .ref 245, (vi 770), (vi 274), vs "/claim/cut.py" 771]),
(247, fO (tS 36) "_law_shares" "_law_shares" "law_rt0080_01" 725 246),
(248, tO #[]),
(250, tO #[vs "x0" 776, vs "x1" 777, vs "x2" 778, vs "name" 779, vs "k" 780, vs "first" 781, vs "second" 782]),
(251, tO #[]),
(253, cO #[vs "_law_cut" 773, vs "_law_cut" 774, vs "/claim/cut.py" 775, (vi 286), (vi 4), (vi 0), (vi 0), (vi 3), .ref 248, .bool true, (vi 276), .ref 249, .none, .ref 250, .ref 251, .ref 252, (vi 783), (vi 286), vs "/claim/cut.py" 784]),
(254, fO (tS 37) "_law_cut" "_law_cut" "law_rt0080_01" 725 253),
(255, tO #[]),
(258, cO #[vs "law" 786, vs "law" 787, vs "/claim/cut.py" 788, (vi 292), (vi 1), (vi 0), (vi 0), (vi 3), .ref 255, .bool true, (vi 276), .ref 256, .none, .none, .none, .ref 257, (vi 789), (vi 292), vs "/claim/cut.py" 790]),
(259, fO (tS 38) "law" "law" "law_rt0080_01" 725 258)]
end Mine
end
-- PW
section
open PySem PySem.W PySem.Calls PyProof.Rows PySem.Builtin PySem.Builtin.Str PySem.StrLaws
namespace Mine
noncomputable def BmAt (h : Heap) : Prop := ∃ o, h.get? 4 = some o ∧ o.cls = .type "module" ∧ o.dict = some builtinsNs ∧ o.data = .plain
noncomputable def LawG (q : Program × World) : Prop := ∀ (s : Shared) (l : Addr) (vs : List Value) (ns : List Int) (R : Result → Shared → Prop),
    (K39 q.2.params).In s.heap → (∃ mb, s.heap.Ns builtinsNs mb ∧ ∀ x : Str, x ≠ "__name__" → mb x = bootBuiltins x) → s.heap.get? 96 = some (tabObj #[]) → BmAt s.heap →
    s.heap.IsList l vs.toArray → IntsAre vs ns → ns.length ≤ 63 →
    (∀ h' tk, (∀ b o, b ≠ 96 → s.heap.get? b = some o → h'.get? b = some o) → (∃ ps, h'.get? 96 = some (tabObj ps)) → R (.ok (.ret (.bool true))) { s with heap := h', toks := tk }) →
    codeAny (model q.1 q.2) callerA (.call (.ref 259) ⟨[.ref l], []⟩) R s
theorem pw_ex : ∃ q, LawG q → ∀ r, LawG r := by
  by_cases h : ∃ q, ¬ LawG q
  · exact h.elim fun q hq => ⟨q, fun g => absurd g hq⟩
  · exact ⟨⟨default, ⟨fun _ _ => 0, { strHash := fun _ => 0, shareClass := fun _ => 0, mergeTok := id, idOf := fun _ => 0, idOfShared := fun _ _ => 0, followText := fun _ => false, idOfImm := fun _ => 0 }⟩⟩, fun _ r => Classical.byContradiction fun g => h ⟨r, g⟩⟩
@[irreducible] noncomputable def prog : Program := pw_ex.choose.1
@[irreducible] noncomputable def w : World := pw_ex.choose.2
theorem LawG.all : LawG (prog, w) → ∀ r, LawG r := by
  rw [prog, w]
  exact pw_ex.choose_spec
end Mine
end
-- Core
section
open PySem PySem.W PySem.Calls PyProof.Rows
namespace Mine
inductive D where
  | none
  | bool (b : Bool)
  | int (i : Int)
  | str (x : List Nat)
  | list (ds : List D)
  | tuple (ds : List D)
  | val (v : Value)
  | obj (a : Addr) (o : Obj)
noncomputable def S (x : List Nat) : Str := ⟨x.toArray⟩
theorem S_cps (x : List Nat) : (S x).cps.toList = x := rfl
theorem S_of (x : Str) : S x.cps.toList = x := by cases x; simp [S]
theorem zl : (S []).length ≤ sizeLine := Nat.zero_le _
theorem S_length (x : List Nat) : (S x).length = x.length := by simp [S, Str.length]
mutual
inductive Rd (X : Addr → Prop) (h : Heap) : Value → D → Prop
  | none : Rd X h Value.none D.none
  | bool (b : Bool) : Rd X h (Value.bool b) (D.bool b)
  | int (i : Int) (t : Tok) : Rd X h (Value.int i t) (D.int i)
  | str (x : List Nat) (t : Tok) : Rd X h (Value.str (S x) t) (D.str x)
  | list {a : Addr} {vs : List Value} {ds : List D} : ¬ X a → h.IsList a vs.toArray → RdAll X h vs ds → Rd X h (Value.ref a) (D.list ds)
  | tuple {a : Addr} {vs : List Value} {ds : List D} : ¬ X a → IsTup h a vs.toArray → RdAll X h vs ds → Rd X h (Value.ref a) (D.tuple ds)
  | val (v : Value) : Rd X h v (D.val v)
  | obj {a : Addr} {o : Obj} : ¬ X a → h.get? a = some o → Rd X h (Value.ref a) (D.obj a o)
inductive RdAll (X : Addr → Prop) (h : Heap) : List Value → List D → Prop
  | nil : RdAll X h [] []
  | cons {v : Value} {vs : List Value} {d : D} {ds : List D} : Rd X h v d → RdAll X h vs ds → RdAll X h (v :: vs) (d :: ds)
end
section
variable {X X' : Addr → Prop} {h h' : Heap}
theorem Rd.mono (hx : ∀ a, X' a → X a ∨ h.get? a = Option.none) (hk : ∀ b o, ¬ X b → h.get? b = some o → h'.get? b = some o) {v : Value} {d : D} (r : Rd X h v d) : Rd X' h' v d :=
  Rd.rec (motive_1 := fun v d _ => Rd X' h' v d) (motive_2 := fun vs ds _ => RdAll X' h' vs ds)
    .none (fun b => .bool b) (fun i t => .int i t) (fun x t => .str x t)
    (fun hn hg _ ih => .list (fun q => (hx _ q).elim hn (fun e => ex1E hg fun o z => by rw [z.1] at e; cases e)) (hg.elim fun o z => ⟨o, hk _ _ hn z.1, z.2⟩) ih)
    (fun hn hg _ ih => .tuple (fun q => (hx _ q).elim hn (fun e => ex1E hg fun o z => by rw [z.1] at e; cases e)) (hg.elim fun o z => ⟨o, hk _ _ hn z.1, z.2⟩) ih)
    (fun v => .val v) (fun hn e => .obj (fun q => (hx _ q).elim hn (fun e' => by rw [e] at e'; cases e')) (hk _ _ hn e)) .nil (fun _ _ a b => .cons a b) r
theorem RdAll.mono (hx : ∀ a, X' a → X a ∨ h.get? a = Option.none) (hk : ∀ b o, ¬ X b → h.get? b = some o → h'.get? b = some o) {vs : List Value} {ds : List D} (r : RdAll X h vs ds) : RdAll X' h' vs ds :=
  RdAll.rec (motive_1 := fun v d _ => Rd X' h' v d) (motive_2 := fun vs ds _ => RdAll X' h' vs ds)
    .none (fun b => .bool b) (fun i t => .int i t) (fun x t => .str x t)
    (fun hn hg _ ih => .list (fun q => (hx _ q).elim hn (fun e => ex1E hg fun o z => by rw [z.1] at e; cases e)) (hg.elim fun o z => ⟨o, hk _ _ hn z.1, z.2⟩) ih)
    (fun hn hg _ ih => .tuple (fun q => (hx _ q).elim hn (fun e => ex1E hg fun o z => by rw [z.1] at e; cases e)) (hg.elim fun o z => ⟨o, hk _ _ hn z.1, z.2⟩) ih)
    (fun v => .val v) (fun hn e => .obj (fun q => (hx _ q).elim hn (fun e' => by rw [e] at e'; cases e')) (hk _ _ hn e)) .nil (fun _ _ a b => .cons a b) r
theorem RdAll.length {vs : List Value} {ds : List D} (r : RdAll X h vs ds) : vs.length = ds.length :=
  RdAll.rec (motive_1 := fun _ _ _ => True) (motive_2 := fun vs ds _ => vs.length = ds.length) trivial (fun _ => trivial) (fun _ _ => trivial) (fun _ _ => trivial) (fun _ _ _ _ => trivial) (fun _ _ _ _ => trivial) (fun _ => trivial) (fun _ _ => trivial) rfl (fun _ _ _ e => congrArg (· + 1) e) r
noncomputable def RdInv (X : Addr → Prop) (h : Heap) (v : Value) : D → Prop
  | .none => v = .none
  | .bool b => v = .bool b
  | .int i => ∃ t, v = .int i t
  | .str x => ∃ t, v = .str (S x) t
  | .list ds => ∃ a vs, v = .ref a ∧ ¬ X a ∧ h.IsList a vs.toArray ∧ RdAll X h vs ds
  | .tuple ds => ∃ a vs, v = .ref a ∧ ¬ X a ∧ IsTup h a vs.toArray ∧ RdAll X h vs ds
  | .val u => v = u
  | .obj a o => v = .ref a ∧ ¬ X a ∧ h.get? a = some o
theorem Rd.inv {v : Value} {d : D} (r : Rd X h v d) : RdInv X h v d :=
  Rd.rec (motive_1 := fun v d _ => RdInv X h v d) (motive_2 := fun _ _ _ => True) rfl (fun _ => rfl) (fun _ t => ⟨t, rfl⟩) (fun _ t => ⟨t, rfl⟩) (fun n g q _ => ⟨_, _, rfl, n, g, q⟩) (fun n g q _ => ⟨_, _, rfl, n, g, q⟩) (fun _ => rfl) (fun n e => ⟨rfl, n, e⟩) trivial (fun _ _ _ _ => trivial) r
noncomputable def RdAllInv (X : Addr → Prop) (h : Heap) (vs : List Value) (ds : List D) : Prop := match vs, ds with
  | [], [] => True
  | v :: vs, d :: ds => Rd X h v d ∧ RdAll X h vs ds
  | _, _ => False
theorem RdAll.inv {vs : List Value} {ds : List D} (r : RdAll X h vs ds) : RdAllInv X h vs ds :=
  RdAll.rec (motive_1 := fun _ _ _ => True) (motive_2 := fun vs ds _ => RdAllInv X h vs ds) trivial (fun _ => trivial) (fun _ _ => trivial) (fun _ _ => trivial) (fun _ _ _ _ => trivial) (fun _ _ _ _ => trivial) (fun _ => trivial) (fun _ _ => trivial) trivial (fun a r _ _ => ⟨a, r⟩) r
theorem RdAll.consE {v : Value} {vs : List Value} {es : List D} {motive : List D → Prop} (r : RdAll X h (v :: vs) es) (k : ∀ d ds, Rd X h v d → RdAll X h vs ds → motive (d :: ds)) : motive es := by
  have q := r.inv
  cases es with
  | nil => exact q.elim
  | cons d ds => exact k d ds q.1 q.2
theorem RdAll.conE {d : D} {ds : List D} {motive : List Value → Prop} {vs : List Value} (r : RdAll X h vs (d :: ds)) (k : ∀ v vs, Rd X h v d → RdAll X h vs ds → motive (v :: vs)) : motive vs := by
  have q := r.inv
  cases vs with
  | nil => exact q.elim
  | cons v vs => exact k v vs q.1 q.2
theorem RdAll.nilE {es : List D} {motive : List D → Prop} (r : RdAll X h [] es) (k : motive []) : motive es := by
  have q := r.inv
  cases es with
  | nil => exact k
  | cons d ds => exact q.elim
theorem RdAll.E0 {motive : List Value → Prop} {vs : List Value} (r : RdAll X h vs []) (k : motive []) : motive vs := by
  have q := r.inv
  cases vs with
  | nil => exact k
  | cons d ds => exact q.elim
theorem RdAll.append {vs ws : List Value} {ds es : List D} (r : RdAll X h vs ds) (q : RdAll X h ws es) : RdAll X h (vs ++ ws) (ds ++ es) := by
  induction vs generalizing ds with
  | nil => exact r.nilE (motive := fun ds => RdAll X h ([] ++ ws) (ds ++ es)) q
  | cons v vs ih => exact r.consE (motive := fun ds => RdAll X h (v :: vs ++ ws) (ds ++ es)) fun _ _ a r => .cons a (ih r)
theorem RdAll.get {vs : List Value} {ds : List D} (r : RdAll X h vs ds) {k : Nat} {d : D} (hd : ds[k]? = some d) : ∃ v, vs[k]? = some v ∧ Rd X h v d := by
  induction vs generalizing ds k with
  | nil => exact r.nilE (motive := fun ds => ds[k]? = some d → _) (fun h => nomatch h) hd
  | cons v vs ih =>
    refine r.consE (motive := fun ds => ds[k]? = some d → _) (fun _ _ a r hd => ?_) hd
    cases k with
    | zero => cases hd; exact ⟨v, rfl, a⟩
    | succ k => exact ih r hd
theorem RdAll.get' {vs : List Value} {ds : List D} (r : RdAll X h vs ds) {k : Nat} {v : Value} (hv : vs[k]? = some v) : ∃ d, ds[k]? = some d ∧ Rd X h v d := by
  induction vs generalizing ds k with
  | nil => cases hv
  | cons w vs ih =>
    refine r.consE (motive := fun ds => ∃ d, ds[k]? = some d ∧ Rd X h v d) fun _ _ a r => ?_
    cases k with
    | zero => cases hv; exact ⟨_, rfl, a⟩
    | succ k => exact ih r hv
theorem RdAll.drop {vs : List Value} {ds : List D} (r : RdAll X h vs ds) (k : Nat) : RdAll X h (vs.drop k) (ds.drop k) := by
  induction k generalizing vs ds with
  | zero => exact r
  | succ k ih => cases vs with
    | nil => exact r.nilE (motive := fun ds => RdAll X h (([] : List Value).drop (k + 1)) (ds.drop (k + 1))) .nil
    | cons v vs => exact r.consE (motive := fun ds => RdAll X h ((v :: vs).drop (k + 1)) (ds.drop (k + 1))) fun _ _ _ r => ih r
theorem RdAll.take {vs : List Value} {ds : List D} (r : RdAll X h vs ds) (k : Nat) : RdAll X h (vs.take k) (ds.take k) := by
  induction k generalizing vs ds with
  | zero => exact .nil
  | succ k ih => cases vs with
    | nil => exact r.nilE (motive := fun ds => RdAll X h (([] : List Value).take (k + 1)) (ds.take (k + 1))) .nil
    | cons v vs => exact r.consE (motive := fun ds => RdAll X h ((v :: vs).take (k + 1)) (ds.take (k + 1))) fun _ _ a r => .cons a (ih r)
theorem RdAll.split {vs ws : List Value} {ds : List D} (r : RdAll X h (vs ++ ws) ds) : ∃ d1 d2, ds = d1 ++ d2 ∧ RdAll X h vs d1 ∧ RdAll X h ws d2 := by
  induction vs generalizing ds with
  | nil => exact ⟨[], ds, rfl, .nil, r⟩
  | cons v vs ih => exact RdAll.consE (motive := fun ds => ∃ d1 d2, ds = d1 ++ d2 ∧ RdAll X h (v :: vs) d1 ∧ RdAll X h ws d2) r fun d ds a r => (ih r).elim fun d1 z => z.elim fun d2 z => ⟨d :: d1, d2, congrArg (d :: ·) z.1, .cons a z.2.1, z.2.2⟩
theorem Rd.strE' {x : List Nat} {motive : Value → Prop} {v : Value} (r : Rd X h v (.str x)) (k : ∀ t, motive (.str (S x) t)) : motive v := (show ∃ t, v = .str (S x) t from r.inv).elim fun t e => e ▸ k t
theorem RdAll.strs {ys : List (List Nat)} {vs : List Value} (r : RdAll X h vs (ys.map D.str)) : ∃ ts : List Tok, ts.length = ys.length ∧ vs = List.zipWith (fun y t => Value.str (S y) t) ys ts := by
  induction ys generalizing vs with
  | nil => exact r.E0 (motive := fun vs => ∃ ts : List Tok, ts.length = 0 ∧ vs = List.zipWith (fun y t => Value.str (S y) t) [] ts) ⟨[], rfl, rfl⟩
  | cons y ys ih => exact RdAll.conE (motive := fun vs => ∃ ts : List Tok, ts.length = (y :: ys).length ∧ vs = List.zipWith (fun y t => Value.str (S y) t) (y :: ys) ts) r fun v vs a r => (ih r).elim fun ts z => a.strE' (motive := fun v => ∃ ts : List Tok, ts.length = (y :: ys).length ∧ v :: vs = List.zipWith (fun y t => Value.str (S y) t) (y :: ys) ts) fun t => ⟨t :: ts, congrArg (· + 1) z.1, congrArg (Value.str (S y) t :: ·) z.2⟩
end
section
variable {X : Addr → Prop} {h : Heap}
@[elab_as_elim] theorem Rd.strE {x : List Nat} {motive : Value → Prop} {v : Value} (r : Rd X h v (.str x)) (k : ∀ t, motive (.str (S x) t)) : motive v := r.strE' k
@[elab_as_elim] theorem Rd.intE {i : Int} {motive : Value → Prop} {v : Value} (r : Rd X h v (.int i)) (k : ∀ t, motive (.int i t)) : motive v := (show ∃ t, v = .int i t from r.inv).elim fun t e => e ▸ k t
@[elab_as_elim] theorem Rd.boolE {b : Bool} {motive : Value → Prop} {v : Value} (r : Rd X h v (.bool b)) (k : motive (.bool b)) : motive v := (show v = .bool b from r.inv) ▸ k
@[elab_as_elim] theorem Rd.valE {u : Value} {motive : Value → Prop} {v : Value} (r : Rd X h v (.val u)) (k : motive u) : motive v := (show v = u from r.inv) ▸ k
@[elab_as_elim] theorem Rd.listE {ds : List D} {motive : Value → Prop} {v : Value} (r : Rd X h v (.list ds)) (k : ∀ a vs, ¬ X a → h.IsList a vs.toArray → RdAll X h vs ds → motive (.ref a)) : motive v :=
  (show ∃ a vs, v = .ref a ∧ ¬ X a ∧ h.IsList a vs.toArray ∧ RdAll X h vs ds from r.inv).elim fun a z => z.elim fun vs z => z.1 ▸ k a vs z.2.1 z.2.2.1 z.2.2.2
@[elab_as_elim] theorem Rd.tupleE {ds : List D} {motive : Value → Prop} {v : Value} (r : Rd X h v (.tuple ds)) (k : ∀ a vs, ¬ X a → IsTup h a vs.toArray → RdAll X h vs ds → motive (.ref a)) : motive v :=
  (show ∃ a vs, v = .ref a ∧ ¬ X a ∧ IsTup h a vs.toArray ∧ RdAll X h vs ds from r.inv).elim fun a z => z.elim fun vs z => z.1 ▸ k a vs z.2.1 z.2.2.1 z.2.2.2
@[elab_as_elim] theorem RdAll.E1 {d : D} {motive : List Value → Prop} {vs : List Value} (r : RdAll X h vs [d]) (k : ∀ v, Rd X h v d → motive [v]) : motive vs :=
  r.conE (motive := motive) fun v _ a r => r.E0 (motive := fun vs => motive (v :: vs)) (k v a)
@[elab_as_elim] theorem RdAll.E2 {d e : D} {motive : List Value → Prop} {vs : List Value} (r : RdAll X h vs [d, e]) (k : ∀ v u, Rd X h v d → Rd X h u e → motive [v, u]) : motive vs :=
  r.conE (motive := motive) fun v _ a r => r.E1 (motive := fun vs => motive (v :: vs)) fun u b => k v u a b
@[elab_as_elim] theorem RdAll.E3 {d e f : D} {motive : List Value → Prop} {vs : List Value} (r : RdAll X h vs [d, e, f]) (k : ∀ v u w, Rd X h v d → Rd X h u e → Rd X h w f → motive [v, u, w]) : motive vs :=
  r.conE (motive := motive) fun v _ a r => r.E2 (motive := fun vs => motive (v :: vs)) fun u w b c => k v u w a b c
@[elab_as_elim] theorem Rd.list2E {d e : D} {motive : Value → Prop} {v : Value} (r : Rd X h v (.list [d, e])) (k : ∀ a x y, ¬ X a → h.IsList a [x, y].toArray → Rd X h x d → Rd X h y e → motive (.ref a)) : motive v :=
  r.listE (motive := motive) fun a vs n g q => q.E2 (motive := fun vs => h.IsList a vs.toArray → motive (.ref a)) (fun x y b c g => k a x y n g b c) g
@[elab_as_elim] theorem Rd.tuple2E {d e : D} {motive : Value → Prop} {v : Value} (r : Rd X h v (.tuple [d, e])) (k : ∀ a x y, ¬ X a → IsTup h a [x, y].toArray → Rd X h x d → Rd X h y e → motive (.ref a)) : motive v :=
  r.tupleE (motive := motive) fun a vs n g q => q.E2 (motive := fun vs => IsTup h a vs.toArray → motive (.ref a)) (fun x y b c g => k a x y n g b c) g
@[elab_as_elim] theorem Rd.tuple3E {d e f : D} {motive : Value → Prop} {v : Value} (r : Rd X h v (.tuple [d, e, f])) (k : ∀ a x y z, ¬ X a → IsTup h a [x, y, z].toArray → Rd X h x d → Rd X h y e → Rd X h z f → motive (.ref a)) : motive v :=
  r.tupleE (motive := motive) fun a vs n g q => q.E3 (motive := fun vs => IsTup h a vs.toArray → motive (.ref a)) (fun x y z b c s g => k a x y z n g b c s) g
end
noncomputable def TabInv (X : Addr → Prop) (h : Heap) : Prop := ∃ ps : Array Value, h.get? 96 = some (tabObj ps) ∧ (ps = #[] ∨ ∃ c', ps = #[rawInt 88, rawInt 39, .ref c'] ∧ ¬ X c' ∧ h.CodeRec (.ref c') "_translate.<locals>.<lambda>") ∧ ¬ X 4 ∧ BmAt h
theorem TabInv.keeps {X X' : Addr → Prop} {h h' : Heap} (x : TabInv X h) (hx : ∀ a, X' a → X a ∨ h.get? a = none) (h96 : ∀ o, h.get? 96 = some o → h'.get? 96 = some o) (hk : ∀ b o, ¬ X b → h.get? b = some o → h'.get? b = some o) : TabInv X' h' := by
  refine ex1E x fun ps zz19 => and4E zz19 fun h1 h2 h4 zz20 => ex1E zz20 fun o4 zz21 => and2E zz21 fun e4 r4 => ?_
  refine ⟨ps, h96 _ h1, h2.imp id ?_, fun q => (hx _ q).elim h4 fun e => (by rw [e4] at e; cases e), o4, hk _ _ h4 e4, r4⟩
  rintro ⟨c', e, hc, c, oc, vs, t, q1, q2, q3⟩
  cases q1
  refine ⟨c', e, fun q => ?_, c', oc, vs, t, rfl, hk _ _ hc q2, q3⟩
  rcases hx _ q with q | q
  · exact hc q
  · rw [q2] at q; cases q
structure WX (K : Frag) (X : Addr → Prop) (s : Shared) : Prop where
  kin : K.In s.heap
  xk : ∀ a, X a → K.lookup a = none ∧ a ≠ builtinsNs
  bi : ∃ mb, s.heap.Ns builtinsNs mb ∧ ∀ x : Str, x ≠ "__name__" → mb x = bootBuiltins x
  tb : TabInv X s.heap
  pos : 0 < s.toks
  x96 : X 96
  xb : ∀ a, X a → ∃ o, s.heap.get? a = some o
noncomputable def Kp (s s' : Shared) : Prop := ∃ h' tk, s' = { s with heap := h', toks := tk } ∧ s.toks ≤ tk ∧ ∀ b o, b ≠ 96 → s.heap.get? b = some o → h'.get? b = some o
theorem Kp.refl (s : Shared) : Kp s s := ⟨s.heap, s.toks, rfl, Nat.le_refl _, fun _ _ _ e => e⟩
theorem Kp.trans {s s' s'' : Shared} (a : Kp s s') (b : Kp s' s'') : Kp s s'' := by
  refine ex2E a fun h1 t1 zz18 => and3E zz18 fun zz17 l1 k1 => ?_; subst zz17
  refine ex2E b fun h2 t2 zz16 => and3E zz16 fun zz15 l2 k2 => ?_; subst zz15
  exact ⟨h2, t2, rfl, Nat.le_trans l1 l2, fun b o hb e => k2 b o hb (k1 b o hb e)⟩
theorem Kp.of {s : Shared} {h' : Heap} {tk : Nat} (l : s.toks ≤ tk) (hk : ∀ b o, s.heap.get? b = some o → h'.get? b = some o) : Kp s { s with heap := h', toks := tk } :=
  ⟨h', tk, rfl, l, fun b o _ e => hk b o e⟩
theorem Kp.keep {s s' : Shared} (a : Kp s s') {b : Addr} {o : Obj} (hb : b ≠ 96) (e : s.heap.get? b = some o) : s'.heap.get? b = some o := by
  refine ex2E a fun h1 t1 zz14 => and3E zz14 fun zz13 l1 k1 => ?_; subst zz13; exact k1 b o hb e
theorem Kp.toks {s s' : Shared} (a : Kp s s') : s.toks ≤ s'.toks := by refine ex2E a fun h1 t1 zz12 => and3E zz12 fun zz11 l1 k1 => ?_; subst zz11; exact l1
section
variable {K : Frag} {X : Addr → Prop} {s s' : Shared}
theorem WX.more (x : WX K X s) {h' : Heap} {tk : Nat} (l : s.toks ≤ tk) (hk : ∀ b o, s.heap.get? b = some o → h'.get? b = some o) : WX K X { s with heap := h', toks := tk } where
  kin := x.kin.keeps hk
  xk := x.xk
  bi := let ⟨mb, h1, h2⟩ := x.bi; ⟨mb, h1.keeps hk, h2⟩
  tb := x.tb.keeps (fun _ q => .inl q) (hk 96) fun b o _ e => hk b o e
  pos := Nat.lt_of_lt_of_le x.pos l
  x96 := x.x96
  xb := fun a ha => let ⟨o, e⟩ := x.xb a ha; ⟨o, hk _ _ e⟩
theorem WX.toks (x : WX K X s) {tk : Nat} (l : s.toks ≤ tk) : WX K X { s with toks := tk } := x.more l fun _ _ e => e
theorem WX.lt (x : WX K X s) {a : Addr} (ha : X a) : a < s.heap.objs.size := let ⟨_, e⟩ := x.xb a ha; Heap.lt_size e
theorem WX.fresh (x : WX K X s) {a : Addr} (e : s.heap.get? a = none) : ¬ X a := fun q => by refine ex1E (x.xb a q) fun o e' => ?_; rw [e] at e'; cases e'
theorem WX.fresh_size (x : WX K X s) : ¬ X s.heap.objs.size := fun q => Nat.lt_irrefl _ (x.lt q)
theorem WX.upd (x : WX K X s) {b : Addr} {h' : Heap} {tk : Nat} (hb : X b) (h96 : b ≠ 96) (hs : Heap.SameBut b s.heap h') (he : ∃ o, h'.get? b = some o) (l : s.toks ≤ tk) : WX K X { s with heap := h', toks := tk } where
  kin := fun a o e => by
    have hne : a ≠ b := fun q => by rw [q, (x.xk b hb).1] at e; cases e
    exact (hs.2 a hne).trans (x.kin a o e)
  xk := x.xk
  bi := let ⟨mb, h1, h2⟩ := x.bi; ⟨mb, h1.sameBut hs (fun q => (x.xk b hb).2 q.symm), h2⟩
  tb := x.tb.keeps (fun _ q => .inl q) (fun o e => (hs.2 96 (Ne.symm h96)).trans e) fun c o hc e => (hs.2 c (fun q => hc (q ▸ hb))).trans e
  pos := Nat.lt_of_lt_of_le x.pos l
  x96 := x.x96
  xb := fun a ha => by
    by_cases h : a = b
    · subst h; exact he
    · refine ex1E (x.xb a ha) fun o e => ?_; exact ⟨o, (hs.2 a h).trans e⟩
theorem Rd.upd {b : Addr} {h' : Heap} (hb : X b) (hs : Heap.SameBut b s.heap h') {v : Value} {d : D} (r : Rd X s.heap v d) : Rd X h' v d :=
  r.mono (fun _ q => .inl q) fun c _ hn e => (hs.2 c (fun q => hn (q ▸ hb))).trans e
theorem RdAll.upd {b : Addr} {h' : Heap} (hb : X b) (hs : Heap.SameBut b s.heap h') {vs : List Value} {ds : List D} (r : RdAll X s.heap vs ds) : RdAll X h' vs ds :=
  r.mono (fun _ q => .inl q) fun c _ hn e => (hs.2 c (fun q => hn (q ▸ hb))).trans e
theorem WX.new (x : WX K X s) : K.lookup s.heap.objs.size = none ∧ s.heap.objs.size ≠ builtinsNs := by
  constructor
  · cases q : K.lookup s.heap.objs.size with
    | none => rfl
    | some o => exact absurd (Heap.lt_size (x.kin _ _ q)) (Nat.lt_irrefl _)
  · refine ex1E x.bi fun mb zz10 => and2E zz10 fun h1 _ => ?_
    exact fun q => absurd h1.lt (by rw [← q]; exact Nat.lt_irrefl _)
theorem WX.ne96 (x : WX K X s) {a : Addr} (ha : ¬ X a) : a ≠ 96 := fun e => ha (e ▸ x.x96)
theorem Rd.kp (x : WX K X s) (k : Kp s s') {v : Value} {d : D} (r : Rd X s.heap v d) : Rd X s'.heap v d :=
  r.mono (fun _ q => .inl q) fun _ _ hn e => k.keep (x.ne96 hn) e
theorem RdAll.kp (x : WX K X s) (k : Kp s s') {vs : List Value} {ds : List D} (r : RdAll X s.heap vs ds) : RdAll X s'.heap vs ds :=
  r.mono (fun _ q => .inl q) fun _ _ hn e => k.keep (x.ne96 hn) e
end
structure Frm (env : Env) (h : Heap) (m : Str → Option Value) : Prop where
  ns : ∃ m0, h.Ns env.locals m0 ∧ ∀ x, env.kindOf x = some .local → m0 x = m x
  cell : ∀ x, env.kindOf x = some .cell ∨ env.kindOf x = some .free → ∃ c, env.cells.lookup x = some c ∧ h.IsCell c (m x)
noncomputable abbrev Nms := List (String × NameKind)
noncomputable def nmsOk (nms : Nms) : Bool := decide ((nms.map fun p => (p.1 : Str)).Nodup) && nms.all fun p => !((p.1 : Str) == ("__debug__" : Str)) && !((p.1 : Str) == ("__classdict__" : Str))
structure EnvOk (env : Env) (nms : Nms) : Prop where
  sc : env.scope.names = nms.map fun p => ((p.1 : Str), p.2)
  ok : nmsOk nms = true
  kind : env.scope.kind = .function
  globals : env.globals = mainGlobals
  builtins : env.builtins = builtinsNs
  l96 : env.locals ≠ 96
  c96 : ∀ x c, env.cells.lookup x = some c → c ≠ 96
  lc : ∀ x c, env.cells.lookup x = some c → c ≠ env.locals
theorem lookup_nodup {α : Type} {l : List (Str × α)} {i : Nat} {n : Str} {k : α} (hn : (l.map (·.1)).Nodup) (h : l[i]? = some (n, k)) : l.lookup n = some k := by
  induction l generalizing i with
  | nil => cases h
  | cons p l ih =>
    have q := List.nodup_cons.mp hn
    cases i with
    | zero => cases h; exact List.lookup_cons_self
    | succ i =>
      have hne : n ≠ p.1 := fun e => q.1 (List.mem_map.mpr ⟨(n, k), List.mem_of_getElem? (i := i) h, e⟩)
      rw [List.lookup_cons, beq_eq_false_iff_ne.mpr hne]
      exact ih q.2 h
theorem EnvOk.kindOf {env : Env} {nms : Nms} (eo : EnvOk env nms) {i : Nat} {n : String} {k : NameKind} (hn : nms[i]? = some (n, k)) : env.kindOf n = some k := by
  show env.scope.names.lookup _ = _
  rw [eo.sc]
  have h := eo.ok
  unfold nmsOk at h
  rw [Bool.and_eq_true] at h
  refine lookup_nodup (i := i) ?_ ?_
  · have := of_decide_eq_true h.1
    rw [List.map_map]
    exact this
  · rw [List.getElem?_map, hn]; rfl
theorem EnvOk.plain {env : Env} {nms : Nms} (eo : EnvOk env nms) {i : Nat} {n : String} {k : NameKind} (hn : nms[i]? = some (n, k)) : ((n : Str) == ("__debug__" : Str)) = false ∧ ((n : Str) == ("__classdict__" : Str)) = false := by
  have h := eo.ok
  unfold nmsOk at h
  rw [Bool.and_eq_true] at h
  have := List.all_eq_true.mp h.2 _ (List.mem_of_getElem? hn)
  simpa using this
theorem Frm.keeps {env : Env} {h h' : Heap} {m : Str → Option Value} (f : Frm env h m) {nms : Nms} (eo : EnvOk env nms) (hk : ∀ b o, b ≠ 96 → h.get? b = some o → h'.get? b = some o) : Frm env h' m where
  ns := by
    refine ex1E f.ns fun m0 zz7 => and2E zz7 fun zz6 h2 => ?_; obtain ⟨o, es, ep, e, r⟩ := zz6
    exact ⟨m0, ⟨o, es, ep, hk _ _ eo.l96 e, r⟩, h2⟩
  cell := fun x hx => let ⟨c, h1, o, h2, h3⟩ := f.cell x hx; ⟨c, h1, o, hk _ _ (eo.c96 x c h1) h2, h3⟩
structure StE (K : Frag) (env : Env) (nms : Nms) (X : Addr → Prop) (σ : List (Option D)) (s : Shared) : Prop where
  wx : WX K X s
  eo : EnvOk env nms
  rd : ∃ m, Frm env s.heap m ∧ ∀ (i : Nat) (n : String) (k : NameKind) (d : D), nms[i]? = some (n, k) → σ[i]? = some (some d) → ∃ v, m n = some v ∧ Rd X s.heap v d
theorem StE.kp {K : Frag} {env : Env} {nms : Nms} {X : Addr → Prop} {σ : List (Option D)} {s s' : Shared} (st : StE K env nms X σ s) (k : Kp s s') (w : WX K X s') : StE K env nms X σ s' where
  wx := w
  eo := st.eo
  rd := let ⟨m, f, r⟩ := st.rd
    ⟨m, f.keeps st.eo fun _ _ hb e => k.keep hb e, fun i n kd d h1 h2 => let ⟨v, e, q⟩ := r i n kd d h1 h2; ⟨v, e, q.kp st.wx k⟩⟩
structure Rm (A : Around) (n : Nat) : Prop where
  d : A.depth + n < recursionLimit
  u : A.units + 8 * n + 8 < cLine
  h : A.handled = none
noncomputable def Ev (prog : Program) (w : World) (K : Frag) (A : Around) (env : Env) (nms : Nms) (X : Addr → Prop) (σ : List (Option D)) (e : Expr) (d : D) : Prop :=
  ∀ ⦃s⦄ Q E, StE K env nms X σ s → (∀ v s', Kp s s' → WX K X s' → Rd X s'.heap v d → Q v s') → wpAny (model prog w) A (eval e env) Q E s
noncomputable def EvB (prog : Program) (w : World) (K : Frag) (A : Around) (env : Env) (nms : Nms) (X : Addr → Prop) (σ : List (Option D)) (e : Expr) (b : Bool) : Prop :=
  ∀ ⦃s⦄ Q E, StE K env nms X σ s → (∀ s', Kp s s' → WX K X s' → Q b s') → wpAny (model prog w) A (isTrue e env (eval e env)) Q E s
noncomputable def Op2 (prog : Program) (w : World) (K : Frag) (A : Around) (X : Addr → Prop) (f : Value → Value → Sem Value) (a b d : D) : Prop :=
  ∀ s va vb Q E, WX K X s → Rd X s.heap va a → Rd X s.heap vb b → (∀ v s', Kp s s' → WX K X s' → Rd X s'.heap v d → Q v s') → wpAny (model prog w) A (f va vb) Q E s
noncomputable def OpN (prog : Program) (w : World) (K : Frag) (A : Around) (X : Addr → Prop) (f : List Value → Sem Value) (as : List D) (d : D) : Prop :=
  ∀ s vs Q E, WX K X s → RdAll X s.heap vs as → (∀ v s', Kp s s' → WX K X s' → Rd X s'.heap v d → Q v s') → wpAny (model prog w) A (f vs) Q E s
section
variable {K : Frag} {A : Around} {env : Env} {nms : Nms} {X : Addr → Prop} {σ : List (Option D)}
theorem Ev.lit {e : Expr} {d : D} (h : ∀ s Q E, 0 < s.toks → (∀ v tk, s.toks ≤ tk → Rd X s.heap v d → Q v { s with toks := tk }) → wpAny (model prog w) A (eval e env) Q E s) : Ev prog w K A env nms X σ e d := by
  intro s Q E st hQ
  exact h s Q E st.wx.pos fun v tk l r => hQ v _ ⟨s.heap, tk, rfl, l, fun _ _ _ e => e⟩ (st.wx.toks l) r
theorem Ev_int {i : Int} {k : Nat} {pos : Pos} : Ev prog w K A env nms X σ (.Constant (.int i) k pos) (.int i) :=
  .lit fun _ _ _ _ h => wpAny_Constant_int (h _ _ (Nat.le_succ _) (.int _ _))
theorem Ev_bool {b : Bool} {k : Nat} {pos : Pos} : Ev prog w K A env nms X σ (.Constant (.bool b) k pos) (.bool b) :=
  .lit fun s _ _ _ h => wpAny_pure (h _ s.toks (Nat.le_refl _) (.bool _))
theorem Ev_none {k : Nat} {pos : Pos} : Ev prog w K A env nms X σ (.Constant .none k pos) .none :=
  .lit fun s _ _ _ h => wpAny_pure (h _ s.toks (Nat.le_refl _) .none)
theorem Ev_str {c : Str} {k : Nat} {pos : Pos} {x : List Nat} (hx : c.cps.toList = x) : Ev prog w K A env nms X σ (.Constant (.str c) k pos) (.str x) :=
  .lit fun s _ _ _ h => by
    subst hx
    have r := Rd.str (X := X) (h := s.heap) c.cps.toList s.toks
    rw [S_of] at r
    exact fun Γ p hΓ => h _ _ (Nat.le_succ _) r
theorem Ev_name (i : Nat) {n : String} {k : NameKind} {pos : Pos} {d : D} (hn : nms[i]? = some (n, k)) (hd : σ[i]? = some (some d)) (hk : k = .local ∨ k = .cell ∨ k = .free) :
    Ev prog w K A env nms X σ (.Name n pos) d := by
  intro s Q E st hQ
  refine ex1E st.rd fun m zz5 => and2E zz5 fun f r => ?_
  refine ex1E (r i n k d hn hd) fun v zz4 => and2E zz4 fun e q => ?_
  have fin : Q v s := hQ v s (Kp.refl _) st.wx q
  have hK := st.eo.kindOf hn
  refine and2E (st.eo.plain hn) fun h1 h2 => ?_
  refine wpAny_Name ?_ h1
  rcases hk with rfl | rfl | rfl
  · refine ex1E f.ns fun m0 zz3 => and2E zz3 fun hm0 hm => ?_
    exact wpAny_loadName_local st.eo.kind hK hm0 ((hm _ hK).trans e) fin
  · refine ex1E (f.cell _ (.inl hK)) fun c zz2 => and2E zz2 fun h1 h2 => ?_
    rw [e] at h2
    exact wpAny_loadName_cell st.eo.kind hK h1 h2 fin
  · refine ex1E (f.cell _ (.inr hK)) fun c zz1 => and2E zz1 fun h1 h3 => ?_
    rw [e] at h3
    exact wpAny_loadName_free st.eo.kind hK h1 h3 fin h2
noncomputable def okK : NameKind → Bool
  | .local => true | .cell => true | .free => true | _ => false
theorem okK_of : ∀ {k : NameKind}, okK k = true → k = .local ∨ k = .cell ∨ k = .free
  | .local, _ => .inl rfl | .cell, _ => .inr (.inl rfl) | .free, _ => .inr (.inr rfl)
theorem Ev_nme (i : Nat) {n : String} {k : NameKind} {pos : Pos} {d : D} (hn : nms[i]? = some (n, k)) (hd : σ[i]? = some (some d)) (hk : okK k = true) :
    Ev prog w K A env nms X σ (.Name n pos) d := Ev_name i hn hd (okK_of hk)
theorem Ev_bin {l r : Expr} {op : Operator} {pos : Pos} {a b d : D} (hl : Ev prog w K A env nms X σ l a) (hr : Ev prog w K A env nms X σ r b) (ho : Op2 prog w K A X (binaryOp op) a b d) :
    Ev prog w K A env nms X σ (.BinOp l op r pos) d := by
  intro s Q E st hQ
  refine wpAny_BinOp (hl _ _ st fun va s₁ k₁ w₁ r₁ => hr _ _ (st.kp k₁ w₁) fun vb s₂ k₂ w₂ r₂ => ?_)
  exact ho s₂ va vb Q E w₂ (r₁.kp w₁ k₂) r₂ fun v s₃ k₃ w₃ r₃ => hQ v s₃ ((k₁.trans k₂).trans k₃) w₃ r₃
theorem Ev_cmp {l r : Expr} {op : CmpOp} {pos : Pos} {a b d : D} (hl : Ev prog w K A env nms X σ l a) (hr : Ev prog w K A env nms X σ r b) (ho : Op2 prog w K A X (compareOp op) a b d)
    (hm : behindInMarks op r = false := by with_unfolding_all rfl) : Ev prog w K A env nms X σ (.Compare l [op] [r] pos) d := by
  intro s Q E st hQ
  refine wpAny_Compare1 (hl _ _ st fun va s₁ k₁ w₁ r₁ => hr _ _ (st.kp k₁ w₁) fun vb s₂ k₂ w₂ r₂ => ?_) hm
  exact ho s₂ va vb Q E w₂ (r₁.kp w₁ k₂) r₂ fun v s₃ k₃ w₃ r₃ => hQ v s₃ ((k₁.trans k₂).trans k₃) w₃ r₃
theorem EvB_cmp {l r : Expr} {op : CmpOp} {pos : Pos} {a b : D} {c : Bool} (hl : Ev prog w K A env nms X σ l a) (hr : Ev prog w K A env nms X σ r b) (ho : Op2 prog w K A X (compareOp op) a b (.bool c))
    (hm : behindInMarks op r = false := by with_unfolding_all rfl) : EvB prog w K A env nms X σ (.Compare l [op] [r] pos) c := by
  intro s Q E st hQ
  refine wpAny_isTrue_Compare1 (hl _ _ st fun va s₁ k₁ w₁ r₁ => hr _ _ (st.kp k₁ w₁) fun vb s₂ k₂ w₂ r₂ => ?_) hm
  refine ho s₂ va vb _ E w₂ (r₁.kp w₁ k₂) r₂ fun v s₃ k₃ w₃ r₃ => ?_
  cases r₃ with
  | bool _ => exact wpAny_truthy_bool (hQ s₃ ((k₁.trans k₂).trans k₃) w₃)
theorem EvB_not {e : Expr} {pos : Pos} {b : Bool} (h : EvB prog w K A env nms X σ e b) : EvB prog w K A env nms X σ (.UnaryOp .Not e pos) (!b) := by
  intro s Q E st hQ
  show wpAny _ _ (do return !(← isTrue e env (eval e env))) _ _ _
  exact wpAny_bind (h _ _ st fun s' k w => wpAny_pure (hQ s' k w))
theorem EvB_or {a b : Expr} {pos : Pos} {x y : Bool} (ha : EvB prog w K A env nms X σ a x) (hb : x = false → EvB prog w K A env nms X σ b y) : EvB prog w K A env nms X σ (.BoolOp .Or [a, b] pos) (x || y) := by
  intro s Q E st hQ
  show wpAny _ _ (do match BoolOp.Or, ← isTrue a env (eval a env) with
    | .And, false => pure false
    | .Or, true => pure true
    | _, _ => (do match BoolOp.Or, ← isTrue b env (eval b env) with
      | .And, false => pure false
      | .Or, true => pure true
      | _, _ => pure (BoolOp.Or == BoolOp.And))) _ _ _
  refine wpAny_bind (ha _ _ st fun s₁ k₁ w₁ => ?_)
  cases x with
  | true => exact wpAny_pure (hQ s₁ k₁ w₁)
  | false =>
    refine wpAny_bind (hb rfl _ _ (st.kp k₁ w₁) fun s₂ k₂ w₂ => ?_)
    cases y <;> exact wpAny_pure (hQ s₂ (k₁.trans k₂) w₂)
end
end Mine
end
-- Ops
section
open PySem PySem.W PySem.Calls PyProof.Rows PySem.Builtin PySem.Builtin.Str
namespace Mine
noncomputable abbrev Post (K : Frag) (X : Addr → Prop) (s : Shared) (d : D) (Q : Value → Shared → Prop) : Prop := ∀ v s', Kp s s' → WX K X s' → Rd X s'.heap v d → Q v s'
section
variable {K : Frag} {X : Addr → Prop} {s : Shared} {d : D} {Q : Value → Shared → Prop}
theorem Post.here (hQ : Post K X s d Q) (x : WX K X s) {v : Value} (r : Rd X s.heap v d) : Q v s := hQ v s (Kp.refl _) x r
theorem Post.tk (hQ : Post K X s d Q) (x : WX K X s) {v : Value} {tk : Nat} (r : Rd X s.heap v d) (l : s.toks ≤ tk) : Q v { s with toks := tk } :=
  hQ v _ ⟨s.heap, tk, rfl, l, fun _ _ _ e => e⟩ (x.toks l) r
theorem Post.at (hQ : Post K X s d Q) (x : WX K X s) {v : Value} {h' : Heap} {tk : Nat} (l : s.toks ≤ tk) (hk : ∀ b o, s.heap.get? b = some o → h'.get? b = some o) (r : Rd X h' v d) : Q v { s with heap := h', toks := tk } :=
  hQ v _ (Kp.of l hk) (x.more l hk) r
end
noncomputable def sl {α : Type} (l : List α) (lo hi : Option Int) : List α := (l.drop (lo.elim 0 (clipAt l.length))).take (hi.elim l.length (clipAt l.length) - lo.elim 0 (clipAt l.length))
theorem clipAt_le (n : Nat) (i : Int) : clipAt n i ≤ n := by
  refine Int.ofNat_le.mp ?_
  rw [clipAt_cast]
  exact Int.max_le.mpr ⟨Int.natCast_nonneg _, Int.min_le_right _ _⟩
theorem sliceIdx_eq (lo hi : Option Int) (n : Nat) : strSliceIndices lo hi 1 n = (List.range (hi.elim n (clipAt n) - lo.elim 0 (clipAt n))).map (lo.elim 0 (clipAt n) + ·) := by
  have key : ∀ a b : Nat, sliceRange (a : Int) (b : Int) 1 = (List.range (b - a)).map (a + ·) := sliceRange_one
  cases lo <;> cases hi <;> simp only [strSliceIndices, Option.elim, show ((1 : Int) > 0) = True from by simp, if_true, ← clipAt_cast] <;>
    first | exact key _ _ | exact key 0 _
theorem cut_zero {a b n : Nat} (ha : a ≤ n) (hb : b ≤ n) (h : b - a = n) : a = 0 := by
  have : n + a ≤ n + 0 := Nat.le_trans (Nat.add_le_add_right (h ▸ Nat.sub_le_sub_right hb a) a) (Nat.le_of_eq (Nat.sub_add_cancel ha))
  exact Nat.le_zero.mp (Nat.le_of_add_le_add_left this)
theorem slice_sl (x : Str) (lo hi : Option Int) : (Txt.slice x lo hi).cps.toList = sl x.cps.toList lo hi := by
  have hn : x.length = x.cps.toList.length := by simp [Str.length]
  have hlo : lo.elim 0 (clipAt x.cps.toList.length) ≤ x.cps.toList.length := by
    cases lo with
    | none => exact Nat.zero_le _
    | some i => exact clipAt_le _ _
  have hhi : hi.elim x.cps.toList.length (clipAt x.cps.toList.length) ≤ x.cps.toList.length := by
    cases hi with
    | none => exact Nat.le_refl _
    | some i => exact clipAt_le _ _
  have hp := StrLaws.picks x.cps.toList (hi.elim x.cps.toList.length (clipAt x.cps.toList.length) - lo.elim 0 (clipAt x.cps.toList.length)) (lo.elim 0 (clipAt x.cps.toList.length))
  unfold Txt.slice sl
  rw [sliceIdx_eq, hn]
  split
  · rename_i h
    simp only [List.length_map, List.length_range, beq_self_eq_true, Bool.true_and, beq_iff_eq] at h
    have h0 : lo.elim 0 (clipAt x.cps.toList.length) = 0 := cut_zero hlo hhi h
    rw [h, h0, List.drop_zero, List.take_length]
  · rw [List.toList_toArray]
    have e : (fun (i : Nat) => x.cps[i]?) = (fun (i : Nat) => x.cps.toList[i]?) := by funext i; simp
    rw [e]
    by_cases hc : lo.elim 0 (clipAt x.cps.toList.length) ≤ hi.elim x.cps.toList.length (clipAt x.cps.toList.length)
    · exact hp (by rw [Nat.add_sub_cancel' hc]; exact hhi)
    · have : hi.elim x.cps.toList.length (clipAt x.cps.toList.length) - lo.elim 0 (clipAt x.cps.toList.length) = 0 := Nat.sub_eq_zero_of_le (Nat.le_of_lt (Nat.not_le.mp hc))
      rw [this]; simp
theorem sl_length_le {α : Type} (l : List α) (lo hi : Option Int) : (sl l lo hi).length ≤ l.length := by
  unfold sl; rw [List.length_take, List.length_drop]; exact Nat.le_trans (Nat.min_le_right _ _) (Nat.sub_le _ _)
section
variable {K : Frag} {A : Around} {env : Env} {nms : Nms} {X : Addr → Prop} {σ : List (Option D)}
theorem Op_add {a b : Int} : Op2 prog w K A X (binaryOp .Add) (.int a) (.int b) (.int (a + b)) := by
  intro s va vb Q E x ra rb hQ; refine Rd.intE ra fun _ => ?_; refine Rd.intE rb fun _ => ?_
  exact add_int (Post.tk hQ x (.int _ _) (Nat.le_succ _))
theorem Op_sub {a b : Int} : Op2 prog w K A X (binaryOp .Sub) (.int a) (.int b) (.int (a - b)) := by
  intro s va vb Q E x ra rb hQ; refine Rd.intE ra fun _ => ?_; refine Rd.intE rb fun _ => ?_
  exact sub_int (Post.tk hQ x (.int _ _) (Nat.le_succ _))
theorem Op_fdiv {a b : Int} (hb : b ≠ 0) (hs : b.natAbs < 1073741824) : Op2 prog w K A X (binaryOp .FloorDiv) (.int a) (.int b) (.int (a.fdiv b)) := by
  intro s va vb Q E x ra rb hQ; refine Rd.intE ra fun _ => ?_; refine Rd.intE rb fun _ => ?_
  exact PyProof.Rows.floordiv_int hb (Post.tk hQ x (.int _ _) (Nat.le_succ _)) (.inl (PyProof.noPylong_small hs))
theorem Op_mod {a b : Int} (hb : b ≠ 0) : Op2 prog w K A X (binaryOp .Mod) (.int a) (.int b) (.int (a.fmod b)) := by
  intro s va vb Q E x ra rb hQ; refine Rd.intE ra fun _ => ?_; refine Rd.intE rb fun _ => ?_
  exact PyProof.Rows.mod_int hb (Post.tk hQ x (.int _ _) (Nat.le_succ _))
theorem Op_pow {a n : Int} (hn : 0 ≤ n) (hsz : (Builtin.Int.intBits a : Int) * n ≤ 2 ^ 27) : Op2 prog w K A X (binaryOp .Pow) (.int a) (.int n) (.int (a ^ n.toNat)) := by
  intro s va vb Q E x ra rb hQ; refine Rd.intE ra fun _ => ?_; refine Rd.intE rb fun _ => ?_
  exact pow_int hn hsz (Post.tk hQ x (.int _ _) (Nat.le_succ _))
theorem Op_lt {a b : Int} : Op2 prog w K A X (compareOp .Lt) (.int a) (.int b) (.bool (decide (a < b))) := by
  intro s va vb Q E x ra rb hQ; refine Rd.intE ra fun _ => ?_; refine Rd.intE rb fun _ => ?_
  exact lt_int (Post.here hQ x (.bool _))
theorem Op_le {a b : Int} : Op2 prog w K A X (compareOp .LtE) (.int a) (.int b) (.bool (decide (a ≤ b))) := by
  intro s va vb Q E x ra rb hQ; refine Rd.intE ra fun _ => ?_; refine Rd.intE rb fun _ => ?_
  exact le_int (Post.here hQ x (.bool _))
theorem Op_gt {a b : Int} : Op2 prog w K A X (compareOp .Gt) (.int a) (.int b) (.bool (decide (b < a))) := by
  intro s va vb Q E x ra rb hQ; refine Rd.intE ra fun _ => ?_; refine Rd.intE rb fun _ => ?_
  exact PyProof.Rows.gt_int (Post.here hQ x (.bool _))
theorem Op_ge {a b : Int} : Op2 prog w K A X (compareOp .GtE) (.int a) (.int b) (.bool (decide (b ≤ a))) := by
  intro s va vb Q E x ra rb hQ; refine Rd.intE ra fun _ => ?_; refine Rd.intE rb fun _ => ?_
  exact PyProof.Rows.ge_int (Post.here hQ x (.bool _))
theorem Op_eqI {a b : Int} : Op2 prog w K A X (compareOp .Eq) (.int a) (.int b) (.bool (a == b)) := by
  intro s va vb Q E x ra rb hQ; refine Rd.intE ra fun _ => ?_; refine Rd.intE rb fun _ => ?_
  exact PyProof.Rows.eq_int (Post.here hQ x (.bool _))
theorem S_append (a b : List Nat) : S a ++ S b = S (a ++ b) := by
  show Str.append _ _ = _
  simp [Str.append, S]
theorem S_beq (a b : List Nat) : (S a == S b) = (a == b) := by
  rw [← toList_beq]; rfl
theorem Op_addS {a b : List Nat} (hsz : a.length + b.length ≤ sizeLine) : Op2 prog w K A X (binaryOp .Add) (.str a) (.str b) (.str (a ++ b)) := by
  intro s va vb Q E x ra rb hQ; refine Rd.strE ra fun t => ?_; refine Rd.strE rb fun u => ?_
  refine wpAny_with_toks (Nat.le_refl _) (PyProof.Rows.add_str (fun t' tk l => ?_) (by rw [S_length, S_length]; exact hsz))
  rw [S_append]
  exact Post.tk hQ x (.str _ _) l
theorem Op_iaddS {a b : List Nat} (hsz : a.length + b.length ≤ sizeLine) : Op2 prog w K A X (inplaceOp .Add) (.str a) (.str b) (.str (a ++ b)) := by
  intro s va vb Q E x ra rb hQ; refine Rd.strE ra fun t => ?_; refine Rd.strE rb fun u => ?_
  refine wpAny_with_toks (Nat.le_refl _) (PyProof.Rows.iadd_str (fun t' tk l => ?_) (by rw [S_length, S_length]; exact hsz))
  rw [S_append]
  exact Post.tk hQ x (.str _ _) l
theorem Op_eqS {a b : List Nat} : Op2 prog w K A X (compareOp .Eq) (.str a) (.str b) (.bool (a == b)) := by
  intro s va vb Q E x ra rb hQ; refine Rd.strE ra fun t => ?_; refine Rd.strE rb fun u => ?_
  refine PyProof.Rows.eq_str ?_
  rw [S_beq]
  exact Post.here hQ x (.bool _)
theorem Op_neS {a b : List Nat} : Op2 prog w K A X (compareOp .NotEq) (.str a) (.str b) (.bool (a != b)) := by
  intro s va vb Q E x ra rb hQ; refine Rd.strE ra fun t => ?_; refine Rd.strE rb fun u => ?_
  refine PyProof.Rows.ne_str ?_
  rw [bne, S_beq]
  exact Post.here hQ x (.bool _)
end
end Mine
end
-- Ops2
section
open PySem PySem.W PySem.Calls PyProof.Rows PySem.Builtin PySem.Builtin.Str
namespace Mine
section
variable {K : Frag} {A : Around} {env : Env} {nms : Nms} {X : Addr → Prop} {σ : List (Option D)}
inductive EvAll (prog : Program) (w : World) (K : Frag) (A : Around) (env : Env) (nms : Nms) (X : Addr → Prop) (σ : List (Option D)) : List Expr → List D → Prop
  | nil : EvAll prog w K A env nms X σ [] []
  | cons {e : Expr} {es : List Expr} {d : D} {ds : List D} (he : starEach (e :: es) env = (false, eval e env) :: starEach es env) : Ev prog w K A env nms X σ e d → EvAll prog w K A env nms X σ es ds → EvAll prog w K A env nms X σ (e :: es) (d :: ds)
theorem EvAll.plain {es : List Expr} {ds : List D} (h : EvAll prog w K A env nms X σ es ds) (pos : Pos) : (backTo pos (starEach es env)).any (·.1) = false := by
  induction h with
  | nil => rfl
  | cons he _ _ ih => rw [he]; simpa [backTo] using ih
theorem EvAll.spliced {es : List Expr} {ds : List D} (h : EvAll prog w K A env nms X σ es ds) : ∀ (pos : Pos) (s : Shared) (Q : List Value → Shared → Prop) (E : Value → Shared → Prop), StE K env nms X σ s →
    (∀ vs s', Kp s s' → WX K X s' → RdAll X s'.heap vs ds → Q vs s') → wpAny (model prog w) A (spliced (backTo pos (starEach es env))) Q E s := by
  induction h with
  | nil => intro pos s Q E st hQ; exact wpAny_pure (hQ [] s (Kp.refl _) st.wx .nil)
  | cons he h1 _ ih =>
    intro pos s Q E st hQ
    rw [he]
    refine spliced_cons (h1 _ _ st fun v s₁ k₁ w₁ r₁ => ih pos s₁ _ _ (st.kp k₁ w₁) fun vs s₂ k₂ w₂ r₂ => ?_)
    exact hQ _ s₂ (k₁.trans k₂) w₂ (.cons (r₁.kp w₁ k₂) r₂)
theorem EvAll.args {es : List Expr} {ds : List D} (h : EvAll prog w K A env nms X σ es ds) (f : Value) (pos : Pos) (s : Shared) (Q : Args → Shared → Prop) (E : Value → Shared → Prop) (st : StE K env nms X σ s)
    (hQ : ∀ vs s', Kp s s' → WX K X s' → RdAll X s'.heap vs ds → Q ⟨vs, []⟩ s') : wpAny (model prog w) A (evalArgs f true (backTo pos (starEach es env)) []) Q E s := by
  have hs := h.spliced pos s (fun vs s' => Q ⟨vs, []⟩ s') E st hQ
  cases h with
  | nil => exact PyProof.Rows.evalArgs_none (hQ [] s (Kp.refl _) st.wx .nil)
  | cons he h1 h2 =>
    rw [he] at hs ⊢
    exact evalArgs_plain hs
theorem Ev_callB {fe : Expr} {args : List Expr} {pos : Pos} {id : String} {ds : List D} {d : D} (hf : Ev prog w K A env nms X σ fe (.val (.builtin id))) (ha : EvAll prog w K A env nms X σ args ds)
    (ho : OpN prog w K A X (fun vs => call (.builtin id) vs) ds d)
    (he : eval (.Call fe args [] pos) env = (do callWith pos (← eval fe env) [] (backTo pos (starEach args env)) (backToKw pos (keywordEach [] env))) := by rfl) :
    Ev prog w K A env nms X σ (.Call fe args [] pos) d := by
  intro s Q E st hQ
  refine Call_ (hf _ _ st fun v s₁ k₁ w₁ r₁ => ?_) he
  refine Rd.valE r₁ ?_
  refine callWith_builtin (ha.plain pos) (ha.args _ pos s₁ _ _ (st.kp k₁ w₁) fun vs s₂ k₂ w₂ r₂ => ?_)
  exact ho s₂ vs Q E w₂ r₂ fun v s₃ k₃ w₃ r₃ => hQ v s₃ ((k₁.trans k₂).trans k₃) w₃ r₃
theorem Ev_callT {fe : Expr} {args : List Expr} {pos : Pos} {T : String} {ds : List D} {d : D} (hf : Ev prog w K A env nms X σ fe (.val (.type T))) (ha : EvAll prog w K A env nms X σ args ds)
    (ho : OpN prog w K A X (fun vs => call (.type T) vs) ds d)
    (he : eval (.Call fe args [] pos) env = (do callWith pos (← eval fe env) [] (backTo pos (starEach args env)) (backToKw pos (keywordEach [] env))) := by rfl) :
    Ev prog w K A env nms X σ (.Call fe args [] pos) d := by
  intro s Q E st hQ
  refine Call_ (hf _ _ st fun v s₁ k₁ w₁ r₁ => ?_) he
  refine Rd.valE r₁ ?_
  refine PyProof.Rows.callWith_type (ha.plain pos) (ha.args _ pos s₁ _ _ (st.kp k₁ w₁) fun vs s₂ k₂ w₂ r₂ => ?_)
  exact ho s₂ vs Q E w₂ r₂ fun v s₃ k₃ w₃ r₃ => hQ v s₃ ((k₁.trans k₂).trans k₃) w₃ r₃
theorem Ev_callR {fe : Expr} {args : List Expr} {pos : Pos} {f : Addr} {o : Obj} {fd : FuncData} {ds : List D} {d : D} (hf : Ev prog w K A env nms X σ fe (.val (.ref f))) (hK : K.lookup f = some o) (hd : o.data = .func fd)
    (ha : EvAll prog w K A env nms X σ args ds) (ho : OpN prog w K A X (fun vs => call (.ref f) vs) ds d)
    (he : eval (.Call fe args [] pos) env = (do callWith pos (← eval fe env) [] (backTo pos (starEach args env)) (backToKw pos (keywordEach [] env))) := by rfl) :
    Ev prog w K A env nms X σ (.Call fe args [] pos) d := by
  intro s Q E st hQ
  refine Call_ (hf _ _ st fun v s₁ k₁ w₁ r₁ => ?_) he
  refine Rd.valE r₁ ?_
  refine callWith_function (o := o) (fd := fd) (ha.args _ pos s₁ _ _ (st.kp k₁ w₁) fun vs s₂ k₂ w₂ r₂ => ⟨⟨w₂.kin _ _ hK, hd⟩, ?_⟩)
  exact ho s₂ vs Q E w₂ r₂ fun v s₃ k₃ w₃ r₃ => hQ v s₃ ((k₁.trans k₂).trans k₃) w₃ r₃
noncomputable def Meth (prog : Program) (w : World) (A : Around) (X : Addr → Prop) (name : Str) (id : String) (d : D) : Prop :=
  ∀ (s : Shared) (v : Value) (pl : Sem Bool) (Q : Value × List Value → Shared → Prop) (E : Value → Shared → Prop), Rd X s.heap v d → Q (.builtin id, [v]) s → wpAny (model prog w) A (getMethod v name pl) Q E s
theorem Ev_meth {o : Expr} {name : Str} {apos pos : Pos} {args : List Expr} {id : String} {x d : D} {ds : List D} (ho : Ev prog w K A env nms X σ o x) (hm : Meth prog w A X name id x) (ha : EvAll prog w K A env nms X σ args ds)
    (hc : OpN prog w K A X (fun vs => call (.builtin id) vs) (x :: ds) d)
    {pl : Sem Bool} (he : eval (.Call (.Attribute o name apos) args [] pos) env = (do
      let ov ← eval o env
      standAt apos.atName
      let (f, first) ← holding [ov] (getMethod ov name pl)
      callWith pos f first (backTo pos (starEach args env)) []) := by rfl) : Ev prog w K A env nms X σ (.Call (.Attribute o name apos) args [] pos) d := by
  intro s Q E st hQ
  refine MethodCall_ (pl := pl) (ho _ _ st fun v s₁ k₁ w₁ r₁ => hm s₁ v pl _ _ r₁ ?_) he
  refine callWith_builtin (ha.plain pos) (ha.args _ pos s₁ _ _ (st.kp k₁ w₁) fun vs s₂ k₂ w₂ r₂ => ?_)
  exact hc s₂ (v :: vs) Q E w₂ (.cons (r₁.kp w₁ k₂) r₂) fun v s₃ k₃ w₃ r₃ => hQ v s₃ ((k₁.trans k₂).trans k₃) w₃ r₃
theorem Ev_glob (i : Nat) {n : String} {pos : Pos} {v : Value} (hn : nms[i]? = some (n, .globalImplicit)) (hv : nsIn K mainGlobals n = some (some v)) : Ev prog w K A env nms X σ (.Name n pos) (.val v) := by
  intro s Q E st hQ
  refine wpAny_Name ?_ (st.eo.plain hn).1
  rw [loadName_read st.eo.kind (st.eo.kindOf hn)]
  unfold loadGlobal
  rw [st.eo.globals]
  refine wpAny_bind ((looks_nsIn st.wx.kin hv).here ?_)
  exact wpAny_pure (hQ _ s (Kp.refl _) st.wx (.val _))
theorem Ev_built (i : Nat) {n : String} {pos : Pos} {v : Value} (hn : nms[i]? = some (n, .globalImplicit)) (hm : nsIn K mainGlobals n = some none) (hb : bootBuiltins n = some v) (hne : (n : Str) ≠ "__name__") :
    Ev prog w K A env nms X σ (.Name n pos) (.val v) := by
  intro s Q E st hQ
  refine wpAny_Name ?_ (st.eo.plain hn).1
  rw [loadName_read st.eo.kind (st.eo.kindOf hn)]
  unfold loadGlobal
  rw [st.eo.globals, st.eo.builtins]
  refine wpAny_bind ((looks_nsIn st.wx.kin hm).here ?_)
  refine ex1E st.wx.bi fun mb zz1 => and2E zz1 fun h1 h2 => ?_
  refine wpAny_bind (wpAny_nsGet h1 ?_)
  rw [h2 _ hne, hb]
  exact wpAny_pure (hQ _ s (Kp.refl _) st.wx (.val _))
theorem Ev_ifexp {t a b : Expr} {pos : Pos} {c : Bool} {d : D} (ht : EvB prog w K A env nms X σ t c) (ha : c = true → Ev prog w K A env nms X σ a d) (hb : c = false → Ev prog w K A env nms X σ b d) : Ev prog w K A env nms X σ (.IfExp t a b pos) d := by
  intro s Q E st hQ
  refine IfExp_ (ht _ _ st fun s₁ k₁ w₁ => ?_)
  cases c with
  | true => simp only [if_true]; exact ha rfl _ _ (st.kp k₁ w₁) fun v s₂ k₂ w₂ r₂ => hQ v s₂ (k₁.trans k₂) w₂ r₂
  | false => simp only [Bool.false_eq_true, if_false]; exact hb rfl _ _ (st.kp k₁ w₁) fun v s₂ k₂ w₂ r₂ => hQ v s₂ (k₁.trans k₂) w₂ r₂
theorem EvB_and {a b : Expr} {pos : Pos} {x y : Bool} (ha : EvB prog w K A env nms X σ a x) (hb : x = true → EvB prog w K A env nms X σ b y) : EvB prog w K A env nms X σ (.BoolOp .And [a, b] pos) (x && y) := by
  intro s Q E st hQ
  show wpAny _ _ (do match BoolOp.And, ← isTrue a env (eval a env) with
    | .And, false => pure false
    | .Or, true => pure true
    | _, _ => (do match BoolOp.And, ← isTrue b env (eval b env) with
      | .And, false => pure false
      | .Or, true => pure true
      | _, _ => pure (BoolOp.And == BoolOp.And))) _ _ _
  refine wpAny_bind (ha _ _ st fun s₁ k₁ w₁ => ?_)
  cases x with
  | false => exact wpAny_pure (hQ s₁ k₁ w₁)
  | true =>
    refine wpAny_bind (hb rfl _ _ (st.kp k₁ w₁) fun s₂ k₂ w₂ => ?_)
    cases y <;> exact wpAny_pure (hQ s₂ (k₁.trans k₂) w₂)
theorem Ev_orB {a b : Expr} {pos : Pos} {x y : Bool} (ha : Ev prog w K A env nms X σ a (.bool x)) (hb : x = false → Ev prog w K A env nms X σ b (.bool y)) : Ev prog w K A env nms X σ (.BoolOp .Or [a, b] pos) (.bool (x || y)) := by
  intro s Q E st hQ
  refine BoolOp_or (ha _ _ st fun v s₁ k₁ w₁ r₁ => ?_)
  cases r₁ with | bool _ =>
  refine wpAny_truthy_bool ?_
  cases x with
  | true => exact hQ _ s₁ k₁ w₁ (.bool _)
  | false =>
    simp only [Bool.false_eq_true, if_false]
    exact BoolOp_one (hb rfl _ _ (st.kp k₁ w₁) fun v s₂ k₂ w₂ r₂ => hQ v s₂ (k₁.trans k₂) w₂ r₂)
theorem Ev_neg {i : Int} {e : Expr} {pos : Pos} (h : Ev prog w K A env nms X σ e (.int i)) : Ev prog w K A env nms X σ (.UnaryOp .USub e pos) (.int (-i)) := by
  intro s Q E st hQ
  refine UnaryOp_ (h _ _ st fun v s₁ k₁ w₁ r₁ => ?_)
  refine Rd.intE r₁ fun _ => ?_
  exact PyProof.Rows.neg_int (hQ _ _ (k₁.trans ⟨_, _, rfl, Nat.le_succ _, fun _ _ _ e => e⟩) (w₁.toks (Nat.le_succ _)) (.int _ _))
theorem Ev_list {es : List Expr} {pos : Pos} {ds : List D} (h : EvAll prog w K A env nms X σ es ds) (hsz : ds.length ≤ sizeLine) : Ev prog w K A env nms X σ (.List es pos) (.list ds) := by
  intro s Q E st hQ
  refine List_ (h.spliced pos s _ _ st fun vs s₁ k₁ w₁ r₁ => ?_)
  refine wpAny_newObj_type ?_ (by show vs.toArray.size ≤ sizeLine; rw [List.size_toArray, r₁.length]; exact hsz)
  have hk : ∀ b o, s₁.heap.get? b = some o → (s₁.heap.push ({ cls := .type "list", data := .seq vs.toArray } : Obj)).get? b = some o := fun b o e => Heap.get?_push_of_some _ e
  refine hQ _ _ (k₁.trans (Kp.of (Nat.le_refl _) hk)) (w₁.more (Nat.le_refl _) hk) ?_
  exact .list w₁.fresh_size ⟨_, Heap.get?_push_size _ rfl, rfl, _, rfl⟩ (r₁.mono (fun _ q => .inl q) fun _ _ _ e => hk _ _ e)
theorem Ev_tuple {es : List Expr} {c : Nat} {pos : Pos} {ds : List D} (h : EvAll prog w K A env nms X σ es ds) (hsz : ds.length ≤ sizeLine) : Ev prog w K A env nms X σ (.Tuple es c pos) (.tuple ds) := by
  intro s Q E st hQ
  refine Tuple_ (h.spliced pos s _ _ st fun vs s₁ k₁ w₁ r₁ => ?_)
  refine wpAny_newObj_type ?_ (by show vs.toArray.size ≤ sizeLine; rw [List.size_toArray, r₁.length]; exact hsz)
  have hk : ∀ b o, s₁.heap.get? b = some o → (s₁.heap.push ({ cls := .type "tuple", data := .seq vs.toArray } : Obj)).get? b = some o := fun b o e => Heap.get?_push_of_some _ e
  refine hQ _ _ (k₁.trans (Kp.of (Nat.le_refl _) hk)) (w₁.more (Nat.le_refl _) hk) ?_
  exact .tuple w₁.fresh_size ⟨_, Heap.get?_push_size _ rfl, rfl, _, rfl⟩ (r₁.mono (fun _ q => .inl q) fun _ _ _ e => hk _ _ e)
end
end Mine
end
-- Ops3
section
open PySem PySem.W PySem.Calls PyProof.Rows PySem.Builtin PySem.Builtin.Str
namespace Mine
section
variable {K : Frag} {A : Around} {env : Env} {nms : Nms} {X : Addr → Prop} {σ : List (Option D)}
theorem isList_of {h : Heap} {a : Addr} {vs : List Value} {n : Nat} (e : h.get? a = some (listOf vs.toArray n)) : h.IsList a vs.toArray := ⟨_, e, rfl, n, rfl⟩
theorem Ev_idxS {v i : Expr} {pos : Pos} {x : List Nat} {k : Int} {c : Nat} (hv : Ev prog w K A env nms X σ v (.str x)) (hi : Ev prog w K A env nms X σ i (.int k)) (h0 : 0 ≤ k) (h1 : k < 2 ^ 63) (hc : x[k.toNat]? = some c)
    (hs : ∀ o iv, subscripted i false o iv = operate [o, iv] (getItem o iv) := by intro _ _; with_unfolding_all rfl) :
    Ev prog w K A env nms X σ (.Subscript v i pos) (.str [c]) := by
  intro s Q E st hQ
  refine Subscript_ (hv _ _ st fun vo s₁ k₁ w₁ r₁ => hi _ _ (st.kp k₁ w₁) fun vi s₂ k₂ w₂ r₂ => ?_)
  refine Rd.strE r₁ fun t => ?_; refine Rd.intE r₂ fun u => ?_
  refine tail_any (T := "str") (typeIs_str _ _ _) PySem.F.slot_str_getitem.lookup ?_ (hs _ _)
  have hlt : k.toNat < x.length := by
    refine ex1E (List.getElem?_eq_some_iff.mp hc) fun h _ => ?_; exact h
  refine PyProof.Rows.getItem_str (c := c) ?_ ?_ ?_
  · exact Bool.or_eq_false_iff.mpr ⟨decide_eq_false (by first | exact Int.not_lt.mpr (Int.le_trans (by decide) h0) | exact Int.not_le.mpr h1 | exact Int.not_lt.mpr (Int.le_of_lt h1) | exact Int.not_lt.mpr (Int.le_sub_one_of_lt h1)), decide_eq_false (by first | exact Int.not_lt.mpr (Int.le_trans (by decide) h0) | exact Int.not_le.mpr h1 | exact Int.not_lt.mpr (Int.le_of_lt h1) | exact Int.not_lt.mpr (Int.le_sub_one_of_lt h1))⟩
  · rw [StrLaws.seqIndex_nonneg h0 (by rw [S_length]; exact (Int.toNat_lt h0).mp hlt)]
    show (S x).cps[k.toNat]? = some c
    rw [← Array.getElem?_toList]; exact hc
  · exact hQ _ _ ((k₁.trans k₂).trans ⟨_, _, rfl, Nat.le_succ _, fun _ _ _ e => e⟩) (w₂.toks (Nat.le_succ _)) (.str [c] _)
theorem Op_idxL {ds : List D} {k : Int} {d : D} (h0 : 0 ≤ k) (h1 : k < 2 ^ 63) (hd : ds[k.toNat]? = some d) : Op2 prog w K A X getItem (.list ds) (.int k) d := by
  intro s va vb Q E x ra rb hQ
  refine Rd.listE ra fun _ _ hn hg r => ?_; refine Rd.intE rb fun u => ?_
  refine ex1E (r.get hd) fun v zz3 => and2E zz3 fun hv rv => ?_
  exact wpAny_getItem_list (hg) h0 h1 (by simpa using hv) (Post.here hQ x rv)
theorem Op_idxLast {ds : List D} {d : D} (hd : ds.getLast? = some d) (hsz : ds.length < 2 ^ 62) : Op2 prog w K A X getItem (.list ds) (.int (-1)) d := by
  intro s va vb Q E x ra rb hQ
  refine Rd.listE ra fun _ _ hn hg r => ?_; refine Rd.intE rb fun u => ?_
  rename_i a vs
  have hl := r.length
  have hpos : 0 < ds.length := by
    cases ds with
    | nil => cases hd
    | cons _ _ => simp
  have hd' : ds[ds.length - 1]? = some d := by rw [← hd, List.getLast?_eq_getElem?]
  refine ex1E (r.get hd') fun v zz2 => and2E zz2 fun hv rv => ?_
  refine wpAny_getItem_list_neg (hg) (by decide) (by rw [List.size_toArray, hl]; exact Int.neg_le_neg (Int.ofNat_le.mpr hpos)) (by decide) ?_ (Post.here hQ x rv)
  have e : (-1 + ((vs.toArray.size : Nat) : Int)).toNat = ds.length - 1 := by rw [List.size_toArray, hl, Int.add_comm]; exact Int.toNat_sub ds.length 1
  rw [e]; simpa using hv
theorem Op_idxT {ds : List D} {k : Int} {d : D} (h0 : 0 ≤ k) (h1 : k < 2 ^ 63) (hd : ds[k.toNat]? = some d) : Op2 prog w K A X getItem (.tuple ds) (.int k) d := by
  intro s va vb Q E x ra rb hQ
  refine Rd.tupleE ra fun _ _ hn hg r => ?_; refine Rd.intE rb fun u => ?_
  rename_i a vs
  refine ex1E (r.get hd) fun v zz1 => and2E zz1 fun hv rv => ?_
  have hlt : k.toNat < vs.length := by
    refine ex1E (List.getElem?_eq_some_iff.mp hv) fun h _ => ?_; exact h
  exact PyProof.Rows.getItem_tuple (hg) (Int.le_trans (by decide) h0) h1 (StrLaws.seqIndex_nonneg h0 (by rw [List.size_toArray]; exact (Int.toNat_lt h0).mp hlt)) (by simpa using hv) (Post.here hQ x rv)
theorem Ev_idx {v i : Expr} {pos : Pos} {ds : List D} {k : Int} {d : D} (hv : Ev prog w K A env nms X σ v (.list ds)) (hi : Ev prog w K A env nms X σ i (.int k)) (ho : Op2 prog w K A X getItem (.list ds) (.int k) d)
    (hs : ∀ o iv, subscripted i false o iv = operate [o, iv] (getItem o iv) := by intro _ _; with_unfolding_all rfl) :
    Ev prog w K A env nms X σ (.Subscript v i pos) d := by
  intro s Q E st hQ
  refine Subscript_ (hv _ _ st fun vo s₁ k₁ w₁ r₁ => hi _ _ (st.kp k₁ w₁) fun vi s₂ k₂ w₂ r₂ => ?_)
  have r₁' := r₁.kp w₁ k₂
  refine Rd.listE r₁' fun _ _ hn hg r => ?_
  refine tail_any (T := "list") (hg).typeIs PySem.F.slot_list_getitem.lookup ?_ (hs _ _)
  exact ho s₂ _ _ Q E w₂ (.list hn hg r) r₂ fun v s₃ k₃ w₃ r₃ => hQ v s₃ ((k₁.trans k₂).trans k₃) w₃ r₃
inductive EvPart (prog : Program) (w : World) (K : Frag) (A : Around) (env : Env) (nms : Nms) (X : Addr → Prop) (σ : List (Option D)) : Option Expr → Option Int → Prop
  | no : EvPart prog w K A env nms X σ none none
  | so {e : Expr} {i : Int} : Ev prog w K A env nms X σ e (.int i) → EvPart prog w K A env nms X σ (some e) (some i)
theorem EvPart.use {e : Option Expr} {x : Option Int} (h : EvPart prog w K A env nms X σ e x) (s : Shared) (Q : Value → Shared → Prop) (E : Value → Shared → Prop) (st : StE K env nms X σ s)
    (hQ : ∀ (p : Option (Int × Tok)) s', p.map (·.1) = x → Kp s s' → WX K X s' → Q (partValue p) s') : wpAny (model prog w) A (evalPart e env) Q E s := by
  cases h with
  | no => rw [evalPart_none]; exact wpAny_pure (hQ none s rfl (Kp.refl _) st.wx)
  | @so e i h =>
    rw [evalPart_some]
    refine h _ _ st fun v s₁ k₁ w₁ r₁ => ?_
    refine Rd.intE r₁ fun t => ?_; exact hQ (some (i, t)) s₁ rfl k₁ w₁
theorem getItem_sliceY {E : Value → Shared → Prop} {s : Shared} {y : Str} {t : Tok} {a : Addr} {pl pu : Option (Int × Tok)} {Q : Value → Shared → Prop} (hs : s.heap.IsSlice a pl pu none) (hsz : y.length ≤ sizeLine)
    (h : ∀ t' k, Q (.str (Txt.slice y (pl.map (·.1)) (pu.map (·.1))) t') { s with toks := k }) : wpAny (model prog w) A (getItem (.str y t) (.ref a)) Q E s :=
  wpAny_getItem_str_slice hs rfl (post_val_or_str ⟨Nat.le_trans (Txt.slice_le y _ _) hsz, h⟩)
theorem getItem_sliceS {E : Value → Shared → Prop} {s : Shared} {x : List Nat} {t : Tok} {a : Addr} {pl pu : Option (Int × Tok)} {Q : Value → Shared → Prop} (hs : s.heap.IsSlice a pl pu none) (hsz : x.length ≤ sizeLine)
    (h : ∀ t' k, s.toks ≤ k → Q (.str (S (sl x (pl.map (·.1)) (pu.map (·.1)))) t') { s with toks := k }) : wpAny (model prog w) A (getItem (.str (S x) t) (.ref a)) Q E s := by
  have e : (Txt.slice (S x) (pl.map (·.1)) (pu.map (·.1))) = S (sl x (pl.map (·.1)) (pu.map (·.1))) := by
    rw [← S_of (Txt.slice _ _ _), slice_sl, S_cps]
  rw [← e] at h
  exact wpAny_with_toks (Nat.le_refl _) (getItem_sliceY hs (by rw [S_length]; exact hsz) fun t' k l => h t' k l)
theorem Ev_sliceS {v : Expr} {lo hi : Option Expr} {p pos : Pos} {x : List Nat} {l u : Option Int} (hv : Ev prog w K A env nms X σ v (.str x)) (hl : EvPart prog w K A env nms X σ lo l) (hu : EvPart prog w K A env nms X σ hi u) (hsz : x.length ≤ sizeLine) :
    Ev prog w K A env nms X σ (.Subscript v (.Slice lo hi none p) pos) (.str (sl x l u)) := by
  intro s Q E st hQ
  refine Subscript_ (hv _ _ st fun vo s₁ k₁ w₁ r₁ => wpAny_Slice (hl.use s₁ _ _ (st.kp k₁ w₁) fun pl s₂ hpl k₂ w₂ => hu.use s₂ _ _ (st.kp (k₁.trans k₂) w₂) fun pu s₃ hpu k₃ w₃ => ?_))
  refine Rd.strE r₁ fun t => ?_
  rw [evalPart_none]
  refine wpAny_pure ?_
  have hk : ∀ b o, s₃.heap.get? b = some o → (s₃.heap.push ({ cls := .type "slice", data := .fields #[partValue pl, partValue pu, .none] } : Obj)).get? b = some o := fun b o e => Heap.get?_push_of_some _ e
  have base : wpAny (model prog w) A (getItem (.str (S x) t) (.ref s₃.heap.objs.size)) Q E { s₃ with heap := s₃.heap.push ({ cls := .type "slice", data := .fields #[partValue pl, partValue pu, .none] } : Obj) } := by
    refine getItem_sliceS (pl := pl) (pu := pu) ⟨_, Heap.get?_push_size _ rfl, rfl, rfl⟩ hsz fun t' k ht => ?_
    rw [hpl, hpu]
    exact hQ _ _ (((k₁.trans k₂).trans k₃).trans (Kp.of ht hk)) (w₃.more ht hk) (.str _ _)
  exact tail_any (T := "str") (typeIs_str _ _ _) PySem.F.slot_str_getitem.lookup base rfl
theorem Ev_sliceL {v : Expr} {lo hi : Option Expr} {p pos : Pos} {ds : List D} {l u : Option Int} (hv : Ev prog w K A env nms X σ v (.list ds)) (hl : EvPart prog w K A env nms X σ lo l) (hu : EvPart prog w K A env nms X σ hi u) (hsz : ds.length ≤ sizeLine) :
    Ev prog w K A env nms X σ (.Subscript v (.Slice lo hi none p) pos) (.list (sl ds l u)) := by
  intro s Q E st hQ
  refine Subscript_ (hv _ _ st fun vo s₁ k₁ w₁ r₁ => wpAny_Slice (hl.use s₁ _ _ (st.kp k₁ w₁) fun pl s₂ hpl k₂ w₂ => hu.use s₂ _ _ (st.kp (k₁.trans k₂) w₂) fun pu s₃ hpu k₃ w₃ => ?_))
  have r₃ := r₁.kp w₁ (k₂.trans k₃)
  refine Rd.listE r₃ fun _ _ hn hg r => ?_
  rename_i a vs
  rw [evalPart_none]
  refine wpAny_pure ?_
  have hk : ∀ b o, s₃.heap.get? b = some o → (s₃.heap.push ({ cls := .type "slice", data := .fields #[partValue pl, partValue pu, .none] } : Obj)).get? b = some o := fun b o e => Heap.get?_push_of_some _ e
  have hg' := hg.push ({ cls := .type "slice", data := .fields #[partValue pl, partValue pu, .none] } : Obj)
  refine tail_any (T := "list") (s := { s₃ with heap := s₃.heap.push ({ cls := .type "slice", data := .fields #[partValue pl, partValue pu, .none] } : Obj) }) hg'.typeIs PySem.F.slot_list_getitem.lookup ?_ rfl
  have part : ∀ (q : Option (Int × Tok)) (z : Option Int), q.map (·.1) = z → IsPart (partValue q) z := by
    intro q z e; subst e
    cases q with
    | none => exact .none
    | some q => exact .int _ _
  refine wpAny_getItem_list_slice hg' (Heap.IsSliceOf.new ..) (part _ _ hpl) (part _ _ hpu) .none (by simp) ?_ (by rw [List.size_toArray, r.length]; exact hsz)
  have hk2 : ∀ b o, s₃.heap.get? b = some o → ((s₃.heap.push ({ cls := .type "slice", data := .fields #[partValue pl, partValue pu, .none] } : Obj)).push ({ cls := .type "list", data := .seq (slicePick vs.toArray l u none) } : Obj)).get? b = some o := fun b o e => Heap.get?_push_of_some _ (hk _ _ e)
  refine hQ _ _ (((k₁.trans k₂).trans k₃).trans (Kp.of (Nat.le_refl _) hk2)) (w₃.more (Nat.le_refl _) hk2) ?_
  rw [slicePick_plain]
  have rs : RdAll X ((s₃.heap.push ({ cls := .type "slice", data := .fields #[partValue pl, partValue pu, .none] } : Obj)).push ({ cls := .type "list", data := .seq (slicePick vs.toArray l u none) } : Obj)) (sl vs l u) (sl ds l u) := by
    unfold sl; rw [r.length]
    exact ((r.mono (fun _ q => .inl q) fun _ _ _ e => hk2 _ _ e).drop _).take _
  refine .list (vs := sl vs l u) (w₃.fresh ?_) ?_ ?_
  · rw [Heap.size_push]
    cases q : s₃.heap.get? (s₃.heap.objs.size + 1) with
    | none => rfl
    | some o => exact absurd (Heap.lt_size q) (Nat.not_lt.mpr (Nat.le_succ _))
  · have := Heap.get?_push_size (s₃.heap.push ({ cls := .type "slice", data := .fields #[partValue pl, partValue pu, .none] } : Obj)) (o := ({ cls := .type "list", data := .seq (sl vs l u).toArray } : Obj)) rfl
    refine ⟨({ cls := .type "list", data := .seq (sl vs l u).toArray } : Obj), ?_, rfl, 0, rfl⟩
    simpa [sl] using this
  · rw [slicePick_plain] at rs
    simpa [sl] using rs
noncomputable def Sub1 (K : Frag) (A : Around) (env : Env) (nms : Nms) (X : Addr → Prop) (σ : List (Option D)) (a b d : D) : Prop := ∀ v i pos, Ev prog w K A env nms X σ v a → Ev prog w K A env nms X σ i b →
  (∀ o iv, subscripted i false o iv = operate [o, iv] (getItem o iv)) → Ev prog w K A env nms X σ (.Subscript v i pos) d
theorem Ev_sub {v i : Expr} {pos : Pos} {a b d : D} (hv : Ev prog w K A env nms X σ v a) (hi : Ev prog w K A env nms X σ i b) (h : Sub1 K A env nms X σ a b d)
    (hs : ∀ o iv, subscripted i false o iv = operate [o, iv] (getItem o iv)) : Ev prog w K A env nms X σ (.Subscript v i pos) d := h v i pos hv hi hs
theorem Sub1_s {x : List Nat} {k : Int} {c : Nat} (h0 : 0 ≤ k) (h1 : k < 2 ^ 63) (hc : x[k.toNat]? = some c) : Sub1 K A env nms X σ (.str x) (.int k) (.str [c]) := fun _ _ _ hv hi hs => Ev_idxS hv hi h0 h1 hc hs
theorem Sub1_l {ds : List D} {k : Int} {d : D} (ho : Op2 prog w K A X getItem (.list ds) (.int k) d) : Sub1 K A env nms X σ (.list ds) (.int k) d := fun _ _ _ hv hi hs => Ev_idx hv hi ho hs
noncomputable def Sl1 (K : Frag) (A : Around) (env : Env) (nms : Nms) (X : Addr → Prop) (σ : List (Option D)) (l u : Option Int) (a d : D) : Prop := ∀ v lo hi p pos, Ev prog w K A env nms X σ v a → EvPart prog w K A env nms X σ lo l → EvPart prog w K A env nms X σ hi u →
  Ev prog w K A env nms X σ (.Subscript v (.Slice lo hi none p) pos) d
theorem Ev_slice {v : Expr} {lo hi : Option Expr} {p pos : Pos} {a d : D} {l u : Option Int} (hv : Ev prog w K A env nms X σ v a) (hl : EvPart prog w K A env nms X σ lo l) (hu : EvPart prog w K A env nms X σ hi u) (h : Sl1 K A env nms X σ l u a d) :
    Ev prog w K A env nms X σ (.Subscript v (.Slice lo hi none p) pos) d := h v lo hi p pos hv hl hu
theorem Sl1_s {x : List Nat} {l u : Option Int} (h : x.length ≤ sizeLine) : Sl1 K A env nms X σ l u (.str x) (.str (sl x l u)) := fun _ _ _ _ _ hv hl hu => Ev_sliceS hv hl hu h
theorem Sl1_l {ds : List D} {l u : Option Int} (h : ds.length ≤ sizeLine) : Sl1 K A env nms X σ l u (.list ds) (.list (sl ds l u)) := fun _ _ _ _ _ hv hl hu => Ev_sliceL hv hl hu h
end
end Mine
end
-- Ops4
section
open PySem PySem.W PySem.Calls PyProof.Rows PySem.Builtin PySem.Builtin.Str
namespace Mine
section
variable {K : Frag} {A : Around} {env : Env} {nms : Nms} {X : Addr → Prop} {σ : List (Option D)}
theorem sizeLine_lt : (sizeLine : Int) < 2 ^ 62 := by rw [sizeLine_eq]; decide
noncomputable def Tr (prog : Program) (w : World) (K : Frag) (A : Around) (X : Addr → Prop) (d : D) (b : Bool) : Prop :=
  ∀ s v Q E, WX K X s → Rd X s.heap v d → (∀ s', Kp s s' → WX K X s' → Q b s') → wpAny (model prog w) A (truthy v) Q E s
theorem EvB_val {e : Expr} {d : D} {b : Bool} (h : Ev prog w K A env nms X σ e d) (ht : Tr prog w K A X d b)
    (he : ∀ whole, isTrue e env whole = (do let v ← whole; standAt e.pos; holding [v] (truthy v)) := by intro _; rfl) : EvB prog w K A env nms X σ e b := by
  intro s Q E st hQ
  refine isTrue_plain (h _ _ st fun v s₁ k₁ w₁ r₁ => ht s₁ v Q E w₁ r₁ fun s₂ k₂ w₂ => hQ s₂ (k₁.trans k₂) w₂) (he _)
theorem Tr_bool {b : Bool} : Tr prog w K A X (.bool b) b := by
  intro s v Q E x r hQ; refine Rd.boolE r ?_; exact wpAny_truthy_bool (hQ s (Kp.refl _) x)
theorem Kp.bump {s : Shared} (n : Nat) : Kp s { s with toks := s.toks + n } := ⟨s.heap, _, rfl, Nat.le_add_right _ _, fun _ _ _ e => e⟩
theorem Tr_str {x : List Nat} (hsz : x.length ≤ sizeLine) : Tr prog w K A X (.str x) (!x.isEmpty) := by
  intro s v Q E q r hQ
  have := sizeLine_lt
  refine Rd.strE r fun t => ?_
  refine P.truthy_str (by rw [S_length]; lia) ?_
  have e : (((S x).length : Int) != 0) = !x.isEmpty := by
    rw [S_length]; cases x <;> simp [bne]; lia
  rw [e]
  exact hQ _ (Kp.bump 2) (q.toks (Nat.le_add_right _ 2))
theorem len63 {n : Nat} (h : n ≤ sizeLine) : (n : Int) < 2 ^ 63 := Int.lt_of_le_of_lt (Int.ofNat_le.mpr h) (by decide)
theorem Tr_list {ds : List D} (hsz : ds.length ≤ sizeLine) : Tr prog w K A X (.list ds) (!ds.isEmpty) := by
  intro s v Q E q r hQ
  have := sizeLine_lt
  refine Rd.listE r fun _ _ hn hg r => ?_
  refine wpAny_truthy_list (hg) (by rw [List.size_toArray, r.length]; exact len63 hsz) ?_
  rename_i a vs
  have e : (!(vs.toArray).isEmpty) = !ds.isEmpty := by
    have := r.length
    cases vs <;> cases ds <;> simp_all
  rw [e]
  exact hQ _ (Kp.bump 2) (q.toks (Nat.le_add_right _ 2))
theorem Op_lenS {x : List Nat} (hsz : x.length ≤ sizeLine) : OpN prog w K A X (fun vs => call (.builtin "len") vs) [.str x] (.int x.length) := by
  intro s vs Q E q r hQ
  have := sizeLine_lt
  refine RdAll.E1 r fun _ a => ?_; refine Rd.strE a fun t => ?_
  refine PyProof.Rows.len_str (by rw [S_length]; lia) ?_
  rw [S_length]
  exact hQ _ _ (Kp.bump 2) (q.toks (Nat.le_add_right _ 2)) (.int _ _)
theorem Op_lenL {ds : List D} (hsz : ds.length ≤ sizeLine) : OpN prog w K A X (fun vs => call (.builtin "len") vs) [.list ds] (.int ds.length) := by
  intro s vs Q E q r hQ
  have := sizeLine_lt
  refine RdAll.E1 r fun _ a => ?_; refine Rd.listE a fun _ _ hn hg rr => ?_
  refine call_len_list (hg) (by rw [List.size_toArray, rr.length]; lia) ?_
  rw [List.size_toArray, rr.length]
  exact hQ _ _ (Kp.bump 2) (q.toks (Nat.le_add_right _ 2)) (.int _ _)
theorem M_startswith {x : List Nat} : Meth prog w A X "startswith" "str.startswith" (.str x) := by
  intro s v pl Q E r; refine Rd.strE r fun _ => ?_; intro h; with_reducible exact GM.startswith h
theorem M_endswith {x : List Nat} : Meth prog w A X "endswith" "str.endswith" (.str x) := by
  intro s v pl Q E r; refine Rd.strE r fun _ => ?_; intro h; with_reducible exact GM.endswith h
theorem M_find {x : List Nat} : Meth prog w A X "find" "str.find" (.str x) := by
  intro s v pl Q E r; refine Rd.strE r fun _ => ?_; intro h; with_reducible exact GM.find h
theorem M_rfind {x : List Nat} : Meth prog w A X "rfind" "str.rfind" (.str x) := by
  intro s v pl Q E r; refine Rd.strE r fun _ => ?_; intro h; with_reducible exact GM.rfind h
theorem M_rstrip {x : List Nat} : Meth prog w A X "rstrip" "str.rstrip" (.str x) := by
  intro s v pl Q E r; refine Rd.strE r fun _ => ?_; intro h; with_reducible exact GM.rstrip h
theorem M_split {x : List Nat} : Meth prog w A X "split" "str.split" (.str x) := by
  intro s v pl Q E r; refine Rd.strE r fun _ => ?_; intro h; with_reducible exact GM.split h
theorem M_join {x : List Nat} : Meth prog w A X "join" "str.join" (.str x) := by
  intro s v pl Q E r; refine Rd.strE r fun _ => ?_; intro h; with_reducible exact GM.join h
theorem M_replace {x : List Nat} : Meth prog w A X "replace" "str.replace" (.str x) := by
  intro s v pl Q E r; refine Rd.strE r fun _ => ?_; intro h; with_reducible exact GM.replace h
noncomputable def startsL (x y : List Nat) : Bool := x.take y.length == y
noncomputable def endsL (x y : List Nat) : Bool := decide (y.length ≤ x.length) && x.drop (x.length - y.length) == y
theorem startswith_eq (x y : List Nat) : Txt.startswith (S x) (S y) = startsL x y := by
  unfold Txt.startswith startsL
  rw [StrLaws.subAt_eq, S_length, S_length, S_cps, S_cps, Nat.zero_add, List.drop_zero]
  by_cases h : y.length ≤ x.length
  · simp [h]
  · simp only [h, decide_false, Bool.false_and]
    refine (beq_eq_false_iff_ne.mpr fun e => h ?_).symm
    have := congrArg List.length e
    rw [List.length_take] at this
    lia
theorem endswith_eq (x y : List Nat) : Txt.endswith (S x) (S y) = endsL x y := by
  unfold Txt.endswith endsL
  rw [StrLaws.subAt_eq, S_length, S_length, S_cps, S_cps, Nat.zero_add]
  by_cases h : y.length ≤ x.length
  · rw [List.take_of_length_le (by rw [List.length_drop, Nat.sub_sub_self h]; exact Nat.le_refl _)]
  · simp [h]
theorem Op_startswith {x y : List Nat} : OpN prog w K A X (fun vs => call (.builtin "str.startswith") vs) [.str x, .str y] (.bool (startsL x y)) := by
  intro s vs Q E q r hQ
  refine RdAll.E2 r fun _ _ a b => ?_; refine Rd.strE a fun t => ?_; refine Rd.strE b fun u => ?_
  refine SC.startswith ?_
  rw [startswith_eq]
  exact Post.here hQ q (.bool _)
theorem Op_endswith {x y : List Nat} : OpN prog w K A X (fun vs => call (.builtin "str.endswith") vs) [.str x, .str y] (.bool (endsL x y)) := by
  intro s vs Q E q r hQ
  refine RdAll.E2 r fun _ _ a b => ?_; refine Rd.strE a fun t => ?_; refine Rd.strE b fun u => ?_
  refine SC.endswith ?_
  rw [endswith_eq]
  exact Post.here hQ q (.bool _)
theorem Op_find {x y : List Nat} : OpN prog w K A X (fun vs => call (.builtin "str.find") vs) [.str x, .str y] (.int (Txt.find (S x) (S y))) := by
  intro s vs Q E q r hQ
  refine RdAll.E2 r fun _ _ a b => ?_; refine Rd.strE a fun t => ?_; refine Rd.strE b fun u => ?_
  exact SC.find (Post.tk hQ q (.int _ _) (Nat.le_succ _))
theorem Op_find3 {x y : List Nat} {i : Int} : OpN prog w K A X (fun vs => call (.builtin "str.find") vs) [.str x, .str y, .int i] (.int (Txt.find3 (S x) (S y) i)) := by
  intro s vs Q E q r hQ
  refine RdAll.E3 r fun _ _ _ a b c => ?_; refine Rd.strE a fun t => ?_; refine Rd.strE b fun u => ?_; refine Rd.intE c fun v => ?_
  exact SC.find3 (Post.tk hQ q (.int _ _) (Nat.le_succ _))
theorem Op_rfind {x y : List Nat} : OpN prog w K A X (fun vs => call (.builtin "str.rfind") vs) [.str x, .str y] (.int (Txt.rfind (S x) (S y))) := by
  intro s vs Q E q r hQ
  refine RdAll.E2 r fun _ _ a b => ?_; refine Rd.strE a fun t => ?_; refine Rd.strE b fun u => ?_
  exact SC.rfind (Post.tk hQ q (.int _ _) (Nat.le_succ _))
theorem Rd.ofStr {h : Heap} (y : Str) (t : Tok) : Rd X h (.str y t) (.str y.cps.toList) := by
  have r := Rd.str (X := X) (h := h) y.cps.toList t
  rwa [S_of] at r
theorem Op_rstrip {x y : List Nat} (hsz : x.length ≤ sizeLine) : OpN prog w K A X (fun vs => call (.builtin "str.rstrip") vs) [.str x, .str y] (.str (Txt.rstripChars (S x) (S y)).cps.toList) := by
  intro s vs Q E q r hQ
  refine RdAll.E2 r fun _ _ a b => ?_; refine Rd.strE a fun t => ?_; refine Rd.strE b fun u => ?_
  exact wpAny_with_toks (Nat.le_refl _) (SC.rstripChars (fun t' k l => Post.tk hQ q (Rd.ofStr _ _) l) (by rw [S_length]; exact hsz))
noncomputable def joinL (sep : List Nat) : List (List Nat) → List Nat
  | [] => []
  | [x] => x
  | x :: y :: r => x ++ sep ++ joinL sep (y :: r)
theorem join_eq (sep : List Nat) : ∀ xs : List (List Nat), Txt.join (S sep) (xs.map S) = S (joinL sep xs) := by
  intro xs
  unfold Txt.join
  rw [StrLaws.glued_eq_join]
  induction xs with
  | nil => rfl
  | cons x r ih =>
    cases r with
    | nil => rfl
    | cons y r =>
      rw [List.map_cons, List.map_cons]
      show S x ++ S sep ++ Str.join (S sep) (S y :: r.map S) = _
      rw [List.map_cons] at ih
      rw [ih, S_append, S_append]
      rfl
theorem JoinOk_of (sep : List Nat) (xs : List (List Nat)) (h : (xs.map (·.length + sep.length)).sum ≤ sizeLine) : JoinOk (S sep) (xs.map S) = true := by
  have key : ∀ (l : List (List Nat)) (n : Nat), (l.map S).toArray.foldl (· + ·.length + (S sep).length) n = n + (l.map (·.length + sep.length)).sum := by
    intro l
    induction l with
    | nil => intro n; simp
    | cons a l ih =>
      intro n
      have := ih (n + (S a).length + (S sep).length)
      simp only [List.foldl_toArray, S_length, List.map_cons, List.foldl_cons, List.sum_cons] at this ⊢
      rw [this]; lia
  unfold JoinOk tooLong
  rw [key, Nat.zero_add]
  simp; exact h
theorem zipFst : ∀ (xs : List (List Nat)) (ts : List Tok), ts.length = xs.length → (List.zipWith (fun y t => (S y, t)) xs ts).map (·.1) = xs.map S
  | [], _, _ => by simp
  | x :: xs, [], h => by simp at h
  | x :: xs, t :: ts, h => by
    have := zipFst xs ts (by simpa using h)
    simp only [List.zipWith_cons_cons, List.map_cons, this]
theorem Op_join {sep : List Nat} {xs : List (List Nat)} (h : (xs.map (·.length + sep.length)).sum ≤ sizeLine) : OpN prog w K A X (fun vs => call (.builtin "str.join") vs) [.str sep, .list (xs.map .str)] (.str (joinL sep xs)) := by
  intro s vs Q E q r hQ
  refine RdAll.E2 r fun _ _ a b => ?_; refine Rd.strE a fun t => ?_; refine Rd.listE b fun _ _ hn hg rr => ?_
  refine ex1E rr.strs fun ts zz8 => and2E zz8 fun hl zz7 => ?_; subst zz7
  have e1 : List.zipWith (fun y t => Value.str (S y) t) xs ts = strValues (List.zipWith (fun y t => (S y, t)) xs ts) := by
    unfold strValues; rw [List.map_zipWith]
  have e2 := zipFst xs ts hl
  rw [e1] at hg
  refine wpAny_with_toks (Nat.le_refl _) (SC.join (hg) e2 (JoinOk_of _ _ h) fun t' k l => ?_)
  rw [join_eq]
  exact Post.tk hQ q (.str _ _) l
theorem Op_addL {xs ys : List D} (hsz : xs.length + ys.length ≤ sizeLine) : Op2 prog w K A X (binaryOp .Add) (.list xs) (.list ys) (.list (xs ++ ys)) := by
  intro s va vb Q E q ra rb hQ
  refine Rd.listE ra fun _ _ hn hg r => ?_; refine Rd.listE rb fun _ _ hn2 hg2 r2 => ?_
  rename_i a vs b ws
  refine ex1E hg fun zz4 zz5 => and3E zz5 fun ho hc zz6 => ex1E zz6 fun n hd => ?_; obtain ⟨cls, dd, data, sl⟩ := zz4
  refine ex1E hg2 fun zz1 zz2 => and3E zz2 fun ho2 hc2 zz3 => ex1E zz3 fun n2 hd2 => ?_; obtain ⟨cls2, dd2, data2, sl2⟩ := zz1
  simp only at hc hd hc2 hd2
  subst hc hd hc2 hd2
  have e : vs.toArray ++ ws.toArray = (vs ++ ws).toArray := by simp
  refine concat_meets ⟨_, ho, rfl⟩ ⟨_, ho2, rfl⟩ noFill_list_add seq_list_add PySem.F.slot_list_add PySem.F.entry_list_add (PySem.F.args_list_add_2 _ _) (list_addW a b vs.toArray ws.toArray n n2 dd dd2 sl sl2 (by simp [r.length, r2.length]; exact hsz)) ⟨ho, ho2, ?_⟩
  rw [e]
  have hk : ∀ b o, s.heap.get? b = some o → (s.heap.push ({ cls := .type "list", data := .seq (vs ++ ws).toArray } : Obj)).get? b = some o := fun b o e => Heap.get?_push_of_some _ e
  exact Post.at hQ q (Nat.le_refl _) hk (.list q.fresh_size ⟨_, Heap.get?_push_size _ rfl, rfl, _, rfl⟩ ((r.append r2).mono (fun _ q => .inl q) fun _ _ _ e => hk _ _ e))
end
end Mine
end
-- Stm
section
open PySem PySem.W PySem.Calls PyProof.Rows PySem.Builtin PySem.Builtin.Str
namespace Mine
noncomputable abbrev Own := List (Nat × Addr × List D)
noncomputable def Mut (env : Env) (own : Own) (b : Addr) : Prop := b = env.locals ∨ (∃ x, env.cells.lookup x = some b) ∨ ∃ p ∈ own, p.2.1 = b
noncomputable def XO (Xc : Addr → Prop) (env : Env) (own : Own) : Addr → Prop := fun a => Xc a ∨ Mut env own a
noncomputable def Kf (env : Env) (own : Own) (s s' : Shared) : Prop := ∃ h' tk, s' = { s with heap := h', toks := tk } ∧ s.toks ≤ tk ∧ ∀ b o, b ≠ 96 → ¬ Mut env own b → s.heap.get? b = some o → h'.get? b = some o
noncomputable def Fresher (own own' : Own) (s : Shared) : Prop := ∀ p ∈ own', (∃ q ∈ own, q.2.1 = p.2.1) ∨ s.heap.get? p.2.1 = none
theorem Kf.refl (env : Env) (own : Own) (s : Shared) : Kf env own s s := ⟨_, _, rfl, Nat.le_refl _, fun _ _ _ _ e => e⟩
theorem Kp.kf {env : Env} {own : Own} {s s' : Shared} (k : Kp s s') : Kf env own s s' := let ⟨h', tk, e, l, x⟩ := k; ⟨h', tk, e, l, fun b o hb _ q => x b o hb q⟩
theorem Fresher.refl (own : Own) (s : Shared) : Fresher own own s := fun p hp => .inl ⟨p, hp, rfl⟩
theorem Kf.trans {env : Env} {own own' : Own} {s s' s'' : Shared} (a : Kf env own s s') (f : Fresher own own' s) (b : Kf env own' s' s'') : Kf env own s s'' := by
  refine ex2E a fun h1 t1 zz41 => and3E zz41 fun zz40 l1 k1 => ?_; subst zz40
  refine ex2E b fun h2 t2 zz39 => and3E zz39 fun zz38 l2 k2 => ?_; subst zz38
  refine ⟨h2, t2, rfl, Nat.le_trans l1 l2, fun b o hb hm e => k2 b o hb (fun q => ?_) (k1 b o hb hm e)⟩
  rcases q with q | q | ⟨p, hp, rfl⟩
  · exact hm (.inl q)
  · exact hm (.inr (.inl q))
  · rcases f p hp with ⟨p', hp', e'⟩ | e'
    · exact hm (.inr (.inr ⟨p', hp', e'⟩))
    · rw [e] at e'; cases e'
theorem Fresher.trans {env : Env} {own own' own'' : Own} {s s' : Shared} (f : Fresher own own' s) (k : Kf env own s s') (hm : ∀ p ∈ own'', s'.heap.get? p.2.1 = none → p.2.1 ≠ 96 ∧ p.2.1 ≠ env.locals ∧ ∀ x, env.cells.lookup x ≠ some p.2.1) (g : Fresher own' own'' s') : Fresher own own'' s := by
  intro p hp
  rcases g p hp with ⟨q, hq, e⟩ | e
  · rw [← e]; exact f q hq
  · by_cases hq : ∃ q ∈ own, q.2.1 = p.2.1
    · exact .inl hq
    · refine .inr ?_
      refine ex2E k fun h1 t1 zz37 => and3E zz37 fun zz36 l1 k1 => ?_; subst zz36
      refine and3E (hm p hp e) fun h96 hl hc => ?_
      cases q : s.heap.get? p.2.1 with
      | none => rfl
      | some o =>
        have := k1 p.2.1 o h96 (fun z => by
          rcases z with z | ⟨x, z⟩ | z
          · exact hl z
          · exact hc x z
          · exact hq z) q
        rw [this] at e; cases e
structure StM (K : Frag) (env : Env) (nms : Nms) (Xc : Addr → Prop) (own : Own) (σ : List (Option D)) (m : Str → Option Value) (s : Shared) : Prop where
  wx : WX K (XO Xc env own) s
  x96 : Xc 96
  eo : EnvOk env nms
  frm : Frm env s.heap m
  rd : ∀ (i : Nat) (n : String) (k : NameKind) (d : D), nms[i]? = some (n, k) → σ[i]? = some (some d) → ∃ v, m n = some v ∧ Rd (XO Xc env own) s.heap v d
  ow : ∀ p ∈ own, ∃ n k vs ep, nms[p.1]? = some (n, k) ∧ m n = some (.ref p.2.1) ∧ s.heap.get? p.2.1 = some (W.listOf vs.toArray ep) ∧ RdAll (XO Xc env own) s.heap vs p.2.2
  nd : (own.map (·.2.1)).Nodup
  sep : ∀ p ∈ own, ¬ Xc p.2.1 ∧ p.2.1 ≠ env.locals ∧ ∀ x, env.cells.lookup x ≠ some p.2.1
  cd : ∀ x y c, env.cells.lookup x = some c → env.cells.lookup y = some c → x = y
noncomputable def St (K : Frag) (env : Env) (nms : Nms) (Xc : Addr → Prop) (own : Own) (σ : List (Option D)) (s : Shared) : Prop := ∃ m, StM K env nms Xc own σ m s
section
variable {K : Frag} {env : Env} {nms : Nms} {Xc : Addr → Prop} {own own' : Own} {σ : List (Option D)} {m : Str → Option Value} {s s' : Shared}
theorem StM.ste (x : StM K env nms Xc own σ m s) : StE K env nms (XO Xc env own) σ s := ⟨x.wx, x.eo, m, x.frm, x.rd⟩
theorem StM.kp (x : StM K env nms Xc own σ m s) (k : Kp s s') (w : WX K (XO Xc env own) s') : StM K env nms Xc own σ m s' where
  wx := w
  x96 := x.x96
  eo := x.eo
  frm := x.frm.keeps x.eo fun _ _ hb e => k.keep hb e
  rd := fun i n kd d h1 h2 => let ⟨v, e, q⟩ := x.rd i n kd d h1 h2; ⟨v, e, q.kp x.wx k⟩
  ow := fun p hp => let ⟨n, kd, vs, ep, h1, h2, h3, h4⟩ := x.ow p hp
    ⟨n, kd, vs, ep, h1, h2, k.keep (fun e => (x.sep p hp).1 (e ▸ x.x96)) h3, h4.kp x.wx k⟩
  nd := x.nd
  sep := x.sep
  cd := x.cd
theorem St.ste (x : St K env nms Xc own σ s) : StE K env nms (XO Xc env own) σ s := let ⟨_, y⟩ := x; y.ste
theorem St.kp (x : St K env nms Xc own σ s) (k : Kp s s') (w : WX K (XO Xc env own) s') : St K env nms Xc own σ s' := let ⟨m, y⟩ := x; ⟨m, y.kp k w⟩
theorem St.wx (x : St K env nms Xc own σ s) : WX K (XO Xc env own) s := let ⟨_, y⟩ := x; y.wx
noncomputable def fill (own : Own) (σ : List (Option D)) : List (Option D) := own.foldr (fun p τ => τ.set p.1 (some (.list p.2.2))) σ
theorem getElem?_set_some {α : Type} {l : List α} {i j : Nat} {a b : α} (h : (l.set i a)[j]? = some b) : (i = j ∧ b = a) ∨ l[j]? = some b := by
  rw [List.getElem?_set] at h
  split at h
  · split at h
    · exact .inl ⟨by assumption, by cases h; rfl⟩
    · cases h
  · exact .inr h
theorem mono0 {X X' : Addr → Prop} {h : Heap} {v : Value} {d : D} (hx : ∀ a, X' a → X a) (r : Rd X h v d) : Rd X' h v d := r.mono (fun a q => .inl (hx a q)) fun _ _ _ e => e
theorem mono0s {X X' : Addr → Prop} {h : Heap} {vs : List Value} {ds : List D} (hx : ∀ a, X' a → X a) (r : RdAll X h vs ds) : RdAll X' h vs ds := r.mono (fun a q => .inl (hx a q)) fun _ _ _ e => e
theorem XO_nil {a : Addr} (h : XO Xc env [] a) : XO Xc env own a := h.imp id fun m => m.imp id fun n => n.imp id fun ⟨_, hp, _⟩ => (nomatch hp)
theorem WX.weak {X X' : Addr → Prop} (w : WX K X s) (h96 : X' 96) (hx : ∀ a, X' a → X a) : WX K X' s := ⟨w.kin, fun a ha => w.xk a (hx a ha), w.bi, w.tb.keeps (fun a q => .inl (hx a q)) (fun _ e => e) fun _ _ _ e => e, w.pos, h96, fun a ha => w.xb a (hx a ha)⟩
theorem StM.loose (x : StM K env nms Xc own σ m s) : StE K env nms (XO Xc env []) (fill own σ) s := by
  refine ⟨x.wx.weak (.inl x.x96) fun a => XO_nil, x.eo, m, x.frm, fun i n k d h1 h2 => ?_⟩
  have key : ∀ l : Own, (∀ p ∈ l, p ∈ own) → ∀ d, (fill l σ)[i]? = some (some d) → (σ[i]? = some (some d)) ∨ ∃ p ∈ own, p.1 = i ∧ d = .list p.2.2 := by
    intro l
    induction l with
    | nil => intro _ d h; exact .inl h
    | cons p l ih =>
      intro hl d h
      rcases getElem?_set_some (by exact h) with ⟨e, h⟩ | h
      · cases h; exact .inr ⟨p, hl p (.head _), e, rfl⟩
      · exact ih (fun q hq => hl q (.tail _ hq)) d h
  rcases key own (fun _ h => h) d h2 with h | ⟨p, hp, rfl, rfl⟩
  · refine ex1E (x.rd i n k d h1 h) fun v zz35 => and2E zz35 fun e q => ?_
    exact ⟨v, e, mono0 (fun a => XO_nil) q⟩
  · refine ex4E (x.ow p hp) fun n' k' vs ep zz34 => and4E zz34 fun e1 e2 e3 e4 => ?_
    rw [e1] at h1; cases h1
    refine ⟨_, e2, .list (fun q => ?_) ⟨_, e3, rfl, _, rfl⟩ (mono0s (fun a => XO_nil) e4)⟩
    rcases q with q | q | ⟨y, q⟩ | ⟨q, hq, _⟩
    · exact (x.sep p hp).1 q
    · exact (x.sep p hp).2.1 q
    · exact (x.sep p hp).2.2 y q
    · nomatch hq
theorem St.loose (x : St K env nms Xc own σ s) : StE K env nms (XO Xc env []) (fill own σ) s := let ⟨_, y⟩ := x; y.loose
theorem StM.stored {b : Addr} {h' : Heap} {tk : Nat} {n : String} {v : Value} (x : StM K env nms Xc own σ m s) (hb : Mut env [] b) (hs : Heap.SameBut b s.heap h') (ht : s.toks ≤ tk)
    (he : ∃ o, h'.get? b = some o) (hf : Frm env h' (fun y => if y = (n : Str) then some v else m y)) {own' : Own} {σ' : List (Option D)}
    (hw : WX K (XO Xc env own') s)
    (hrd : ∀ (j : Nat) (n' : String) (k' : NameKind) (d : D), nms[j]? = some (n', k') → σ'[j]? = some (some d) → ∃ v', (if (n' : Str) = (n : Str) then some v else m n') = some v' ∧ Rd (XO Xc env own') s.heap v' d)
    (how : ∀ p ∈ own', ∃ n' k' vs ep, nms[p.1]? = some (n', k') ∧ (if (n' : Str) = (n : Str) then some v else m n') = some (.ref p.2.1) ∧ s.heap.get? p.2.1 = some (W.listOf vs.toArray ep) ∧ RdAll (XO Xc env own') s.heap vs p.2.2)
    (hnd : (own'.map (·.2.1)).Nodup) (hsep : ∀ p ∈ own', ¬ Xc p.2.1 ∧ p.2.1 ≠ env.locals ∧ ∀ x, env.cells.lookup x ≠ some p.2.1) :
    StM K env nms Xc own' σ' (fun y => if y = (n : Str) then some v else m y) { s with heap := h', toks := tk } := by
  have hbX : XO Xc env own' b := .inr (by
    rcases hb with h | h | ⟨p, hp, _⟩
    · exact .inl h
    · exact .inr (.inl h)
    · cases hp)
  have h96 : b ≠ 96 := by
    rcases hb with h | ⟨y, h⟩ | ⟨p, hp, _⟩
    · rw [h]; exact x.eo.l96
    · exact x.eo.c96 y b h
    · cases hp
  have hne : ∀ p ∈ own', p.2.1 ≠ b := fun p hp e => by
    rcases hb with h | ⟨y, h⟩ | ⟨q, hq, _⟩
    · exact (hsep p hp).2.1 (e.trans h)
    · exact (hsep p hp).2.2 y (e ▸ h)
    · cases hq
  exact {
    wx := hw.upd hbX h96 hs he ht
    x96 := x.x96
    eo := x.eo
    frm := hf
    rd := fun j n' k' d h1 h2 => let ⟨v', e, r⟩ := hrd j n' k' d h1 h2; ⟨v', e, r.upd hbX hs⟩
    ow := fun p hp => let ⟨n', k', vs, ep, h1, h2, h3, h4⟩ := how p hp; ⟨n', k', vs, ep, h1, h2, (hs.2 _ (hne p hp)).trans h3, h4.upd hbX hs⟩
    nd := hnd
    sep := hsep
    cd := x.cd }
theorem StM.store {M : Model} {A : Around} {E : Value → Shared → Prop} {Q : Unit → Shared → Prop} {i : Nat} {n : String} {k : NameKind} {v : Value} (x : StM K env nms Xc own σ m s) (hn : nms[i]? = some (n, k)) (hk : k = .local ∨ k = .cell)
    (h : ∀ h' tk b, Mut env [] b → Heap.SameBut b s.heap h' → s.toks ≤ tk → (∃ o, h'.get? b = some o) → Frm env h' (fun y => if y = (n : Str) then some v else m y) → Q () { s with heap := h', toks := tk }) :
    wpAny M A (storeName env n v) Q E s := by
  have hK := x.eo.kindOf hn
  rcases hk with rfl | rfl
  · refine ex1E x.frm.ns fun m0 zz33 => and2E zz33 fun hm0 hm => ?_
    refine wpAny_storeName_local hK hm0 (fun h' hns hs => h h' (s.toks + 1) env.locals (.inl rfl) hs (Nat.le_succ _) ?_ ?_) ?_
    · refine ex3E hns fun o _ _ zz32 => and2E zz32 fun e _ => ?_; exact ⟨o, e⟩
    · refine ⟨⟨_, hns, fun y hy => ?_⟩, fun y hy => ?_⟩
      · split
        · rfl
        · exact hm y hy
      · refine ex1E (x.frm.cell y hy) fun c zz31 => and2E zz31 fun h1 h2 => ?_
        have hyn : y ≠ (n : Str) := fun e => by subst e; rw [hK] at hy; rcases hy with hy | hy <;> cases hy
        refine ⟨c, h1, ?_⟩
        simp only [hyn, if_false]
        exact h2.sameBut hs (x.eo.lc y c h1)
    · show (env.scope.kind == .class || (env.scope.kind == .module && env.locals != env.globals)) = false
      rw [x.eo.kind]; rfl
  · refine ex1E (x.frm.cell _ (.inl hK)) fun c zz30 => and2E zz30 fun h1 h2 => ?_
    refine wpAny_storeName_cell x.eo.kind hK h1 h2 fun h' hc hs => h h' s.toks c (.inr (.inl ⟨_, h1⟩)) hs (Nat.le_refl _) (let ⟨o, e, _⟩ := hc; ⟨o, e⟩) ?_
    refine ex1E x.frm.ns fun m0 zz29 => and2E zz29 fun hm0 hm => ?_
    refine ⟨⟨m0, hm0.sameBut hs (Ne.symm (x.eo.lc _ c h1)), fun y hy => ?_⟩, fun y hy => ?_⟩
    · have hyn : y ≠ (n : Str) := fun e => by subst e; rw [hK] at hy; cases hy
      simp only [hyn, if_false]; exact hm y hy
    · by_cases hyn : y = (n : Str)
      · subst hyn; simp only [if_true]; exact ⟨c, h1, hc⟩
      · refine ex1E (x.frm.cell y hy) fun c2 zz28 => and2E zz28 fun h3 h4 => ?_
        simp only [hyn, if_false]
        exact ⟨c2, h3, h4.sameBut hs fun e => hyn (x.cd _ _ c2 h3 (e ▸ h1))⟩
theorem EnvOk.same (eo : EnvOk env nms) {i j : Nat} {n n' : String} {k k' : NameKind} (h1 : nms[i]? = some (n, k)) (h2 : nms[j]? = some (n', k')) (e : (n' : Str) = (n : Str)) : i = j := by
  have h := eo.ok
  unfold nmsOk at h
  rw [Bool.and_eq_true] at h
  have nd := of_decide_eq_true h.1
  have e1 : (nms.map fun p => (p.1 : Str))[i]? = some (n : Str) := by rw [List.getElem?_map, h1]; rfl
  have e2 : (nms.map fun p => (p.1 : Str))[j]? = some (n : Str) := by rw [List.getElem?_map, h2]; exact congrArg some e
  exact (List.getElem?_inj (by refine ex1E (List.getElem?_eq_some_iff.mp e1) fun h _ => ?_; exact h) nd).mp (e1.trans e2.symm)
noncomputable def drop (own : Own) (i : Nat) : Own := own.filter fun p => p.1 != i
theorem XO_sub (hs : ∀ p ∈ own', p ∈ own) {a : Addr} (h : XO Xc env own' a) : XO Xc env own a := h.imp id fun q => q.imp id fun q => q.imp id fun ⟨p, hp, e⟩ => ⟨p, hs p hp, e⟩
theorem drop_sub {i : Nat} : ∀ p ∈ drop own i, p ∈ own := fun p hp => (List.mem_filter.mp hp).1
theorem Kf.of_same {b : Addr} {h' : Heap} {tk : Nat} (hb : Mut env [] b) (hs : Heap.SameBut b s.heap h') (ht : s.toks ≤ tk) : Kf env own s { s with heap := h', toks := tk } :=
  ⟨h', tk, rfl, ht, fun c o _ hm e => (hs.2 c fun q => hm (by
    subst q
    rcases hb with h | h | ⟨p, hp, _⟩
    · exact .inl h
    · exact .inr (.inl h)
    · cases hp)).trans e⟩
theorem St.store {M : Model} {A : Around} {E : Value → Shared → Prop} {Q : Unit → Shared → Prop} (i : Nat) {n : String} {k : NameKind} {v : Value} {d : D} (x : St K env nms Xc own σ s) (hn : nms[i]? = some (n, k)) (hk : k = .local ∨ k = .cell)
    (r : Rd (XO Xc env own) s.heap v d) (h : ∀ s', St K env nms Xc (drop own i) (σ.set i (some d)) s' → Kf env own s s' → Q () s') : wpAny M A (storeName env n v) Q E s := by
  refine ex1E x fun m x => ?_
  refine x.store hn hk fun h' tk b hb hs ht he hf => h _ ⟨_, x.stored hb hs ht he hf ?_ ?_ ?_ ?_ ?_⟩ (Kf.of_same hb hs ht)
  · exact x.wx.weak (.inl x.x96) fun a => XO_sub drop_sub
  · intro j n' k' d' h1 h2
    by_cases e : (n' : Str) = (n : Str)
    · have := x.eo.same hn h1 e
      subst this
      rw [List.getElem?_set] at h2
      simp only [if_true] at h2
      split at h2
      · cases h2
        rw [if_pos e]
        exact ⟨v, rfl, mono0 (fun a => XO_sub drop_sub) r⟩
      · cases h2
    · rw [if_neg e]
      have hij : i ≠ j := fun q => by subst q; rw [hn] at h1; cases h1; exact e rfl
      rw [List.getElem?_set_ne hij] at h2
      refine ex1E (x.rd j n' k' d' h1 h2) fun v' zz27 => and2E zz27 fun e' r' => ?_
      exact ⟨v', e', mono0 (fun a => XO_sub drop_sub) r'⟩
  · intro p hp
    have hp' := drop_sub p hp
    have hpi : p.1 ≠ i := by have := (List.mem_filter.mp hp).2; simpa using this
    refine ex4E (x.ow p hp') fun n' k' vs ep zz26 => and4E zz26 fun h1 h2 h3 h4 => ?_
    have e : ¬ (n' : Str) = (n : Str) := fun e => hpi (x.eo.same hn h1 e).symm
    exact ⟨n', k', vs, ep, h1, by rw [if_neg e]; exact h2, h3, mono0s (fun a => XO_sub drop_sub) h4⟩
  · exact (List.Sublist.map _ (List.filter_sublist)).nodup x.nd
  · intro p hp; exact x.sep p (drop_sub p hp)
theorem WX.join {X : Addr → Prop} {wr : List Addr} {h' : Heap} {tk : Nat} (x : WX K X s) (l : s.toks ≤ tk) (hk : ∀ b o, s.heap.get? b = some o → h'.get? b = some o) (hf : ∀ b ∈ wr, s.heap.get? b = none) (ho : ∀ b ∈ wr, ∃ o, h'.get? b = some o) :
    WX K (fun a => X a ∨ a ∈ wr) { s with heap := h', toks := tk } := by
  have y := x.more l hk
  refine ⟨y.kin, ?_, y.bi, x.tb.keeps (fun a q => q.imp id (hf a)) (hk 96) fun b o _ e => hk b o e, y.pos, .inl x.x96, ?_⟩
  · rintro a (q | q)
    · exact x.xk a q
    · have hnew := hf a q
      constructor
      · cases z : K.lookup a with
        | none => rfl
        | some o => rw [x.kin _ _ z] at hnew; cases hnew
      · intro z
        refine ex1E x.bi fun mb zz25 => and2E zz25 fun zz24 _ => ?_; obtain ⟨o, _, _, e, _⟩ := zz24
        rw [z, e] at hnew; cases hnew
  · rintro a (q | q)
    · exact y.xb a q
    · exact ho a q
theorem St.storeOwnAt {M : Model} {A : Around} {E : Value → Shared → Prop} {Q : Unit → Shared → Prop} (i : Nat) {n : String} {k : NameKind} {vs : List Value} {ds : List D} {a : Addr} {ep : Nat} (x : St K env nms Xc own σ s) (hn : nms[i]? = some (n, k)) (hk : k = .local ∨ k = .cell)
    (r : RdAll (XO Xc env own) s.heap vs ds) (kp : Kp s s') (ha : s.heap.get? a = none) (hg : s'.heap.get? a = some (W.listOf vs.toArray ep)) (w' : WX K (fun b => XO Xc env own b ∨ b ∈ [a]) s')
    (h : ∀ s'', St K env nms Xc ((i, a, ds) :: drop own i) (σ.set i none) s'' → Kf env own s s'' → Q () s'') : wpAny M A (storeName env n (.ref a)) Q E s' := by
  refine ex1E x fun m x => ?_
  have sub' : ∀ c, XO Xc env ((i, a, ds) :: drop own i) c → XO Xc env own c ∨ c ∈ [a] := by
    intro c hc
    rcases hc with q | q | q | ⟨p, hp, e⟩
    · exact .inl (.inl q)
    · exact .inl (.inr (.inl q))
    · exact .inl (.inr (.inr (.inl q)))
    · cases hp with
      | head => exact .inr (by rw [← e]; exact .head _)
      | tail _ hp => exact .inl (.inr (.inr (.inr ⟨p, drop_sub p hp, e⟩)))
  have sub : ∀ c, XO Xc env ((i, a, ds) :: drop own i) c → XO Xc env own c ∨ s.heap.get? c = none := fun c hc => (sub' c hc).imp id fun q => by simp at q; rw [q]; exact ha
  have hX : ¬ XO Xc env own a := x.wx.fresh ha
  have mv : ∀ {v d}, Rd (XO Xc env own) s.heap v d → Rd (XO Xc env ((i, a, ds) :: drop own i)) s'.heap v d := fun q => q.mono sub fun b o hn e => kp.keep (x.wx.ne96 hn) e
  have mvs : ∀ {v d}, RdAll (XO Xc env own) s.heap v d → RdAll (XO Xc env ((i, a, ds) :: drop own i)) s'.heap v d := fun q => q.mono sub fun b o hn e => kp.keep (x.wx.ne96 hn) e
  have x' : StM K env nms Xc own σ m s' := x.kp kp (w'.weak (.inl x.x96) fun _ q => .inl q)
  refine x'.store hn hk fun h' tk b hb hs ht he hf => h _ ⟨_, x'.stored hb hs ht he hf ?_ ?_ ?_ ?_ ?_⟩ ((Kp.kf kp).trans (Fresher.refl _ _) (Kf.of_same hb hs ht))
  · exact w'.weak (.inl x.x96 : XO Xc env _ 96) sub'
  · intro j n' k' d' h1 h2
    by_cases e : (n' : Str) = (n : Str)
    · have := x.eo.same hn h1 e
      subst this
      rw [List.getElem?_set] at h2
      simp only [if_true] at h2
      split at h2 <;> cases h2
    · rw [if_neg e]
      have hij : i ≠ j := fun q => by subst q; rw [hn] at h1; cases h1; exact e rfl
      rw [List.getElem?_set_ne hij] at h2
      refine ex1E (x.rd j n' k' d' h1 h2) fun v' zz23 => and2E zz23 fun e' r' => ?_
      exact ⟨v', e', mv r'⟩
  · intro p hp
    cases hp with
    | head => exact ⟨n, k, vs, ep, hn, by simp, hg, mvs r⟩
    | tail _ hp =>
      have hp' := drop_sub p hp
      have hpi : p.1 ≠ i := by have := (List.mem_filter.mp hp).2; simpa using this
      refine ex4E (x.ow p hp') fun n' k' vs' ep' zz22 => and4E zz22 fun h1 h2 h3 h4 => ?_
      have e : ¬ (n' : Str) = (n : Str) := fun e => hpi (x.eo.same hn h1 e).symm
      exact ⟨n', k', vs', ep', h1, by rw [if_neg e]; exact h2, kp.keep (fun e => (x.sep p hp').1 (e ▸ x.x96)) h3, mvs h4⟩
  · rw [List.map_cons, List.nodup_cons]
    refine ⟨fun q => ?_, (List.Sublist.map _ (List.filter_sublist)).nodup x.nd⟩
    refine ex1E (List.mem_map.mp q) fun p zz21 => and2E zz21 fun hp e => ?_
    exact hX (.inr (.inr (.inr ⟨p, drop_sub p hp, e⟩)))
  · intro p hp
    cases hp with
    | head => exact ⟨fun q => hX (.inl q), fun q => hX (.inr (.inl q)), fun y q => hX (.inr (.inr (.inl ⟨y, q⟩)))⟩
    | tail _ hp => exact x.sep p (drop_sub p hp)
theorem St.storeOwn {M : Model} {A : Around} {E : Value → Shared → Prop} {Q : Unit → Shared → Prop} (i : Nat) {n : String} {k : NameKind} {vs : List Value} {ds : List D} (x : St K env nms Xc own σ s) (hn : nms[i]? = some (n, k)) (hk : k = .local ∨ k = .cell)
    (r : RdAll (XO Xc env own) s.heap vs ds)
    (h : ∀ s', St K env nms Xc ((i, s.heap.objs.size, ds) :: drop own i) (σ.set i none) s' → Kf env own s s' → Q () s') : wpAny M A (storeName env n (.ref s.heap.objs.size)) Q E { s with heap := s.heap.push ({ cls := .type "list", data := .seq vs.toArray } : Obj) } := by
  have hk1 : ∀ b o, s.heap.get? b = some o → (s.heap.push ({ cls := .type "list", data := .seq vs.toArray } : Obj)).get? b = some o := fun b o e => Heap.get?_push_of_some _ e
  have hnone : s.heap.get? s.heap.objs.size = none := by
    cases q : s.heap.get? s.heap.objs.size with
    | none => rfl
    | some o => exact absurd (Heap.lt_size q) (Nat.lt_irrefl _)
  refine St.storeOwnAt (s := s) i x hn hk r (Kp.of (Nat.le_refl _) hk1) hnone (Heap.get?_push_size _ rfl) (x.wx.join (Nat.le_refl _) hk1 ?_ ?_) h
  · intro b hb; simp at hb; rw [hb]; exact hnone
  · intro b hb; simp at hb; rw [hb]; exact ⟨_, Heap.get?_push_size _ rfl⟩
noncomputable def updO (own : Own) (i : Nat) (d : D) : Own := own.map fun p => if p.1 = i then (p.1, p.2.1, p.2.2 ++ [d]) else p
theorem updO_addr (i : Nat) (d : D) : (updO own i d).map (·.2.1) = own.map (·.2.1) := by
  unfold updO; rw [List.map_map]; refine List.map_congr_left fun p _ => ?_
  simp only [Function.comp]; split <;> rfl
theorem updO_mut (i : Nat) (d : D) (b : Addr) : (∃ p ∈ updO own i d, p.2.1 = b) ↔ ∃ p ∈ own, p.2.1 = b := by
  have := congrArg (b ∈ ·) (updO_addr (own := own) i d)
  simpa [List.mem_map] using this
theorem updO_XO (i : Nat) (d : D) (b : Addr) : XO Xc env (updO own i d) b ↔ XO Xc env own b := by
  unfold XO Mut; rw [updO_mut]
theorem St.append {M : Model} {A : Around} {E : Value → Shared → Prop} {Q : Unit → Shared → Prop} {i : Nat} {a : Addr} {ds : List D} {v : Value} {d : D} (x : St K env nms Xc own σ s) (hp : (i, a, ds) ∈ own) (r : Rd (XO Xc env own) s.heap v d) (hsz : ds.length ≤ sizeLine)
    (h : ∀ s', St K env nms Xc (updO own i d) σ s' → Kf env own s s' → Q () s') : wpAny M A (updateSeq a (·.push v)) Q E s := by
  refine ex1E x fun m x => ?_
  refine ex4E (x.ow _ hp) fun n k vs ep zz20 => and4E zz20 fun h1 h2 h3 h4 => ?_
  have hs : Heap.SameBut a s.heap (s.heap.update a (Obj.mapSeq (·.push v))) := Heap.SameBut.update ..
  have hnew : (s.heap.update a (Obj.mapSeq (·.push v))).get? a = some (W.listOf (vs ++ [v]).toArray (ep + 1)) := by
    rw [Heap.get?_update_self _ h3 rfl]
    simp [W.listOf, Obj.mapSeq]
  have haX : XO Xc env own a := .inr (.inr (.inr ⟨_, hp, rfl⟩))
  refine and3E (x.sep _ hp) fun q1 q2 q3 => ?_
  have h96 : a ≠ 96 := fun e => q1 (e ▸ x.x96)
  have hsub : ∀ b, XO Xc env (updO own i d) b → XO Xc env own b := fun b => (updO_XO i d b).mp
  have one : ∀ p ∈ own, p.1 = i → p = (i, a, ds) := by
    intro p hp' e
    refine ex4E (x.ow p hp') fun n' k' vs' ep' zz19 => and4E zz19 fun g1 g2 g3 g4 => ?_
    rw [e, h1] at g1; cases g1
    rw [h2] at g2
    have e2 : a = p.2.1 := by injection g2 with g2; injection g2
    refine ex1E (List.mem_iff_getElem.mp hp') fun j zz18 => ex1E zz18 fun hj ej => ?_
    refine ex1E (List.mem_iff_getElem.mp hp) fun l zz17 => ex1E zz17 fun hl el => ?_
    have : j = l := (List.getElem?_inj (l := own.map (·.2.1)) (by simpa using hj) x.nd).mp (by rw [List.getElem?_map, List.getElem?_map, List.getElem?_eq_getElem hj, List.getElem?_eq_getElem hl, ej, el]; simp [e2])
    subst this
    rw [← ej, el]
  refine wpAny_updateSeq h3 rfl (h _ ⟨m, ?_⟩ ⟨_, s.toks, rfl, Nat.le_refl _, fun b o _ hm e => (hs.2 b fun q => hm (by rw [q]; exact .inr (.inr ⟨_, hp, rfl⟩))).trans e⟩) (by rw [List.size_toArray, h4.length]; exact hsz) (by have e5 : vs.length = ds.length := h4.length; simp [e5]; lia)
  have w := (x.wx.upd (tk := s.toks) haX h96 hs ⟨_, hnew⟩ (Nat.le_refl _)).weak (.inl x.x96 : XO Xc env (updO own i d) 96) hsub
  refine ⟨w, x.x96, x.eo, ⟨?_, fun y hy => ?_⟩, fun j n' k' d' g1 g2 => let ⟨v', e, r'⟩ := x.rd j n' k' d' g1 g2; ⟨v', e, mono0 hsub (r'.upd haX hs)⟩, ?_, ?_, ?_, x.cd⟩
  · refine ex1E x.frm.ns fun m0 zz16 => and2E zz16 fun hm0 hm => ?_
    exact ⟨m0, hm0.sameBut hs (Ne.symm q2), hm⟩
  · refine ex1E (x.frm.cell y hy) fun c zz15 => and2E zz15 fun g1 g2 => ?_
    exact ⟨c, g1, g2.sameBut hs fun e => q3 y (by rw [← e]; exact g1)⟩
  · intro p hp'
    refine ex1E (List.mem_map.mp hp') fun p0 zz14 => and2E zz14 fun hp0 zz13 => ?_; subst zz13
    by_cases hpi : p0.1 = i
    · have e0 := one p0 hp0 hpi
      subst e0
      rw [if_pos rfl]
      exact ⟨n, k, vs ++ [v], ep + 1, h1, h2, hnew, mono0s hsub (RdAll.upd haX hs (h4.append (.cons r .nil)))⟩
    · rw [if_neg hpi]
      refine ex4E (x.ow p0 hp0) fun n' k' vs' ep' zz12 => and4E zz12 fun g1 g2 g3 g4 => ?_
      have hne : p0.2.1 ≠ a := by
        intro e
        refine ex1E (List.mem_iff_getElem.mp hp0) fun j zz11 => ex1E zz11 fun hj ej => ?_
        refine ex1E (List.mem_iff_getElem.mp hp) fun l zz10 => ex1E zz10 fun hl el => ?_
        have : j = l := (List.getElem?_inj (l := own.map (·.2.1)) (by simpa using hj) x.nd).mp (by rw [List.getElem?_map, List.getElem?_map, List.getElem?_eq_getElem hj, List.getElem?_eq_getElem hl, ej, el]; simp [e])
        subst this
        rw [← ej, el] at hpi
        exact hpi rfl
      exact ⟨n', k', vs', ep', g1, g2, (hs.2 _ hne).trans g3, mono0s hsub (g4.upd haX hs)⟩
  · rw [updO_addr]; exact x.nd
  · intro p hp'
    have : p.2.1 ∈ (updO own i d).map (·.2.1) := List.mem_map.mpr ⟨p, hp', rfl⟩
    rw [updO_addr] at this
    refine ex1E (List.mem_map.mp this) fun q zz9 => and2E zz9 fun hq e => ?_
    rw [← e]; exact x.sep q hq
inductive Out where
  | next (own : Own) (σ : List (Option D))
  | brk (own : Own) (σ : List (Option D))
  | cont (own : Own) (σ : List (Option D))
  | ret (d : D)
noncomputable def shape (own : Own) : Own := own
noncomputable def Goes (K : Frag) (env : Env) (nms : Nms) (Xc : Addr → Prop) (own : Own) (s : Shared) (sh : Own) (σ' : List (Option D)) (s' : Shared) : Prop :=
  ∃ own', shape own' = sh ∧ St K env nms Xc own' σ' s' ∧ Kf env own s s' ∧ Fresher own own' s
noncomputable def OutOk (K : Frag) (env : Env) (nms : Nms) (Xc : Addr → Prop) (own : Own) (s : Shared) : Out → Flow → Shared → Prop
  | .next sh σ', f, s' => f = .next ∧ Goes K env nms Xc own s sh σ' s'
  | .brk sh σ', f, s' => f = .brk ∧ Goes K env nms Xc own s sh σ' s'
  | .cont sh σ', f, s' => f = .cont ∧ Goes K env nms Xc own s sh σ' s'
  | .ret d, f, s' => ∃ v, f = .ret v ∧ Kf env own s s' ∧ WX K Xc s' ∧ Rd Xc s'.heap v d
end
section
variable (prog : Program) (w : World) (K : Frag) (A : Around) (env : Env) (nms : Nms) (Xc : Addr → Prop)
noncomputable def ExT (sh : Own) (σ : List (Option D)) (t : Sem Flow) (P : Out → Prop) : Prop :=
  ∀ ⦃own⦄ s Q E, shape own = sh → St K env nms Xc own σ s → (∀ out f s', P out → OutOk K env nms Xc own s out f s' → Q f s') → wpAny (model prog w) A t Q E s
noncomputable def ExS (sh : Own) (σ : List (Option D)) (st : Stmt) (P : Out → Prop) : Prop := ExT prog w K A env nms Xc sh σ (exec st env) P
noncomputable def Ex (sh : Own) (σ : List (Option D)) (ss : List Stmt) (P : Out → Prop) : Prop := ExT prog w K A env nms Xc sh σ (execs ss env) P
end
section
variable {K : Frag} {A : Around} {env : Env} {nms : Nms} {Xc : Addr → Prop} {sh : Own} {σ : List (Option D)} {P : Out → Prop}
theorem Goes.start {own : Own} {s : Shared} (x : St K env nms Xc own σ s) : Goes K env nms Xc own s (shape own) σ s := ⟨own, rfl, x, Kf.refl _ _ _, Fresher.refl _ _⟩
theorem St.sep {own : Own} {s : Shared} (x : St K env nms Xc own σ s) : ∀ p ∈ own, p.2.1 ≠ 96 ∧ p.2.1 ≠ env.locals ∧ ∀ y, env.cells.lookup y ≠ some p.2.1 := fun p hp => by
  refine ex1E x fun m x => ?_
  exact ⟨fun e => (x.sep p hp).1 (e ▸ x.x96), (x.sep p hp).2⟩
theorem OutOk.after {own own' : Own} {s s' s'' : Shared} {out : Out} {f : Flow} (k : Kf env own s s') (fr : Fresher own own' s) (h : OutOk K env nms Xc own' s' out f s'') : OutOk K env nms Xc own s out f s'' := by
  have go : ∀ sh σ', Goes K env nms Xc own' s' sh σ' s'' → Goes K env nms Xc own s sh σ' s'' := by
    rintro sh σ' ⟨o2, h1, h2, h3, h4⟩
    exact ⟨o2, h1, h2, k.trans fr h3, fr.trans k (fun p hp _ => h2.sep p hp) h4⟩
  cases out with
  | next sh σ' => exact ⟨h.1, go _ _ h.2⟩
  | brk sh σ' => exact ⟨h.1, go _ _ h.2⟩
  | cont sh σ' => exact ⟨h.1, go _ _ h.2⟩
  | ret d => refine ex1E h fun v zz8 => and4E zz8 fun h1 h2 h3 h4 => ?_; exact ⟨v, h1, k.trans fr h2, h3, h4⟩
theorem Ex_nil (h : P (.next sh σ)) : Ex prog w K A env nms Xc sh σ [] P := by
  intro own s Q E e st hQ
  exact wpAny_execs_nil (hQ _ _ _ h ⟨rfl, e ▸ Goes.start st⟩)
theorem Ex_cons {st : Stmt} {rest : List Stmt} (h : ExS prog w K A env nms Xc sh σ st (fun o => match o with | .next sh' σ' => Ex prog w K A env nms Xc sh' σ' rest P | o => P o)) : Ex prog w K A env nms Xc sh σ (st :: rest) P := by
  intro own s Q E e x hQ
  refine wpAny_execs_cons (h s _ _ e x fun out f s' hp ho => ?_)
  cases out with
  | next sh' σ' =>
    refine and2E ho fun zz5 zz6 => ex1E zz6 fun own' zz7 => and4E zz7 fun e' x' k fr => ?_; subst zz5
    exact hp s' Q E e' x' fun out f s'' hp' ho' => hQ out f s'' hp' (ho'.after k fr)
  | brk sh' σ' => refine and2E ho fun zz4 r => ?_; subst zz4; exact hQ _ _ _ hp ⟨rfl, r⟩
  | cont sh' σ' => refine and2E ho fun zz3 r => ?_; subst zz3; exact hQ _ _ _ hp ⟨rfl, r⟩
  | ret d => refine ex1E ho fun v zz2 => and2E zz2 fun zz1 r => ?_; subst zz1; exact hQ (.ret d) _ _ hp ⟨v, rfl, r⟩
end
end Mine
end
-- Stm2
section
open PySem PySem.W PySem.Calls PyProof.Rows PySem.Builtin PySem.Builtin.Str
namespace Mine
noncomputable def fillS (sh : Own) (σ : List (Option D)) : List (Option D) := sh.foldr (fun p τ => τ.set p.1 (some (.list p.2.2))) σ
noncomputable def dropS (sh : Own) (i : Nat) : Own := sh.filter fun p => p.1 != i
theorem fill_shape (own : Own) (σ : List (Option D)) : fill own σ = fillS (shape own) σ := rfl
theorem drop_shape (own : Own) (i : Nat) : shape (drop own i) = dropS (shape own) i := rfl
noncomputable def flat : D → Bool
  | .list _ => false
  | .tuple _ => false
  | .obj _ _ => false
  | _ => true
theorem Rd.flat {X X' : Addr → Prop} {h h' : Heap} {v : Value} {d : D} (r : Rd X h v d) (f : flat d = true) : Rd X' h' v d := by
  cases r with
  | none => exact .none
  | bool b => exact .bool b
  | int i t => exact .int i t
  | str x t => exact .str x t
  | list _ _ _ => cases f
  | tuple _ _ _ => cases f
  | val v => exact .val v
  | obj _ _ => cases f
section
variable {K : Frag} {A : Around} {env : Env} {nms : Nms} {Xc : Addr → Prop} {sh : Own} {σ : List (Option D)} {P : Out → Prop}
noncomputable def EvS (prog : Program) (w : World) (K : Frag) (A : Around) (env : Env) (nms : Nms) (Xc : Addr → Prop) (sh : Own) (σ : List (Option D)) (e : Expr) (d : D) : Prop :=
  ∀ own, shape own = sh → Ev prog w K A env nms (XO Xc env own) σ e d
noncomputable def EvL (prog : Program) (w : World) (K : Frag) (A : Around) (env : Env) (nms : Nms) (Xc : Addr → Prop) (sh : Own) (σ : List (Option D)) (e : Expr) (d : D) : Prop :=
  Ev prog w K A env nms (XO Xc env []) (fillS sh σ) e d
noncomputable def EvT (prog : Program) (w : World) (K : Frag) (A : Around) (env : Env) (nms : Nms) (Xc : Addr → Prop) (sh : Own) (σ : List (Option D)) (e : Expr) (b : Bool) : Prop :=
  EvB prog w K A env nms (XO Xc env []) (fillS sh σ) e b
theorem St.looseS {own : Own} {s : Shared} (x : St K env nms Xc own σ s) : StE K env nms (XO Xc env []) (fillS (shape own) σ) s := fill_shape own σ ▸ x.loose
theorem St.back {own : Own} {s s' : Shared} (x : St K env nms Xc own σ s) (k : Kp s s') (w' : WX K (XO Xc env []) s') : St K env nms Xc own σ s' := by
  refine ex1E x fun m x => ?_
  refine ⟨m, x.kp k ⟨w'.kin, x.wx.xk, w'.bi, ?_, w'.pos, .inl x.x96, fun a ha => ?_⟩⟩
  · refine ex1E w'.tb fun ps zz24 => and4E zz24 fun h1 h2 h4 h5 => ?_
    refine ⟨ps, h1, h2.imp id ?_, fun q => ?_, h5⟩
    rotate_left
    · rcases q with q | q | q | ⟨p, hp, q⟩
      · exact h4 (.inl q)
      · exact h4 (.inr (.inl q))
      · exact h4 (.inr (.inr (.inl q)))
      · refine ex4E (x.ow p hp) fun n kd vs ep zz23 => and4E zz23 fun _ _ h3 _ => ?_
        have hne : p.2.1 ≠ 96 := fun e => (x.sep p hp).1 (by rw [e]; exact x.x96)
        have h3' := k.keep hne h3
        refine ex1E h5 fun o zz22 => and3E zz22 fun e c _ => ?_
        rw [q, e] at h3'
        cases h3'
        exact absurd (Value.type.inj c) (by decide)
    rintro ⟨c', e, hc, hrec⟩
    refine ⟨c', e, fun q => ?_, hrec⟩
    rcases q with q | q | q | ⟨p, hp, rfl⟩
    · exact hc (.inl q)
    · exact hc (.inr (.inl q))
    · exact hc (.inr (.inr (.inl q)))
    · refine ex4E (x.ow p hp) fun n kd vs ep zz21 => and4E zz21 fun _ _ h3 _ => ?_
      have hne : p.2.1 ≠ 96 := fun e => (x.sep p hp).1 (by rw [e]; exact x.x96)
      have h3' := k.keep hne h3
      refine ex4E hrec fun c oc vs' t zz20 => and4E zz20 fun q1 q2 q3 _ => ?_
      cases q1
      rw [h3'] at q2
      cases q2
      cases q3
  · refine ex1E (x.wx.xb a ha) fun o e => ?_
    by_cases h : a = 96
    · subst h; refine ex1E w'.tb fun ps zz19 => and2E zz19 fun q _ => ?_; exact ⟨_, q⟩
    · exact ⟨o, k.keep h e⟩
theorem ExT_mono {t : Sem Flow} {P' : Out → Prop} (h : ExT prog w K A env nms Xc sh σ t P) (hp : ∀ o, P o → P' o) : ExT prog w K A env nms Xc sh σ t P' :=
  fun own s Q E e x hQ => h s Q E e x fun out f s' p ho => hQ out f s' (hp out p) ho
theorem ExS_assign (i : Nat) {n : String} {k : NameKind} {p pos : Pos} {e : Expr} {d : D} (hn : nms[i]? = some (n, k)) (hk : k = .local ∨ k = .cell) (he : EvS prog w K A env nms Xc sh σ e d) (hp : P (.next (dropS sh i) (σ.set i (some d))))
    (hs : swapsWith e (some (.Name n p)) pos.line env = pure false := by rfl) : ExS prog w K A env nms Xc sh σ (.Assign [.Name n p] e pos) P := by
  intro own s Q E eo x hQ
  refine wpAny_Assign_Name (he own eo _ _ x.ste fun v s₁ k₁ w₁ r₁ => ?_) hs
  refine St.store i (x.kp k₁ w₁) hn hk r₁ fun s' x' kf => ?_
  exact hQ _ _ _ hp ⟨rfl, drop own i, by rw [drop_shape, eo], x', (Kp.kf k₁).trans (Fresher.refl _ _) kf, fun p hp => .inl ⟨p, drop_sub p hp, rfl⟩⟩
theorem ExS_assignF (i : Nat) {n : String} {k : NameKind} {p pos : Pos} {e : Expr} {d : D} (hn : nms[i]? = some (n, k)) (hk : k = .local ∨ k = .cell) (he : EvL prog w K A env nms Xc sh σ e d) (hf : flat d = true) (hp : P (.next (dropS sh i) (σ.set i (some d))))
    (hs : swapsWith e (some (.Name n p)) pos.line env = pure false := by rfl) : ExS prog w K A env nms Xc sh σ (.Assign [.Name n p] e pos) P := by
  intro own s Q E eo x hQ
  refine wpAny_Assign_Name (he _ _ (eo ▸ x.looseS) fun v s₁ k₁ w₁ r₁ => ?_) hs
  refine St.store i (x.back k₁ w₁) hn hk (r₁.flat hf) fun s' x' kf => ?_
  exact hQ _ _ _ hp ⟨rfl, drop own i, by rw [drop_shape, eo], x', (Kp.kf k₁).trans (Fresher.refl _ _) kf, fun p hp => .inl ⟨p, drop_sub p hp, rfl⟩⟩
theorem ExS_assignOwn (i : Nat) {n : String} {k : NameKind} {p pos lp : Pos} {es : List Expr} {ds : List D} (hn : nms[i]? = some (n, k)) (hk : k = .local ∨ k = .cell) (he : ∀ own, shape own = sh → EvAll prog w K A env nms (XO Xc env own) σ es ds) (hsz : ds.length ≤ sizeLine)
    (hp : ∀ a, P (.next ((i, a, ds) :: dropS sh i) (σ.set i none))) : ExS prog w K A env nms Xc sh σ (.Assign [.Name n p] (.List es lp) pos) P := by
  intro own s Q E eo x hQ
  refine wpAny_Assign_Name (List_ ((he own eo).spliced lp s _ _ x.ste fun vs s₁ k₁ w₁ r₁ => ?_)) rfl
  refine wpAny_newObj_type ?_ (by show vs.toArray.size ≤ sizeLine; rw [List.size_toArray, r₁.length]; exact hsz)
  refine St.storeOwn i (x.kp k₁ w₁) hn hk r₁ fun s' x' kf => ?_
  refine hQ _ _ _ (hp s₁.heap.objs.size) ⟨rfl, _, ?_, x', (Kp.kf k₁).trans (Fresher.refl _ _) kf, fun p hp => ?_⟩
  · show (i, _, ds) :: shape (drop own i) = _; rw [drop_shape, eo]
  · cases hp with
    | head =>
      refine .inr ?_
      show s.heap.get? s₁.heap.objs.size = none
      cases q : s.heap.get? s₁.heap.objs.size with
      | none => rfl
      | some o =>
        by_cases h : s₁.heap.objs.size = 96
        · refine ex1E w₁.tb fun ps zz18 => and2E zz18 fun q' _ => ?_
          exact absurd (Heap.lt_size (h ▸ q' : s₁.heap.get? s₁.heap.objs.size = _)) (Nat.lt_irrefl _)
        · exact absurd (Heap.lt_size (k₁.keep h q)) (Nat.lt_irrefl _)
    | tail _ hp => exact .inl ⟨p, drop_sub p hp, rfl⟩
theorem ExS_ret {e : Expr} {pos : Pos} {d : D} (he : EvL prog w K A env nms Xc sh σ e d) (hp : P (.ret d)) : ExS prog w K A env nms Xc sh σ (.Return (some e) pos) P := by
  intro own s Q E eo x hQ
  have h96 : Xc 96 := let ⟨_, y⟩ := x; y.x96
  refine wpAny_Return_some (he _ _ (eo ▸ x.looseS) fun v s₁ k₁ w₁ r₁ => ?_)
  exact hQ _ _ _ hp ⟨v, rfl, Kp.kf k₁, w₁.weak h96 fun a q => .inl q, mono0 (fun a q => .inl q) r₁⟩
theorem ExS_if {t : Expr} {body orelse : List Stmt} {pos : Pos} {b : Bool} (ht : EvT prog w K A env nms Xc sh σ t b) (h1 : b = true → Ex prog w K A env nms Xc sh σ body P) (h0 : b = false → Ex prog w K A env nms Xc sh σ orelse P) :
    ExS prog w K A env nms Xc sh σ (.If t body orelse pos) P := by
  intro own s Q E eo x hQ
  refine wpAny_If (ht _ _ (eo ▸ x.looseS) fun s₁ k₁ w₁ => ?_)
  cases b with
  | true =>
    simp only [if_true]
    exact h1 rfl s₁ Q E eo (x.back k₁ w₁) fun out f s' hp ho => hQ out f s' hp (ho.after (Kp.kf k₁) (Fresher.refl _ _))
  | false =>
    simp only [Bool.false_eq_true, if_false]
    exact h0 rfl s₁ Q E eo (x.back k₁ w₁) fun out f s' hp ho => hQ out f s' hp (ho.after (Kp.kf k₁) (Fresher.refl _ _))
theorem ExS_break {pos : Pos} (hp : P (.brk sh σ)) : ExS prog w K A env nms Xc sh σ (.Break pos) P := by
  intro own s Q E eo x hQ
  exact wpAny_Break (hQ _ _ _ hp ⟨rfl, eo ▸ Goes.start x⟩)
theorem ExS_continue {pos : Pos} (hp : P (.cont sh σ)) : ExS prog w K A env nms Xc sh σ (.Continue pos) P := by
  intro own s Q E eo x hQ
  exact wpAny_Continue (hQ _ _ _ hp ⟨rfl, eo ▸ Goes.start x⟩)
theorem ExS_assert {t : Expr} {msg : Option Expr} {pos : Pos} (ht : EvT prog w K A env nms Xc sh σ t true) (hp : P (.next sh σ)) : ExS prog w K A env nms Xc sh σ (.Assert t msg pos) P := by
  intro own s Q E eo x hQ
  refine wpAny_Assert_holds (ht _ _ (eo ▸ x.looseS) fun s₁ k₁ w₁ => ⟨rfl, ?_⟩)
  exact hQ _ _ _ hp ⟨rfl, own, eo, x.back k₁ w₁, Kp.kf k₁, Fresher.refl _ _⟩
theorem ExS_aug (i : Nat) {n : String} {k : NameKind} {p pos : Pos} {op : Operator} {e : Expr} {a b d : D} (hn : nms[i]? = some (n, k)) (hk : k = .local ∨ k = .cell) (ha : σ[i]? = some (some a)) (he : EvL prog w K A env nms Xc sh σ e b)
    (ho : ∀ X, Op2 prog w K A X (inplaceOp op) a b d) (hfb : flat b = true) (hp : P (.next (dropS sh i) (σ.set i (some d)))) : ExS prog w K A env nms Xc sh σ (.AugAssign (.Name n p) op e pos) P := by
  intro own s Q E eo x hQ
  refine wpAny_AugAssign_Name ?_
  -- the old value
  refine ex1E x fun m x => ?_
  refine ex1E (x.rd i n k a hn ha) fun v₀ zz17 => and2E zz17 fun e₀ r₀ => ?_
  have hK := x.eo.kindOf hn
  have load : ∀ Q' : Value → Shared → Prop, Q' v₀ s → wpAny (model prog w) A (loadName env n) Q' E s := by
    intro Q' q
    rcases hk with rfl | rfl
    · refine ex1E x.frm.ns fun m0 zz16 => and2E zz16 fun hm0 hm => ?_
      exact wpAny_loadName_local x.eo.kind hK hm0 ((hm _ hK).trans e₀) q
    · refine ex1E (x.frm.cell _ (.inl hK)) fun c zz15 => and2E zz15 fun h1 h2 => ?_
      rw [e₀] at h2
      exact wpAny_loadName_cell x.eo.kind hK h1 h2 q
  have x : St K env nms Xc own σ s := ⟨m, x⟩
  refine load _ (he _ _ (eo ▸ x.looseS) fun v s₁ k₁ w₁ r₁ => ?_)
  have x₁ := x.back k₁ w₁
  refine ho (XO Xc env own) s₁ v₀ v _ E x₁.wx (r₀.kp x.wx k₁) (r₁.flat hfb) fun v' s₂ k₂ w₂ r₂ => ?_
  refine St.store i (x₁.kp k₂ w₂) hn hk r₂ fun s' x' kf => ?_
  exact hQ _ _ _ hp ⟨rfl, drop own i, by rw [drop_shape, eo], x', (Kp.kf (k₁.trans k₂)).trans (Fresher.refl _ _) kf, fun p hp => .inl ⟨p, drop_sub p hp, rfl⟩⟩
theorem ExS_while {test : Expr} {body : List Stmt} {pos : Pos} (J : Nat → Own → List (Option D) → Prop)
    (turn : ∀ n sh σ, J n sh σ → ∃ b, EvT prog w K A env nms Xc sh σ test b ∧ (b = false → P (.next sh σ)) ∧
      (b = true → Ex prog w K A env nms Xc sh σ body (fun o => match o with
        | .next sh' σ' => ∃ m, m < n ∧ J m sh' σ'
        | .cont sh' σ' => ∃ m, m < n ∧ J m sh' σ'
        | .brk sh' σ' => P (.next sh' σ')
        | .ret d => P (.ret d))))
    (n : Nat) (start : J n sh σ) : ExS prog w K A env nms Xc sh σ (.While test body [] pos) P := by
  intro own s Q E eo x hQ
  refine wpAny_While (codeAny_whileLoop (fun n s' => ∃ own' σ', J n (shape own') σ' ∧ St K env nms Xc own' σ' s' ∧ Kf env own s s' ∧ Fresher own own' s) ?_ n ⟨own, σ, eo ▸ start, x, Kf.refl _ _ _, Fresher.refl _ _⟩)
  rintro n s₁ ⟨own₁, σ₁, hj, x₁, kf₁, fr₁⟩
  refine ex1E (turn n _ _ hj) fun b zz14 => and3E zz14 fun ht h0 h1 => ?_
  refine ht _ _ x₁.looseS fun s₂ k₂ w₂ => ?_
  have x₂ := x₁.back k₂ w₂
  have kf₂ : Kf env own s s₂ := kf₁.trans fr₁ (Kp.kf k₂)
  cases b with
  | false =>
    simp only [Bool.false_eq_true, if_false]
    exact wpAny_execs_nil (hQ _ _ _ (h0 rfl) ⟨rfl, own₁, rfl, x₂, kf₂, fr₁⟩)
  | true =>
    simp only [if_true]
    refine h1 rfl s₂ _ _ rfl x₂ fun out f s' hp ho => ?_
    have ho' := ho.after kf₂ fr₁
    cases out with
    | next sh' σ' => refine and2E ho' fun zz10 zz12 => ex1E zz12 fun o2 zz13 => and4E zz13 fun zz11 q2 q3 q4 => ?_; subst zz10; subst zz11; refine ex1E hp fun m zz9 => and2E zz9 fun hm hj' => ?_; exact ⟨m, hm, o2, σ', hj', q2, q3, q4⟩
    | cont sh' σ' => refine and2E ho' fun zz5 zz7 => ex1E zz7 fun o2 zz8 => and4E zz8 fun zz6 q2 q3 q4 => ?_; subst zz5; subst zz6; refine ex1E hp fun m zz4 => and2E zz4 fun hm hj' => ?_; exact ⟨m, hm, o2, σ', hj', q2, q3, q4⟩
    | brk sh' σ' => refine and2E ho' fun zz3 q => ?_; subst zz3; exact hQ _ _ _ hp ⟨rfl, q⟩
    | ret d => refine ex1E ho' fun v zz2 => and2E zz2 fun zz1 q => ?_; subst zz1; exact hQ (.ret d) _ _ hp ⟨v, rfl, q⟩
end
end Mine
end
-- Fn
section
open PySem PySem.W PySem.Calls PyProof.Rows PySem.Builtin PySem.Builtin.Str
namespace Mine
theorem Rm.deeper {A : Around} {n : Nat} (r : Rm A (n + 1)) (env : Env) : Rm (A.deeper env) n :=
  ⟨by have := r.d; show A.depth + 1 + n < _; lia, by have := r.u; show A.units + 3 + 8 * n + 8 < _; lia, r.h⟩
theorem Rm.uu {A : Around} {n k : Nat} (r : Rm A n) (h : k ≤ 8) : A.units + k < cLine := by have := r.u; lia
theorem Rm.dd {A : Around} {n k : Nat} (r : Rm A n) (h : k ≤ n) : A.depth + k < recursionLimit := by have := r.d; lia
theorem Rm.le {A : Around} {n m : Nat} (r : Rm A n) (h : m ≤ n) : Rm A m := ⟨by have := r.d; lia, by have := r.u; lia, r.h⟩
noncomputable def FSpec (prog : Program) (w : World) (K : Frag) (f : Addr) (n : Nat) (ds : List D) (d : D) : Prop :=
  ∀ A X, Rm A n → OpN prog w K A X (fun vs => call (.ref f) vs) ds d
noncomputable def datD : Data → Array DictEntry × Nat
  | .dict es n => (es, n)
  | _ => (#[], 0)
noncomputable def obA (K : Frag) (a : Addr) : Obj := (K.lookup a).getD { cls := .none, data := .plain }
noncomputable def esA (K : Frag) (a : Addr) : Array DictEntry := (datD (obA K a).data).1
noncomputable def skV : Value → Str × Nat
  | .str s t => (s, t)
  | _ => (Str.ofString "", 0)
noncomputable def deS (e : DictEntry) : DictEntry := ⟨e.hash, .str (skV e.key).1 (skV e.key).2, e.val⟩
noncomputable def strD (K : Frag) (a : Addr) : Prop := K.lookup a = some (obA K a) ∧ (obA K a).data = .dict (esA K a) (datD (obA K a).data).2 ∧ (esA K a).toList = (esA K a).toList.map deS
theorem strD.ns {K : Frag} {h : Heap} {a : Addr} (q : strD K a) (x : K.In h) : h.Ns a (nsFind (esA K a)) := by
  refine ⟨_, _, _, x _ _ q.1, q.2.1, fun en hen => ?_, fun _ => rfl⟩
  have h1 := Array.mem_toList_iff.mpr hen
  rw [q.2.2] at h1
  refine ex1E (List.mem_map.mp h1) fun e h2 => ?_
  rw [← h2.2]
  exact ⟨_, _, rfl⟩
noncomputable def nolimitIn (K : Frag) : Prop := strD K cStatics ∧ nsFind (esA K cStatics) "sys.recursionlimit" = none
theorem noLimit_of {K : Frag} {h : Heap} (x : K.In h) (e : nolimitIn K) : h.NoLimit := ⟨_, e.1.ns x, e.2⟩
noncomputable def envD (name : Str) (scope : Scope) (L f : Addr) (cd : Value) : Env :=
  { scope, locals := L, globals := mainGlobals, cells := [], qual := name ++ ".<locals>.", func := some f, code := cd, frame := some L, builtins := builtinsNs }
section
variable {K : Frag}
theorem nodup_rev {α : Type} {l : List α} (h : l.Nodup) : l.reverse.Nodup := by
  unfold List.Nodup at *
  rw [List.pairwise_reverse]
  exact h.imp fun q e => q e.symm
theorem lookup_mem {α : Type} : ∀ {l : List (Str × α)} {n : Str} {v : α}, (l.map (·.1)).Nodup → (n, v) ∈ l → l.lookup n = some v := by
  intro l n v hn hm
  refine ex1E (List.mem_iff_getElem.mp hm) fun i zz16 => ex1E zz16 fun hi e => ?_
  exact lookup_nodup hn (i := i) (by rw [List.getElem?_eq_getElem hi, e])
theorem EnvOk.kind_mem {env : Env} {nms : Nms} (eo : EnvOk env nms) {x : Str} {k : NameKind} (h : env.kindOf x = some k) : ∃ p ∈ nms, p.2 = k := by
  have h' : env.scope.names.lookup x = some k := h
  rw [eo.sc] at h'
  obtain ⟨p, hp, e⟩ : ∃ p ∈ nms.map (fun p => ((p.1 : Str), p.2)), p.2 = k := by
    generalize nms.map (fun p => ((p.1 : Str), p.2)) = l at h'
    clear eo h
    induction l with
    | nil => cases h'
    | cons a l ih =>
      rw [List.lookup_cons] at h'
      split at h'
      · cases h'; exact ⟨a, .head _, rfl⟩
      · refine ex1E (ih h') fun p zz15 => and2E zz15 fun hp e => ?_; exact ⟨p, .tail _ hp, e⟩
  refine ex1E (List.mem_map.mp hp) fun q zz14 => and2E zz14 fun hq zz13 => ?_; subst zz13
  exact ⟨q, hq, e⟩
theorem len1 {α : Type} {l : List α} (h : l.length = 1) : ∃ a, l = [a] := List.length_eq_one_iff.mp h
theorem lenS {α : Type} {l : List α} {n : Nat} (h : l.length = n + 1) : ∃ a r, l = a :: r ∧ r.length = n := by
  cases l with
  | nil => cases h
  | cons a r => exact ⟨a, r, rfl, Nat.succ.inj h⟩
theorem len2 {α : Type} {l : List α} (h : l.length = 2) : ∃ a b, l = [a, b] := (lenS h).elim fun a z => z.elim fun _ z => (len1 z.2).elim fun b e => ⟨a, b, e ▸ z.1⟩
theorem len3 {α : Type} {l : List α} (h : l.length = 3) : ∃ a b c, l = [a, b, c] := (lenS h).elim fun a z => z.elim fun _ z => (len2 z.2).elim fun b y => y.elim fun c e => ⟨a, b, c, e ▸ z.1⟩
theorem len4 {α : Type} {l : List α} (h : l.length = 4) : ∃ a b c d, l = [a, b, c, d] := (lenS h).elim fun a z => z.elim fun _ z => (len3 z.2).elim fun b y => y.elim fun c y => y.elim fun d e => ⟨a, b, c, d, e ▸ z.1⟩
noncomputable def startσ (nms : Nms) (ds : List D) : List (Option D) := ds.map some ++ List.replicate (nms.length - ds.length) none
theorem call_body {name qual : Str} {params : Arguments} {body : List Stmt} {scope : Scope} {dV kV doc pm cdv ct oc : Value} {an od : Option Addr} {osl : Array (Option Value)} {f : Addr} {ds : List D} {ps : List String} (nms : Nms)
    (hK : K.lookup f = some ⟨oc, od, .func (fnOf name qual params body scope dV kV doc pm an cdv ct), osl⟩) (hcd : codeIn K cdv qual = true) (hlim : nolimitIn K)
    (hsc : scope.names = nms.map fun p => ((p.1 : Str), p.2)) (hok : nmsOk nms = true) (hkind : scope.kind = .function) (hco : scope.isCoroutine = false) (hgen : scope.isGenerator = false)
    (hps : ps = (nms.take ds.length).map (·.1)) (hlen : ds.length ≤ nms.length) (hloc : (nms.take ds.length).all (fun p => p.2 == .local) = true) (hcell : nms.all (fun p => p.2 != .cell && p.2 != .free) = true)
    (hbind : ∀ (s : Shared) (vs : List Value), vs.length = ds.length → BindsTo s (fnOf name qual params body scope dV kV doc pm an cdv ct) ⟨vs, []⟩ ((ps.map Str.ofString).zip vs))
    {A : Around} {X : Addr → Prop} (hroom : A.depth < recursionLimit) {s : Shared} {vs : List Value} {Q : Value → Shared → Prop} {E : Value → Shared → Prop} (wx : WX K X s) (r : RdAll X s.heap vs ds)
    (hbody : ∀ s₂, St K (envD qual scope s.heap.objs.size f cdv) nms X [] (startσ nms ds) s₂ → Kp s s₂ → (∀ b o, s.heap.get? b = some o → s₂.heap.get? b = some o) →
      wpAny (model prog w) (A.deeper (envD qual scope s.heap.objs.size f cdv)) (execs body (envD qual scope s.heap.objs.size f cdv)) (fun fl s' => Q (match fl with | .ret v => v | _ => .none) s')
        (fun e s' => wpAny (model prog w) (A.deeper (envD qual scope s.heap.objs.size f cdv)) (leaving (envD qual scope s.heap.objs.size f cdv) e) (fun _ s'' => E e s'') (fun e' s'' => E e' s'') s') s₂) :
    wpAny (model prog w) A (call (.ref f) vs) Q E s := by
  have hl := r.length
  refine wpAny_call (codeAny_call_def (fd := fnOf name qual params body scope dV kV doc pm an cdv ct) (body := body) hroom (wx.kin _ _ hK) rfl (noLimit_of wx.kin hlim) (codeRec_of wx.kin hcd) rfl (hbind s vs hl) ?_ ?_ (fun h₀ hns hk => ?_) hco hgen hkind)
  · intro p hp
    have hp' : p ∈ nms.map fun p => ((p.1 : Str), p.2) := hsc ▸ hp
    refine ex1E (List.mem_map.mp hp') fun q zz8 => and2E zz8 fun hq zz7 => ?_; subst zz7
    have := List.all_eq_true.mp hcell q hq
    simp at this
    exact this.1
  · intro p hp
    refine ex1E (List.mem_iff_getElem.mp hp) fun i zz6 => ex1E zz6 fun hi e => ?_
    have hi' : i < ds.length := by simp [hl] at hi; lia
    have hin : i < nms.length := by lia
    rw [List.getElem_zip] at e
    have e1 : p.1 = (nms[i].1 : Str) := by rw [← e]; simp [hps]
    have hk : nms[i].2 = .local := by
      have := List.all_eq_true.mp hloc nms[i] (List.mem_take_iff_getElem.mpr ⟨i, by lia, rfl⟩)
      simpa using this
    show scope.names.lookup p.1 = _
    rw [e1, hsc]
    refine lookup_nodup (i := i) ?_ ?_
    · unfold nmsOk at hok
      rw [Bool.and_eq_true] at hok
      rw [List.map_map]; exact of_decide_eq_true hok.1
    · rw [List.getElem?_map, List.getElem?_eq_getElem hin]; simp [hk]
  · have hnd : ((ps.map Str.ofString).zip vs |>.map (·.1)).Nodup := by
      rw [List.map_fst_zip (by simp [hps, hl]; lia)]
      unfold nmsOk at hok
      rw [Bool.and_eq_true] at hok
      have := of_decide_eq_true hok.1
      rw [hps, List.map_map, List.map_take]
      exact (List.take_sublist _ _).nodup this
    have L96 : s.heap.objs.size ≠ 96 := fun e => by
      refine ex1E wx.tb fun pt zz5 => and2E zz5 fun q _ => ?_
      exact absurd (Heap.lt_size q) (by rw [e]; exact Nat.lt_irrefl _)
    have hnone : s.heap.get? s.heap.objs.size = none := by
      cases q : s.heap.get? s.heap.objs.size with
      | none => rfl
      | some o => exact absurd (Heap.lt_size q) (Nat.lt_irrefl _)
    have hsub : ∀ a, XO X (envD qual scope s.heap.objs.size f cdv) [] a → X a ∨ a = s.heap.objs.size := by
      intro a ha
      rcases ha with q | q | ⟨y, q⟩ | ⟨p, hp, _⟩
      · exact .inl q
      · exact .inr q
      · cases q
      · cases hp
    have hx : ∀ a, XO X (envD qual scope s.heap.objs.size f cdv) [] a → X a ∨ s.heap.get? a = none := fun a ha => (hsub a ha).imp id fun e => by rw [e]; exact hnone
    have eo : EnvOk (envD qual scope s.heap.objs.size f cdv) nms := ⟨hsc, hok, hkind, rfl, rfl, L96, fun _ _ h => (by cases h), fun _ _ h => (by cases h)⟩
    have hst : St K (envD qual scope s.heap.objs.size f cdv) nms X [] (startσ nms ds) { s with heap := h₀, toks := s.toks + ((ps.map Str.ofString).zip vs).length } := by
      refine ⟨fun x => ((ps.map Str.ofString).zip vs).reverse.lookup x, ?_⟩
      refine ⟨⟨wx.kin.keeps hk, fun a ha => ?_, ?_, wx.tb.keeps hx (hk 96) fun b o _ e => hk b o e, Nat.lt_of_lt_of_le wx.pos (Nat.le_add_right _ _), .inl wx.x96, fun a ha => ?_⟩, wx.x96, eo, ⟨⟨_, hns, fun _ _ => rfl⟩, fun y hy => ?_⟩, ?_, fun p hp => (by cases hp), List.nodup_nil, fun p hp => (by cases hp), fun _ _ _ h => (by cases h)⟩
      · rcases hsub a ha with q | rfl
        · exact wx.xk a q
        · exact wx.new
      · refine ex1E wx.bi fun mb zz4 => and2E zz4 fun q1 q2 => ?_; exact ⟨mb, q1.keeps hk, q2⟩
      · rcases hsub a ha with q | rfl
        · refine ex1E (wx.xb a q) fun o e => ?_; exact ⟨o, hk _ _ e⟩
        · refine ex3E hns fun o _ _ zz3 => and2E zz3 fun e _ => ?_; exact ⟨o, e⟩
      · exfalso
        rcases hy with hy | hy
        all_goals
          refine ex1E (eo.kind_mem hy) fun p zz2 => and2E zz2 fun hp e => ?_
          have := List.all_eq_true.mp hcell p hp
          simp [e] at this
      · intro i nm k d' h1 h2
        have hi : i < ds.length := by
          unfold startσ at h2
          rcases Nat.lt_or_ge i ds.length with h | h
          · exact h
          · rw [List.getElem?_append_right (by simpa using h)] at h2
            rw [List.getElem?_replicate] at h2
            split at h2 <;> cases h2
        have hd : ds[i]? = some d' := by
          unfold startσ at h2
          rw [List.getElem?_append_left (by simpa using hi), List.getElem?_map] at h2
          rw [List.getElem?_eq_getElem hi] at h2 ⊢
          simpa using h2
        refine ex1E (r.get hd) fun v zz1 => and2E zz1 fun hv rv => ?_
        refine ⟨v, ?_, rv.mono hx fun b o _ e => hk b o e⟩
        refine lookup_mem (by rw [List.map_reverse]; exact nodup_rev hnd) (List.mem_reverse.mpr ?_)
        refine List.mem_iff_getElem?.mpr ⟨i, ?_⟩
        rw [List.getElem?_zip_eq_some]
        refine ⟨?_, hv⟩
        rw [hps, List.map_map, List.getElem?_map, List.getElem?_take, if_pos hi, h1]
        rfl
    exact hbody _ hst (Kp.of (Nat.le_add_right _ _) hk) hk
theorem FSpec_of {name qual : Str} {params : Arguments} {body : List Stmt} {scope : Scope} {dV kV doc pm cdv ct oc : Value} {an od : Option Addr} {osl : Array (Option Value)} {f : Addr} {n : Nat} {ds : List D} {d : D} {ps : List String} (nms : Nms)
    (hK : K.lookup f = some ⟨oc, od, .func (fnOf name qual params body scope dV kV doc pm an cdv ct), osl⟩) (hcd : codeIn K cdv qual = true) (hlim : nolimitIn K)
    (hsc : scope.names = nms.map fun p => ((p.1 : Str), p.2)) (hok : nmsOk nms = true) (hkind : scope.kind = .function) (hco : scope.isCoroutine = false) (hgen : scope.isGenerator = false)
    (hps : ps = (nms.take ds.length).map (·.1)) (hlen : ds.length ≤ nms.length) (hloc : (nms.take ds.length).all (fun p => p.2 == .local) = true) (hcell : nms.all (fun p => p.2 != .cell && p.2 != .free) = true)
    (hbind : ∀ (s : Shared) (vs : List Value), vs.length = ds.length → BindsTo s (fnOf name qual params body scope dV kV doc pm an cdv ct) ⟨vs, []⟩ ((ps.map Str.ofString).zip vs))
    (hbody : ∀ A L Xc, Rm A n → Ex prog w K A (envD qual scope L f cdv) nms Xc [] (startσ nms ds) body (fun o => o = .ret d)) : FSpec prog w K f (n + 1) ds d := by
  intro A X hr s vs Q E wx r hQ
  refine call_body nms hK hcd hlim hsc hok hkind hco hgen hps hlen hloc hcell hbind (hr.dd (k := 0) (Nat.zero_le _)) wx r fun s₂ hst kp hk => ?_
  refine hbody (A.deeper (envD qual scope s.heap.objs.size f cdv)) s.heap.objs.size X (hr.deeper _) _ _ _ rfl hst fun out fl s' ho hok' => ?_
  subst ho
  refine ex1E hok' fun v zz4 => and4E zz4 fun zz3 kf w' r' => ?_; subst zz3
  refine hQ v s' ?_ w' r'
  refine ex2E kf fun h' tk z => and3E z fun e l q => ?_; subst e
  refine ex2E kp fun h1 t1 z => and3E z fun e l1 _ => ?_; subst e
  refine ⟨h', tk, rfl, Nat.le_trans l1 l, fun b o hb e => q b o hb (fun mu => ?_) (hk _ _ e)⟩
  rcases mu with z | ⟨y, z⟩ | ⟨p, hp, _⟩
  · exact absurd (Heap.lt_size e) (Nat.not_lt.mpr (Nat.le_of_eq (show s.heap.objs.size = b from Eq.symm z)))
  · cases z
  · cases hp
end
end Mine
end
-- Ops5
section
open PySem PySem.W PySem.Calls PyProof.Rows PySem.Builtin PySem.Builtin.Str
namespace Mine
section
variable {K : Frag} {A : Around} {env : Env} {nms : Nms} {X : Addr → Prop} {σ : List (Option D)}
theorem const_str {M : Model} {A : Around} {E : Value → Shared → Prop} {s : Shared} {env : Env} {c : Str} {k : Nat} {pos : Pos} {Q : Value → Shared → Prop} (h : Q (.str c s.toks) { s with toks := s.toks + 1 }) : wpAny M A (eval (.Constant (.str c) k pos) env) Q E s := fun _ _ _ => h
noncomputable def replL (x y z : List Nat) : List Nat := (Txt.replace (S x) (S y) (S z)).cps.toList
theorem Ev_replace {o : Expr} {apos pos p1 p2 : Pos} {k1 k2 : Nat} {c1 c2 : Str} {x y z : List Nat} (ho : Ev prog w K A env nms X σ o (.str x)) (h1 : c1.cps.toList = y) (h2 : c2.cps.toList = z) (hyz : (y == z) = false)
    (hb : x.length + (x.length + 1) * z.length ≤ 16777216)
    {pl : Sem Bool} (he : eval (.Call (.Attribute o "replace" apos) [.Constant (.str c1) k1 p1, .Constant (.str c2) k2 p2] [] pos) env = (do
      let ov ← eval o env
      standAt apos.atName
      let (f, first) ← holding [ov] (getMethod ov "replace" pl)
      callWith pos f first (backTo pos (starEach [.Constant (.str c1) k1 p1, .Constant (.str c2) k2 p2] env)) []) := by rfl) :
    Ev prog w K A env nms X σ (.Call (.Attribute o "replace" apos) [.Constant (.str c1) k1 p1, .Constant (.str c2) k2 p2] [] pos) (.str (replL x y z)) := by
  intro s Q E st hQ
  subst h1 h2
  refine MethodCall_ (pl := pl) (ho _ _ st fun v s₁ k₁ w₁ r₁ => M_replace s₁ v pl _ _ r₁ ?_) he
  refine Rd.strE r₁ fun t => ?_
  refine callWith_method1 (args_cons (const_str (args_cons (const_str (args_nil ?_))))) rfl rfl
  have hp := w₁.pos
  refine wpAny_with_toks (n := s₁.toks) (by show s₁.toks ≤ s₁.toks + 1 + 1; lia) (SC.replace (Nat.ne_of_gt hp) (Nat.succ_ne_zero _) (Nat.ne_of_lt (Nat.lt_succ_self _)) ?_ ?_ fun t' k l => ?_)
  · rw [← toList_beq]; exact hyz
  · rw [S_length]; simpa [Str.length] using hb
  · have e : replL x c1.cps.toList c2.cps.toList = (Txt.replace (S x) c1 c2).cps.toList := by unfold replL; rw [S_of, S_of]
    have r : Rd X s₁.heap (.str (Txt.replace (S x) c1 c2) t') (.str (replL x c1.cps.toList c2.cps.toList)) := by rw [e]; exact Rd.ofStr _ _
    exact hQ _ _ (k₁.trans ⟨_, _, rfl, l, fun _ _ _ e => e⟩) (w₁.toks l) r
theorem replL_dbl (x : List Nat) : replL x [34] [34, 34] = StrLaws.dbl 34 x := by
  unfold replL
  exact StrLaws.replace_double (S x) 34
end
end Mine
end
-- Ops6
section
open PySem PySem.W PySem.Calls PyProof.Rows PySem.Builtin PySem.Builtin.Str PySem.SeqAt
namespace Mine
theorem Rm.units {A : Around} {n : Nat} (r : Rm A n) : A.units < cLine := by have := r.u; lia
section
variable {K : Frag} {A : Around} {env : Env} {nms : Nms} {X : Addr → Prop} {σ : List (Option D)}
inductive EvParts (prog : Program) (w : World) (K : Frag) (A : Around) (env : Env) (nms : Nms) (X : Addr → Prop) (σ : List (Option D)) : List Expr → List (List Nat) → Prop
  | nil : EvParts prog w K A env nms X σ [] []
  | const {c : Str} {k : Nat} {pos : Pos} {x : List Nat} {es : List Expr} {xs : List (List Nat)} : c.cps.toList = x → EvParts prog w K A env nms X σ es xs → EvParts prog w K A env nms X σ (.Constant (.str c) k pos :: es) (x :: xs)
  | val {e : Expr} {pos : Pos} {x : List Nat} {es : List Expr} {xs : List (List Nat)} : Ev prog w K A env nms X σ e (.str x) → x.length ≤ sizeLine → EvParts prog w K A env nms X σ es xs → EvParts prog w K A env nms X σ (.FormattedValue e (-1) none pos :: es) (x :: xs)
theorem EvParts.joins {es : List Expr} {xs : List (List Nat)} (h : EvParts prog w K A env nms X σ es xs) : ∀ (acc : List Nat) (s : Shared) (Q : Str → Shared → Prop) (E : Value → Shared → Prop), StE K env nms X σ s → acc.length + xs.flatten.length ≤ sizeLine →
    (∀ s', Kp s s' → WX K X s' → Q (S (acc ++ xs.flatten)) s') → Joins (model prog w) A E (evalEach es env) (S acc) Q s := by
  induction h with
  | nil =>
    intro acc s Q E st _ hQ
    have := hQ s (Kp.refl _) st.wx
    rw [List.flatten_nil, List.append_nil] at this
    exact this
  | @const c k pos x es xs hc _ ih =>
    intro acc s Q E st hsz hQ
    subst hc
    rw [List.flatten_cons, List.length_append] at hsz
    refine const_str ⟨c, _, rfl, ?_, ?_⟩
    · rw [← S_of c, S_append, S_length, List.length_append]; lia
    · have e : S acc ++ c = S (acc ++ c.cps.toList) := by rw [← S_append, S_of]
      rw [e]
      refine ih _ _ _ _ (st.kp (Kp.bump 1) (st.wx.toks (Nat.le_add_right _ 1))) (by rw [List.length_append]; lia) fun s' k w => ?_
      rw [List.append_assoc]
      exact hQ s' ((Kp.bump 1).trans k) w
  | @val e pos x es xs he hx _ ih =>
    intro acc s Q E st hsz hQ
    rw [List.flatten_cons, List.length_append] at hsz
    refine wpAny_FormattedValue_plain (he _ _ st fun v s₁ k₁ w₁ r₁ => ?_)
    refine Rd.strE r₁ fun t => ?_
    have go : ∀ s₂ t', Kp s₁ s₂ → WX K X s₂ → ∃ y t, Value.str (S x) t' = .str y t ∧ (S acc ++ y).length ≤ sizeLine ∧ Joins (model prog w) A E (evalEach es env) (S acc ++ y) Q s₂ := by
      intro s₂ t' k₂ w₂
      refine ⟨S x, t', rfl, ?_, ?_⟩
      · rw [S_append, S_length, List.length_append]; lia
      · rw [S_append]
        refine ih _ _ _ _ (st.kp (k₁.trans k₂) w₂) (by rw [List.length_append]; lia) fun s' k w => ?_
        rw [List.append_assoc]
        exact hQ s' ((k₁.trans k₂).trans k) w
    exact wpAny_formatField_str (go s₁ t (Kp.refl _) w₁) (go _ _ (Kp.bump 1) (w₁.toks (Nat.le_add_right _ 1))) (by rw [S_length]; exact hx)
theorem Ev_fstr {e1 e2 : Expr} {rest : List Expr} {pos : Pos} {xs : List (List Nat)} (h : EvParts prog w K A env nms X σ (e1 :: e2 :: rest) xs) (hsz : xs.flatten.length ≤ sizeLine) : Ev prog w K A env nms X σ (.JoinedStr (e1 :: e2 :: rest) pos) (.str xs.flatten) := by
  intro s Q E st hQ
  refine wpAny_JoinedStr (h.joins [] s _ _ st (by simpa using hsz) fun s' k w => ⟨?_, ?_⟩)
  · rw [S_length]; simpa using hsz
  · rw [List.nil_append]
    exact hQ _ _ (k.trans (Kp.bump 1)) (w.toks (Nat.le_add_right _ 1)) (.str _ _)
theorem eqAt_str {s : Shared} {a b : List Nat} {t u : Tok} : EqAt A s (.str (S a) t) (.str (S b) u) (a == b) := by
  have h := (eqGives_str (S a) (S b) t u).at A s
  rwa [S_beq] at h
theorem beq_range {xs ys : List (List Nat)} (h : xs.length = ys.length) : (List.range xs.length).all (fun j => xs[j]? == ys[j]?) = (xs == ys) := by
  rw [Bool.eq_iff_iff, List.all_eq_true, beq_iff_eq]
  constructor
  · intro q
    apply List.ext_getElem? 
    intro i
    by_cases hi : i < xs.length
    · simpa using q i (List.mem_range.mpr hi)
    · rw [List.getElem?_eq_none (by lia), List.getElem?_eq_none (by lia)]
  · rintro rfl; intro i _; simp
theorem rcAt_strs {s : Shared} {l b : Addr} {vs ws : List Value} {xs ys : List (List Nat)} (hl : s.heap.IsList l vs.toArray) (hb : s.heap.IsList b ws.toArray) (hu : A.units < cLine)
    (r1 : RdAll X s.heap vs (xs.map .str)) (r2 : RdAll X s.heap ws (ys.map .str)) : RcAt A s (.ref l) (.ref b) (xs == ys) := by
  have l1 := r1.length
  have l2 := r2.length
  rw [List.length_map] at l1 l2
  by_cases h : xs.length = ys.length
  · have key := RcAt.lists (A := A) (s := s) (e := fun j => xs[j]? == ys[j]?) (hl) (hb) (by simp; lia) hu ?_
    · rw [List.size_toArray, l1, beq_range h] at key
      exact key
    · intro j h1 h2
      simp at h1 h2
      have e1 : (xs.map D.str)[j]? = some (.str (xs[j]'(by lia))) := by rw [List.getElem?_map, List.getElem?_eq_getElem (by lia)]; rfl
      have e2 : (ys.map D.str)[j]? = some (.str (ys[j]'(by lia))) := by rw [List.getElem?_map, List.getElem?_eq_getElem (by lia)]; rfl
      refine ex1E (r1.get e1) fun v1 zz25 => and2E zz25 fun g1 q1 => ?_
      refine ex1E (r2.get e2) fun v2 zz24 => and2E zz24 fun g2 q2 => ?_
      rw [List.getElem?_eq_getElem h1] at g1
      rw [List.getElem?_eq_getElem h2] at g2
      cases g1; cases g2
      have e3 : (xs[j]? == ys[j]?) = (xs[j]'(by lia) == ys[j]'(by lia)) := by
        rw [List.getElem?_eq_getElem (by lia), List.getElem?_eq_getElem (by lia)]; rfl
      show EqAt A.in1 s _ _ (xs[j]? == ys[j]?)
      rw [e3]
      simp only [List.getElem_toArray]
      generalize hv : vs[j] = va at q1
      generalize hw : ws[j] = vb at q2
      refine Rd.strE q1 fun t => ?_; refine Rd.strE q2 fun u => ?_; exact eqAt_str
  · have e : (xs == ys) = false := beq_eq_false_iff_ne.mpr fun q => h (by rw [q])
    rw [e]
    exact RcAt.lists_lengths (hl) (hb) (by simp; lia) hu
theorem Rd.str_inv {h : Heap} {v : Value} {y : List Nat} (r : Rd X h v (.str y)) : ∃ t, v = .str (S y) t := by cases r with | str _ t => exact ⟨t, rfl⟩
theorem S_inj {x y : List Nat} (e : S x = S y) : x = y := by have := congrArg (fun z : Str => z.cps.toList) e; exact this
theorem strs_inj {h : Heap} {vs : List Value} : ∀ {xs ys : List (List Nat)}, RdAll X h vs (xs.map .str) → RdAll X h vs (ys.map .str) → xs = ys := by
  induction vs with
  | nil => intro xs ys r1 r2; have := r1.length; have := r2.length; cases xs <;> cases ys <;> simp_all
  | cons v vs ih =>
    intro xs ys r1 r2
    cases xs with
    | nil => have := r1.length; simp at this
    | cons x xs => cases ys with
      | nil => have := r2.length; simp at this
      | cons y ys =>
        rw [List.map_cons] at r1 r2
        cases r1 with | cons a1 r1 => cases r2 with | cons a2 r2 =>
        rw [ih r1 r2]
        refine ex1E a1.str_inv fun t e1 => ?_
        refine ex1E a2.str_inv fun u e2 => ?_
        rw [e1] at e2
        injection e2 with e2 _
        rw [S_inj e2]
theorem isList_inj {h : Heap} {a : Addr} {vs ws : List Value} (h1 : h.IsList a vs.toArray) (h2 : h.IsList a ws.toArray) : vs = ws := by
  refine ex1E h1 fun o zz22 => and3E zz22 fun e1 _ zz23 => ex1E zz23 fun n d1 => ?_
  refine ex1E h2 fun o2 zz20 => and3E zz20 fun e2 _ zz21 => ex1E zz21 fun n2 d2 => ?_
  rw [e1] at e2; cases e2
  rw [d1] at d2
  injection d2 with d2 _
  simpa using d2
theorem eqAt_strs {s : Shared} {va vb : Value} {xs ys : List (List Nat)} (hu : A.units < cLine) (r1 : Rd X s.heap va (.list (xs.map .str))) (r2 : Rd X s.heap vb (.list (ys.map .str))) : EqAt A s va vb (xs == ys) := by
  refine Rd.listE r1 fun _ _ hn hg r => ?_; refine Rd.listE r2 fun _ _ hn2 hg2 r2 => ?_
  rename_i a vs b ws
  by_cases h : a = b
  · subst h
    have e : vs = ws := isList_inj hg hg2
    subst e
    rw [strs_inj r r2, beq_self_eq_true]
    exact EqAt.same _
  · exact EqAt.of_refs h (rcAt_strs hg hg2 hu r r2)
theorem Op_eqL {xs ys : List (List Nat)} (hu : A.units < cLine) : Op2 prog w K A X (compareOp .Eq) (.list (xs.map .str)) (.list (ys.map .str)) (.bool (xs == ys)) := by
  intro s va vb Q E q ra rb hQ
  refine Rd.listE ra fun _ _ hn hg r => ?_; refine Rd.listE rb fun _ _ hn2 hg2 r2 => ?_
  exact rcAt_strs hg hg2 hu r r2 prog w E Q (Post.here hQ q (.bool _))
theorem Op_neL {xs ys : List (List Nat)} (hu : A.units < cLine) : Op2 prog w K A X (compareOp .NotEq) (.list (xs.map .str)) (.list (ys.map .str)) (.bool (xs != ys)) := by
  intro s va vb Q E q ra rb hQ
  refine Rd.listE ra fun _ _ hn hg r => ?_; refine Rd.listE rb fun _ _ hn2 hg2 r2 => ?_
  rename_i a vs b ws
  have l1 := r.length
  have l2 := r2.length
  rw [List.length_map] at l1 l2
  have fin : Q (.bool (xs != ys)) s := Post.here hQ q (.bool _)
  by_cases h : xs.length = ys.length
  · have key := RcNeAt.lists (A := A) (s := s) (e := fun j => xs[j]? == ys[j]?) (hg) (hg2) (by simp; lia) hu ?_
    · rw [List.size_toArray, l1, beq_range h] at key
      exact key prog w E Q fin
    · intro j h1 h2
      simp at h1 h2
      have e1 : (xs.map D.str)[j]? = some (.str (xs[j]'(by lia))) := by rw [List.getElem?_map, List.getElem?_eq_getElem (by lia)]; rfl
      have e2 : (ys.map D.str)[j]? = some (.str (ys[j]'(by lia))) := by rw [List.getElem?_map, List.getElem?_eq_getElem (by lia)]; rfl
      refine ex1E (r.get e1) fun v1 zz19 => and2E zz19 fun g1 q1 => ?_
      refine ex1E (r2.get e2) fun v2 zz18 => and2E zz18 fun g2 q2 => ?_
      rw [List.getElem?_eq_getElem h1] at g1
      rw [List.getElem?_eq_getElem h2] at g2
      cases g1; cases g2
      have e3 : (xs[j]? == ys[j]?) = (xs[j]'(by lia) == ys[j]'(by lia)) := by
        rw [List.getElem?_eq_getElem (by lia), List.getElem?_eq_getElem (by lia)]; rfl
      show EqAt A.in1 s _ _ (xs[j]? == ys[j]?)
      rw [e3]
      simp only [List.getElem_toArray]
      generalize hv : vs[j] = va at q1
      generalize hw : ws[j] = vb at q2
      refine Rd.strE q1 fun t => ?_; refine Rd.strE q2 fun u => ?_; exact eqAt_str
  · have e : (xs != ys) = true := by rw [bne_iff_ne]; exact fun q => h (by rw [q])
    rw [e] at fin
    exact RcNeAt.lists_lengths (hg) (hg2) (by simp; lia) hu prog w E Q fin
theorem any_of {vs : List Value} {ds : List D} {h : Heap} (r : RdAll X h vs ds) (e : Value → Bool) (f : D → Bool) (he : ∀ (i : Nat) v d, vs[i]? = some v → ds[i]? = some d → e v = f d) : vs.any e = ds.any f := by
  induction vs generalizing ds with
  | nil => cases r; rfl
  | cons v vs ih => cases r with
    | cons a r =>
      rw [List.any_cons, List.any_cons, he 0 _ _ rfl rfl, ih r fun i v d h1 h2 => he (i + 1) v d (by simpa using h1) (by simpa using h2)]
open Classical in
theorem in_any {s : Shared} {l : Addr} {vs : List Value} {ds : List D} {x : Value} {f : D → Bool} (hg : s.heap.IsList l vs.toArray) (r : RdAll X s.heap vs ds)
    (hf : ∀ v d, Rd X s.heap v d → d ∈ ds → EqAt A.in1 s v x (f d)) (huniq : ∀ v d d', Rd X s.heap v d → Rd X s.heap v d' → d ∈ ds → d' ∈ ds → f d = f d') {Q : Value → Shared → Prop} {E : Value → Shared → Prop} :
    (Q (.bool (ds.any f)) s → wpAny (model prog w) A (compareOp .In x (.ref l)) Q E s) ∧ (Q (.bool (!ds.any f)) s → wpAny (model prog w) A (compareOp .NotIn x (.ref l)) Q E s) := by
  let e : Value → Bool := fun v => if h : ∃ d, d ∈ ds ∧ Rd X s.heap v d then f h.choose else false
  have he : ∀ v d, Rd X s.heap v d → d ∈ ds → e v = f d := by
    intro v d hr hd
    have h : ∃ d, d ∈ ds ∧ Rd X s.heap v d := ⟨d, hd, hr⟩
    show (if h : ∃ d, d ∈ ds ∧ Rd X s.heap v d then f h.choose else false) = _
    rw [dif_pos h]
    exact huniq v _ d h.choose_spec.2 hr h.choose_spec.1 hd
  have hall : vs.any e = ds.any f := any_of r e f fun i v d h1 h2 => by
    refine ex1E (r.get' h1) fun d' zz17 => and2E zz17 fun h3 h4 => ?_
    rw [h2] at h3; cases h3
    exact he v d h4 (List.mem_of_getElem? h2)
  have hq : ∀ y, y ∈ vs.toArray → EqAt A.in1 s y x (e y) := by
    intro y hy
    refine ex1E (List.mem_iff_getElem.mp (by simpa using hy)) fun i zz16 => ex1E zz16 fun hi zz15 => ?_; subst zz15
    refine ex1E (r.get' (List.getElem?_eq_getElem hi)) fun d zz14 => and2E zz14 fun h3 h4 => ?_
    rw [he _ d h4 (List.mem_of_getElem? h3)]
    exact hf _ d h4 (List.mem_of_getElem? h3)
  constructor
  · intro q
    refine in_listAt e (hg) hq ?_
    rw [List.any_toArray, hall]; exact q
  · intro q
    refine notIn_listAt e (hg) hq ?_
    rw [List.any_toArray, hall]; exact q
noncomputable def asStr : D → List Nat
  | .str x => x
  | _ => []
noncomputable def asStrs : D → List (List Nat)
  | .list ds => ds.map asStr
  | _ => []
theorem asStrs_list (xs : List (List Nat)) : asStrs (.list (xs.map .str)) = xs := by
  show (xs.map D.str).map asStr = xs
  rw [List.map_map]; exact (List.map_congr_left fun _ _ => rfl).trans (List.map_id _)
theorem Op_inS {x : List Nat} {ys : List (List Nat)} : Op2 prog w K A X (compareOp .In) (.str x) (.list (ys.map .str)) (.bool (ys.contains x)) ∧ Op2 prog w K A X (compareOp .NotIn) (.str x) (.list (ys.map .str)) (.bool (!ys.contains x)) := by
  have e : (ys.map D.str).any (fun d => asStr d == x) = ys.contains x := by
    rw [List.any_map, List.contains_eq_any_beq]
    congr 1
    funext y
    show (y == x) = (x == y)
    exact Bool.beq_comm
  have main : ∀ (s : Shared) (va vb : Value) (Q E : Value → Shared → Prop), WX K X s → Rd X s.heap va (.str x) → Rd X s.heap vb (.list (ys.map .str)) →
      (Q (.bool (ys.contains x)) s → wpAny (model prog w) A (compareOp .In va vb) Q E s) ∧ (Q (.bool (!ys.contains x)) s → wpAny (model prog w) A (compareOp .NotIn va vb) Q E s) := by
    intro s va vb Q E q ra rb
    refine Rd.strE ra fun t => ?_; refine Rd.listE rb fun _ _ hn hg r => ?_
    rw [← e]
    refine in_any hg r (fun v d hr hd => ?_) (fun v d d' h1 h2 m1 m2 => ?_)
    · refine ex1E (List.mem_map.mp hd) fun y zz13 => and2E zz13 fun _ zz12 => ?_; subst zz12
      refine ex1E hr.str_inv fun u zz11 => ?_; subst zz11
      exact eqAt_str
    · refine ex1E (List.mem_map.mp m1) fun y zz10 => and2E zz10 fun _ zz9 => ?_; subst zz9
      refine ex1E (List.mem_map.mp m2) fun y' zz8 => and2E zz8 fun _ zz7 => ?_; subst zz7
      refine ex1E h1.str_inv fun u e1 => ?_
      refine ex1E h2.str_inv fun u' e2 => ?_
      rw [e1] at e2; injection e2 with e2 _; rw [S_inj e2]
  exact ⟨fun s va vb Q E q ra rb hQ => (main s va vb Q E q ra rb).1 (Post.here hQ q (.bool _)), fun s va vb Q E q ra rb hQ => (main s va vb Q E q ra rb).2 (Post.here hQ q (.bool _))⟩
theorem Op_inLL {x : List (List Nat)} {yss : List (List (List Nat))} (hu : A.units + 1 < cLine) : Op2 prog w K A X (compareOp .In) (.list (x.map .str)) (.list (yss.map fun ys => .list (ys.map .str))) (.bool (yss.contains x)) := by
  have e : (yss.map fun ys => D.list (ys.map .str)).any (fun d => asStrs d == x) = yss.contains x := by
    rw [List.any_map, List.contains_eq_any_beq]
    congr 1
    funext y
    show (asStrs (.list (y.map .str)) == x) = (x == y)
    rw [asStrs_list]
    exact Bool.beq_comm
  intro s va vb Q E q ra rb hQ
  have fin : Q (.bool (yss.contains x)) s := Post.here hQ q (.bool _)
  refine Rd.listE rb fun _ _ hn hg r => ?_
  rw [← e] at fin
  have hx := ra
  revert hx; refine Rd.listE ra fun _ _ hn1 hg1 r1 => ?_; intro hx
  refine (in_any hg r (fun v d hr hd => ?_) (fun v d d' h1 h2 m1 m2 => ?_)).1 fin
  · refine ex1E (List.mem_map.mp hd) fun y zz6 => and2E zz6 fun _ zz5 => ?_; subst zz5
    rw [asStrs_list]
    exact eqAt_strs hu hr hx
  · refine ex1E (List.mem_map.mp m1) fun y zz4 => and2E zz4 fun _ zz3 => ?_; subst zz3
    refine ex1E (List.mem_map.mp m2) fun y' zz2 => and2E zz2 fun _ zz1 => ?_; subst zz1
    rw [asStrs_list, asStrs_list]
    revert h2; refine Rd.listE h1 fun _ _ a1 a2 a3 => ?_; intro h2
    generalize hz : D.list (y'.map .str) = z at h2
    cases h2 with
    | list b1 b2 b3 =>
      injection hz with hz
      subst hz
      have e' := isList_inj a2 b2
      subst e'
      rw [strs_inj a3 b3]
    | tuple _ _ _ => cases hz
    | val _ => cases hz
    | obj _ _ => cases hz
end
end Mine
end
-- For
section
open PySem PySem.W PySem.Calls PyProof.Rows PySem.Builtin PySem.Builtin.Str
namespace Mine
noncomputable def special (n : String) : Bool := ["enumerate", "zip", "dict_itemiterator", "dict_reverseitemiterator", "odict_iterator", "itertools.zip_longest", "itertools.pairwise"].contains n
noncomputable def IterOn (prog : Program) (w : World) (K : Frag) (A : Around) (X : Addr → Prop) (s : Shared) (v : Value) (ds : List D) : Prop :=
  ∀ (Q E : Value → Shared → Prop), (∀ I fp wr (Pv : Nat → Value → Prop) (Stt : Nat → Heap → Prop) s', Kp s s' → WX K (fun a => X a ∨ a ∈ wr) s' → Walks prog w A I fp wr ds.length Pv Stt → Stt 0 s'.heap → (∀ b ∈ wr, s.heap.get? b = none) →
    (∀ i h, Stt i h → ∀ b ∈ wr, ∃ o, h.get? b = some o) → (∀ b ∈ fp, b ∈ wr ∨ (¬ X b ∧ ∃ o, s.heap.get? b = some o)) → (∀ i v, i < ds.length → Pv i v → ∃ d, ds[i]? = some d ∧ Rd X s.heap v d) → (∀ i h, Stt i h → ∃ o n, h.get? I = some o ∧ o.cls = .type n ∧ special n = false) → Q (.ref I) s') →
  wpAny (model prog w) A (pyIter v) Q E s
section
variable {K : Frag} {A : Around} {env : Env} {nms : Nms} {X Xc Xc' : Addr → Prop} {own own' : Own} {sh : Own} {σ : List (Option D)} {P : Out → Prop} {s s' : Shared}
theorem IterOn.list {v : Value} {ds : List D} (hh : A.handled = none) (x : WX K X s) (r : Rd X s.heap v (.list ds)) : IterOn prog w K A X s v ds := by
  intro Q E hQ
  refine Rd.listE r fun _ _ hn hg r => ?_
  rename_i a vs
  have hl := hg
  refine ex1E (id hg) fun oh zz33 => and2E zz33 fun hgo _ => ?_
  have hk : ∀ b o, s.heap.get? b = some o → (s.heap.push ({ cls := .type "list_iterator", data := .fields #[.ref a, rawInt 0] } : Obj)).get? b = some o := fun b o e => Heap.get?_push_of_some _ e
  have hnone : s.heap.get? s.heap.objs.size = none := by
    cases q : s.heap.get? s.heap.objs.size with
    | none => rfl
    | some o => exact absurd (Heap.lt_size q) (Nat.lt_irrefl _)
  have hne : a ≠ s.heap.objs.size := fun e => by rw [e, hnone] at hgo; cases hgo
  refine wpAny_pyIter_list hl ?_
  have W : Walks prog w A s.heap.objs.size [s.heap.objs.size, a] [s.heap.objs.size] ds.length (fun i v => vs.toArray[i]? = some v) (fun i h => h.IsListIter s.heap.objs.size a i ∧ h.IsList a vs.toArray) := by
    have W := Walks.list (prog := prog) (w := w) hh s.heap.objs.size a hne vs.toArray
    have e : vs.toArray.size = ds.length := by rw [List.size_toArray, r.length]
    rw [e] at W
    exact W
  have hfr : ∀ b ∈ [s.heap.objs.size], s.heap.get? b = none := by intro b hb; simp at hb; rw [hb]; exact hnone
  refine hQ _ [s.heap.objs.size, a] [s.heap.objs.size] _ _ _ (Kp.of (Nat.le_refl _) hk) (x.join (Nat.le_refl _) hk hfr ?_) W ?_ hfr ?_ ?_ ?_ (fun i h st => let ⟨o, e, c, _⟩ := st.1; ⟨o, _, e, c, by decide +kernel⟩)
  · intro b hb; simp at hb; rw [hb]; exact ⟨_, Heap.get?_push_size _ rfl⟩
  · exact ⟨⟨_, Heap.get?_push_size _ rfl, rfl, rfl⟩, hl.push _⟩
  · rintro i h ⟨⟨o, e, _⟩, _⟩ b hb; simp at hb; rw [hb]; exact ⟨o, e⟩
  · intro b hb
    simp at hb
    rcases hb with rfl | rfl
    · exact .inl (by simp)
    · exact .inr ⟨hn, _, hgo⟩
  · intro i v _ hv
    exact r.get' (by simpa using hv)
theorem St.shrink (x : St K env nms Xc' own σ s) (h96 : Xc 96) (hx : ∀ a, Xc a → Xc' a) : St K env nms Xc own σ s := by
  refine ex1E x fun m x => ?_
  have hX : ∀ a, XO Xc env own a → XO Xc' env own a := fun a q => q.imp (hx a) id
  exact ⟨m, x.wx.weak (.inl h96) hX, h96, x.eo, x.frm, fun i n k d h1 h2 => let ⟨v, e, r⟩ := x.rd i n k d h1 h2; ⟨v, e, mono0 hX r⟩,
    fun p hp => let ⟨n, k, vs, ep, h1, h2, h3, h4⟩ := x.ow p hp; ⟨n, k, vs, ep, h1, h2, h3, mono0s hX h4⟩, x.nd, fun p hp => ⟨fun q => (x.sep p hp).1 (hx _ q), (x.sep p hp).2⟩, x.cd⟩
theorem St.with_wr {wr : List Addr} {s₀ : Shared} (x₀ : St K env nms Xc own σ s₀) (k : Kp s₀ s) (wx : WX K (fun a => XO Xc env own a ∨ a ∈ wr) s) (hf : ∀ b ∈ wr, s₀.heap.get? b = none) : St K env nms (fun a => Xc a ∨ a ∈ wr) own σ s := by
  refine ex1E x₀ fun m x => ?_
  have hX : ∀ a, XO (fun a => Xc a ∨ a ∈ wr) env own a → XO Xc env own a ∨ s₀.heap.get? a = none := by
    rintro a ((q | q) | q)
    · exact .inl (.inl q)
    · exact .inr (hf a q)
    · exact .inl (.inr q)
  have hX' : ∀ a, XO (fun a => Xc a ∨ a ∈ wr) env own a → XO Xc env own a ∨ a ∈ wr := by
    rintro a ((q | q) | q)
    · exact .inl (.inl q)
    · exact .inr q
    · exact .inl (.inr q)
  have mv : ∀ {v d}, Rd (XO Xc env own) s₀.heap v d → Rd (XO (fun a => Xc a ∨ a ∈ wr) env own) s.heap v d := fun r => r.mono hX fun b o hn e => k.keep (x.wx.ne96 hn) e
  have mvs : ∀ {v d}, RdAll (XO Xc env own) s₀.heap v d → RdAll (XO (fun a => Xc a ∨ a ∈ wr) env own) s.heap v d := fun r => r.mono hX fun b o hn e => k.keep (x.wx.ne96 hn) e
  have xs := x.kp k (wx.weak (.inl x.x96) fun a q => .inl q)
  refine ⟨m, wx.weak (.inl (.inl x.x96)) hX', .inl x.x96, x.eo, xs.frm, fun i n k d h1 h2 => let ⟨v, e, r⟩ := x.rd i n k d h1 h2; ⟨v, e, mv r⟩,
    fun p hp => let ⟨n, kd, vs, ep, h1, h2, h3, h4⟩ := x.ow p hp; ⟨n, kd, vs, ep, h1, h2, ?_, mvs h4⟩, x.nd, fun p hp => ⟨fun q => ?_, (x.sep p hp).2⟩, x.cd⟩
  · exact k.keep (fun e => (x.sep p hp).1 (e ▸ x.x96)) h3
  · rcases q with q | q
    · exact (x.sep p hp).1 q
    · refine ex4E (x.ow p hp) fun _ _ _ _ zz32 => and4E zz32 fun _ _ h3 _ => ?_
      rw [hf _ q] at h3; cases h3
theorem St.walk {wr : List Addr} {h' : Heap} {tk : Nat} (x : St K env nms (fun a => Xc a ∨ a ∈ wr) own σ s) (l : s.toks ≤ tk) (hk : ∀ b o, b ∉ wr → s.heap.get? b = some o → h'.get? b = some o) (hw : ∀ b ∈ wr, b ≠ 96 ∧ b ≠ env.locals ∧ ∀ y, env.cells.lookup y ≠ some b)
    (ho : ∀ b ∈ wr, ∃ o, h'.get? b = some o) : St K env nms (fun a => Xc a ∨ a ∈ wr) own σ { s with heap := h', toks := tk } := by
  refine ex1E x fun m x => ?_
  have hXw : ∀ b, ¬ XO (fun a => Xc a ∨ a ∈ wr) env own b → b ∉ wr := fun b hb q => hb (.inl (.inr q))
  have mv : ∀ {v d}, Rd (XO (fun a => Xc a ∨ a ∈ wr) env own) s.heap v d → Rd (XO (fun a => Xc a ∨ a ∈ wr) env own) h' v d := fun r => r.mono (fun _ q => .inl q) fun b o hn e => hk b o (hXw b hn) e
  have mvs : ∀ {v d}, RdAll (XO (fun a => Xc a ∨ a ∈ wr) env own) s.heap v d → RdAll (XO (fun a => Xc a ∨ a ∈ wr) env own) h' v d := fun r => r.mono (fun _ q => .inl q) fun b o hn e => hk b o (hXw b hn) e
  refine ⟨m, ⟨fun a o e => hk a o (fun q => ?_) (x.wx.kin a o e), x.wx.xk, ?_, ?_, Nat.lt_of_lt_of_le x.wx.pos l, x.wx.x96, fun a ha => ?_⟩, x.x96, x.eo, ⟨?_, fun y hy => ?_⟩, fun i n k d h1 h2 => let ⟨v, e, r⟩ := x.rd i n k d h1 h2; ⟨v, e, mv r⟩,
    fun p hp => let ⟨n, kd, vs, ep, h1, h2, h3, h4⟩ := x.ow p hp; ⟨n, kd, vs, ep, h1, h2, hk _ _ (fun q => (x.sep p hp).1 (.inr q)) h3, mvs h4⟩, x.nd, x.sep, x.cd⟩
  · rw [(x.wx.xk a (.inl (.inr q))).1] at e; cases e
  · refine ex1E x.wx.bi fun mb zz31 => and2E zz31 fun zz30 q => ?_; obtain ⟨o, es, ep, e, r⟩ := zz30
    exact ⟨mb, ⟨o, es, ep, hk _ _ (fun z => (x.wx.xk _ (.inl (.inr z))).2 rfl) e, r⟩, q⟩
  · exact x.wx.tb.keeps (fun _ q => .inl q) (fun o e => hk 96 o (fun q => (hw 96 q).1 rfl) e) fun b o hn e => hk b o (hXw b hn) e
  · by_cases h : a ∈ wr
    · exact ho a h
    · refine ex1E (x.wx.xb a ha) fun o e => ?_; exact ⟨o, hk a o h e⟩
  · refine ex1E x.frm.ns fun m0 zz29 => and2E zz29 fun zz28 q => ?_; obtain ⟨o, es, ep, e, r⟩ := zz28
    exact ⟨m0, ⟨o, es, ep, hk _ _ (fun z => (hw _ z).2.1 rfl) e, r⟩, q⟩
  · refine ex1E (x.frm.cell y hy) fun c zz25 => and2E zz25 fun h1 zz26 => ex1E zz26 fun o zz27 => and2E zz27 fun h2 h3 => ?_
    exact ⟨c, h1, o, hk c o (fun z => (hw c z).2.2 y h1) h2, h3⟩
theorem St.done {wr : List Addr} {h' : Heap} {tk : Nat} (x : St K env nms (fun a => Xc a ∨ a ∈ wr) own σ s) (h96 : Xc 96) (l : s.toks ≤ tk) (hk : ∀ b o, b ∉ wr → s.heap.get? b = some o → h'.get? b = some o) (hw : ∀ b ∈ wr, b ≠ 96 ∧ b ≠ env.locals ∧ ∀ y, env.cells.lookup y ≠ some b)
    (hd : ∀ b ∈ wr, ¬ Xc b) : St K env nms Xc own σ { s with heap := h', toks := tk } := by
  refine ex1E x fun m x => ?_
  have hXw : ∀ b, ¬ XO (fun a => Xc a ∨ a ∈ wr) env own b → b ∉ wr := fun b hb q => hb (.inl (.inr q))
  have hX : ∀ a, XO Xc env own a → XO (fun a => Xc a ∨ a ∈ wr) env own a := fun a q => q.imp .inl id
  have hnw : ∀ a, XO Xc env own a → a ∉ wr := by
    rintro a (q | q | ⟨y, q⟩ | ⟨p, hp, rfl⟩) z
    · exact hd a z q
    · exact (hw a z).2.1 q
    · exact (hw a z).2.2 y q
    · exact (x.sep p hp).1 (.inr z)
  have mv : ∀ {v d}, Rd (XO (fun a => Xc a ∨ a ∈ wr) env own) s.heap v d → Rd (XO Xc env own) h' v d := fun r => r.mono (fun a q => .inl (hX a q)) fun b o hn e => hk b o (hXw b hn) e
  have mvs : ∀ {v d}, RdAll (XO (fun a => Xc a ∨ a ∈ wr) env own) s.heap v d → RdAll (XO Xc env own) h' v d := fun r => r.mono (fun a q => .inl (hX a q)) fun b o hn e => hk b o (hXw b hn) e
  refine ⟨m, ⟨fun a o e => hk a o (fun q => ?_) (x.wx.kin a o e), fun a ha => x.wx.xk a (hX a ha), ?_, ?_, Nat.lt_of_lt_of_le x.wx.pos l, .inl h96, fun a ha => ?_⟩, h96, x.eo, ⟨?_, fun y hy => ?_⟩, fun i n k d h1 h2 => let ⟨v, e, r⟩ := x.rd i n k d h1 h2; ⟨v, e, mv r⟩,
    fun p hp => let ⟨n, kd, vs, ep, h1, h2, h3, h4⟩ := x.ow p hp; ⟨n, kd, vs, ep, h1, h2, hk _ _ (fun q => (x.sep p hp).1 (.inr q)) h3, mvs h4⟩, x.nd, fun p hp => ⟨fun q => (x.sep p hp).1 (.inl q), (x.sep p hp).2⟩, x.cd⟩
  · rw [(x.wx.xk a (.inl (.inr q))).1] at e; cases e
  · refine ex1E x.wx.bi fun mb zz24 => and2E zz24 fun zz23 q => ?_; obtain ⟨o, es, ep, e, r⟩ := zz23
    exact ⟨mb, ⟨o, es, ep, hk _ _ (fun z => (x.wx.xk _ (.inl (.inr z))).2 rfl) e, r⟩, q⟩
  · exact x.wx.tb.keeps (fun a q => .inl (hX a q)) (fun o e => hk 96 o (fun q => (hw 96 q).1 rfl) e) fun b o hn e => hk b o (hXw b hn) e
  · refine ex1E (x.wx.xb a (hX a ha)) fun o e => ?_; exact ⟨o, hk a o (hnw a ha) e⟩
  · refine ex1E x.frm.ns fun m0 zz22 => and2E zz22 fun zz21 q => ?_; obtain ⟨o, es, ep, e, r⟩ := zz21
    exact ⟨m0, ⟨o, es, ep, hk _ _ (fun z => (hw _ z).2.1 rfl) e, r⟩, q⟩
  · refine ex1E (x.frm.cell y hy) fun c zz18 => and2E zz18 fun h1 zz19 => ex1E zz19 fun o zz20 => and2E zz20 fun h2 h3 => ?_
    exact ⟨c, h1, o, hk c o (fun z => (hw c z).2.2 y h1) h2, h3⟩
theorem wr_out {wr : List Addr} {s₀ : Shared} (w₀ : WX K (XO Xc env own) s₀) (hf : ∀ b ∈ wr, s₀.heap.get? b = none) : ∀ b ∈ wr, b ≠ 96 ∧ b ≠ env.locals ∧ ∀ y, env.cells.lookup y ≠ some b := by
  intro b hb
  have hX : ∀ a, XO Xc env own a → b ≠ a := fun a ha e => by refine ex1E (w₀.xb a ha) fun o q => ?_; rw [← e, hf b hb] at q; cases q
  exact ⟨hX 96 w₀.x96, hX _ (.inr (.inl rfl)), fun y q => hX b (.inr (.inr (.inl ⟨y, q⟩))) rfl⟩
theorem wr_not {wr : List Addr} {s₀ : Shared} (w₀ : WX K (XO Xc env own) s₀) (hf : ∀ b ∈ wr, s₀.heap.get? b = none) : ∀ b ∈ wr, ¬ Xc b := fun b hb q => by refine ex1E (w₀.xb b (.inl q)) fun o e => ?_; rw [hf b hb] at e; cases e
theorem Kf.walk {wr : List Addr} {s₀ : Shared} {h' : Heap} {tk : Nat} (kf : Kf env own s₀ s) (hf : ∀ b ∈ wr, s₀.heap.get? b = none) (l : s.toks ≤ tk) (hk : ∀ b o, b ∉ wr → s.heap.get? b = some o → h'.get? b = some o) : Kf env own s₀ { s with heap := h', toks := tk } := by
  refine ex2E kf fun h2 t2 z => and3E z fun e2 l2 q2 => ?_
  subst e2
  exact ⟨h', tk, rfl, Nat.le_trans l2 l, fun b o hb hm e => hk b o (fun q => by rw [hf b q] at e; cases e) (q2 b o hb hm e)⟩
theorem XO_wr {wr : List Addr} {s₀ : Shared} (hf : ∀ b ∈ wr, s₀.heap.get? b = none) (fr : Fresher own own' s₀) (a : Addr) (q : XO (fun a => Xc a ∨ a ∈ wr) env own' a) : XO Xc env own a ∨ s₀.heap.get? a = none := by
  rcases q with (q | q) | q | q | ⟨p, hp, rfl⟩
  · exact .inl (.inl q)
  · exact .inr (hf a q)
  · exact .inl (.inr (.inl q))
  · exact .inl (.inr (.inr (.inl q)))
  · rcases fr p hp with ⟨q, hq, e⟩ | e
    · exact .inl (.inr (.inr (.inr ⟨q, hq, e⟩)))
    · exact .inr e
theorem rd_walked {wr : List Addr} {s₀ : Shared} {v : Value} {d : D} (rd : Rd (XO Xc env own) s₀.heap v d) (w₀ : WX K (XO Xc env own) s₀) (hf : ∀ b ∈ wr, s₀.heap.get? b = none) (fr : Fresher own own' s₀) (kf : Kf env own s₀ s) : Rd (XO (fun a => Xc a ∨ a ∈ wr) env own') s.heap v d := by
  refine rd.mono (XO_wr hf fr) fun b o hn e => ?_
  refine ex2E kf fun h2 t2 z => and3E z fun e2 l2 q2 => ?_
  subst e2
  exact q2 b o (fun z => hn (z ▸ w₀.x96)) (fun z => hn (.inr z)) e
theorem Kf.stay {fp wr : List Addr} {s₀ sa sb : Shared} (w₀ : WX K (XO Xc env own) s₀) (hf : ∀ b ∈ wr, s₀.heap.get? b = none) (hfp : ∀ b ∈ fp, b ∈ wr ∨ (¬ XO Xc env own b ∧ ∃ o, s₀.heap.get? b = some o))
    (xa : St K env nms (fun a => Xc a ∨ a ∈ wr) own' σ sa) (fr : Fresher own own' s₀) (kf : Kf env own' sa sb) : ∀ b ∈ fp, ∀ o, sa.heap.get? b = some o → sb.heap.get? b = some o := by
  intro b hb o eo
  refine ex2E kf fun h2 t2 z => and3E z fun e2 l2 q2 => ?_; subst e2
  have h : b ≠ 96 ∧ ¬ Mut env own' b := by
    rcases hfp b hb with q | ⟨q, o', e'⟩
    · have w := wr_out w₀ hf b q
      refine ⟨w.1, ?_⟩
      rintro (z | ⟨y, z⟩ | ⟨p, hp, z⟩)
      · exact w.2.1 z
      · exact w.2.2 y z
      · refine ex1E xa fun _ y => ?_; exact (y.sep p hp).1 (.inr (z ▸ q))
    · refine ⟨fun z => q (z ▸ w₀.x96), ?_⟩
      rintro (z | ⟨y, z⟩ | ⟨p, hp, z⟩)
      · exact q (.inr (.inl z))
      · exact q (.inr (.inr (.inl ⟨y, z⟩)))
      · rcases fr p hp with ⟨p', hp', e''⟩ | e''
        · exact q (.inr (.inr (.inr ⟨p', hp', e''.trans z⟩)))
        · rw [z, e'] at e''; cases e''
  exact q2 b o h.1 h.2 eo
theorem Kf.out {s₀ s₃ : Shared} (k₀ : Kp s s₀) (kf : Kf env own s₀ s₃) (fr : Fresher own own' s₀) (hm : ∀ p ∈ own', p.2.1 ≠ 96 ∧ p.2.1 ≠ env.locals ∧ ∀ y, env.cells.lookup y ≠ some p.2.1) : Kf env own s s₃ ∧ Fresher own own' s :=
  ⟨(Kp.kf k₀).trans (Fresher.refl _ _) kf, (Fresher.refl _ _).trans (Kp.kf k₀) (fun p hp _ => hm p hp) fr⟩
noncomputable def EvIt (prog : Program) (w : World) (K : Frag) (A : Around) (env : Env) (nms : Nms) (X : Addr → Prop) (σ : List (Option D)) (e : Expr) (ds : List D) : Prop :=
  ∀ ⦃s⦄ Q E, StE K env nms X σ s → (∀ v s', Kp s s' → WX K X s' → IterOn prog w K A X s' v ds → Q v s') → wpAny (model prog w) A (eval e env) Q E s
theorem EvIt_list {e : Expr} {ds : List D} (hh : A.handled = none) (h : Ev prog w K A env nms X σ e (.list ds)) : EvIt prog w K A env nms X σ e ds :=
  fun s Q E st hQ => h Q E st fun v s' k w r => hQ v s' k w (IterOn.list hh w r)
noncomputable def ForI (K : Frag) (env : Env) (nms : Nms) (Xc : Addr → Prop) (wr : List Addr) (own : Own) (J : Nat → Own → List (Option D) → Prop) (n : Nat) (s₀ : Shared) (Stt : Nat → Heap → Prop) (m : Nat) (s' : Shared) : Prop :=
  ∃ j own' σ', m = n + 1 - j ∧ j ≤ n ∧ J j (shape own') σ' ∧ St K env nms (fun a => Xc a ∨ a ∈ wr) own' σ' s' ∧ Stt j s'.heap ∧ Kf env own s₀ s' ∧ Fresher own own' s₀
section
variable {wr fp : List Addr} {J : Nat → Own → List (Option D) → Prop} {n j : Nat} {s₀ s₄ s₅ : Shared} {Stt : Nat → Heap → Prop} {own₄ : Own} {σ₄ : List (Option D)}
theorem ForI.mk (hj : j ≤ n) (hJ : J j (shape own') σ) (x : St K env nms (fun a => Xc a ∨ a ∈ wr) own' σ s) (st : Stt j s.heap) (kf : Kf env own s₀ s) (fr : Fresher own own' s₀) : ForI K env nms Xc wr own J n s₀ Stt (n + 1 - j) s := ⟨j, own', σ, rfl, hj, hJ, x, st, kf, fr⟩
theorem for_less (h : j < n) : n + 1 - (j + 1) < n + 1 - j := by rw [Nat.add_sub_add_right, Nat.sub_add_comm (Nat.le_of_lt h)]; exact Nat.lt_succ_self _
theorem for_back {o : Out} {f : Flow} {Q : Flow → Shared → Prop} (k₀ : Kp s s₀) (x : St K env nms Xc own σ s) (w₀ : WX K (XO Xc env own) s₀) (hf : ∀ b ∈ wr, s₀.heap.get? b = none)
    (hfp : ∀ b ∈ fp, b ∈ wr ∨ (¬ XO Xc env own b ∧ ∃ o, s₀.heap.get? b = some o)) (frame : ∀ i h h', Stt i h → (∀ b ∈ fp, ∀ o, h.get? b = some o → h'.get? b = some o) → Stt i h')
    (hlt : j < n) (x₄ : St K env nms (fun a => Xc a ∨ a ∈ wr) own₄ σ₄ s₄) (st₄ : Stt (j + 1) s₄.heap) (kf₄ : Kf env own s₀ s₄) (fr₄ : Fresher own own₄ s₀)
    (hQ : ∀ out f s', P out → OutOk K env nms Xc own s out f s' → Q f s')
    (ho : match (generalizing := false) o with
      | .next sh'' σ'' => J (j + 1) sh'' σ''
      | .cont sh'' σ'' => J (j + 1) sh'' σ''
      | .brk sh'' σ'' => P (.next sh'' σ'')
      | .ret d => P (.ret d)) (hok : OutOk K env nms (fun a => Xc a ∨ a ∈ wr) own₄ s₄ o f s₅) :
    (f = .next ∨ f = .cont) ∧ (∃ m, m < n + 1 - j ∧ ForI K env nms Xc wr own J n s₀ Stt m s₅) ∨ f = .brk ∧ Q .next s₅ ∨ ∃ v, f = .ret v ∧ Q (.ret v) s₅ := by
  have h96 : Xc 96 := by refine ex1E x fun _ y => ?_; exact y.x96
  have after : ∀ {sh'' σ''}, J (j + 1) sh'' σ'' → Goes K env nms (fun a => Xc a ∨ a ∈ wr) own₄ s₄ sh'' σ'' s₅ → ∃ m, m < n + 1 - j ∧ ForI K env nms Xc wr own J n s₀ Stt m s₅ := fun hJ ⟨own₅, e, x₅, kf₅, fr₅⟩ =>
    ⟨_, for_less hlt, .mk (own' := own₅) hlt (e ▸ hJ) x₅ (frame _ _ _ st₄ (Kf.stay w₀ hf hfp x₄ fr₄ kf₅)) (kf₄.trans fr₄ kf₅) (fr₄.trans kf₄ (fun p hp _ => x₅.sep p hp) fr₅)⟩
  cases o with
  | next sh'' σ'' => exact .inl ⟨.inl hok.1, after ho hok.2⟩
  | cont sh'' σ'' => exact .inl ⟨.inr hok.1, after ho hok.2⟩
  | brk sh'' σ'' =>
    refine and2E hok fun e g => ex1E g fun own₅ z => and4E z fun q x₅ kf₅ fr₅ => ?_
    have kg := kf₄.trans fr₄ kf₅
    have q12 := Kf.out k₀ kg (fr₄.trans kf₄ (fun p hp _ => x₅.sep p hp) fr₅) x₅.sep
    exact .inr (.inl ⟨e, hQ _ _ _ ho ⟨rfl, own₅, q, x₅.shrink h96 fun _ => .inl, q12.1, q12.2⟩⟩)
  | ret d' =>
    refine ex1E hok fun v' z => and4E z fun e kf₅ w₅ r₅ => ?_
    exact .inr (.inr ⟨v', e, hQ (.ret d') _ _ ho ⟨v', rfl, (Kf.out k₀ (kf₄.trans fr₄ kf₅) (Fresher.refl own s₀) x.sep).1, w₅.weak h96 fun _ => .inl, mono0 (fun _ => .inl) r₅⟩⟩)
theorem for_item {I : Addr} {Pv : Nat → Value → Prop} {i : Nat} {nm : String} {k : NameKind} {p : Pos} {ds : List D} {s₂ : Shared} {Qn : Option Value → Shared → Prop} {B : Shared → Prop} {E E' : Value → Shared → Prop} (W : Walks prog w A I fp wr ds.length Pv Stt) (hn : nms[i]? = some (nm, k)) (hk : k = .local ∨ k = .cell)
    (hlt : j < ds.length) (w₀ : WX K (XO Xc env own) s₀) (hf : ∀ b ∈ wr, s₀.heap.get? b = none) (hob : ∀ i h, Stt i h → ∀ b ∈ wr, ∃ o, h.get? b = some o)
    (hfp : ∀ b ∈ fp, b ∈ wr ∨ (¬ XO Xc env own b ∧ ∃ o, s₀.heap.get? b = some o)) (hval : ∀ i v, i < ds.length → Pv i v → ∃ d, ds[i]? = some d ∧ Rd (XO Xc env own) s₀.heap v d)
    (x₂ : St K env nms (fun a => Xc a ∨ a ∈ wr) own₄ σ₄ s₂) (st₂ : Stt j s₂.heap) (kf₂ : Kf env own s₀ s₂) (fr₂ : Fresher own own₄ s₀)
    (hq : ∀ v s₁, wpAny (model prog w) A (assign (.Name nm p) env v) (fun _ s₂ => B s₂) E s₁ → Qn (some v) s₁)
    (hB : ∀ d s₄, ds[j]? = some d → St K env nms (fun a => Xc a ∨ a ∈ wr) (drop own₄ i) (σ₄.set i (some d)) s₄ → Stt (j + 1) s₄.heap → Kf env own s₀ s₄ → Fresher own (drop own₄ i) s₀ → B s₄) : wpAny (model prog w) A (pyNext (.ref I)) Qn E' s₂ := by
  refine wpAny_with_toks (Nat.le_refl _) (W.item j s₂ _ _ hlt st₂ fun v h' tk hv st₃ hk₃ l₃ => ?_)
  have kf₃ := kf₂.walk (tk := tk) hf l₃ hk₃
  have x₃ := x₂.walk (tk := tk) l₃ hk₃ (wr_out w₀ hf) (hob _ _ st₃)
  refine ex1E (hval j v hlt hv) fun d z => and2E z fun hd rd => ?_
  exact hq _ _ (wpAny_assign_Name (St.store i x₃ hn hk (rd_walked rd w₀ hf fr₂ kf₃) fun s₄ x₄ kf₄ =>
    hB d s₄ hd x₄ (W.frame _ _ _ st₃ (Kf.stay w₀ hf hfp x₃ fr₂ kf₄)) (kf₃.trans fr₂ kf₄) fun p hp => fr₂ p (drop_sub p hp)))
end
theorem ExS_for (i : Nat) {n : String} {k : NameKind} {p pos : Pos} {iter : Expr} {body : List Stmt} {ds : List D} (hn : nms[i]? = some (n, k)) (hk : k = .local ∨ k = .cell)
    (J : Nat → Own → List (Option D) → Prop) (hit : ∀ own, shape own = sh → EvIt prog w K A env nms (XO Xc env own) σ iter ds) (start : J 0 sh σ)
    (turn : ∀ j d sh' σ', ds[j]? = some d → J j sh' σ' → ∀ Xc' : Addr → Prop, (∀ a, Xc a → Xc' a) → Ex prog w K A env nms Xc' (dropS sh' i) (σ'.set i (some d)) body (fun o => match o with
      | .next sh'' σ'' => J (j + 1) sh'' σ''
      | .cont sh'' σ'' => J (j + 1) sh'' σ''
      | .brk sh'' σ'' => P (.next sh'' σ'')
      | .ret d => P (.ret d)))
    (fin : ∀ sh' σ', J ds.length sh' σ' → P (.next sh' σ'))
    (hs : ∀ x, foldedSetIterable iter env x = pure x := by intro _; rfl) : ExS prog w K A env nms Xc sh σ (.For (.Name n p) iter body [] pos) P := by
  intro own s Q E eo x hQ
  refine wpAny_For (hit own eo _ _ x.ste fun v s₀ k₀ w₀ it => it _ _ fun I fp wr Pv Stt s₁ k₁ w₁ W st₁ hf hob hfp hval _ => ?_) hs
  have h96 : Xc 96 := by refine ex1E x fun _ y => ?_; exact y.x96
  refine codeAny_forLoop (ForI K env nms Xc wr own J ds.length s₀ Stt) ?_ (ds.length + 1 - 0) (.mk (Nat.zero_le _) (eo ▸ start) ((x.kp k₀ w₀).with_wr k₁ w₁ hf) st₁ (Kp.kf k₁) (Fresher.refl _ _))
  rintro m s₂ ⟨j, own₂, σ₂, rfl, hj, hJ, x₂, st₂, kf₂, fr₂⟩
  rcases Nat.lt_or_ge j ds.length with hlt | hge
  · refine for_item W hn hk hlt w₀ hf hob hfp hval x₂ st₂ kf₂ fr₂ (fun _ _ h => h) fun d s₄ hd x₄ st₄ kf₄ fr₄ => ?_
    refine turn j d _ _ hd hJ _ (fun _ => .inl) s₄ _ _ (drop_shape _ _) x₄ fun o f s₅ ho hok => ?_
    rcases for_back k₀ x w₀ hf hfp W.frame hlt x₄ st₄ kf₄ fr₄ hQ ho hok with ⟨rfl | rfl, h⟩ | ⟨rfl, h⟩ | ⟨v, rfl, h⟩
    · exact h
    · exact h
    · exact h
    · exact h
  · cases Nat.le_antisymm hj hge
    refine wpAny_with_toks (Nat.le_refl _) (W.done s₂ _ _ st₂ fun h' tk hk₃ l₃ => ?_)
    have x₃ := x₂.done (tk := tk) h96 l₃ hk₃ (wr_out w₀ hf) (wr_not w₀ hf)
    have q12 := Kf.out k₀ (kf₂.walk (tk := tk) hf l₃ hk₃) fr₂ x₃.sep
    exact wpAny_execs_nil (hQ _ _ _ (fin _ _ hJ) ⟨rfl, own₂, rfl, x₃, q12.1, q12.2⟩)
end
end Mine
end
-- Stm3
section
open PySem PySem.W PySem.Calls PyProof.Rows PySem.Builtin PySem.Builtin.Str
namespace Mine
theorem updO_shape (own : Own) (i : Nat) (d : D) : shape (updO own i d) = updO (shape own) i d := rfl
section
variable {K : Frag} {A : Around} {env : Env} {nms : Nms} {X Xc : Addr → Prop} {own : Own} {sh : Own} {σ : List (Option D)} {P : Out → Prop} {s s' : Shared}
theorem mem_shape {i : Nat} {a : Addr} {ds : List D} (e : shape own = sh) (h : (i, a, ds) ∈ sh) : (i, a, ds) ∈ own := by
  rw [← e] at h; exact h
theorem ExS_append (i : Nat) {n : String} {k : NameKind} {np apos cpos pos : Pos} {e : Expr} {d : D} {a : Addr} {ds : List D} (hn : nms[i]? = some (n, k)) (hk : k = .local ∨ k = .cell) (hm : (i, a, ds) ∈ sh) (hsz : ds.length ≤ sizeLine)
    (he : EvS prog w K A env nms Xc sh σ e d) (hp : P (.next (updO sh i d) σ)) (hst : starEach [e] env = [(false, eval e env)] := by rfl)
    {pl : Sem Bool} (hc : eval (.Call (.Attribute (.Name n np) "append" apos) [e] [] cpos) env = (do
      let ov ← eval (.Name n np) env
      standAt apos.atName
      let (f, first) ← holding [ov] (getMethod ov "append" pl)
      callWith cpos f first (backTo cpos (starEach [e] env)) []) := by rfl)
    (hi : interactive env = false := by rfl) (hs : swapsWith (.Call (.Attribute (.Name n np) "append" apos) [e] [] cpos) none pos.line env = pure false := by rfl) :
    ExS prog w K A env nms Xc sh σ (.Expr (.Call (.Attribute (.Name n np) "append" apos) [e] [] cpos) pos) P := by
  intro own s Q E eo x hQ
  have ha := mem_shape eo hm
  refine wpAny_Expr ?_ hi hs
  have x0 := x
  refine ex1E x0 fun m y => ?_
  refine ex4E (y.ow _ ha) fun n' k' vs ep zz6 => and4E zz6 fun h1 h2 h3 h4 => ?_
  rw [hn] at h1; cases h1
  have hK := y.eo.kindOf hn
  have load : ∀ Q' : Value → Shared → Prop, Q' (.ref a) s → wpAny (model prog w) A (eval (.Name n np) env) Q' E s := by
    intro Q' q
    refine wpAny_Name ?_ (y.eo.plain hn).1
    rcases hk with rfl | rfl
    · refine ex1E y.frm.ns fun m0 zz5 => and2E zz5 fun hm0 hm => ?_
      exact wpAny_loadName_local y.eo.kind hK hm0 ((hm _ hK).trans h2) q
    · refine ex1E (y.frm.cell _ (.inl hK)) fun c zz4 => and2E zz4 fun g1 g2 => ?_
      rw [h2] at g2
      exact wpAny_loadName_cell y.eo.kind hK g1 g2 q
  refine MethodCall_ (pl := pl) (load _ (getMethod_list_append h3 rfl rfl ?_)) hc
  refine callWith_method1 (args_cons (he own eo _ _ x.ste fun v s₁ k₁ w₁ r₁ => args_nil ?_) hst) hst rfl
  have x₁ := x.kp k₁ w₁
  have h3' : s₁.heap.get? a = some (W.listOf vs.toArray ep) := by refine and2E (x.sep _ ha) fun h96 _ => ?_; exact k₁.keep h96 h3
  refine wpAny_call_entry slot_list_append (isList_of h3').typeIs entry_list_append ?_ (args_list_append _ _)
  show wpAny _ _ (updateSeq a (·.push v) >>= fun _ => ret .none) _ _ s₁
  refine wpAny_bind (St.append x₁ ha r₁ hsz fun s' x' kf => wpAny_pure ⟨.none, rfl, ?_⟩)
  refine hQ _ _ _ hp ⟨rfl, _, ?_, x', (Kp.kf k₁).trans (Fresher.refl _ _) kf, ?_⟩
  · rw [updO_shape, eo]
  · intro p hp'
    have : p.2.1 ∈ (updO own i d).map (·.2.1) := List.mem_map.mpr ⟨p, hp', rfl⟩
    rw [updO_addr] at this
    refine ex1E (List.mem_map.mp this) fun q zz3 => and2E zz3 fun hq e => ?_
    exact .inl ⟨q, hq, e⟩
theorem Rd.kf (x : WX K (XO Xc env own) s) (k : Kf env own s s') {v : Value} {d : D} (r : Rd (XO Xc env own) s.heap v d) : Rd (XO Xc env own) s'.heap v d := by
  refine ex2E k fun h' tk zz2 => and3E zz2 fun zz1 _ q => ?_; subst zz1
  exact r.mono (fun _ z => .inl z) fun b o hn e => q b o (x.ne96 hn) (fun z => hn (.inr z)) e
theorem drop_id {i : Nat} (h : ∀ p ∈ own, p.1 ≠ i) : drop own i = own := List.filter_eq_self.mpr fun p hp => by simpa using h p hp
theorem notkey {i : Nat} (e : shape own = sh) (h : (sh.all fun p => p.1 != i) = true) : ∀ p ∈ own, p.1 ≠ i := by
  intro p hp
  have : p ∈ sh := e ▸ hp
  simpa using List.all_eq_true.mp h _ this
theorem ExtBut.full {h h' : Heap} (x : Heap.ExtBut h.objs.size h h') : ∀ b o, h.get? b = some o → h'.get? b = some o := fun b o e => x b o (fun q => Nat.lt_irrefl _ (by have := Heap.lt_size e; rw [q] at this; exact this)) e
theorem St.store' {M : Model} {A : Around} {E : Value → Shared → Prop} {Q : Unit → Shared → Prop} (i : Nat) {n : String} {k : NameKind} {v : Value} {d : D} (x : St K env nms Xc own σ s) (hn : nms[i]? = some (n, k)) (hk : k = .local ∨ k = .cell) (hf : ∀ p ∈ own, p.1 ≠ i)
    (r : Rd (XO Xc env own) s.heap v d) (h : ∀ s', St K env nms Xc own (σ.set i (some d)) s' → Kf env own s s' → Q () s') : wpAny M A (storeName env n v) Q E s :=
  St.store i x hn hk r fun s' x' kf => h s' (drop_id hf ▸ x') kf
theorem ExS_assign2 (i j : Nat) {n1 n2 : String} {k1 k2 : NameKind} {p1 p2 tpos pos : Pos} {c : Nat} {e : Expr} {d1 d2 : D} (hn1 : nms[i]? = some (n1, k1)) (hn2 : nms[j]? = some (n2, k2)) (hk1 : k1 = .local ∨ k1 = .cell) (hk2 : k2 = .local ∨ k2 = .cell)
    (hf : (sh.all fun p => p.1 != i && p.1 != j) = true) (hh : A.handled = none) (he : EvS prog w K A env nms Xc sh σ e (.tuple [d1, d2])) (hp : P (.next sh ((σ.set i (some d1)).set j (some d2))))
    (hs : swapsWithSole [.Tuple [.Name n1 p1, .Name n2 p2] c tpos] e pos.line env = pure false := by rfl)
    (hw : swappedStores [.Tuple [.Name n1 p1, .Name n2 p2] c tpos] e env = pure none := by rfl) :
    ExS prog w K A env nms Xc sh σ (.Assign [.Tuple [.Name n1 p1, .Name n2 p2] c tpos] e pos) P := by
  intro own s Q E eo x hQ
  have f1 : ∀ p ∈ own, p.1 ≠ i := notkey eo (by rw [List.all_eq_true] at hf ⊢; intro p hp; have := hf p hp; simp at this; simp [this])
  have f2 : ∀ p ∈ own, p.1 ≠ j := notkey eo (by rw [List.all_eq_true] at hf ⊢; intro p hp; have := hf p hp; simp at this; simp [this])
  refine Assign_Tuple (he own eo _ _ x.ste fun v s₁ k₁ w₁ r₁ => ?_) hs hw
  have x₁ := x.kp k₁ w₁
  refine Rd.tuple2E r₁ fun _ _ _ hnx hg a b => ?_
  refine assign_Tuple_tuple hh (hg) rfl rfl fun h' hx => ?_
  have hfull := ExtBut.full hx
  have kp : Kp s₁ { s₁ with heap := h' } := Kp.of (Nat.le_refl _) hfull
  have x₂ := x₁.kp kp (w₁.more (Nat.le_refl _) hfull)
  have a₂ := a.kp w₁ kp
  have b₂ := b.kp w₁ kp
  show wpAny _ _ (do holding _ (assign (.Name n1 p1) env _); holding _ (assign (.Name n2 p2) env _); pure ()) _ _ _
  refine wpAny_bind (wpAny_holding (PyProof.Rows.assign_Name (St.store' i x₂ hn1 hk1 f1 a₂ fun s₃ x₃ kf₃ => ?_)))
  refine wpAny_bind (wpAny_holding (PyProof.Rows.assign_Name (St.store' j x₃ hn2 hk2 f2 (b₂.kf x₂.wx kf₃) fun s₄ x₄ kf₄ => ?_)))
  exact wpAny_pure (hQ _ _ _ hp ⟨rfl, own, eo, x₄, ((Kp.kf (k₁.trans kp)).trans (Fresher.refl _ _) kf₃).trans (Fresher.refl _ _) kf₄, Fresher.refl _ _⟩)
theorem ExS_assign2s (i j : Nat) {n1 n2 : String} {k1 k2 : NameKind} {p1 p2 tpos pos : Pos} {c : Nat} {e : Expr} {d1 d2 : D} (hn1 : nms[i]? = some (n1, k1)) (hn2 : nms[j]? = some (n2, k2)) (hk1 : k1 = .local ∨ k1 = .cell) (hk2 : k2 = .local ∨ k2 = .cell) (hij : i ≠ j)
    (hf : (sh.all fun p => p.1 != i && p.1 != j) = true) (hh : A.handled = none) (he : EvS prog w K A env nms Xc sh σ e (.tuple [d1, d2])) (hp : P (.next sh ((σ.set i (some d1)).set j (some d2))))
    (hs : swapsWithSole [.Tuple [.Name n1 p1, .Name n2 p2] c tpos] e pos.line env = pure false := by rfl)
    (hw : swappedStores [.Tuple [.Name n1 p1, .Name n2 p2] c tpos] e env = pure (some [(n1 : Str), (n2 : Str)]) := by rfl) :
    ExS prog w K A env nms Xc sh σ (.Assign [.Tuple [.Name n1 p1, .Name n2 p2] c tpos] e pos) P := by
  intro own s Q E eo x hQ
  have f1 : ∀ p ∈ own, p.1 ≠ i := notkey eo (by rw [List.all_eq_true] at hf ⊢; intro p hp; have := hf p hp; simp at this; simp [this])
  have f2 : ∀ p ∈ own, p.1 ≠ j := notkey eo (by rw [List.all_eq_true] at hf ⊢; intro p hp; have := hf p hp; simp at this; simp [this])
  refine Assign_Tuple_swapped (he own eo _ _ x.ste fun v s₁ k₁ w₁ r₁ => ?_) hs hw
  have x₁ := x.kp k₁ w₁
  refine Rd.tuple2E r₁ fun _ _ _ hnx hg a b => ?_
  refine unpackItems_tuple (items := #[_, _]) hh (hg) fun h' hx => ?_
  have hfull := ExtBut.full hx
  have kp : Kp s₁ { s₁ with heap := h' } := Kp.of (Nat.le_refl _) hfull
  have x₂ := x₁.kp kp (w₁.more (Nat.le_refl _) hfull)
  have a₂ := a.kp w₁ kp
  have b₂ := b.kp w₁ kp
  show wpAny _ _ (do holding _ (bindName env n2 _); holding _ (bindName env n1 _); pure ()) _ _ _
  refine wpAny_bind (wpAny_holding (bindName_ (St.store' j x₂ hn2 hk2 f2 b₂ fun s₃ x₃ kf₃ => ?_)))
  refine wpAny_bind (wpAny_holding (bindName_ (St.store' i x₃ hn1 hk1 f1 (a₂.kf x₂.wx kf₃) fun s₄ x₄ kf₄ => ?_)))
  have e2 : (σ.set j (some d2)).set i (some d1) = (σ.set i (some d1)).set j (some d2) := List.set_comm _ _ (Ne.symm hij)
  rw [e2] at x₄
  exact wpAny_pure (hQ _ _ _ hp ⟨rfl, own, eo, x₄, ((Kp.kf (k₁.trans kp)).trans (Fresher.refl _ _) kf₃).trans (Fresher.refl _ _) kf₄, Fresher.refl _ _⟩)
theorem ExS_assign3s (i j l : Nat) {n1 n2 n3 : String} {k1 k2 k3 : NameKind} {p1 p2 p3 tpos pos : Pos} {c : Nat} {e : Expr} {d1 d2 d3 : D} (hn1 : nms[i]? = some (n1, k1)) (hn2 : nms[j]? = some (n2, k2)) (hn3 : nms[l]? = some (n3, k3))
    (hk1 : k1 = .local ∨ k1 = .cell) (hk2 : k2 = .local ∨ k2 = .cell) (hk3 : k3 = .local ∨ k3 = .cell) (hij : i ≠ j) (hil : i ≠ l) (hjl : j ≠ l)
    (hf : (sh.all fun p => p.1 != i && p.1 != j && p.1 != l) = true) (hh : A.handled = none) (he : EvS prog w K A env nms Xc sh σ e (.tuple [d1, d2, d3])) (hp : P (.next sh (((σ.set i (some d1)).set j (some d2)).set l (some d3))))
    (hs : swapsWithSole [.Tuple [.Name n1 p1, .Name n2 p2, .Name n3 p3] c tpos] e pos.line env = pure false := by rfl)
    (hw : swappedStores [.Tuple [.Name n1 p1, .Name n2 p2, .Name n3 p3] c tpos] e env = pure (some [(n1 : Str), (n2 : Str), (n3 : Str)]) := by rfl) :
    ExS prog w K A env nms Xc sh σ (.Assign [.Tuple [.Name n1 p1, .Name n2 p2, .Name n3 p3] c tpos] e pos) P := by
  intro own s Q E eo x hQ
  have f1 : ∀ p ∈ own, p.1 ≠ i := notkey eo (by rw [List.all_eq_true] at hf ⊢; intro p hp; have := hf p hp; simp at this; simp [this])
  have f2 : ∀ p ∈ own, p.1 ≠ j := notkey eo (by rw [List.all_eq_true] at hf ⊢; intro p hp; have := hf p hp; simp at this; simp [this])
  have f3 : ∀ p ∈ own, p.1 ≠ l := notkey eo (by rw [List.all_eq_true] at hf ⊢; intro p hp; have := hf p hp; simp at this; simp [this])
  refine Assign_Tuple_swapped (he own eo _ _ x.ste fun v s₁ k₁ w₁ r₁ => ?_) hs hw
  have x₁ := x.kp k₁ w₁
  refine Rd.tuple3E r₁ fun _ _ _ _ hnx hg a b d => ?_
  refine unpackItems_tuple (items := #[_, _, _]) hh (hg) fun h' hx => ?_
  have hfull := ExtBut.full hx
  have kp : Kp s₁ { s₁ with heap := h' } := Kp.of (Nat.le_refl _) hfull
  have x₂ := x₁.kp kp (w₁.more (Nat.le_refl _) hfull)
  have a₂ := a.kp w₁ kp
  have b₂ := b.kp w₁ kp
  have d₂ := d.kp w₁ kp
  show wpAny _ _ (do holding _ (bindName env n3 _); holding _ (bindName env n2 _); holding _ (bindName env n1 _); pure ()) _ _ _
  refine wpAny_bind (wpAny_holding (bindName_ (St.store' l x₂ hn3 hk3 f3 d₂ fun s₃ x₃ kf₃ => ?_)))
  refine wpAny_bind (wpAny_holding (bindName_ (St.store' j x₃ hn2 hk2 f2 (b₂.kf x₂.wx kf₃) fun s₄ x₄ kf₄ => ?_)))
  have kf₃₄ := kf₃.trans (Fresher.refl _ _) kf₄
  refine wpAny_bind (wpAny_holding (bindName_ (St.store' i x₄ hn1 hk1 f1 (a₂.kf x₂.wx kf₃₄) fun s₅ x₅ kf₅ => ?_)))
  have e2 : ((σ.set l (some d3)).set j (some d2)).set i (some d1) = ((σ.set i (some d1)).set j (some d2)).set l (some d3) := by
    rw [List.set_comm _ _ (Ne.symm hjl), List.set_comm _ _ (Ne.symm hil), List.set_comm _ _ (Ne.symm hij)]
  rw [e2] at x₅
  exact wpAny_pure (hQ _ _ _ hp ⟨rfl, own, eo, x₅, ((Kp.kf (k₁.trans kp)).trans (Fresher.refl _ _) kf₃₄).trans (Fresher.refl _ _) kf₅, Fresher.refl _ _⟩)
noncomputable def intsD (a : Int) (n : Nat) : List D := (List.range n).map fun i => D.int (a + (i : Nat))
theorem IterOn.range {r : Addr} {a b : Int} {t u v : Tok} (hh : A.handled = none) (x : WX K X s) (hr : IsRange s.heap r a b 1 t u v) (ha : -(2 ^ 62) ≤ a) (ha' : a < 2 ^ 62) (hb : -(2 ^ 62) ≤ b) (hb' : b < 2 ^ 62) : IterOn prog w K A X s (.ref r) (intsD a (b - a).toNat) := by
  intro Q E hQ
  refine wpAny_pyIter_range hr (small_one ha ha' hb hb') ?_
  have hsz : Builtin.Range.rangeSize a b 1 = (((b - a).toNat : Nat) : Int) := by rw [rangeSize_one]; split <;> lia
  rw [hsz]
  have hk : ∀ c o, s.heap.get? c = some o → (s.heap.push ({ cls := .type "range_iterator", data := .fields #[rawInt a, rawInt (((b - a).toNat : Nat) : Int), rawInt 1] } : Obj)).get? c = some o := fun c o e => Heap.get?_push_of_some _ e
  have hnone : s.heap.get? s.heap.objs.size = none := by
    cases q : s.heap.get? s.heap.objs.size with
    | none => rfl
    | some o => exact absurd (Heap.lt_size q) (Nat.lt_irrefl _)
  have hfr : ∀ b ∈ [s.heap.objs.size], s.heap.get? b = none := by intro b hb; simp at hb; rw [hb]; exact hnone
  have W := Walks.range (prog := prog) (w := w) hh s.heap.objs.size a 1 (b - a).toNat
  have hlen : (intsD a (b - a).toNat).length = (b - a).toNat := by simp [intsD]
  refine hQ _ [s.heap.objs.size] [s.heap.objs.size] _ _ _ (Kp.of (Nat.le_refl _) hk) (x.join (Nat.le_refl _) hk hfr ?_) (by rw [hlen]; exact W) ?_ hfr ?_ ?_ ?_ (fun i h st => ⟨_, _, st, rfl, by decide +kernel⟩)
  · intro b hb; simp at hb; rw [hb]; exact ⟨_, Heap.get?_push_size _ rfl⟩
  · show IsRangeIter _ _ _ _ _
    simp only [Int.natCast_zero, Int.zero_mul, Int.add_zero, Int.sub_zero]
    exact Heap.get?_push_size _ rfl
  · intro i h hi b hb; simp at hb; rw [hb]; exact ⟨_, hi⟩
  · intro b hb; exact .inl hb
  · rintro i v hi ⟨t, rfl⟩
    rw [hlen] at hi
    refine ⟨.int (a + (i : Nat)), ?_, by rw [Int.mul_one]; exact .int _ _⟩
    unfold intsD
    rw [List.getElem?_map, List.getElem?_range hi]; rfl
theorem EvIt_range1 {fe e : Expr} {pos : Pos} {b : Int} (hh : A.handled = none) (hf : Ev prog w K A env nms X σ fe (.val (.type "range"))) (h : Ev prog w K A env nms X σ e (.int b)) (hb : -(2 ^ 62) ≤ b) (hb' : b < 2 ^ 62)
    (hst : starEach [e] env = [(false, eval e env)] := by rfl)
    (he : eval (.Call fe [e] [] pos) env = (do callWith pos (← eval fe env) [] (backTo pos (starEach [e] env)) (backToKw pos (keywordEach [] env))) := by rfl) : EvIt prog w K A env nms X σ (.Call fe [e] [] pos) (intsD 0 b.toNat) := by
  intro s Q E st hQ
  refine Call_ (hf _ _ st fun v s₁ k₁ w₁ r₁ => ?_) he
  refine Rd.valE r₁ ?_
  have ha : EvAll prog w K A env nms X σ [e] [.int b] := .cons hst h .nil
  refine PyProof.Rows.callWith_type (ha.plain pos) (ha.args _ pos s₁ _ _ (st.kp k₁ w₁) fun vs s₂ k₂ w₂ r₂ => ?_)
  refine RdAll.E1 r₂ fun _ q => ?_; refine Rd.intE q fun t => ?_
  refine call_range_1 ?_
  have hk : ∀ c o, s₂.heap.get? c = some o → (s₂.heap.push ({ cls := .type "range", data := .fields #[.int 0 s₂.toks, .int b t, .int 1 (s₂.toks + 1)] } : Obj)).get? c = some o := fun c o e => Heap.get?_push_of_some _ e
  have w₃ := w₂.more (tk := s₂.toks + 1 + 1) (Nat.le_add_right _ 2) hk
  refine hQ _ _ ((k₁.trans k₂).trans (Kp.of (Nat.le_add_right _ 2) hk)) w₃ ?_
  have := IterOn.range hh w₃ (IsRange.new s₂.heap 0 b 1 s₂.toks t (s₂.toks + 1)) (by lia) (by lia) hb hb'
  simpa using this
theorem EvIt_range2 {fe e1 e2 : Expr} {pos : Pos} {a b : Int} (hh : A.handled = none) (hf : Ev prog w K A env nms X σ fe (.val (.type "range"))) (h1 : Ev prog w K A env nms X σ e1 (.int a)) (h2 : Ev prog w K A env nms X σ e2 (.int b)) (ha : -(2 ^ 62) ≤ a) (ha' : a < 2 ^ 62) (hb : -(2 ^ 62) ≤ b) (hb' : b < 2 ^ 62)
    (hst : starEach [e1, e2] env = [(false, eval e1 env), (false, eval e2 env)] := by rfl) (hst2 : starEach [e2] env = [(false, eval e2 env)] := by rfl)
    (he : eval (.Call fe [e1, e2] [] pos) env = (do callWith pos (← eval fe env) [] (backTo pos (starEach [e1, e2] env)) (backToKw pos (keywordEach [] env))) := by rfl) : EvIt prog w K A env nms X σ (.Call fe [e1, e2] [] pos) (intsD a (b - a).toNat) := by
  intro s Q E st hQ
  refine Call_ (hf _ _ st fun v s₁ k₁ w₁ r₁ => ?_) he
  refine Rd.valE r₁ ?_
  have ha' : EvAll prog w K A env nms X σ [e1, e2] [.int a, .int b] := .cons (by rw [hst, hst2]) h1 (.cons hst2 h2 .nil)
  refine PyProof.Rows.callWith_type (ha'.plain pos) (ha'.args _ pos s₁ _ _ (st.kp k₁ w₁) fun vs s₂ k₂ w₂ r₂ => ?_)
  refine RdAll.E2 r₂ fun _ _ q q2 => ?_; refine Rd.intE q fun t => ?_; refine Rd.intE q2 fun u => ?_
  refine call_range_2 ?_
  have hk : ∀ c o, s₂.heap.get? c = some o → (s₂.heap.push ({ cls := .type "range", data := .fields #[.int a t, .int b u, .int 1 s₂.toks] } : Obj)).get? c = some o := fun c o e => Heap.get?_push_of_some _ e
  have w₃ := w₂.more (tk := s₂.toks + 1) (Nat.le_add_right _ 1) hk
  refine hQ _ _ ((k₁.trans k₂).trans (Kp.of (Nat.le_add_right _ 1) hk)) w₃ ?_
  exact IterOn.range hh w₃ (IsRange.new s₂.heap a b 1 t u s₂.toks) ha (by assumption) hb hb'
end
end Mine
end
-- Ops7
section
open PySem PySem.W PySem.Calls PyProof.Rows PySem.Builtin PySem.Builtin.Str PySem.SeqAt
namespace Mine
section
variable {K : Frag} {A : Around} {env : Env} {nms : Nms} {X : Addr → Prop} {σ : List (Option D)}
theorem EvB_or3 {a b c : Expr} {pos : Pos} {x y z : Bool} (ha : EvB prog w K A env nms X σ a x) (hb : x = false → EvB prog w K A env nms X σ b y) (hc : x = false → y = false → EvB prog w K A env nms X σ c z) : EvB prog w K A env nms X σ (.BoolOp .Or [a, b, c] pos) (x || y || z) := by
  intro s Q E st hQ
  show wpAny _ _ (do match BoolOp.Or, ← isTrue a env (eval a env) with
    | .And, false => pure false
    | .Or, true => pure true
    | _, _ => (do match BoolOp.Or, ← isTrue b env (eval b env) with
      | .And, false => pure false
      | .Or, true => pure true
      | _, _ => (do match BoolOp.Or, ← isTrue c env (eval c env) with
        | .And, false => pure false
        | .Or, true => pure true
        | _, _ => pure (BoolOp.Or == BoolOp.And)))) _ _ _
  refine wpAny_bind (ha _ _ st fun s₁ k₁ w₁ => ?_)
  cases x with
  | true => exact wpAny_pure (hQ s₁ k₁ w₁)
  | false =>
    refine wpAny_bind (hb rfl _ _ (st.kp k₁ w₁) fun s₂ k₂ w₂ => ?_)
    cases y with
    | true => exact wpAny_pure (hQ s₂ (k₁.trans k₂) w₂)
    | false =>
      refine wpAny_bind (hc rfl rfl _ _ (st.kp (k₁.trans k₂) w₂) fun s₃ k₃ w₃ => ?_)
      cases z <;> exact wpAny_pure (hQ s₃ ((k₁.trans k₂).trans k₃) w₃)
theorem Op_inSS {x y : List Nat} : Op2 prog w K A X (compareOp .In) (.str y) (.str x) (.bool (Txt.contains (S x) (S y))) := by
  intro s va vb Q E q ra rb hQ; refine Rd.strE ra fun t => ?_; refine Rd.strE rb fun u => ?_
  exact PyProof.Rows.in_str (Post.here hQ q (.bool _))
theorem Op_notInSS {x y : List Nat} : Op2 prog w K A X (compareOp .NotIn) (.str y) (.str x) (.bool (!Txt.contains (S x) (S y))) := by
  intro s va vb Q E q ra rb hQ; refine Rd.strE ra fun t => ?_; refine Rd.strE rb fun u => ?_
  exact PyProof.Rows.notIn_str (Post.here hQ q (.bool _))
theorem Op_abs {a : Int} : OpN prog w K A X (fun vs => call (.builtin "abs") vs) [.int a] (.int (if a < 0 then -a else a)) := by
  intro s vs Q E q r hQ
  refine RdAll.E1 r fun _ a => ?_; refine Rd.intE a fun t => ?_
  exact wpAny_with_toks (Nat.le_refl _) (call_abs_int fun u tk l => Post.tk hQ q (.int _ _) l)
theorem Op_min2 {a b : Int} (hh : A.handled = none) : OpN prog w K A X (fun vs => call (.builtin "min") vs) [.int a, .int b] (.int (if b < a then b else a)) := by
  intro s vs Q E q r hQ
  refine RdAll.E2 r fun _ _ a b => ?_; refine Rd.intE a fun t => ?_; refine Rd.intE b fun u => ?_
  refine wpAny_with_toks (Nat.le_refl _) (min_two_ints hh fun h' tk hk l => ?_)
  refine Post.at hQ q l hk ?_
  split <;> exact .int _ _
theorem ints_of {h : Heap} : ∀ {vs : List Value} {is : List Int}, RdAll X h vs (is.map .int) → ∃ xs : List (Int × Tok), xs.map (·.1) = is ∧ vs = xs.map fun p => Value.int p.1 p.2 := by
  intro vs
  induction vs with
  | nil => intro is r; have := r.length; cases is with
    | nil => exact ⟨[], rfl, rfl⟩
    | cons _ _ => simp at this
  | cons v vs ih => intro is r; cases is with
    | nil => have := r.length; simp at this
    | cons i is =>
      rw [List.map_cons] at r
      cases r with | cons a r =>
      refine ex1E (ih r) fun xs zz3 => and2E zz3 fun h1 h2 => ?_
      refine Rd.intE a fun t => ?_; exact ⟨(i, t) :: xs, by simp [h1], by simp [h2]⟩
theorem intItems_of {h : Heap} {l : Addr} {xs : List (Int × Tok)} (hg : h.IsList l (xs.map fun p => Value.int p.1 p.2).toArray) : h.IsList l (intItems xs.toArray) := by simpa [intItems] using hg
theorem sum_bd1 {a s : Int} {n : Nat} (h1 : -1000000000 ≤ a ∧ a ≤ 1000000000) (h2 : -(1000000000 * (n : Int)) ≤ s ∧ s ≤ 1000000000 * (n : Int)) : -(1000000000 * ((n + 1 : Nat) : Int)) ≤ a + s ∧ a + s ≤ 1000000000 * ((n + 1 : Nat) : Int) := by lia
theorem sum_bd (l : List Int) (h : ∀ i ∈ l, -1000000000 ≤ i ∧ i ≤ 1000000000) : -(1000000000 * (l.length : Int)) ≤ l.sum ∧ l.sum ≤ 1000000000 * (l.length : Int) := by
  induction l with
  | nil => exact ⟨Int.le_refl 0, Int.le_refl 0⟩
  | cons a l ih =>
    have h1 := h a (.head _)
    have h2 := ih fun i hi => h i (.tail _ hi)
    rw [List.sum_cons, List.length_cons]
    exact sum_bd1 h1 h2
theorem Op_sum {is : List Int} (hh : A.handled = none) (hlen : is.length ≤ 1000) (hb : ∀ i ∈ is, -1000000000 ≤ i ∧ i ≤ 1000000000) : OpN prog w K A X (fun vs => call (.builtin "sum") vs) [.list (is.map .int)] (.int is.sum) := by
  intro s vs Q E q r hQ
  refine RdAll.E1 r fun _ a => ?_; refine Rd.listE a fun _ _ hn hg r => ?_
  refine ex1E (ints_of r) fun xs zz2 => and2E zz2 fun h1 zz1 => ?_; subst zz1
  have hl := intItems_of hg
  have hlen' : xs.length = is.length := by rw [← h1, List.length_map]
  have hnum : ∀ j, j < is.length → numAt xs.toArray j = is[j]?.getD 0 := by
    intro j hj
    have e := congrArg (fun l : List Int => l[j]?) h1
    simp only [List.getElem?_map] at e
    rw [← e]
    simp only [numAt]
    rw [Array.getElem?_eq_getElem (by rw [List.size_toArray, hlen']; exact hj), List.getElem?_eq_getElem (hlen' ▸ hj)]
    simp
  have hpre : ∀ j, j ≤ is.length → preSum (numAt xs.toArray) j = (is.take j).sum := by
    intro j
    induction j with
    | zero => intro _; simp [preSum]
    | succ j ih =>
      intro hj
      rw [preSum, ih (Nat.le_of_succ_le hj), hnum j hj, List.take_add_one, List.sum_append, List.getElem?_eq_getElem hj]
      simp
  refine wpAny_with_toks (Nat.le_refl _) (sum_intList hh hl (fun j hj => ?_) fun h' tk t' hk l => ?_)
  · have hj' : j < is.length := by simpa [hlen'] using hj
    rw [hnum j hj', hpre (j + 1) hj']
    have hm : is[j]?.getD 0 ∈ is := by rw [List.getElem?_eq_getElem hj']; exact List.getElem_mem hj'
    have b1 := hb _ hm
    have b2 := sum_bd (is.take (j + 1)) fun i hi => hb i (List.mem_of_mem_take hi)
    have b3 : ((is.take (j + 1)).length : Int) ≤ 1000 := by rw [List.length_take]; lia
    unfold InLong
    lia
  · have e : preSum (numAt xs.toArray) xs.toArray.size = is.sum := by
      rw [hpre _ (by simp [hlen'])]
      simp [← hlen']
      rw [List.take_of_length_le (Nat.le_of_eq hlen'.symm)]
    rw [e]
    exact Post.at hQ q l hk (.int _ _)
end
end Mine
end
-- SlP
section
open PySem PySem.W PySem.Calls PyProof.Rows PySem.Builtin PySem.Builtin.Str
namespace Mine
section
variable {α : Type}
theorem toNat_max (x : Int) : (max 0 x).toNat = x.toNat := by
  rcases Int.le_total 0 x with h | h
  · rw [Int.max_eq_right h]
  · rw [Int.max_eq_left h, Int.toNat_of_nonpos h]; rfl
theorem clip_nat (n i : Nat) : clipAt n (i : Int) = min i n := by
  unfold clipAt
  rw [if_neg (Int.not_lt.mpr (Int.natCast_nonneg i)), toNat_max]
  rcases Nat.le_total i n with h | h
  · rw [Int.min_eq_left (Int.ofNat_le.mpr h), Nat.min_eq_left h]; rfl
  · rw [Int.min_eq_right (Int.ofNat_le.mpr h), Nat.min_eq_right h]; rfl
theorem clip_neg (n j : Nat) (hj : 0 < j) : clipAt n (-(j : Int)) = n - j := by
  have h : -(j : Int) < 0 := Int.neg_neg_of_pos (Int.natCast_pos.mpr hj)
  unfold clipAt
  rw [if_pos h, toNat_max, Int.min_eq_left (Int.add_le_of_le_sub_right (by rw [Int.sub_self]; exact Int.le_of_lt h)), Int.add_comm, ← Int.sub_eq_add_neg, Int.toNat_sub]
theorem sl_nx (l : List α) (i : Nat) : sl l (some (i : Int)) none = l.drop i := by
  unfold sl; simp only [Option.elim, clip_nat]
  rw [List.take_of_length_le (Nat.le_of_eq List.length_drop)]
  rcases Nat.le_total i l.length with h | h
  · rw [Nat.min_eq_left h]
  · rw [Nat.min_eq_right h, List.drop_length, List.drop_of_length_le h]
theorem take_min (l : List α) (i j : Nat) : (l.drop i).take (min j l.length - i) = (l.drop i).take (j - i) := by
  rcases Nat.le_total j l.length with h | h
  · rw [Nat.min_eq_left h]
  · rw [Nat.min_eq_right h, List.take_of_length_le (Nat.le_of_eq List.length_drop), List.take_of_length_le (by rw [List.length_drop]; exact Nat.sub_le_sub_right h i)]
theorem drop_min (l : List α) (i j : Nat) : (l.drop (min i l.length)).take (j - min i l.length) = (l.drop i).take (j - i) := by
  rcases Nat.le_total i l.length with h | h
  · rw [Nat.min_eq_left h]
  · rw [Nat.min_eq_right h, List.drop_length, List.drop_of_length_le h, List.take_nil, List.take_nil]
theorem sl_nn (l : List α) (i j : Nat) : sl l (some (i : Int)) (some (j : Int)) = (l.drop i).take (j - i) := by
  unfold sl; simp only [Option.elim, clip_nat]
  rw [drop_min, take_min]
theorem sl_xn (l : List α) (j : Nat) : sl l none (some (j : Int)) = l.take j := by
  unfold sl; simp only [Option.elim, clip_nat]
  exact take_min l 0 j
theorem sl_xm (l : List α) (j : Nat) (hj : 0 < j) : sl l none (some (-(j : Int))) = l.take (l.length - j) := by
  unfold sl; simp only [Option.elim, clip_neg _ _ hj]; rfl
theorem sl_mx (l : List α) (j : Nat) (hj : 0 < j) : sl l (some (-(j : Int))) none = l.drop (l.length - j) := by
  unfold sl; simp only [Option.elim, clip_neg _ _ hj]
  rw [List.take_of_length_le (Nat.le_of_eq List.length_drop)]
theorem sl_nm (l : List α) (i j : Nat) (hj : 0 < j) : sl l (some (i : Int)) (some (-(j : Int))) = (l.drop i).take (l.length - j - i) := by
  unfold sl; simp only [Option.elim, clip_neg _ _ hj, clip_nat]
  exact drop_min l i (l.length - j)
theorem sl_at (a b : List α) {i j : Int} (m k : Nat) (hi : i = (a.length : Int) + m) (hj : j = (a.length : Int) + m + k) : sl (a ++ b) (some i) (some j) = (b.drop m).take k := by
  have e1 : i = ((a.length + m : Nat) : Int) := hi
  have e2 : j = ((a.length + m + k : Nat) : Int) := hj
  rw [e1, e2, sl_nn, Nat.add_sub_cancel_left, List.drop_length_add_append]
end
theorem le_lit {a m n : Nat} (h : a ≤ m) (q : m ≤ n) : a ≤ n := Nat.le_trans h q
theorem len_app {α : Type} {a b : List α} {m n : Nat} (h1 : a.length ≤ m) (h2 : b.length ≤ n) : (a ++ b).length ≤ m + n := by
  rw [List.length_append]; exact Nat.add_le_add h1 h2
theorem sl_le {α : Type} {l : List α} {lo hi : Option Int} {m : Nat} (h : l.length ≤ m) : (sl l lo hi).length ≤ m := Nat.le_trans (sl_length_le l lo hi) h
theorem len_map {α β : Type} {l : List α} {f : α → β} {m : Nat} (h : l.length ≤ m) : (l.map f).length ≤ m := by rw [List.length_map]; exact h
theorem ilt {k m n : Int} (h : k < m) (q : decide (m ≤ n) = true) : k < n := Int.lt_of_lt_of_le h (of_decide_eq_true q)
end Mine
end
-- LawO
section
open PySem PySem.W PySem.Calls PyProof.Rows PySem.Builtin PySem.Builtin.Str
namespace Mine
noncomputable def stepIdx (n : Nat) (lo hi st : Option Int) : List Nat := sliceRange (sliceBounds lo hi st n).1 (sliceBounds lo hi st n).2.1 (sliceBounds lo hi st n).2.2
noncomputable def stepL {α : Type} (l : List α) (lo hi st : Option Int) : List α := (stepIdx l.length lo hi st).filterMap (l[·]?)
theorem stepL_map {α β : Type} (f : α → β) (l : List α) (lo hi st : Option Int) : stepL (l.map f) lo hi st = (stepL l lo hi st).map f := by
  unfold stepL
  rw [List.length_map, List.map_filterMap]
  congr 1
  funext i
  rw [List.getElem?_map]
theorem stepL_mem {α : Type} {l : List α} {lo hi st : Option Int} {x : α} (h : x ∈ stepL l lo hi st) : x ∈ l := by
  unfold stepL at h
  refine ex1E (List.mem_filterMap.mp h) fun i zz2 => and2E zz2 fun _ hi => ?_
  exact List.mem_of_getElem? hi
theorem stepL_len {α : Type} (l : List α) (lo hi st : Option Int) : (stepL l lo hi st).length ≤ l.length := by
  have h := slicePick_size_le (l.map fun _ => Value.none).toArray lo hi st
  unfold slicePick at h
  rw [List.size_toArray, List.size_toArray, List.length_map] at h
  unfold stepL stepIdx
  refine Nat.le_trans (Nat.le_of_eq ?_) h
  generalize sliceRange _ _ _ = idx
  simp only [List.getElem?_toArray, List.getElem?_map]
  induction idx with
  | nil => rfl
  | cons i r ih =>
    rw [List.filterMap_cons, List.filterMap_cons]
    cases l[i]? with
    | none => exact ih
    | some x => exact congrArg (· + 1) ih
section
variable {X : Addr → Prop} {h : Heap}
theorem RdAll.pick {vs : List Value} {ds : List D} (r : RdAll X h vs ds) (idx : List Nat) : RdAll X h (idx.filterMap (vs[·]?)) (idx.filterMap (ds[·]?)) := by
  induction idx with
  | nil => exact .nil
  | cons i idx ih =>
    rw [List.filterMap_cons, List.filterMap_cons]
    cases hv : vs[i]? with
    | some v =>
      refine ex1E (r.get' hv) fun d zz1 => and2E zz1 fun hd rd => ?_
      rw [hd]
      exact .cons rd ih
    | none =>
      have : ds[i]? = none := by
        rw [List.getElem?_eq_none_iff] at hv ⊢
        rw [← r.length]; exact hv
      rw [this]
      exact ih
end
section
variable {K : Frag} {A : Around} {env : Env} {nms : Nms} {X : Addr → Prop} {σ : List (Option D)}
theorem Ev_sliceStep {v se : Expr} {lo hi : Option Expr} {p pos : Pos} {ds : List D} {l u c : Option Int} (hv : Ev prog w K A env nms X σ v (.list ds)) (hl : EvPart prog w K A env nms X σ lo l) (hu : EvPart prog w K A env nms X σ hi u) (hc : EvPart prog w K A env nms X σ (some se) c) (h0 : c ≠ some 0) (hsz : ds.length ≤ sizeLine) :
    Ev prog w K A env nms X σ (.Subscript v (.Slice lo hi (some se) p) pos) (.list (stepL ds l u c)) := by
  intro s Q E ste hQ
  refine Subscript_ (hv _ _ ste fun vo s₁ k₁ w₁ r₁ => wpAny_Slice (hl.use s₁ _ _ (ste.kp k₁ w₁) fun pl s₂ hpl k₂ w₂ => hu.use s₂ _ _ (ste.kp (k₁.trans k₂) w₂) fun pu s₃ hpu k₃ w₃ => hc.use s₃ _ _ (ste.kp ((k₁.trans k₂).trans k₃) w₃) fun pc s₄ hpc k₄ w₄ => ?_))
  have r₄ := r₁.kp w₁ ((k₂.trans k₃).trans k₄)
  refine Rd.listE r₄ fun _ _ hn hg r => ?_
  rename_i a vs
  have hk : ∀ b o, s₄.heap.get? b = some o → (s₄.heap.push ({ cls := .type "slice", data := .fields #[partValue pl, partValue pu, partValue pc] } : Obj)).get? b = some o := fun b o e => Heap.get?_push_of_some _ e
  have hg' := hg.push ({ cls := .type "slice", data := .fields #[partValue pl, partValue pu, partValue pc] } : Obj)
  refine tail_any (T := "list") (s := { s₄ with heap := s₄.heap.push ({ cls := .type "slice", data := .fields #[partValue pl, partValue pu, partValue pc] } : Obj) }) hg'.typeIs PySem.F.slot_list_getitem.lookup ?_ rfl
  have part : ∀ (q : Option (Int × Tok)) (z : Option Int), q.map (·.1) = z → IsPart (partValue q) z := by
    intro q z e; subst e
    cases q with
    | none => exact .none
    | some q => exact .int _ _
  refine wpAny_getItem_list_slice hg' (Heap.IsSliceOf.new ..) (part _ _ hpl) (part _ _ hpu) (part _ _ hpc) h0 ?_ (by rw [List.size_toArray, r.length]; exact hsz)
  have hk2 : ∀ b o, s₄.heap.get? b = some o → ((s₄.heap.push ({ cls := .type "slice", data := .fields #[partValue pl, partValue pu, partValue pc] } : Obj)).push ({ cls := .type "list", data := .seq (slicePick vs.toArray l u c) } : Obj)).get? b = some o := fun b o e => Heap.get?_push_of_some _ (hk _ _ e)
  refine hQ _ _ ((((k₁.trans k₂).trans k₃).trans k₄).trans (Kp.of (Nat.le_refl _) hk2)) (w₄.more (Nat.le_refl _) hk2) ?_
  have e : slicePick vs.toArray l u c = (stepL vs l u c).toArray := by
    unfold slicePick stepL stepIdx
    rw [List.size_toArray]
    simp only [List.getElem?_toArray]
  rw [e] at hk2 ⊢
  refine .list (vs := stepL vs l u c) (w₄.fresh ?_) ?_ ?_
  · rw [Heap.size_push]
    cases q : s₄.heap.get? (s₄.heap.objs.size + 1) with
    | none => rfl
    | some o => exact absurd (Heap.lt_size q) (Nat.not_lt.mpr (Nat.le_succ _))
  · have := Heap.get?_push_size (s₄.heap.push ({ cls := .type "slice", data := .fields #[partValue pl, partValue pu, partValue pc] } : Obj)) (o := ({ cls := .type "list", data := .seq (stepL vs l u c).toArray } : Obj)) rfl
    exact ⟨({ cls := .type "list", data := .seq (stepL vs l u c).toArray } : Obj), this, rfl, 0, rfl⟩
  · have p := (r.mono (X' := X) (fun _ q => .inl q) fun _ _ _ e => hk2 _ _ e).pick (stepIdx ds.length l u c)
    rw [show stepIdx ds.length l u c = stepIdx vs.length l u c by rw [r.length]] at p
    have q : (stepIdx vs.length l u c).filterMap (ds[·]?) = stepL ds l u c := by unfold stepL; rw [r.length]
    rw [q] at p
    exact p
end
end Mine
end
-- Ops8
section
open PySem PySem.W PySem.Calls PyProof.Rows PySem.Builtin PySem.Builtin.Str PySem.SeqAt
namespace Mine
section
variable {K : Frag} {A : Around} {env : Env} {nms : Nms} {X : Addr → Prop} {σ : List (Option D)}
theorem Op_isnot_sv {y : List Nat} {a : Addr} : Op2 prog w K A X (compareOp .IsNot) (.str y) (.val (.ref a)) (.bool true) := by
  intro s va vb Q E q ra rb hQ
  refine Rd.valE rb ?_
  refine Rd.strE ra fun t => ?_
  exact wpAny_bind (wpAny_pure (wpAny_pure (Post.here hQ q (.bool true))))
theorem isSame_ref {M : Model} {E : Value → Shared → Prop} {Q : Bool → Shared → Prop} {s : Shared} (a : Addr) (h : Q true s) : wpAny M A (isSame (.ref a) (.ref a)) Q E s := by
  show wpAny M A (if (a == a) = true then pure true else _) Q E s
  rw [if_pos (beq_self_eq_true a)]
  exact wpAny_pure h
theorem Op_isnot_vv {a : Addr} : Op2 prog w K A X (compareOp .IsNot) (.val (.ref a)) (.val (.ref a)) (.bool false) := by
  intro s va vb Q E q ra rb hQ
  refine Rd.valE ra ?_
  refine Rd.valE rb ?_
  exact wpAny_bind (isSame_ref a (wpAny_pure (Post.here hQ q (.bool false))))
theorem Op_is_vv {a : Addr} : Op2 prog w K A X (compareOp .Is) (.val (.ref a)) (.val (.ref a)) (.bool true) := by
  intro s va vb Q E q ra rb hQ
  refine Rd.valE ra ?_
  refine Rd.valE rb ?_
  exact wpAny_bind (isSame_ref a (wpAny_pure (Post.here hQ q (.bool true))))
theorem split_at {M : Model} {s : Shared} {x y : Str} {t u : Tok} {Q : Value → Shared → Prop} {E : Value → Shared → Prop} (hy : (y.length == 0) = false)
    (h : ∀ (l : List (Str × Tok)) k, l.map (·.1) = Txt.split x y → Q (.ref s.heap.objs.size) { s with heap := s.heap.push ({ cls := .type "list", data := .seq (strValues l).toArray } : Obj), toks := k })
    (h1 : x.length ≤ sizeLine) (h2 : (partsBetween x (occurrences x y 0 x.length (x.length + 1)) y.length).length ≤ sizeLine) :
    wpAny (model prog w) A (call (.builtin "str.split") [.str x t, .str y u]) Q E s := by
  by_cases c1 : (decide (x.length < y.length) || decide (strKind x < strKind y)) = true
  · refine call_meets F.slot_str_split (typeIs_str _ _ _) F.entry_str_split (F.args_str_split_2 _ _) (meets_str_split_cannot_occur x y t u c1) ?_
    exact h [(x, t)] s.toks (by unfold Txt.split; rw [if_pos c1]; rfl)
  · have c1' := eq_false_of_ne_true c1
    by_cases c2 : (occurrences x y 0 x.length (x.length + 1)).isEmpty = true
    · refine call_meets F.slot_str_split (typeIs_str _ _ _) F.entry_str_split (F.args_str_split_2 _ _) (meets_str_split_not_found x y t u c1' hy c2) ?_
      exact h [(x, t)] s.toks (by unfold Txt.split; rw [if_neg c1, if_pos c2]; rfl)
    · refine call_meets F.slot_str_split (typeIs_str _ _ _) F.entry_str_split (F.args_str_split_2 _ _) (meets_str_split_sep x y t u c1' hy (eq_false_of_ne_true c2) h1 h2) ?_
      have := h (numbered s.toks (partsBetween x (occurrences x y 0 x.length (x.length + 1)) y.length)) (s.toks + (partsBetween x (occurrences x y 0 x.length (x.length + 1)) y.length).length) (by unfold Txt.split; rw [if_neg c1, if_neg c2]; exact numbered_texts _ _)
      rw [← strsFrom_eq] at this
      exact this
noncomputable def splitL (x y : List Nat) : List (List Nat) := (Txt.split (S x) (S y)).map fun z => z.cps.toList
theorem rd_strValues {h : Heap} (l : List (Str × Tok)) : RdAll X h (strValues l) ((l.map (·.1)).map fun z => D.str z.cps.toList) := by
  induction l with
  | nil => exact .nil
  | cons p l ih => exact .cons (Rd.ofStr p.1 p.2) ih
theorem Op_split {x y : List Nat} (hy : y.isEmpty = false) (h1 : x.length ≤ sizeLine) (h2 : (partsBetween (S x) (occurrences (S x) (S y) 0 (S x).length ((S x).length + 1)) (S y).length).length ≤ sizeLine) :
    OpN prog w K A X (fun vs => call (.builtin "str.split") vs) [.str x, .str y] (.list ((splitL x y).map .str)) := by
  intro s vs Q E q r hQ
  refine RdAll.E2 r fun _ _ a b => ?_; refine Rd.strE a fun t => ?_; refine Rd.strE b fun u => ?_
  refine wpAny_with_toks (Nat.le_refl _) (split_at (M := model prog w) ?_ (fun l k hl => ?_) (by rw [S_length]; exact h1) h2)
  · rw [S_length]; cases y with
    | nil => cases hy
    | cons _ _ => rfl
  · intro lk
    have e : (splitL x y).map D.str = (l.map (·.1)).map fun z => D.str z.cps.toList := by unfold splitL; rw [hl, List.map_map]; rfl
    rw [e] at hQ
    exact Post.at hQ q lk (fun b o e => Heap.get?_push_of_some _ e) (.list q.fresh_size ⟨_, Heap.get?_push_size _ rfl, rfl, _, rfl⟩ (rd_strValues l))
theorem mul_one {c : Nat} {n : Nat} : (Txt.mul (S [c]) (n : Int)).cps.toList = List.replicate n c := by
  unfold Txt.mul
  by_cases h : (n : Int) < 1
  · rw [if_pos h]; have : n = 0 := by lia
    subst this; rfl
  · rw [if_neg h]
    by_cases h1 : ((n : Int) == 1 || (S [c]).length == 0) = true
    · rw [if_pos h1]
      have : n = 1 := by simp [S, Str.length] at h1; lia
      subst this; rfl
    · rw [if_neg h1]
      have key : ∀ (m : Nat) (acc : Array Nat), ((List.replicate m (S [c]).cps).foldl (· ++ ·) acc).toList = acc.toList ++ List.replicate m c := by
        intro m
        induction m with
        | zero => intro acc; simp
        | succ m ih => intro acc; rw [List.replicate_succ, List.foldl_cons, ih, List.replicate_succ]; simp [S]
      show ((List.replicate ((n : Int)).toNat (S [c]).cps).foldl (· ++ ·) #[]).toList = _
      rw [key]; simp
theorem Op_mulS {c n : Nat} (hn : n ≤ 1000000) : Op2 prog w K A X (binaryOp .Mult) (.str [c]) (.int (n : Int)) (.str (List.replicate n c)) := by
  intro s va vb Q E q ra rb hQ
  refine Rd.strE ra fun t => ?_; refine Rd.intE rb fun u => ?_
  refine wpAny_with_toks (Nat.le_refl _) (SB.mul ⟨?_, fun h1 h2 => ?_, fun h1 h2 => ?_⟩ fun t' k lk => ?_)
  · simp; lia
  · have : 0 < (n : Int) := by lia
    rw [S_length]
    simp only [List.length_cons, List.length_nil]
    intro h
    have h3 := Int.lt_of_lt_of_le (Int.lt_of_lt_of_le (Int.lt_succ _) h) (by decide : ((0 + 1 : Nat) : Int) ≤ 1)
    have h4 : (2 ^ 63 - 1 : Int) / (n : Int) ≥ 1 := by
      apply Int.le_ediv_of_mul_le this; lia
    lia
  · rw [S_length]; unfold tooLong; rw [sizeLine_eq]; simp; lia
  · have r : Rd X s.heap (Value.str (Txt.mul (S [c]) n) t') (.str (List.replicate n c)) := by
      rw [← mul_one]; exact Rd.ofStr _ _
    exact Post.tk hQ q r lk
end
end Mine
end
-- Esc
section
open PySem PySem.W PySem.Calls PyProof.Rows PySem.Builtin PySem.Builtin.Str
namespace Mine
noncomputable def sig : List Nat := [97, 34, 98, 46, 42, 91, 32, 111, 107, 50, 53, 55, 47, 100]
noncomputable def esc1 (c : Nat) : List Nat := if c = 42 then [91, 42, 93] else if c = 91 then [91, 92, 91, 93] else if c = 46 then [92, 46] else if c = 32 then [92, 32] else [c]
noncomputable def esc (x : List Nat) : List Nat := x.flatMap esc1
theorem esc_nil : esc [] = [] := rfl
theorem esc_cons (c : Nat) (x : List Nat) : esc (c :: x) = esc1 c ++ esc x := rfl
theorem esc_append (x y : List Nat) : esc (x ++ y) = esc x ++ esc y := List.flatMap_append
theorem esc1_pos (c : Nat) : 0 < (esc1 c).length := by unfold esc1; split <;> (try split) <;> (try split) <;> (try split) <;> simp
theorem esc1_le (c : Nat) : (esc1 c).length ≤ 4 := by unfold esc1; split <;> (try split) <;> (try split) <;> (try split) <;> simp
theorem esc_le (x : List Nat) : (esc x).length ≤ 4 * x.length := by
  induction x with
  | nil => simp [esc]
  | cons c x ih => rw [esc_cons, List.length_append, List.length_cons]; have := esc1_le c; lia
theorem esc_ge (x : List Nat) : x.length ≤ (esc x).length := by
  induction x with
  | nil => simp
  | cons c x ih => rw [esc_cons, List.length_append, List.length_cons]; have := esc1_pos c; lia
end Mine
end
-- Stm4
section
open PySem PySem.W PySem.Calls PyProof.Rows PySem.Builtin PySem.Builtin.Str
namespace Mine
section
variable {K : Frag} {A : Around} {env : Env} {nms : Nms} {X Xc : Addr → Prop} {own : Own} {sh : Own} {σ : List (Option D)} {P : Out → Prop} {s s' : Shared}
theorem ExS_assign2own (i j : Nat) {n1 n2 : String} {k1 k2 : NameKind} {p1 p2 tpos pos lp ep : Pos} {c c' : Nat} {e1 : Expr} {d1 : D} (hn1 : nms[i]? = some (n1, k1)) (hn2 : nms[j]? = some (n2, k2)) (hk1 : k1 = .local ∨ k1 = .cell) (hk2 : k2 = .local ∨ k2 = .cell) (hij : i ≠ j)
    (hf : (sh.all fun p => p.1 != i && p.1 != j) = true) (hh : A.handled = none) (he1 : EvS prog w K A env nms Xc sh σ e1 d1) (hfl : flat d1 = true) (hp : ∀ a, P (.next ((j, a, []) :: sh) ((σ.set j none).set i (some d1))))
    (hst : starEach [e1, .List [] lp] env = (false, eval e1 env) :: starEach [.List [] lp] env := by rfl)
    (hs : swapsWithSole [.Tuple [.Name n1 p1, .Name n2 p2] c tpos] (.Tuple [e1, .List [] lp] c' ep) pos.line env = pure false := by rfl)
    (hw : swappedStores [.Tuple [.Name n1 p1, .Name n2 p2] c tpos] (.Tuple [e1, .List [] lp] c' ep) env = pure (some [(n1 : Str), (n2 : Str)]) := by rfl) :
    ExS prog w K A env nms Xc sh σ (.Assign [.Tuple [.Name n1 p1, .Name n2 p2] c tpos] (.Tuple [e1, .List [] lp] c' ep) pos) P := by
  intro own s Q E eo x hQ
  have f1 : ∀ p ∈ own, p.1 ≠ i := notkey eo (by rw [List.all_eq_true] at hf ⊢; intro p hp; have := hf p hp; simp at this; simp [this])
  have f2 : ∀ p ∈ own, p.1 ≠ j := notkey eo (by rw [List.all_eq_true] at hf ⊢; intro p hp; have := hf p hp; simp at this; simp [this])
  refine Assign_Tuple_swapped (Tuple_ ?_) hs hw
  rw [hst]
  refine spliced_cons (he1 own eo _ _ x.ste fun v s₁ k₁ w₁ r₁ => ?_)
  have x₁ := x.kp k₁ w₁
  rw [show starEach [.List [] lp] env = (false, eval (.List [] lp) env) :: starEach [] env from rfl]
  refine spliced_cons (List_ (wpAny_pure (wpAny_newObj_type (wpAny_pure (wpAny_newObj_type ?_ ?_)) ?_)))
  · have hq1 : ∀ b o, s₁.heap.get? b = some o → (s₁.heap.push ({ cls := .type "list", data := .seq #[] } : Obj)).get? b = some o := fun b o e => Heap.get?_push_of_some _ e
    have hq2 : ∀ b o, (s₁.heap.push ({ cls := .type "list", data := .seq #[] } : Obj)).get? b = some o → ((s₁.heap.push ({ cls := .type "list", data := .seq #[] } : Obj)).push ({ cls := .type "tuple", data := .seq #[v, .ref s₁.heap.objs.size] } : Obj)).get? b = some o := fun b o e => Heap.get?_push_of_some _ e
    refine unpackItems_tuple (items := #[_, _]) hh ⟨_, Heap.get?_push_size _ rfl, rfl, _, rfl⟩ fun h' hx => ?_
    have hfull := ExtBut.full hx
    have hka : ∀ b o, s₁.heap.get? b = some o → h'.get? b = some o := fun b o e => hfull b o (hq2 b o (hq1 b o e))
    have hga : h'.get? s₁.heap.objs.size = some (W.listOf ([] : List Value).toArray 0) := hfull _ _ (hq2 _ _ (Heap.get?_push_size _ rfl))
    have hnone : s₁.heap.get? s₁.heap.objs.size = none := by
      cases q : s₁.heap.get? s₁.heap.objs.size with
      | none => rfl
      | some o => exact absurd (Heap.lt_size q) (Nat.lt_irrefl _)
    show wpAny _ _ (do holding _ (bindName env n2 _); holding _ (bindName env n1 _); pure ()) _ _ _
    have kp : Kp s₁ { s₁ with heap := h' } := Kp.of (Nat.le_refl _) hka
    have wj := w₁.join (wr := [s₁.heap.objs.size]) (h' := h') (Nat.le_refl s₁.toks) hka (by intro b hb; simp at hb; rw [hb]; exact hnone) (by intro b hb; simp at hb; rw [hb]; exact ⟨_, hga⟩)
    refine wpAny_bind (wpAny_holding (bindName_ (St.storeOwnAt (s := s₁) j x₁ hn2 hk2 RdAll.nil kp hnone hga wj fun s₃ x₃ kf₃ => ?_)))
    rw [drop_id f2] at x₃
    refine wpAny_bind (wpAny_holding (bindName_ (St.store' i x₃ hn1 hk1 ?_ (r₁.flat hfl) fun s₄ x₄ kf₄ => ?_)))
    · intro p hp
      cases hp with
      | head => exact fun e => hij e.symm
      | tail _ hp => exact f1 p hp
    have fr : Fresher own ((j, s₁.heap.objs.size, []) :: own) s₁ := by
      intro p hp
      cases hp with
      | head => exact .inr hnone
      | tail _ hp => exact .inl ⟨p, hp, rfl⟩
    refine wpAny_pure (hQ _ _ _ (hp s₁.heap.objs.size) ⟨rfl, (j, s₁.heap.objs.size, []) :: own, by rw [← eo]; rfl, x₄, (Kp.kf k₁).trans (Fresher.refl _ _) (kf₃.trans fr kf₄), ?_⟩)
    refine Fresher.trans (env := env) (Fresher.refl own s) (Kp.kf k₁) (fun p hp e => ?_) fr
    exact x₄.sep p hp
  · show (2 : Nat) ≤ sizeLine; rw [sizeLine_eq]; lia
  · show (0 : Nat) ≤ sizeLine; lia
theorem Ex_freeze {i : Nat} {a : Addr} {ds : List D} {ss : List Stmt} (h : Ex prog w K A env nms Xc sh (σ.set i (some (.list ds))) ss P) : Ex prog w K A env nms Xc ((i, a, ds) :: sh) σ ss P := by
  intro own s Q E eo x hQ
  cases eo
  have hsub : ∀ b, XO Xc env sh b → XO Xc env ((i, a, ds) :: sh) b := fun b => XO_sub fun p hp => .tail _ hp
  have x' : St K env nms Xc sh (σ.set i (some (.list ds))) s := by
    refine ex1E x fun m x => ?_
    refine ex4E (x.ow _ (.head _)) fun n k vs ep zz3 => and4E zz3 fun h1 h2 h3 h4 => ?_
    refine and3E (x.sep _ (.head _)) fun q1 q2 q3 => ?_
    refine ⟨m, x.wx.weak (.inl x.x96) hsub, x.x96, x.eo, x.frm, fun j n' k' d g1 g2 => ?_, fun p hp => ?_, ?_, fun p hp => x.sep p (.tail _ hp), x.cd⟩
    · by_cases hij : i = j
      · subst hij
        rw [h1] at g1; cases g1
        rw [List.getElem?_set] at g2
        simp only [if_true] at g2
        split at g2
        · cases g2
          refine ⟨_, h2, .list (fun z => ?_) ⟨_, h3, rfl, _, rfl⟩ (mono0s hsub h4)⟩
          rcases z with z | z | ⟨y, z⟩ | ⟨p, hp, e⟩
          · exact q1 z
          · exact q2 z
          · exact q3 y z
          · have nd := x.nd
            rw [List.map_cons, List.nodup_cons] at nd
            exact nd.1 (List.mem_map.mpr ⟨p, hp, e⟩)
        · cases g2
      · rw [List.getElem?_set_ne hij] at g2
        refine ex1E (x.rd j n' k' d g1 g2) fun v zz2 => and2E zz2 fun e r => ?_
        exact ⟨v, e, mono0 hsub r⟩
    · refine ex4E (x.ow p (.tail _ hp)) fun n' k' vs' ep' zz1 => and4E zz1 fun g1 g2 g3 g4 => ?_
      exact ⟨n', k', vs', ep', g1, g2, g3, mono0s hsub g4⟩
    · have nd := x.nd
      rw [List.map_cons, List.nodup_cons] at nd
      exact nd.2
  refine h s Q E rfl x' fun out f s' hp ho => hQ out f s' hp (ho.after (Kf.refl _ _ _) fun p hp => .inl ⟨p, .tail _ hp, rfl⟩)
end
end Mine
end
-- Defs
section
open PySem PySem.W PySem.Calls PyProof.Rows PySem.Builtin PySem.Builtin.Str
namespace Mine
noncomputable def parseGo : List Nat → List Nat
  | [] => []
  | c :: r => if c = 34 then (match r with
      | [] => []
      | c2 :: r2 => if c2 = 34 then 34 :: parseGo r2 else []) else c :: parseGo r
noncomputable def parseL (x : List Nat) : List Nat := if (sl x (some 3) (some 5) != [32, 34]) = true then [] else parseGo (x.drop 5)
noncomputable def sharesGo (text : List Nat) : List (List Nat) → Int → List (List Nat) → Option (List (List Nat) × Int)
  | [], at_, acc => some (acc, at_)
  | run :: ms, at_, acc => let k := Txt.find3 (S text) (S run) at_; if k < 0 then none else sharesGo text ms (k + run.length) (acc ++ [sl text (some at_) (some k)])
noncomputable def sharesL (r0 : List Nat) (mids : List (List Nat)) (rl text : List Nat) : List (List Nat) :=
  match sharesGo text mids r0.length [] with
  | none => []
  | some (acc, at_) => if (decide ((text.length : Int) - rl.length < at_) || (sl text (some ((text.length : Int) - rl.length)) none != rl) || !startsL text r0) = true then [] else acc ++ [sl text (some at_) (some ((text.length : Int) - rl.length))]
noncomputable def cutFn (x0 x1 x2 name : List Nat) : List Int → List (List Nat)
  | [] => []
  | k :: r => if (x0 ++ sl name (some x0.length) (some k) ++ x1 ++ sl name (some (k + x1.length)) (some (name.length - x2.length)) ++ x2 == name) = true then
      [sl name (some x0.length) (some k), sl name (some (k + x1.length)) (some (name.length - x2.length))] else cutFn x0 x1 x2 name r
noncomputable def cutL (x0 x1 x2 name : List Nat) : List (List Nat) := cutFn x0 x1 x2 name ((List.range ((name.length : Int) - x1.length - x2.length + 1 - x0.length).toNat).map fun i => (x0.length : Int) + (i : Nat))
noncomputable def joinP (a b : List Nat) : List Nat := if (startsL b [47] || !(!a.isEmpty)) = true then b else if endsL a [47] = true then a ++ b else a ++ ([47] ++ b)
noncomputable def splI (x : List Nat) : Int := Txt.rfind (S x) (S [47]) + 1
noncomputable def splH (x : List Nat) : List Nat :=
  if (!(sl x none (some (splI x))).isEmpty && (sl x none (some (splI x)) != List.replicate (sl x none (some (splI x))).length 47)) = true then (Txt.rstripChars (S (sl x none (some (splI x)))) (S [47])).cps.toList else sl x none (some (splI x))
noncomputable def splT (x : List Nat) : List Nat := sl x (some (splI x)) none
end Mine
end
-- Isc
section
open PySem PySem.W PySem.Calls PyProof.Rows PySem.Builtin PySem.Builtin.Str
namespace Mine
theorem kind_issn : builtinKind "issubclass.nested" = none := by decide +kernel
theorem plain_issn : plainId "issubclass.nested" = true := by decide +kernel
theorem args_issn (a b c : Value) : argsOk "issubclass.nested" ⟨[a, b, c], []⟩ := by unfold argsOk; kernel_rfl
theorem sub_ss : isSubtype (.type "str") (.type "str") = pure true := by rw [isSubtype_type]; kernel_rfl
theorem ty_str : typeOf (.type "str") = pure (.type "type") := by kernel_rfl
theorem sub_tt : isSubtype (.type "type") (.type "type") = pure true := by rw [isSubtype_type]; kernel_rfl
section
variable {prog : Program} {w : World} {A : Around} {E : Value → Shared → Prop} {h : Heap} {g : Array GenState} {d : Drawn} {t : Nat} {os : OsState} {a : Addr} {s : Shared}
theorem iss_item {k : Int} {tk : Tok} {Q : Fin → Shared → Prop} (hq : Q (.done (.ret (.bool true))) s) :
    wpAny (model prog w) A (Builtin.«issubclass.nested» ⟨[.type "str", .type "str", .int k tk], []⟩) Q E s := by
  obtain ⟨h, g, d, t, os⟩ := s
  have f1 := ty_str
  have f2 := sub_ss
  have f3 := sub_tt
  have z0 := zl
  repeat (any_goals (first | with_reducible assumption | (rw [f1]) | (rw [f2]) | (rw [f3]) | wp_step | assumption))
theorem iss_nested {tk : Tok} {Q : Fin → Shared → Prop} {o : Obj} {n : Nat} (ho : h.get? a = some o) (hc : o.cls = .type "tuple") (hd : o.data = .seq #[.type "str", .type "bytes"] n)
    (hq : Q (.done (.ret (.bool true))) ⟨h, g, d, t, os⟩) :
    wpAny (model prog w) A (Builtin.«issubclass.nested» ⟨[.type "str", .ref a, .int 0 tk], []⟩) Q E ⟨h, g, d, t, os⟩ := by
  have hT : (⟨h, g, d, t, os⟩ : Shared).TypeIs (.ref a) "tuple" := ⟨_, ho, hc⟩
  have f1 := F.isi_sub_tuple
  have z0 := zl
  repeat (any_goals (first | with_reducible assumption | (rw [f1]) | wp_step | assumption))
  rw [hd]
  refine wpAny_pure (wpAny_bind ?_)
  simp only [Option.getD_some, ← Array.forIn_toList]
  rw [List.forIn_cons]
  refine wpAny_bind (wpAny_bind (call_function_meets (S := fun _ R s => R (.ok (.ret (.bool true))) s) kind_issn plain_issn F.entry_issubclass_nested (args_issn _ _ _) (fun _ _ _ _ _ hs => iss_item hs) ?_))
  show wpAny _ _ (truthy (.bool true) >>= _) _ _ _
  refine wpAny_bind (m := truthy (.bool true)) (wpAny_pure ?_)
  exact wpAny_bind (wpAny_pure (wpAny_pure (wpAny_pure (wpAny_pure hq))))
theorem call_issub {Q : Value → Shared → Prop} (ht : IsTup s.heap a #[.type "str", .type "bytes"]) (hq : Q (.bool true) s) : wpAny (model prog w) A (call (.builtin "issubclass") [.type "str", .ref a]) Q E s :=
  call_issubclass (S := fun _ R s => IsTup s.heap a #[.type "str", .type "bytes"] ∧ R (.ok (.ret (.bool true))) s)
    (fun _ _ _ _ s hs => issubclass_outer (by refine and2E hs fun zz1 h4 => ?_; obtain ⟨o, h1, h2, n, h3⟩ := zz1; obtain ⟨hh, gg, dd, tt, oo⟩ := s; exact iss_nested h1 h2 h3 h4)) ⟨ht, hq⟩
end
section
variable {K : Frag} {A : Around} {env : Env} {nms : Nms} {X : Addr → Prop} {σ : List (Option D)}
theorem call_type_s {M : World} {E : Value → Shared → Prop} {s : Shared} {x : Str} {u : Tok} {Q : Value → Shared → Prop} (hq : Q (.type "str") s) :
    wpAny (model prog w) A (call (.type "type") [.str x u]) Q E s := by
  refine wpAny_call (codeAny_of_tree ?_)
  show wpAny _ _ (callAny (.type "type") ⟨[.str x u], []⟩) _ _ _
  simp only [callAny]
  refine wpAny_pure ⟨Code.quiet_builtin _ (by decide +kernel), codeAny_builtin entry_type_call ?_⟩
  unfold Builtin.«type.__call__»
  dsimp only
  unfold shownTypeOf
  obtain ⟨h, g, d, t, os⟩ := s
  have z0 := zl
  repeat wp_step
  exact hq
theorem Op_type {x : List Nat} : OpN prog w K A X (fun vs => call (.type "type") vs) [.str x] (.val (.type "str")) := by
  intro s vs Q E q r hQ
  refine RdAll.E1 r fun _ a => ?_; refine Rd.strE a fun t => ?_
  exact call_type_s (M := w) (Post.here hQ q (.val _))
theorem Op_issub : OpN prog w K A X (fun vs => call (.builtin "issubclass") vs) [.val (.type "str"), .tuple [.val (.type "str"), .val (.type "bytes")]] (.bool true) := by
  intro s vs Q E q r hQ
  refine RdAll.E2 r fun _ _ a b => ?_; refine Rd.valE a ?_; refine Rd.tuple2E b fun _ _ _ hn hg p p' => ?_
  revert hg; refine Rd.valE p ?_; refine Rd.valE p' ?_; intro hg
  exact call_issub hg (Post.here hQ q (.bool _))
theorem Op_isB {x : List Nat} : OpN prog w K A X (fun vs => call (.builtin "isinstance") vs) [.str x, .val (.type "bytes")] (.bool false) := by
  intro s vs Q E q r hQ
  refine RdAll.E2 r fun _ _ a b => ?_; refine Rd.valE b ?_; refine Rd.strE a fun t => ?_
  exact PySem.IsiPair.str_bytes (Post.tk hQ q (.bool _) (Nat.le_succ _))
theorem Op_isS {x : List Nat} : OpN prog w K A X (fun vs => call (.builtin "isinstance") vs) [.str x, .val (.type "str")] (.bool true) := by
  intro s vs Q E q r hQ
  refine RdAll.E2 r fun _ _ a b => ?_; refine Rd.valE b ?_; refine Rd.strE a fun t => ?_
  exact call_isinstance_yes (Tx := "str") (typeIs_str _ _ _) ty_str sub_ss (Post.here hQ q (.bool _))
end
end Mine
end
-- PL1
section
open PySem PySem.W PySem.Calls PyProof.Rows PySem.Builtin PySem.Builtin.Str PySem.StrLaws
namespace Mine
theorem dbl_cons (c : Nat) (p : List Nat) : dbl 34 (c :: p) = (if c = 34 then [34, 34] else [c]) ++ dbl 34 p := by
  show (if c = 34 then c :: c :: dbl 34 p else c :: dbl 34 p) = _
  split
  · rename_i h; subst h; rfl
  · rfl
theorem dbl_len_ge (p : List Nat) : p.length ≤ (dbl 34 p).length := by
  induction p with
  | nil => simp
  | cons c p ih => rw [dbl_cons]; split; exact Nat.succ_le_succ (Nat.le_succ_of_le ih); exact Nat.succ_le_succ ih
theorem dbl_len_le (p : List Nat) : (dbl 34 p).length ≤ 2 * p.length := by
  induction p with
  | nil => simp [dbl]
  | cons c p ih => rw [dbl_cons]; split; exact Nat.add_le_add_right ih 2; exact Nat.le_succ_of_le (Nat.succ_le_succ ih)
theorem dbl_le {x : List Nat} {m : Nat} (h : x.length ≤ m) : (dbl 34 x).length ≤ 2 * m := Nat.le_trans (dbl_len_le x) (Nat.mul_le_mul_left 2 h)
theorem parseGo_dbl (p w : List Nat) (hw : w.head? ≠ some 34) : parseGo (dbl 34 p ++ 34 :: w) = p := by
  induction p with
  | nil =>
    show parseGo (34 :: w) = []
    unfold parseGo
    rw [if_pos rfl]
    cases w with
    | nil => rfl
    | cons c w =>
      have : c ≠ 34 := fun e => hw (by rw [e]; rfl)
      simp [this]
  | cons c p ih =>
    rw [dbl_cons]
    by_cases h : c = 34
    · subst h
      rw [if_pos rfl]
      show parseGo (34 :: 34 :: (dbl 34 p ++ 34 :: w)) = _
      unfold parseGo
      rw [if_pos rfl]
      simp [ih]
    · rw [if_neg h]
      show parseGo (c :: (dbl 34 p ++ 34 :: w)) = _
      unfold parseGo
      rw [if_neg h, ih]
theorem parseGo_bare (p : List Nat) : parseGo (dbl 34 p) = p := by
  induction p with
  | nil => rfl
  | cons c p ih =>
    rw [dbl_cons]
    by_cases h : c = 34
    · subst h
      rw [if_pos rfl]
      show parseGo (34 :: 34 :: dbl 34 p) = _
      unfold parseGo
      rw [if_pos rfl]
      simp [ih]
    · rw [if_neg h]
      show parseGo (c :: dbl 34 p) = _
      unfold parseGo
      rw [if_neg h, ih]
theorem parseL_257 (x : List Nat) : parseL (50 :: 53 :: 55 :: 32 :: 34 :: x) = parseGo x := by
  unfold parseL
  rw [show (3 : Int) = ((3 : Nat) : Int) from rfl, show (5 : Int) = ((5 : Nat) : Int) from rfl, sl_nn]
  rfl
theorem parseL_no (x : List Nat) (h : ∀ y, x.drop 3 ≠ 32 :: 34 :: y) : parseL x = [] := by
  unfold parseL
  rw [show (3 : Int) = ((3 : Nat) : Int) from rfl, show (5 : Int) = ((5 : Nat) : Int) from rfl, sl_nn, if_pos]
  rw [bne_iff_ne]
  intro e
  cases hd : x.drop 3 with
  | nil => rw [hd] at e; simp at e
  | cons a r =>
    cases r with
    | nil => rw [hd] at e; simp at e
    | cons b r =>
      rw [hd] at e
      simp at e
      exact h r (by rw [hd, e.1, e.2])
theorem at1 (x : List Nat) (i : Nat) : At (S x) (S [47]) (S x).length i ↔ x[i]? = some 47 := subAt_one (S x) 47 i
theorem splI_at (h n : List Nat) (hn : 47 ∉ n) : splI (h ++ 47 :: n) = (h.length : Int) + 1 := by
  unfold splI Txt.rfind
  rcases last_spec (S (h ++ 47 :: n)) (S [47]) with ⟨_, e2⟩ | ⟨i, e1, e2, e3⟩
  · exact absurd ((at1 _ h.length).mpr (by simp)) (e2 h.length)
  · rw [e1]
    have hi := (at1 _ i).mp e2
    have : i = h.length := by
      rcases Nat.lt_trichotomy i h.length with q | q | q
      · exact absurd ((at1 _ h.length).mpr (by simp)) (e3 _ q)
      · exact q
      · exfalso
        rw [List.getElem?_append_right (Nat.le_of_lt q)] at hi
        obtain ⟨k, hk⟩ : ∃ k, i - h.length = k + 1 := Nat.exists_eq_succ_of_ne_zero (Nat.sub_ne_zero_of_lt q)
        rw [hk, List.getElem?_cons_succ] at hi
        exact hn (List.mem_of_getElem? hi)
    rw [this]
theorem splT_at (h n : List Nat) (hn : 47 ∉ n) : splT (h ++ 47 :: n) = n := by
  unfold splT
  rw [splI_at h n hn, show (h.length : Int) + 1 = ((h.length + 1 : Nat) : Int) from rfl, sl_nx]
  simp
theorem rstrip_one (h : List Nat) (c : Nat) (hc : c ≠ 47) : (Txt.rstripChars (S (h ++ [c, 47])) (S [47])).cps.toList = h ++ [c] := by
  unfold Txt.rstripChars
  rw [PyProof.Rows.stripBy_eq, strSub_toList]
  simp only [stripLo, stripHi, if_true, Bool.false_eq_true, if_false, List.drop_zero, Nat.sub_zero]
  have e : (((S (h ++ [c, 47])).cps.toList).reverse.takeWhile (S [47]).cps.contains).length = 1 := by
    show (((h ++ [c, 47])).reverse.takeWhile (S [47]).cps.contains).length = 1
    rw [List.reverse_append]
    simp [S, List.takeWhile_cons, hc]
  rw [e, S_length, S_cps, show (h ++ [c, 47]).length - 1 = (h ++ [c]).length by simp, show h ++ [c, 47] = (h ++ [c]) ++ [47] by simp, List.take_left]
theorem splH_at (h n : List Nat) (c : Nat) (hc : c ≠ 47) (hn : 47 ∉ n) : splH (h ++ [c] ++ 47 :: n) = h ++ [c] := by
  have e : sl (h ++ [c] ++ 47 :: n) none (some (splI (h ++ [c] ++ 47 :: n))) = h ++ [c, 47] := by
    rw [splI_at _ n hn, show ((h ++ [c]).length : Int) + 1 = (((h ++ [c]).length + 1 : Nat) : Int) from rfl, sl_xn]
    rw [show h ++ [c] ++ 47 :: n = (h ++ [c] ++ [47]) ++ n by simp, show (h ++ [c]).length + 1 = (h ++ [c] ++ [47]).length by simp, List.take_left]; simp
  unfold splH
  rw [e, if_pos, rstrip_one h c hc]
  rw [Bool.and_eq_true, bne_iff_ne]
  refine ⟨by simp, fun q => ?_⟩
  have : c ∈ List.replicate (h ++ [c, 47]).length 47 := by rw [← q]; simp
  exact hc (List.eq_of_mem_replicate this)
theorem splH_root (n : List Nat) (hn : 47 ∉ n) : splH (47 :: n) = [47] := by
  have e : sl (47 :: n) none (some (splI (47 :: n))) = [47] := by
    have := splI_at [] n hn
    rw [List.nil_append] at this
    rw [this]
    show sl (47 :: n) none (some ((1 : Nat) : Int)) = _
    rw [sl_xn]; rfl
  unfold splH
  rw [e]; rfl
end Mine
end
-- PL2
section
open PySem PySem.W PySem.Calls PyProof.Rows PySem.Builtin PySem.Builtin.Str PySem.StrLaws
namespace Mine
noncomputable def AtL (t r : List Nat) (i : Nat) : Prop := i + r.length ≤ t.length ∧ (t.drop i).take r.length = r
theorem at_atL (t r : List Nat) (i : Nat) : At (S t) (S r) (S t).length i ↔ AtL t r i := by
  unfold At AtL
  rw [subAt_eq, S_length, S_length, S_cps, S_cps, beq_iff_eq]
theorem atL_split {t r : List Nat} {i : Nat} (h : AtL t r i) : t = t.take i ++ r ++ t.drop (i + r.length) := by
  have e : r ++ t.drop (i + r.length) = t.drop i := by
    have := List.take_append_drop r.length (t.drop i)
    rw [h.2, List.drop_drop] at this
    exact this
  rw [List.append_assoc, e, List.take_append_drop]
theorem atL_of {a r b : List Nat} : AtL (a ++ r ++ b) r a.length := by
  refine ⟨by simp, ?_⟩
  rw [List.append_assoc, List.drop_left, List.take_left]
theorem find3_cases (t r : List Nat) (a : Nat) : (Txt.find3 (S t) (S r) a = -1 ∧ ∀ i, a ≤ i → ¬ AtL t r i) ∨ ∃ k : Nat, Txt.find3 (S t) (S r) a = (k : Int) ∧ a ≤ k ∧ AtL t r k ∧ ∀ j, a ≤ j → j < k → ¬ AtL t r j := by
  have hf : fromIndex (S t).length (a : Int) = a := by
    unfold fromIndex
    rw [if_neg (Int.not_lt.mpr (Int.natCast_nonneg a)), Int.max_eq_right (Int.natCast_nonneg a)]; rfl
  unfold Txt.find3
  rw [hf]
  rcases occ_head_from (S t) (S r) a 1 (Nat.le_refl _) with ⟨e, h⟩ | ⟨i, q, e, h1, h2, h3⟩
  · rw [e]
    exact .inl ⟨rfl, fun i hi hA => h i hi ((at_atL t r i).mpr hA)⟩
  · rw [e]
    exact .inr ⟨i, rfl, h1, (at_atL t r i).mp h2, fun j h4 h5 hA => h3 j h4 h5 ((at_atL t r j).mpr hA)⟩
noncomputable def Cut1 (x0 x1 x2 t : List Nat) (r : List (List Nat)) : Prop :=
  (r = [] ∧ ∀ f s, t ≠ x0 ++ f ++ x1 ++ s ++ x2) ∨ ∃ f s, r = [f, s] ∧ t = x0 ++ f ++ x1 ++ s ++ x2 ∧ ∀ f' s', t = x0 ++ f' ++ x1 ++ s' ++ x2 → f.length ≤ f'.length
theorem fit_unique {x0 x1 x2 t f s f' s' : List Nat} (h : t = x0 ++ f ++ x1 ++ s ++ x2) (h' : t = x0 ++ f' ++ x1 ++ s' ++ x2) (hl : f.length = f'.length) : f = f' ∧ s = s' := by
  rw [h] at h'
  simp only [List.append_assoc] at h'
  have h' := List.append_cancel_left h'
  refine and2E (List.append_inj h' hl) fun e1 e2 => ?_
  exact ⟨e1, List.append_cancel_right (List.append_cancel_left e2)⟩
theorem Cut1_unique {x0 x1 x2 t : List Nat} {r r' : List (List Nat)} (h : Cut1 x0 x1 x2 t r) (h' : Cut1 x0 x1 x2 t r') : r = r' := by
  rcases h with ⟨rfl, h⟩ | ⟨f, s, rfl, h1, h2⟩
  · rcases h' with ⟨rfl, _⟩ | ⟨f, s, rfl, h1, _⟩
    · rfl
    · exact absurd h1 (h f s)
  · rcases h' with ⟨rfl, h⟩ | ⟨f', s', rfl, h1', h2'⟩
    · exact absurd h1 (h f s)
    · have e : f.length = f'.length := Nat.le_antisymm (h2 _ _ h1') (h2' _ _ h1)
      refine and2E (fit_unique h1 h1' e) fun zz14 zz15 => ?_; subst zz14; subst zz15
      rfl
theorem go_le {a i n b c t : Nat} (h : a + i + (n + 1) + b + c ≤ t + 1) : a + i + c ≤ t :=
  Nat.le_of_succ_le_succ (Nat.le_trans (by
    rw [← Nat.add_assoc, Nat.add_right_comm _ 1 b, Nat.add_right_comm _ 1 c]
    exact Nat.succ_le_succ (Nat.add_le_add_right (Nat.le_trans (Nat.le_add_right _ n) (Nat.le_add_right _ b)) c)) h)
theorem cut_go (x0 x1 x2 t : List Nat) : ∀ (n i0 : Nat), x0.length + i0 + n + x1.length + x2.length ≤ t.length + 1 →
    (cutFn x0 x1 x2 t ((List.range' i0 n).map fun (i : Nat) => (x0.length : Int) + (i : Nat)) = [] ∧ ∀ f s, t = x0 ++ f ++ x1 ++ s ++ x2 → ¬ (i0 ≤ f.length ∧ f.length < i0 + n)) ∨
    ∃ f s, cutFn x0 x1 x2 t ((List.range' i0 n).map fun (i : Nat) => (x0.length : Int) + (i : Nat)) = [f, s] ∧ t = x0 ++ f ++ x1 ++ s ++ x2 ∧ ∀ f' s', t = x0 ++ f' ++ x1 ++ s' ++ x2 → ¬ (i0 ≤ f'.length ∧ f'.length < f.length) := by
  intro n
  induction n with
  | zero => intro i0 _; exact .inl ⟨rfl, fun f s _ h => Nat.lt_irrefl _ (Nat.lt_of_le_of_lt h.1 h.2)⟩
  | succ n ih =>
    intro i0 hn
    rw [List.range'_succ, List.map_cons]
    unfold cutFn
    have hx02 : x0.length + i0 + x2.length ≤ t.length := go_le hn
    have hx2 : x2.length ≤ t.length := Nat.le_trans (Nat.le_add_left _ _) hx02
    have e1 : sl t (some (x0.length : Int)) (some ((x0.length : Int) + (i0 : Nat))) = (t.drop x0.length).take i0 := by
      rw [show (x0.length : Int) + (i0 : Nat) = ((x0.length + i0 : Nat) : Int) from rfl, sl_nn, Nat.add_sub_cancel_left]
    have e2 : sl t (some ((x0.length : Int) + (i0 : Nat) + (x1.length : Int))) (some ((t.length : Int) - (x2.length : Int))) = (t.drop (x0.length + i0 + x1.length)).take (t.length - x2.length - (x0.length + i0 + x1.length)) := by
      rw [show (x0.length : Int) + (i0 : Nat) + (x1.length : Int) = ((x0.length + i0 + x1.length : Nat) : Int) from rfl, ← Int.ofNat_sub hx2, sl_nn]
    rw [e1, e2]
    have l1 : ((t.drop x0.length).take i0).length = i0 := by rw [List.length_take, List.length_drop, Nat.min_eq_left (Nat.le_sub_of_add_le (by rw [Nat.add_comm]; exact Nat.le_trans (Nat.le_add_right _ _) hx02))]
    by_cases hc : x0 ++ (t.drop x0.length).take i0 ++ x1 ++ (t.drop (x0.length + i0 + x1.length)).take (t.length - x2.length - (x0.length + i0 + x1.length)) ++ x2 = t
    · rw [if_pos (beq_iff_eq.mpr hc)]
      refine .inr ⟨_, _, rfl, hc.symm, fun f' s' _ h => ?_⟩
      rw [l1] at h; exact Nat.lt_irrefl _ (Nat.lt_of_le_of_lt h.1 h.2)
    · rw [if_neg (fun q => hc (beq_iff_eq.mp q))]
      have key : ∀ f s, t = x0 ++ f ++ x1 ++ s ++ x2 → f.length ≠ i0 := by
        intro f s hfit hl
        apply hc
        have q1 : (t.drop x0.length).take i0 = f := by
          rw [hfit, ← hl]; simp only [List.append_assoc]; rw [List.drop_left, List.take_left]
        have q2 : (t.drop (x0.length + i0 + x1.length)).take (t.length - x2.length - (x0.length + i0 + x1.length)) = s := by
          have ql : t.length = x0.length + f.length + x1.length + s.length + x2.length := by rw [hfit]; simp [Nat.add_assoc]
          rw [show t.length - x2.length - (x0.length + i0 + x1.length) = s.length by rw [ql, hl, Nat.add_sub_cancel, Nat.add_sub_cancel_left]]
          rw [show x0.length + i0 + x1.length = (x0 ++ f ++ x1).length by rw [List.length_append, List.length_append, hl], hfit, List.append_assoc _ s x2, List.drop_left, List.take_left]
        rw [q1, q2, ← hfit]
      rcases ih (i0 + 1) (by rw [← Nat.add_assoc, Nat.add_right_comm (x0.length + i0) 1 n]; exact hn) with ⟨h1, h2⟩ | ⟨f, s, h1, h2, h3⟩
      · refine .inl ⟨h1, fun f s hfit h => ?_⟩
        exact h2 f s hfit ⟨Nat.lt_of_le_of_ne h.1 (Ne.symm (key f s hfit)), by rw [Nat.add_right_comm]; exact h.2⟩
      · refine .inr ⟨f, s, h1, h2, fun f' s' hfit h => ?_⟩
        exact h3 f' s' hfit ⟨Nat.lt_of_le_of_ne h.1 (Ne.symm (key f' s' hfit)), h.2⟩
theorem cut_N {a b c t : Nat} (h : a + b + c ≤ t) : ∃ k, t = a + b + c + k ∧ ((t : Int) - b - c + 1 - a).toNat = k + 1 := by
  refine ex1E (Nat.exists_eq_add_of_le h) fun k e => ⟨k, e, ?_⟩
  subst e; lia
theorem cut_0 {a b c t : Nat} (h : ¬ a + b + c ≤ t) : ((t : Int) - b - c + 1 - a).toNat = 0 := by lia
theorem cut_k (a b c k : Nat) : a + 0 + (k + 1) + b + c ≤ a + b + c + k + 1 := by lia
theorem cut_lt {a b c k f s : Nat} (h : a + b + c + k = a + f + b + s + c) : f < 0 + (k + 1) := by lia
theorem cut_cut1 (x0 x1 x2 t : List Nat) : Cut1 x0 x1 x2 t (cutL x0 x1 x2 t) := by
  unfold cutL
  rw [List.range_eq_range']
  have hfl : ∀ f s, t = x0 ++ f ++ x1 ++ s ++ x2 → t.length = x0.length + f.length + x1.length + s.length + x2.length := fun f s h => by rw [h]; simp [Nat.add_assoc]
  by_cases hlen : x0.length + x1.length + x2.length ≤ t.length
  · refine ex1E (cut_N hlen) fun k z => and2E z fun hk hN => ?_
    rw [hN]
    rcases cut_go x0 x1 x2 t (k + 1) 0 (by rw [hk]; exact cut_k _ _ _ _) with ⟨h1, h2⟩ | ⟨f, s, h1, h2, h3⟩
    · exact .inl ⟨h1, fun f s hfit => absurd ⟨Nat.zero_le _, cut_lt (hk.symm.trans (hfl f s hfit))⟩ (h2 f s hfit)⟩
    · exact .inr ⟨f, s, h1, h2, fun f' s' hfit => Nat.not_lt.mp fun q => h3 f' s' hfit ⟨Nat.zero_le _, q⟩⟩
  · rw [cut_0 hlen]
    refine .inl ⟨rfl, fun f s hfit => hlen ?_⟩
    rw [hfl f s hfit]
    exact Nat.add_le_add_right (Nat.le_trans (Nat.add_le_add_right (Nat.le_add_right _ _) _) (Nat.le_add_right _ _)) _
theorem startsL_iff (t r : List Nat) : startsL t r = true ↔ ∃ b, t = r ++ b := by
  unfold startsL
  rw [beq_iff_eq]
  constructor
  · intro h; exact ⟨t.drop r.length, by rw [← congrArg (· ++ t.drop r.length) h]; exact (List.take_append_drop _ _).symm⟩
  · rintro ⟨b, rfl⟩; rw [List.take_left]
theorem sh_1 {t a f b s c k : Nat} (hl : t = a + f + b + s + c) (hk : k ≤ a + f) (h : (t : Int) - c < (k : Int) + b) : False := by subst hl; lia
theorem sh_2 {t c k b : Nat} (h : ¬ (t : Int) - c < (k : Int) + b) : c ≤ t :=
  Int.ofNat_le.mp (Int.le_of_sub_nonneg (Int.le_trans (Int.natCast_nonneg (k + b)) (Int.not_lt.mp h)))
theorem shares_cut1 (x0 x1 x2 t : List Nat) : Cut1 x0 x1 x2 t (sharesL x0 [x1] x2 t) := by
  have hfl : ∀ f s, t = x0 ++ f ++ x1 ++ s ++ x2 → t.length = x0.length + f.length + x1.length + s.length + x2.length := fun f s h => by rw [h]; simp [Nat.add_assoc]
  have hat : ∀ f s, t = x0 ++ f ++ x1 ++ s ++ x2 → AtL t x1 (x0.length + f.length) := by
    intro f s h
    have : AtL ((x0 ++ f) ++ x1 ++ (s ++ x2)) x1 (x0 ++ f).length := atL_of
    rw [h]; simpa using this
  unfold sharesL sharesGo sharesGo
  simp only
  rcases find3_cases t x1 x0.length with ⟨e, h⟩ | ⟨k, e, h1, h2, h3⟩
  · rw [e, if_pos (by decide)]
    exact .inl ⟨rfl, fun f s hfit => h _ (Nat.le_add_right _ _) (hat f s hfit)⟩
  · rw [e, if_neg (Int.not_lt.mpr (Int.natCast_nonneg k))]
    simp only
    rw [List.nil_append]
    by_cases hc : (decide ((t.length : Int) - x2.length < (k : Int) + x1.length) || (sl t (some ((t.length : Int) - x2.length)) none != x2) || !startsL t x0) = true
    · rw [if_pos hc]
      refine .inl ⟨rfl, fun f s hfit => ?_⟩
      have hl := hfl f s hfit
      have hk : k ≤ x0.length + f.length := by
        rcases Nat.lt_or_ge (x0.length + f.length) k with q | q
        · exact absurd (hat f s hfit) (h3 _ (Nat.le_add_right _ _) q)
        · exact q
      rw [Bool.or_eq_true, Bool.or_eq_true] at hc
      rcases hc with (hc | hc) | hc
      · exact (sh_1 hl hk (of_decide_eq_true hc)).elim
      · rw [← Int.ofNat_sub (hl ▸ Nat.le_add_left _ _), sl_nx, bne_iff_ne] at hc
        apply hc
        rw [show t.length - x2.length = (x0 ++ f ++ x1 ++ s).length by rw [hl, Nat.add_sub_cancel]; simp only [List.length_append], hfit, List.drop_left]
      · rw [(startsL_iff t x0).mpr ⟨f ++ x1 ++ s ++ x2, by rw [hfit]; simp⟩] at hc
        cases hc
    · rw [if_neg hc]
      rw [Bool.or_eq_true, Bool.or_eq_true, not_or, not_or] at hc
      refine and2E hc fun zz13 c3 => ?_; obtain ⟨c1, c2⟩ := zz13
      have c1 : ¬ (t.length : Int) - x2.length < (k : Int) + x1.length := fun q => c1 (decide_eq_true q)
      have hx2 : x2.length ≤ t.length := sh_2 c1
      rw [← Int.ofNat_sub hx2] at c1 c2 ⊢
      have c1' : k + x1.length ≤ t.length - x2.length := Nat.not_lt.mp fun q => c1 (Int.ofNat_lt.mpr q)
      rw [sl_nx, bne_iff_ne, Decidable.not_not] at c2
      have c3 : startsL t x0 = true := by simpa using c3
      refine ex1E ((startsL_iff t x0).mp c3) fun b hb => ?_
      have s1 := atL_split h2
      have s2 : t.drop (k + x1.length) = (t.drop (k + x1.length)).take (t.length - x2.length - (k + x1.length)) ++ x2 := by
        have := List.take_append_drop (t.length - x2.length - (k + x1.length)) (t.drop (k + x1.length))
        rw [List.drop_drop, show k + x1.length + (t.length - x2.length - (k + x1.length)) = t.length - x2.length from Nat.add_sub_cancel' c1', c2] at this
        exact this.symm
      have s3 : t.take k = x0 ++ (t.drop x0.length).take (k - x0.length) := by
        rw [hb, List.take_append, List.take_of_length_le h1, List.drop_left]
      rw [show (k : Int) + x1.length = ((k + x1.length : Nat) : Int) from rfl, sl_nn, sl_nn]
      have hfit : t = x0 ++ (t.drop x0.length).take (k - x0.length) ++ x1 ++ (t.drop (k + x1.length)).take (t.length - x2.length - (k + x1.length)) ++ x2 := by
        rw [← s3, List.append_assoc _ _ x2, ← s2]; exact s1
      refine .inr ⟨_, _, rfl, hfit, fun f' s' hfit' => ?_⟩
      have hk : k ≤ x0.length + f'.length := by
        rcases Nat.lt_or_ge (x0.length + f'.length) k with q | q
        · exact absurd (hat f' s' hfit') (h3 _ (Nat.le_add_right _ _) q)
        · exact q
      rw [List.length_take]
      exact Nat.le_trans (Nat.min_le_left _ _) (Nat.sub_le_iff_le_add'.mpr hk)
theorem shares_eq_cut (x0 x1 x2 t : List Nat) : sharesL x0 [x1] x2 t = cutL x0 x1 x2 t := Cut1_unique (shares_cut1 ..) (cut_cut1 ..)
theorem dbl_prefix {r : List Nat} : ∀ {n s : List Nat}, dbl 34 n = dbl 34 r ++ s → ∃ m, n = r ++ m ∧ s = dbl 34 m := by
  induction r with
  | nil => intro n s h; exact ⟨n, rfl, h.symm⟩
  | cons c r ih =>
    intro n s h
    cases n with
    | nil => rw [dbl_cons] at h; split at h <;> cases h
    | cons d n =>
      rw [dbl_cons, dbl_cons] at h
      by_cases hc : c = 34
      · by_cases hd : d = 34
        · subst hc; subst hd
          rw [if_pos rfl] at h
          refine ex1E (ih (by simpa using h)) fun m zz12 => and2E zz12 fun e1 e2 => ?_
          exact ⟨m, by rw [e1]; rfl, e2⟩
        · rw [if_neg hd, if_pos hc] at h; simp at h; exact absurd h.1 hd
      · by_cases hd : d = 34
        · rw [if_pos hd, if_neg hc] at h; simp at h; exact absurd h.1.symm hc
        · rw [if_neg hd, if_neg hc] at h
          simp at h
          refine ex1E (ih h.2) fun m zz11 => and2E zz11 fun e1 e2 => ?_
          exact ⟨m, by rw [e1, h.1]; rfl, e2⟩
theorem dbl_rev (x : List Nat) : (dbl 34 x).reverse = dbl 34 x.reverse := by
  induction x with
  | nil => rfl
  | cons c x ih =>
    rw [dbl_cons, List.reverse_append, ih, List.reverse_cons, dbl_append, dbl_cons]
    by_cases h : c = 34
    · subst h; simp [dbl]
    · simp [h, dbl]
theorem dbl_suffix {r n s : List Nat} (h : dbl 34 n = s ++ dbl 34 r) : ∃ m, n = m ++ r ∧ s = dbl 34 m := by
  have h' := congrArg List.reverse h
  rw [List.reverse_append, dbl_rev, dbl_rev] at h'
  refine ex1E (dbl_prefix h') fun m zz10 => and2E zz10 fun e1 e2 => ?_
  refine ⟨m.reverse, ?_, ?_⟩
  · have := congrArg List.reverse e1; simpa using this
  · have := congrArg List.reverse e2; rw [dbl_rev] at this; simpa using this
theorem half_prefix : ∀ {r m s : List Nat}, 34 :: dbl 34 m = dbl 34 r ++ s → ∃ b, 34 :: m = r ++ b := by
  intro r
  induction r with
  | nil => intro m s _; exact ⟨_, rfl⟩
  | cons c r ih =>
    intro m s h
    rw [dbl_cons] at h
    by_cases hc : c = 34
    · subst hc
      rw [if_pos rfl] at h
      simp at h
      cases m with
      | nil => cases h
      | cons d m =>
        rw [dbl_cons] at h
        by_cases hd : d = 34
        · subst hd
          rw [if_pos rfl] at h
          simp at h
          refine ex1E (ih h) fun b e => ?_
          exact ⟨b, by rw [e]; rfl⟩
        · rw [if_neg hd] at h; simp at h; exact absurd h.1 hd
    · rw [if_neg hc] at h; simp at h; exact absurd h.1.symm hc
theorem dbl_within {x1 : List Nat} (hx : x1 ≠ []) : ∀ (k : Nat) (n F s : List Nat), n.length ≤ k → dbl 34 n = F ++ dbl 34 x1 ++ s → ∃ f b, n = f ++ x1 ++ b ∧ (dbl 34 f).length ≤ F.length := by
  intro k
  induction k with
  | zero =>
    intro n F s hn h
    cases n with
    | nil =>
      exfalso
      cases x1 with
      | nil => exact hx rfl
      | cons c x1 =>
        have q := dbl_len_ge (c :: x1)
        cases e : dbl 34 (c :: x1) with
        | nil => rw [e] at q; cases q
        | cons a l => rw [e] at h; cases F <;> cases h
    | cons _ _ => simp at hn
  | succ k ih =>
    intro n F s hn h
    cases F with
    | nil =>
      refine ex1E (dbl_prefix (r := x1) (s := s) (by simpa using h)) fun m zz8 => and2E zz8 fun e1 _ => ?_
      exact ⟨[], m, by simpa using e1, by simp [dbl]⟩
    | cons c F =>
      cases n with
      | nil => cases h
      | cons d n =>
        have hn' : n.length ≤ k := by simpa using hn
        rw [dbl_cons] at h
        by_cases hd : d = 34
        · rw [if_pos hd] at h
          simp at h
          refine and2E h fun hc h => ?_
          cases F with
          | nil =>
            -- half a quote
            simp at h
            cases x1 with
            | nil => exact absurd rfl hx
            | cons e x1 =>
              rw [dbl_cons] at h
              by_cases he : e = 34
              · rw [if_pos he] at h
                simp at h
                cases n with
                | nil => cases h
                | cons g n =>
                  rw [dbl_cons] at h
                  by_cases hg : g = 34
                  · rw [if_pos hg] at h
                    simp at h
                    refine ex1E (half_prefix h) fun b eb => ?_
                    refine ⟨[], b, ?_, by simp [dbl]⟩
                    rw [List.nil_append, List.cons_append, ← eb, hd, he, hg]
                  · rw [if_neg hg] at h; simp at h; exact absurd h.1 hg
              · rw [if_neg he] at h; simp at h; exact absurd h.1.symm he
          | cons c2 F =>
            simp at h
            refine ex2E (ih n F s hn' (by rw [List.append_assoc]; exact h.2)) fun f b zz7 => and2E zz7 fun e1 e2 => ?_
            refine ⟨d :: f, b, by rw [e1]; rfl, ?_⟩
            rw [dbl_cons, if_pos hd]; exact Nat.succ_le_succ (Nat.succ_le_succ e2)
        · rw [if_neg hd] at h
          simp at h
          refine ex2E (ih n F s hn' (by rw [List.append_assoc]; exact h.2)) fun f b zz6 => and2E zz6 fun e1 e2 => ?_
          refine ⟨d :: f, b, by rw [e1]; rfl, ?_⟩
          rw [dbl_cons, if_neg hd]; exact Nat.succ_le_succ e2
theorem dbl_mono {a b : List Nat} (x : List Nat) (h : b = a ++ x) : (dbl 34 a).length ≤ (dbl 34 b).length := by rw [h, dbl_append]; simp
theorem wire_cut1 {x0 x1 x2 name w : List Nat} {r : List (List Nat)} (hx : x1 ≠ []) (h : Cut1 x0 x1 x2 name r) : Cut1 (dbl 34 x0) (dbl 34 x1) (dbl 34 x2 ++ w) (dbl 34 name ++ w) (r.map (dbl 34)) := by
  have up : ∀ f s, name = x0 ++ f ++ x1 ++ s ++ x2 → dbl 34 name ++ w = dbl 34 x0 ++ dbl 34 f ++ dbl 34 x1 ++ dbl 34 s ++ (dbl 34 x2 ++ w) := by
    intro f s e; rw [e]; simp [dbl_append]
  have down : ∀ F G, dbl 34 name ++ w = dbl 34 x0 ++ F ++ dbl 34 x1 ++ G ++ (dbl 34 x2 ++ w) → ∃ f s, name = x0 ++ f ++ x1 ++ s ++ x2 ∧ (dbl 34 f).length ≤ F.length := by
    intro F G e
    have e : dbl 34 name ++ w = (dbl 34 x0 ++ F ++ dbl 34 x1 ++ G ++ dbl 34 x2) ++ w := by rw [e]; simp
    have e := List.append_cancel_right e
    refine ex1E (dbl_prefix (r := x0) (s := F ++ dbl 34 x1 ++ G ++ dbl 34 x2) (by rw [e]; simp)) fun n1 zz5 => and2E zz5 fun e1 e2 => ?_
    refine ex1E (dbl_suffix (r := x2) (s := F ++ dbl 34 x1 ++ G) e2.symm) fun n2 zz4 => and2E zz4 fun e3 e4 => ?_
    refine ex2E (dbl_within hx _ n2 F G (Nat.le_refl _) e4.symm) fun f s zz3 => and2E zz3 fun e5 e6 => ?_
    exact ⟨f, s, by rw [e1, e3, e5]; simp, e6⟩
  rcases h with ⟨rfl, h⟩ | ⟨f, s, rfl, h1, h2⟩
  · refine .inl ⟨rfl, fun F G e => ?_⟩
    refine ex2E (down F G e) fun f s zz2 => and2E zz2 fun q _ => ?_
    exact h f s q
  · refine .inr ⟨dbl 34 f, dbl 34 s, rfl, up f s h1, fun F G e => ?_⟩
    refine ex2E (down F G e) fun f' s' zz1 => and2E zz1 fun q1 q2 => ?_
    have hl := h2 f' s' q1
    have hp : f' = f ++ f'.drop f.length := by
      rw [h1] at q1
      simp only [List.append_assoc] at q1
      have q1 := List.append_cancel_left q1
      have := congrArg (List.take f.length) q1
      rw [List.take_left, List.take_append_of_le_length hl] at this
      rw [← List.take_append_drop f.length f', ← this]; simp
    exact Nat.le_trans (dbl_mono _ hp) q2
theorem wire_shares {x0 x1 x2 name w : List Nat} (hx : x1 ≠ []) : sharesL (dbl 34 x0) [dbl 34 x1] (dbl 34 x2 ++ w) (dbl 34 name ++ w) = (cutL x0 x1 x2 name).map (dbl 34) :=
  Cut1_unique (shares_cut1 ..) (wire_cut1 hx (cut_cut1 ..))
end Mine
end
-- Fn2
section
open PySem PySem.W PySem.Calls PyProof.Rows PySem.Builtin PySem.Builtin.Str
namespace Mine
noncomputable def envC (name : Str) (scope : Scope) (L f : Addr) (cd : Value) (cells : List (Str × Addr)) : Env :=
  { scope, locals := L, globals := mainGlobals, cells, qual := name ++ ".<locals>.", func := some f, code := cd, frame := some L, builtins := builtinsNs }
theorem cellsFrom_mem {x : Str} : ∀ (names : List (Str × NameKind)) (k : Nat) (acc : List (Str × Addr)), ((x, NameKind.cell) ∈ names ∨ (acc.lookup x).isSome = true) → ((cellsFrom k names acc).lookup x).isSome = true
  | [], _, acc, h => by rcases h with h | h; (cases h); (exact h)
  | (n, kd) :: r, k, acc, h => by
    unfold cellsFrom
    split
    · rename_i hk
      refine cellsFrom_mem r _ _ ?_
      by_cases e : x = n
      · right; rw [List.lookup_cons, beq_iff_eq.mpr e]; rfl
      · rcases h with h | h
        · rcases List.mem_cons.mp h with q | q
          · exact absurd (Prod.mk.inj q).1 e
          · exact .inl q
        · right; rw [List.lookup_cons, beq_eq_false_iff_ne.mpr e]; exact h
    · rename_i hk
      refine cellsFrom_mem r _ _ (h.imp (fun q => ?_) id)
      rcases List.mem_cons.mp q with q | q
      · exact absurd (by rw [← (Prod.mk.inj q).2]; rfl) hk
      · exact q
theorem bindL_all {kindOf : Str → Option NameKind} : ∀ {binds : List (Str × Value)} {m : Str → Option Value}, (∀ p ∈ binds, kindOf p.1 = some .local) → bindL kindOf binds m = fun y => (binds.reverse.lookup y).or (m y)
  | [], m, _ => by funext y; rfl
  | (n, v) :: r, m, h => by
    rw [bindL, if_pos (h _ (.head _)), bindL_all fun p hp => h p (.tail _ hp)]
    funext y
    rw [List.reverse_cons, List.lookup_append]
    cases List.lookup y r.reverse with
    | some z => rfl
    | none =>
      show (if y = n then some v else m y) = (List.lookup y [(n, v)]).or (m y)
      rw [List.lookup_cons]
      by_cases e : y = n
      · rw [if_pos e, beq_iff_eq.mpr e]; rfl
      · rw [if_neg e, beq_eq_false_iff_ne.mpr e]; rfl
section
variable {K : Frag}
theorem WX.newge {X : Addr → Prop} {s : Shared} (x : WX K X s) {a : Addr} (h : s.heap.objs.size ≤ a) : K.lookup a = none ∧ a ≠ builtinsNs := by
  constructor
  · cases q : K.lookup a with
    | none => rfl
    | some o => exact absurd (Heap.lt_size (x.kin _ _ q)) (Nat.not_lt.mpr h)
  · refine ex1E x.bi fun mb zz11 => and2E zz11 fun h1 _ => ?_
    exact fun q => absurd h1.lt (by rw [← q]; exact Nat.not_lt.mpr h)
theorem none_ge {h : Heap} {a : Addr} (hl : h.objs.size ≤ a) : h.get? a = none := by
  cases q : h.get? a with
  | none => rfl
  | some o => exact absurd (Heap.lt_size q) (Nat.not_lt.mpr hl)
theorem FSpec_gen {name qual : Str} {params : Arguments} {body : List Stmt} {scope : Scope} {dV kV doc pm cdv ct oc : Value} {an od : Option Addr} {osl : Array (Option Value)} {f : Addr} {n : Nat} {ds ds₁ : List D} {d : D} {ps : List String} (nms : Nms)
    (hK : K.lookup f = some ⟨oc, od, .func (fnOf name qual params body scope dV kV doc pm an cdv ct), osl⟩) (hcd : codeIn K cdv qual = true) (hlim : nolimitIn K)
    (hsc : scope.names = nms.map fun p => ((p.1 : Str), p.2)) (hok : nmsOk nms = true) (hkind : scope.kind = .function) (hco : scope.isCoroutine = false) (hgen : scope.isGenerator = false)
    (hps : ps = (nms.take ds₁.length).map (·.1)) (hlen : ds₁.length ≤ nms.length) (hloc : (nms.take ds₁.length).all (fun p => p.2 == .local) = true) (hfree : nms.all (fun p => p.2 != .free) = true)
    (hbind : ∀ (A : Around) (X : Addr → Prop) (s : Shared) (vs : List Value) (Q : List (Str × Value) → Shared → Prop) (E : Value → Shared → Prop), WX K X s → RdAll X s.heap vs ds →
      (∀ vs₁ s₁, Kp s s₁ → WX K X s₁ → RdAll X s₁.heap vs₁ ds₁ → Q ((ps.map Str.ofString).zip vs₁) s₁) → wpAny (model prog w) A (bindArgs (fnOf name qual params body scope dV kV doc pm an cdv ct) ⟨vs, []⟩) Q E s)
    (hbody : ∀ A L cells Xc, Rm A n → Ex prog w K A (envC qual scope L f cdv cells) nms Xc [] (startσ nms ds₁) body (fun o => o = .ret d)) : FSpec prog w K f (n + 1) ds d := by
  intro A X hr s vs Q E wx r hQ
  refine wpAny_call (codeAny_call_function (fd := fnOf name qual params body scope dV kV doc pm an cdv ct) (body := body) (by have := hr.d; lia) (wx.kin _ _ hK) rfl hco hgen rfl (codeRec_of wx.kin hcd) ?_)
  refine hbind A.in1 X s vs _ _ wx r fun vs₁ s₁ k₁ w₁ r₁ => ?_
  have hl := r₁.length
  have hbl : ∀ p ∈ (ps.map Str.ofString).zip vs₁, scope.names.lookup p.1 = some .local := by
    intro p hp
    refine ex1E (List.mem_iff_getElem.mp hp) fun i zz10 => ex1E zz10 fun hi e => ?_
    have hi' : i < ds₁.length := by simp [hl] at hi; lia
    have hin : i < nms.length := by lia
    rw [List.getElem_zip] at e
    have e1 : p.1 = (nms[i].1 : Str) := by rw [← e]; simp [hps]
    have hk : nms[i].2 = .local := by
      have := List.all_eq_true.mp hloc nms[i] (List.mem_take_iff_getElem.mpr ⟨i, by lia, rfl⟩)
      simpa using this
    rw [e1, hsc]
    refine lookup_nodup (i := i) ?_ ?_
    · unfold nmsOk at hok
      rw [Bool.and_eq_true] at hok
      rw [List.map_map]; exact of_decide_eq_true hok.1
    · rw [List.getElem?_map, List.getElem?_eq_getElem hin]; simp [hk]
  refine wpAny_with_toks (Nat.le_refl _) (wpAny_newFunctionEnv_cells hkind (fun p hp => .inl (hbl p hp)) fun env he s₂ ic htk => ?_)
  have he' : env = envC qual scope s₁.heap.objs.size f cdv (cellsFrom (s₁.heap.objs.size + 1) scope.names []) := he
  clear he
  generalize hC : cellsFrom (s₁.heap.objs.size + 1) scope.names [] = cells at he'
  subst he'
  have hlim₂ : s₂.heap.NoLimit := (noLimit_of w₁.kin hlim).keeps ic.toInCall.keep
  refine ⟨hlim₂, codeAny_func ?_⟩
  obtain ⟨⟨⟨h₂, tk₂, es₂⟩, hns, hk, hfr⟩, hcellv, hapart, habove⟩ := ic
  have hnd : ((ps.map Str.ofString).zip vs₁ |>.map (·.1)).Nodup := by
    rw [List.map_fst_zip (by simp [hps, hl]; lia)]
    unfold nmsOk at hok
    rw [Bool.and_eq_true] at hok
    have := of_decide_eq_true hok.1
    rw [hps, List.map_map, List.map_take]
    exact (List.take_sublist _ _).nodup this
  have n96 : ∀ a, s₁.heap.objs.size ≤ a → a ≠ 96 := fun a ha e => by
    refine ex1E w₁.tb fun pt zz9 => and2E zz9 fun q _ => ?_
    exact absurd (Heap.lt_size q) (by rw [← e]; exact Nat.not_lt.mpr ha)
  have habove' : ∀ y c, cells.lookup y = some c → s₁.heap.objs.size < c := fun y c h => habove y c (mem_of_lookup h)
  have hsub : ∀ a, XO X (envC qual scope s₁.heap.objs.size f cdv cells) [] a → X a ∨ s₁.heap.objs.size ≤ a := by
    intro a ha
    rcases ha with q | q | ⟨y, q⟩ | ⟨p, hp, _⟩
    · exact .inl q
    · exact .inr (Nat.le_of_eq q.symm)
    · exact .inr (Nat.le_of_lt (habove' y a q))
    · cases hp
  have hx : ∀ a, XO X (envC qual scope s₁.heap.objs.size f cdv cells) [] a → X a ∨ s₁.heap.get? a = none := fun a ha => (hsub a ha).imp id none_ge
  have eo : EnvOk (envC qual scope s₁.heap.objs.size f cdv cells) nms := ⟨hsc, hok, hkind, rfl, rfl, n96 _ (Nat.le_refl _), fun y c h => n96 _ (Nat.le_of_lt (habove' y c h)), fun y c h => (Nat.ne_of_gt (habove' y c h))⟩
  have hkO : ∀ p ∈ (ps.map Str.ofString).zip vs₁, (envC qual scope s₁.heap.objs.size f cdv cells).kindOf p.1 = some .local := hbl
  have hm : bindL (envC qual scope s₁.heap.objs.size f cdv cells).kindOf ((ps.map Str.ofString).zip vs₁) (fun _ => none) = fun x => ((ps.map Str.ofString).zip vs₁).reverse.lookup x := by
    rw [bindL_all hkO]; funext y; exact Option.or_none
  rw [hm] at hns
  have hcm : bindC (envC qual scope s₁.heap.objs.size f cdv cells).kindOf ((ps.map Str.ofString).zip vs₁) (fun _ => none) = fun _ => none := by
    have : ∀ (l : List (Str × Value)) (m : Str → Option Value), (∀ p ∈ l, (envC qual scope s₁.heap.objs.size f cdv cells).kindOf p.1 = some .local) → bindC (envC qual scope s₁.heap.objs.size f cdv cells).kindOf l m = m := by
      intro l
      induction l with
      | nil => intro m _; rfl
      | cons p l ih => intro m h; obtain ⟨n', v'⟩ := p; rw [bindC, if_pos (h _ (.head _))]; exact ih m fun q hq => h q (.tail _ hq)
    exact this _ _ hkO
  have es : s₂ = { s₁ with heap := s₂.heap, toks := s₂.toks } := by rw [es₂]
  have hst : St K (envC qual scope s₁.heap.objs.size f cdv cells) nms X [] (startσ nms ds₁) s₂ := by
    refine ⟨fun x => ((ps.map Str.ofString).zip vs₁).reverse.lookup x, ?_⟩
    refine ⟨⟨w₁.kin.keeps hk, fun a ha => ?_, ?_, w₁.tb.keeps hx (hk 96) fun b o _ e => hk b o e, Nat.lt_of_lt_of_le w₁.pos htk, .inl w₁.x96, fun a ha => ?_⟩, w₁.x96, eo, ⟨⟨_, hns, fun _ _ => rfl⟩, fun y hy => ?_⟩, ?_, fun p hp => (by cases hp), List.nodup_nil, fun p hp => (by cases hp), fun y z c h1 h2 => name_of_addr hapart (mem_of_lookup h1) (mem_of_lookup h2)⟩
    · rcases hsub a ha with q | q
      · exact w₁.xk a q
      · exact w₁.newge q
    · refine ex1E w₁.bi fun mb zz8 => and2E zz8 fun q1 q2 => ?_; exact ⟨mb, q1.keeps hk, q2⟩
    · rcases ha with q | q | ⟨y, q⟩ | ⟨p, hp, _⟩
      · refine ex1E (w₁.xb a q) fun o e => ?_; exact ⟨o, hk _ _ e⟩
      · subst q; refine ex3E hns fun o _ _ zz7 => and2E zz7 fun e _ => ?_; exact ⟨o, e⟩
      · refine ex1E (hcellv y a q) fun o zz6 => and2E zz6 fun e _ => ?_; exact ⟨o, e⟩
      · cases hp
    · have hyc : (envC qual scope s₁.heap.objs.size f cdv cells).kindOf y = some .cell := by
        rcases hy with hy | hy
        · exact hy
        · exfalso
          refine ex1E (eo.kind_mem hy) fun p zz5 => and2E zz5 fun hp e => ?_
          have := List.all_eq_true.mp hfree p hp
          simp [e] at this
      have hcs : (cells.lookup y).isSome = true := by
        rw [← hC]
        exact cellsFrom_mem _ _ _ (.inl (mem_of_lookup hyc))
      refine ex1E (Option.isSome_iff_exists.mp hcs) fun c hc => ?_
      refine ⟨c, hc, ?_⟩
      have e0 : ((ps.map Str.ofString).zip vs₁).reverse.lookup y = none := by
        cases q : ((ps.map Str.ofString).zip vs₁).reverse.lookup y with
        | none => rfl
        | some v =>
          have := hkO _ (List.mem_reverse.mp (mem_of_lookup q))
          rw [hyc] at this; cases this
      rw [e0]
      have := hcellv y c hc
      rw [hcm] at this
      exact this
    · intro i nm k d' h1 h2
      have hi : i < ds₁.length := by
        unfold startσ at h2
        rcases Nat.lt_or_ge i ds₁.length with h | h
        · exact h
        · rw [List.getElem?_append_right (by simpa using h)] at h2
          rw [List.getElem?_replicate] at h2
          split at h2 <;> cases h2
      have hd : ds₁[i]? = some d' := by
        unfold startσ at h2
        rw [List.getElem?_append_left (by simpa using hi), List.getElem?_map] at h2
        rw [List.getElem?_eq_getElem hi] at h2 ⊢
        simpa using h2
      refine ex1E (r₁.get hd) fun v zz4 => and2E zz4 fun hv rv => ?_
      refine ⟨v, ?_, rv.mono hx fun b o _ e => hk b o e⟩
      refine lookup_mem (by rw [List.map_reverse]; exact nodup_rev hnd) (List.mem_reverse.mpr ?_)
      refine List.mem_iff_getElem?.mpr ⟨i, ?_⟩
      rw [List.getElem?_zip_eq_some]
      refine ⟨?_, hv⟩
      rw [hps, List.map_map, List.getElem?_map, List.getElem?_take, if_pos hi, h1]
      rfl
  show wpAny (model prog w) (A.deeper (envC qual scope s₁.heap.objs.size f cdv cells)) (execs body (envC qual scope s₁.heap.objs.size f cdv cells)) _ _ _
  refine hbody _ s₁.heap.objs.size cells X (hr.deeper _) _ _ _ rfl hst fun out fl s' ho hok' => ?_
  subst ho
  refine ex1E hok' fun v zz3 => and4E zz3 fun zz2 kf w' r' => ?_; subst zz2
  refine hQ v s' (k₁.trans ?_) w' r'
  refine ex2E kf fun h' tk zz1 => and3E zz1 fun e' l q => ?_
  refine ⟨h', tk, ?_, Nat.le_trans htk l, fun b o hb e => q b o hb (fun mu => ?_) (hk _ _ e)⟩
  · rw [e', es₂]
  · rcases mu with z | ⟨y, z⟩ | ⟨p, hp, _⟩
    · have z' : b = s₁.heap.objs.size := z
      rw [z', none_ge (Nat.le_refl _)] at e; cases e
    · rw [none_ge (Nat.le_of_lt (habove' y b z))] at e; cases e
    · cases hp
end
end Mine
end
-- For2
section
open PySem PySem.W PySem.Calls PyProof.Rows PySem.Builtin PySem.Builtin.Str
namespace Mine
section
variable {K : Frag} {A : Around} {env : Env} {nms : Nms} {X Xc Xc' : Addr → Prop} {own own' : Own} {sh : Own} {σ : List (Option D)} {P : Out → Prop} {s s' : Shared}
theorem IterOn.tuple {v : Value} {ds : List D} (hh : A.handled = none) (x : WX K X s) (r : Rd X s.heap v (.tuple ds)) : IterOn prog w K A X s v ds := by
  intro Q E hQ
  refine Rd.tupleE r fun _ _ hn hg r => ?_
  rename_i a vs
  have hl : s.heap.IsTuple a vs.toArray := hg
  refine ex1E (id hg) fun oh zz7 => and2E zz7 fun hgo _ => ?_
  have hk : ∀ b o, s.heap.get? b = some o → (s.heap.push ({ cls := .type "tuple_iterator", data := .fields #[.ref a, rawInt 0] } : Obj)).get? b = some o := fun b o e => Heap.get?_push_of_some _ e
  have hnone : s.heap.get? s.heap.objs.size = none := none_ge (Nat.le_refl _)
  have hne : a ≠ s.heap.objs.size := fun e => by rw [e, hnone] at hgo; cases hgo
  refine wpAny_pyIter_tuple hl ?_
  have W : Walks prog w A s.heap.objs.size [s.heap.objs.size, a] [s.heap.objs.size] ds.length (fun i v => vs.toArray[i]? = some v) (fun i h => h.IsTupleIter s.heap.objs.size a i ∧ h.IsTuple a vs.toArray) := by
    have W := Walks.tuple (prog := prog) (w := w) hh s.heap.objs.size a hne vs.toArray
    have e : vs.toArray.size = ds.length := by rw [List.size_toArray, r.length]
    rw [e] at W
    exact W
  have hfr : ∀ b ∈ [s.heap.objs.size], s.heap.get? b = none := by intro b hb; simp at hb; rw [hb]; exact hnone
  refine hQ _ [s.heap.objs.size, a] [s.heap.objs.size] _ _ _ (Kp.of (Nat.le_refl _) hk) (x.join (Nat.le_refl _) hk hfr ?_) W ?_ hfr ?_ ?_ ?_ (fun i h st => let ⟨o, e, c, _⟩ := st.1; ⟨o, _, e, c, by decide +kernel⟩)
  · intro b hb; simp at hb; rw [hb]; exact ⟨_, Heap.get?_push_size _ rfl⟩
  · exact ⟨⟨_, Heap.get?_push_size _ rfl, rfl, rfl⟩, let ⟨o, e, r⟩ := hl; ⟨o, hk _ _ e, r⟩⟩
  · rintro i h ⟨⟨o, e, _⟩, _⟩ b hb; simp at hb; rw [hb]; exact ⟨o, e⟩
  · intro b hb
    simp at hb
    rcases hb with rfl | rfl
    · exact .inl (by simp)
    · exact .inr ⟨hn, _, hgo⟩
  · intro i v _ hv
    exact r.get' (by simpa using hv)
theorem iter_str_at {ty : String} (hty : special ty = false) {x : List Nat} {t : Tok} {Q : Value → Shared → Prop} (q : WX K X s)
    (W : Walks prog w A s.heap.objs.size [s.heap.objs.size] [s.heap.objs.size] (S x).cps.size (SignAt (S x)) (fun i h => h.IsStrIter s.heap.objs.size ty (S x) t i))
    (hQ : ∀ I fp wr (Pv : Nat → Value → Prop) (Stt : Nat → Heap → Prop) s', Kp s s' → WX K (fun a => X a ∨ a ∈ wr) s' → Walks prog w A I fp wr (x.map fun c => D.str [c]).length Pv Stt → Stt 0 s'.heap → (∀ b ∈ wr, s.heap.get? b = none) →
    (∀ i h, Stt i h → ∀ b ∈ wr, ∃ o, h.get? b = some o) → (∀ b ∈ fp, b ∈ wr ∨ (¬ X b ∧ ∃ o, s.heap.get? b = some o)) → (∀ i v, i < (x.map fun c => D.str [c]).length → Pv i v → ∃ d, (x.map fun c => D.str [c])[i]? = some d ∧ Rd X s.heap v d) → (∀ i h, Stt i h → ∃ o n, h.get? I = some o ∧ o.cls = .type n ∧ special n = false) → Q (.ref I) s') :
    Q (.ref s.heap.objs.size) { s with heap := s.heap.push ({ cls := .type ty, data := .fields #[.str (S x) t, .int 0 0] } : Obj) } := by
  have hk : ∀ b ob, s.heap.get? b = some ob → (s.heap.push ({ cls := .type ty, data := .fields #[.str (S x) t, .int 0 0] } : Obj)).get? b = some ob := fun b ob e => Heap.get?_push_of_some _ e
  have hnone : s.heap.get? s.heap.objs.size = none := none_ge (Nat.le_refl _)
  have hfr : ∀ b ∈ [s.heap.objs.size], s.heap.get? b = none := by intro b hb; simp at hb; rw [hb]; exact hnone
  have e : (S x).cps.size = (x.map fun c => D.str [c]).length := by simp [S]
  rw [e] at W
  refine hQ _ [s.heap.objs.size] [s.heap.objs.size] _ _ _ (Kp.of (Nat.le_refl _) hk) (q.join (Nat.le_refl _) hk hfr ?_) W ?_ hfr ?_ ?_ ?_ (fun i h st => let ⟨o, e, c, _⟩ := st; ⟨o, _, e, c, hty⟩)
  · intro b hb; simp at hb; rw [hb]; exact ⟨_, Heap.get?_push_size _ rfl⟩
  · exact ⟨_, Heap.get?_push_size _ rfl, rfl, rfl⟩
  · rintro i h ⟨o, e, _⟩ b hb; simp at hb; rw [hb]; exact ⟨o, e⟩
  · intro b hb; exact .inl hb
  · rintro i v hi ⟨c, u, hc, rfl⟩
    refine ⟨.str [c], ?_, .str [c] u⟩
    rw [List.getElem?_map]
    have : x[i]? = some c := by simpa [S] using hc
    rw [this]; rfl
theorem IterOn.str {v : Value} {x : List Nat} (hh : A.handled = none) (q : WX K X s) (r : Rd X s.heap v (.str x)) : IterOn prog w K A X s v (x.map fun c => .str [c]) := by
  intro Q E hQ
  refine Rd.strE r fun t => ?_
  cases ha : (S x).cps.all (· < 128)
  · exact wpAny_pyIter_wide ha (iter_str_at (by decide +kernel) q (Walks.strWide hh _ _ t) hQ)
  · exact wpAny_pyIter_ascii ha (iter_str_at (by decide +kernel) q (Walks.strAscii hh _ _ t) hQ)
theorem EvIt_tuple {e : Expr} {ds : List D} (hh : A.handled = none) (h : Ev prog w K A env nms X σ e (.tuple ds)) : EvIt prog w K A env nms X σ e ds :=
  fun s Q E st hQ => h Q E st fun v s' k w r => hQ v s' k w (IterOn.tuple hh w r)
theorem EvIt_str {e : Expr} {x : List Nat} (hh : A.handled = none) (h : Ev prog w K A env nms X σ e (.str x)) : EvIt prog w K A env nms X σ e (x.map fun c => .str [c]) :=
  fun s Q E st hQ => h Q E st fun v s' k w r => hQ v s' k w (IterOn.str hh w r)
theorem ExS_try {body : List Stmt} {h₀ : ExceptHandler} {hs : List ExceptHandler} {pos : Pos} (h : Ex prog w K A env nms Xc sh σ body P) : ExS prog w K A env nms Xc sh σ (.Try body (h₀ :: hs) [] [] pos) P := by
  intro own s Q E eo x hQ
  refine wpAny_Try_except (h s _ _ eo x fun out f s' hp ho => ?_)
  cases out with
  | next sh' σ' => refine and2E ho fun zz6 r => ?_; subst zz6; exact wpAny_execs_nil (hQ _ _ _ hp ⟨rfl, r⟩)
  | brk sh' σ' => refine and2E ho fun zz5 r => ?_; subst zz5; exact hQ _ _ _ hp ⟨rfl, r⟩
  | cont sh' σ' => refine and2E ho fun zz4 r => ?_; subst zz4; exact hQ _ _ _ hp ⟨rfl, r⟩
  | ret d => refine ex1E ho fun v zz3 => and2E zz3 fun zz2 r => ?_; subst zz2; exact hQ (.ret d) _ _ hp ⟨v, rfl, r⟩
theorem ExS_post {P' : Out → Prop} {st : Stmt} (h : ExS prog w K A env nms Xc sh σ st P') (hp : ∀ o, P' o → P o) : ExS prog w K A env nms Xc sh σ st P := ExT_mono h hp
theorem wp_peek1 {α : Type} {M : Model} {E : Value → Shared → Prop} {Q : α → Shared → Prop} {o : Obj} {r : Addr → α} (x : K.In s.heap) (q : Q (r s.heap.objs.size) { s with heap := s.heap.push o }) :
    ∀ (t : Sem α) (g : Addr → Option α), peek1 K ⟨M.prog, M.w.params⟩ t = some (o, g) → (∀ D, g D = some (r D)) → wpAny M A t Q E s := by
  intro t
  induction t with
  | rule _ k ih => intro g e hg Γ p hΓ; exact ih () g e hg Γ p hΓ
  | point _ k ih => intro g e hg Γ p hΓ; exact ih () g e hg Γ p hΓ
  | ask k ih => intro g e hg Γ p hΓ; exact ih _ g e hg Γ p hΓ
  | load a _ k ih =>
    intro g e hg Γ p hΓ
    simp only [peek1] at e
    split at e
    · rename_i ob ho; exact ⟨ob, x _ _ ho, ih ob g e hg Γ p hΓ⟩
    · cases e
  | alloc ob k _ =>
    intro g e hg
    have e : some (ob, fun D => peek K ⟨M.prog, M.w.params⟩ (k D)) = some (o, g) := e
    refine and2E (Prod.mk.inj (Option.some.inj e)) fun e1 e2 => ?_
    subst e1
    subst e2
    have X' : K.In (s.heap.push ob) := x.keeps fun b x hb => Heap.get?_push_of_some _ hb
    show wpAny M A (alloc ob >>= k) Q E s
    refine wpAny_bind (wpAny_alloc ?_)
    exact (Looks.of_peek (M := M) (h := s.heap.push ob) X' (hg s.heap.objs.size)).here (s := { s with heap := s.heap.push ob }) q
  | _ => intro g e; cases e
theorem bind_star {fd : FuncData} {n1 n2 : Str} {d1 d2 : D} {vs : List Value} {Q : List (Str × Value) → Shared → Prop} {E : Value → Shared → Prop} (x : WX K X s) (r : RdAll X s.heap vs [d1, d2])
    (hp : ∀ a b, ∃ g, peek1 K ⟨prog, w.params⟩ (bindArgs fd ⟨[a, b], []⟩) = some (({ cls := .type "tuple", data := .seq #[b] } : Obj), g) ∧ ∀ D, g D = some [(n1, a), (n2, .ref D)])
    (hQ : ∀ vs₁ s₁, Kp s s₁ → WX K X s₁ → RdAll X s₁.heap vs₁ [d1, .tuple [d2]] → Q ([n1, n2].zip vs₁) s₁) : wpAny (model prog w) A (bindArgs fd ⟨vs, []⟩) Q E s := by
  refine RdAll.E2 r fun _ _ a b => ?_
  rename_i va vb
  refine ex1E (hp va vb) fun g zz1 => and2E zz1 fun e1 e2 => ?_
  have hk : ∀ c o, s.heap.get? c = some o → (s.heap.push ({ cls := .type "tuple", data := .seq #[vb] } : Obj)).get? c = some o := fun c o e => Heap.get?_push_of_some _ e
  refine wp_peek1 (M := model prog w) (r := fun D => [(n1, va), (n2, .ref D)]) x.kin ?_ _ g e1 e2
  refine hQ [va, .ref s.heap.objs.size] _ (Kp.of (Nat.le_refl _) hk) (x.more (Nat.le_refl _) hk) (.cons (a.mono (fun _ q => .inl q) fun _ _ _ e => hk _ _ e) (.cons (.tuple (vs := [vb]) x.fresh_size ⟨_, Heap.get?_push_size _ rfl, rfl, _, rfl⟩ (.cons (b.mono (fun _ q => .inl q) fun _ _ _ e => hk _ _ e) .nil)) .nil))
end
end Mine
end
-- ForE
section
open PySem PySem.W PySem.Calls PyProof.Rows PySem.Builtin PySem.Builtin.Str
namespace Mine
section
variable {K : Frag} {A : Around} {env : Env} {nms : Nms} {X Xc Xc' : Addr → Prop} {own own' : Own} {sh : Own} {σ : List (Option D)} {P : Out → Prop} {s s' : Shared}
noncomputable def EnSt (e it l : Addr) (vs : List Value) (q : Nat) (h : Heap) : Prop := ∃ old, IsEnum h e it (q : Int) old ∧ h.IsListIter it l q ∧ h.IsList l vs.toArray
theorem EnSt.frame {e it l : Addr} {vs : List Value} (q : Nat) (h h' : Heap) (s : EnSt e it l vs q h) (k : ∀ b ∈ [e, it, l], ∀ o, h.get? b = some o → h'.get? b = some o) : EnSt e it l vs q h' :=
  let ⟨old, a, ⟨o, b, r⟩, ⟨o', c, r'⟩⟩ := s; ⟨old, k e (.head _) _ a, ⟨o, k it (.tail _ (.head _)) o b, r⟩, ⟨o', k l (.tail _ (.tail _ (.head _))) o' c, r'⟩⟩
theorem not_in2 {a e it : Addr} (h1 : a ≠ e) (h2 : a ≠ it) : a ∉ [e, it] := fun h => by
  cases h with
  | head => exact h1 rfl
  | tail _ h => cases h with
    | head => exact h2 rfl
    | tail _ h => nomatch h
theorem of_not2 {a e it : Addr} (h : a ∉ [e, it]) : a ≠ e ∧ a ≠ it := ⟨fun q => h (q ▸ .head _), fun q => h (q ▸ .tail _ (.head _))⟩
theorem all2 {e it : Addr} {C : Addr → Prop} (h1 : C e) (h2 : C it) : ∀ b ∈ [e, it], C b := fun b hb => by
  cases hb with
  | head => exact h1
  | tail _ h => cases h with
    | head => exact h2
    | tail _ h => nomatch h
theorem enum_item {e it l : Addr} {vs : List Value} {d : D} {q i j : Nat} {n1 n2 : String} {k1 k2 : NameKind} {p1 p2 tp : Pos} {c : Nat} {s₀ s₂ : Shared} {own₂ : Own} {σ₂ : List (Option D)} {Qn : Option Value → Shared → Prop} {B : Shared → Prop} {E E1 E2 : Value → Shared → Prop} (hlv : q < vs.length)
    (hn1 : nms[i]? = some (n1, k1)) (hk1 : k1 = .local ∨ k1 = .cell) (hn2 : nms[j]? = some (n2, k2)) (hk2 : k2 = .local ∨ k2 = .cell) (hh : A.handled = none) (hei : e ≠ it) (hle : l ≠ e) (hli : l ≠ it)
    (w₀ : WX K (XO Xc env own) s₀) (hf : ∀ b ∈ [e, it], s₀.heap.get? b = none) (fpc : ∀ b ∈ [e, it, l], b ∈ [e, it] ∨ (¬ XO Xc env own b ∧ ∃ o, s₀.heap.get? b = some o)) (rd : Rd (XO Xc env own) s₀.heap vs[q] d)
    (x₂ : St K env nms (fun a => Xc a ∨ a ∈ [e, it]) own₂ σ₂ s₂) (st₂ : EnSt e it l vs q s₂.heap) (kf₂ : Kf env own s₀ s₂) (fr₂ : Fresher own own₂ s₀)
    (hq : ∀ v s₁, wpAny (model prog w) A (letOwnedTupleGo (.Tuple [.Name n1 p1, .Name n2 p2] c tp) (.ref e) v) (fun _ s₁' => wpAny (model prog w) A (assign (.Tuple [.Name n1 p1, .Name n2 p2] c tp) env v) (fun _ s₂ => B s₂) E1 s₁') E2 s₁ → Qn (some v) s₁)
    (hB : ∀ s₆, St K env nms (fun a => Xc a ∨ a ∈ [e, it]) (drop (drop own₂ i) j) ((σ₂.set i (some (.int q))).set j (some d)) s₆ → EnSt e it l vs (q + 1) s₆.heap → Kf env own s₀ s₆ → Fresher own (drop (drop own₂ i) j) s₀ → B s₆) :
    wpAny (model prog w) A (pyNext (.ref e)) Qn E s₂ := by
  refine ex1E st₂ fun old z => and3E z fun en₂ it₂ li₂ => ?_
  refine wpAny_pyNext_enum_item en₂ it₂ li₂ (x := vs[q]) (by simp [hlv]) hei fun h₁ heo hit₁ ht₁ hz₁ hk₁ => ?_
  refine hq _ _ (wpAny_letOwnedTupleGo_enum (s := { s₂ with heap := h₁, toks := s₂.toks + 1 }) heo fun h₂ he₂ hs₂ => ?_)
  have hs₂ : Heap.SameBut e h₁ h₂ := hs₂
  have heT : s₂.heap.objs.size ≠ e := Nat.ne_of_gt (Heap.lt_size en₂)
  have ht₂ : h₂.IsTuple s₂.heap.objs.size #[.int q s₂.toks, vs[q]] := ⟨_, (hs₂.2 _ heT).trans ht₁, rfl, _, rfl⟩
  generalize s₂.heap.objs.size = T at ht₂
  have hk₂ : ∀ b o, b ∉ [e, it] → s₂.heap.get? b = some o → h₂.get? b = some o := fun b o hb eo => and2E (of_not2 hb) fun n1 n2 => (hs₂.2 b n1).trans (hk₁ b o n1 n2 eo)
  have it₂' : h₂.IsListIter it l (q + 1) := hit₁.extBut hs₂.extBut (Ne.symm hei)
  have hl₂ : h₂.IsList l vs.toArray := let ⟨o, z, r⟩ := li₂; ⟨o, hk₂ l o (not_in2 hle hli) z, r⟩
  have kf₃ := kf₂.walk (h' := h₂) (tk := s₂.toks + 1) hf (Nat.le_succ _) hk₂
  have x₃ := x₂.walk (h' := h₂) (tk := s₂.toks + 1) (Nat.le_succ _) hk₂ (wr_out w₀ hf) (all2 ⟨_, he₂⟩ (ex1E it₂' fun o z => ⟨o, z.1⟩))
  have rd₃ := rd_walked rd w₀ hf fr₂ kf₃
  have st₃ : EnSt e it l vs (q + 1) h₂ := ⟨_, he₂, it₂', hl₂⟩
  refine wpAny_assign_Tuple (s := { s₂ with heap := h₂, toks := s₂.toks + 1 }) hh ht₂ rfl rfl fun h₄ hx₄ => ?_
  have hfull := ExtBut.full hx₄
  have kp₄ : Kp { s₂ with heap := h₂, toks := s₂.toks + 1 } { s₂ with heap := h₄, toks := s₂.toks + 1 } := Kp.of (tk := s₂.toks + 1) (Nat.le_refl _) hfull
  have x₄ := x₃.kp kp₄ (x₃.wx.more (Nat.le_refl _) hfull)
  have kf₄ := kf₃.trans (Fresher.refl _ _) (Kp.kf kp₄)
  have st₄ : EnSt e it l vs (q + 1) h₄ := EnSt.frame _ _ _ st₃ fun b _ o => hfull b o
  have rd₄ := rd₃.kp x₃.wx kp₄
  show wpAny _ A (do holding [vs[q]] (assign (.Name n1 p1) env (.int q s₂.toks)); do holding [] (assign (.Name n2 p2) env vs[q]); pure ()) _ _ _
  refine wpAny_bind (wpAny_holding (wpAny_assign_Name (St.store i x₄ hn1 hk1 (.int _ _) fun s₅ x₅ kf₅ => ?_)))
  have fr₅ : Fresher own (drop own₂ i) s₀ := fun p hp => fr₂ p (drop_sub p hp)
  have st₅ := EnSt.frame _ _ _ st₄ (Kf.stay w₀ hf fpc x₄ fr₂ kf₅)
  have kf₅' := kf₄.trans fr₂ kf₅
  refine wpAny_bind (wpAny_holding (wpAny_assign_Name (St.store j x₅ hn2 hk2 (mono0 (fun a => XO_sub drop_sub) (rd₄.kf x₄.wx kf₅)) fun s₆ x₆ kf₆ => wpAny_pure ?_)))
  exact hB s₆ x₆ (EnSt.frame _ _ _ st₅ (Kf.stay w₀ hf fpc x₅ fr₅ kf₆)) (kf₅'.trans fr₅ kf₆) fun p hp => fr₅ p (drop_sub p hp)
theorem eval_enum {fe le : Expr} {cpos : Pos} {ds : List D} {Q E : Value → Shared → Prop} (hfe : Ev prog w K A env nms (XO Xc env own) σ fe (.val (.type "enumerate"))) (hle : Ev prog w K A env nms (XO Xc env own) σ le (.list ds)) (hst : starEach [le] env = (false, eval le env) :: starEach [] env)
    (he : eval (.Call fe [le] [] cpos) env = (do callWith cpos (← eval fe env) [] (backTo cpos (starEach [le] env)) (backToKw cpos (keywordEach [] env)))) (x : St K env nms Xc own σ s)
    (k : ∀ s₀ l vs e it H, Kp s s₀ → WX K (XO Xc env own) s₀ → RdAll (XO Xc env own) s₀.heap vs ds → (∃ o, s₀.heap.get? l = some o) → ¬ XO Xc env own l → H.IsList l vs.toArray → IsEnum H e it (0 : Nat) .none → H.IsListIter it l 0 → (∀ b o, s₀.heap.get? b = some o → H.get? b = some o) → (∀ b ∈ [e, it], s₀.heap.get? b = none) → e ≠ it → Q (.ref e) { s₀ with heap := H }) :
    wpAny (model prog w) A (eval (.Call fe [le] [] cpos) env) Q E s := by
  have ha : EvAll prog w K A env nms (XO Xc env own) σ [le] [.list ds] := .cons hst hle .nil
  refine Call_ (hfe _ _ x.ste fun v s₁ k₁ w₁ r₁ => ?_) he
  refine Rd.valE r₁ ?_
  refine PyProof.Rows.callWith_type (ha.plain cpos) (ha.args _ cpos s₁ _ _ (x.kp k₁ w₁).ste fun vs₀ s₀ k₀' w₀ r₀ => ?_)
  refine RdAll.E1 r₀ fun _ a => ?_; refine Rd.listE a fun l vs hln hlg hr => ?_
  refine call_enumerate_list hlg fun H hE hI hz hkk => ?_
  exact k s₀ l vs _ _ H (k₁.trans k₀') w₀ hr (hlg.elim fun o z => ⟨o, z.1⟩) hln (hlg.elim fun o z => ⟨o, hkk _ _ z.1, z.2⟩) hE hI hkk (all2 (none_ge (Nat.le_succ _)) (none_ge (Nat.le_refl _))) (Nat.succ_ne_self _)
theorem ExS_forEnum (i j : Nat) {n1 n2 : String} {k1 k2 : NameKind} {p1 p2 tp pos cpos : Pos} {c : Nat} {fe le : Expr} {body : List Stmt} {ds : List D} (hn1 : nms[i]? = some (n1, k1)) (hk1 : k1 = .local ∨ k1 = .cell) (hn2 : nms[j]? = some (n2, k2)) (hk2 : k2 = .local ∨ k2 = .cell) (hh : A.handled = none)
    (J : Nat → Own → List (Option D) → Prop) (hfe : ∀ own, shape own = sh → Ev prog w K A env nms (XO Xc env own) σ fe (.val (.type "enumerate"))) (hle : ∀ own, shape own = sh → Ev prog w K A env nms (XO Xc env own) σ le (.list ds)) (start : J 0 sh σ)
    (turn : ∀ q d sh' σ', ds[q]? = some d → J q sh' σ' → ∀ Xc' : Addr → Prop, (∀ a, Xc a → Xc' a) → Ex prog w K A env nms Xc' (dropS (dropS sh' i) j) ((σ'.set i (some (.int q))).set j (some d)) body (fun o => match o with
      | .next sh'' σ'' => J (q + 1) sh'' σ''
      | .cont sh'' σ'' => J (q + 1) sh'' σ''
      | .brk sh'' σ'' => P (.next sh'' σ'')
      | .ret d => P (.ret d)))
    (fin : ∀ sh' σ', J ds.length sh' σ' → P (.next sh' σ'))
    (hst : starEach [le] env = (false, eval le env) :: starEach [] env := by rfl)
    (he : eval (.Call fe [le] [] cpos) env = (do callWith cpos (← eval fe env) [] (backTo cpos (starEach [le] env)) (backToKw cpos (keywordEach [] env))) := by rfl)
    (hs : ∀ x, foldedSetIterable (.Call fe [le] [] cpos) env x = pure x := by intro _; rfl) : ExS prog w K A env nms Xc sh σ (.For (.Tuple [.Name n1 p1, .Name n2 p2] c tp) (.Call fe [le] [] cpos) body [] pos) P := by
  intro own s Q E eo x hQ
  refine wpAny_For (eval_enum (hfe own eo) (hle own eo) hst he x fun s₀ l vs e it H k₀ w₀ hr hol hln hL hE hI hkk hf hei => ?_) hs
  have hlen := hr.length
  have hle' : l ≠ e := fun q => hol.elim fun o h => by rw [q, hf e (.head _)] at h; cases h
  have hli' : l ≠ it := fun q => hol.elim fun o h => by rw [q, hf it (.tail _ (.head _))] at h; cases h
  refine wpAny_pyIter_enum (s := { s₀ with heap := H }) hE ?_
  have kH : Kp s₀ { s₀ with heap := H } := Kp.of (tk := s₀.toks) (Nat.le_refl _) hkk
  have w₁' := w₀.join (wr := [e, it]) (h' := H) (Nat.le_refl s₀.toks) hkk hf (all2 ⟨_, hE⟩ (ex1E hI fun o z => ⟨o, z.1⟩))
  have h96 : Xc 96 := by refine ex1E x fun _ y => ?_; exact y.x96
  have fpc : ∀ b ∈ [e, it, l], b ∈ [e, it] ∨ (¬ XO Xc env own b ∧ ∃ o, s₀.heap.get? b = some o) := fun b hb => by
    cases hb with
    | head => exact .inl (.head _)
    | tail _ hb => cases hb with
      | head => exact .inl (.tail _ (.head _))
      | tail _ hb => cases hb with
        | head => exact .inr ⟨hln, hol⟩
        | tail _ hb => nomatch hb
  refine codeAny_forLoop_any (ForI K env nms Xc [e, it] own J ds.length s₀ (EnSt e it l vs)) ?_ (ds.length + 1 - 0) (.mk (Nat.zero_le _) (eo ▸ start) ((x.kp k₀ w₀).with_wr kH w₁' hf) ⟨.none, hE, hI, hL⟩ (Kp.kf kH) (Fresher.refl _ _))
  rintro m s₂ ⟨q, own₂, σ₂, rfl, hq, hJ, x₂, st₂, kf₂, fr₂⟩
  rcases Nat.lt_or_ge q ds.length with hlt | hge
  · have hlv : q < vs.length := hlen ▸ hlt
    refine ex1E (hr.get' (List.getElem?_eq_getElem hlv)) fun d z => and2E z fun hd rd => ?_
    refine enum_item hlv hn1 hk1 hn2 hk2 hh hei hle' hli' w₀ hf fpc rd x₂ st₂ kf₂ fr₂ (fun _ _ h => h) fun s₆ x₆ st₆ kf₆ fr₆ => ?_
    refine turn q d _ _ hd hJ _ (fun _ => .inl) s₆ _ _ (by rfl) x₆ fun o f s₇ ho hok => ?_
    rcases for_back k₀ x w₀ hf fpc EnSt.frame hlt x₆ st₆ kf₆ fr₆ hQ ho hok with ⟨rfl | rfl, h⟩ | ⟨rfl, h⟩ | ⟨v, rfl, h⟩
    · exact h
    · exact h
    · exact h
    · exact h
  · cases Nat.le_antisymm hq hge
    refine ex1E st₂ fun old z => and3E z fun en₂ it₂ li₂ => ?_
    refine wpAny_pyNext_enum_end hh en₂ it₂ li₂ (by simp [hlen]) fun h₃ he₃ => ?_
    have hk₃ : ∀ b o, b ∉ [e, it] → s₂.heap.get? b = some o → h₃.get? b = some o := fun b o hb eo => he₃ b o (of_not2 hb).2 eo
    have x₃ := x₂.done (h' := h₃) (tk := s₂.toks) h96 (Nat.le_refl _) hk₃ (wr_out w₀ hf) (wr_not w₀ hf)
    have q12 := Kf.out k₀ (kf₂.walk (h' := h₃) (tk := s₂.toks) hf (Nat.le_refl _) hk₃) fr₂ x₃.sep
    exact wpAny_execs_nil (hQ _ _ _ (fin _ _ hJ) ⟨rfl, own₂, rfl, x₃, q12.1, q12.2⟩)
end
end Mine
end
-- LawCall
section
open PySem PySem.W PySem.Calls PyProof.Rows PySem.Builtin PySem.Builtin.Str
namespace Mine
section
variable {M : Model} {A : Around} {E : Value → Shared → Prop} {s₀ s : Shared} {m cm : Str → Option Value} {env : Env}
theorem stLC1 {n : Str} {v : Value} {Q : Unit → Shared → Prop} (x : InCallC s₀ env.locals m env.cells cm s) (hk : env.scope.kind = .function) (hl : env.kindOf n = some .local)
    (h : ∀ s', InCallC s₀ env.locals (fun y => if y = n then some v else m y) env.cells cm s' → 0 < s'.toks → Q () s') : wpAny M A (storeName env n v) Q E s := by
  refine wpAny_storeName_local hl x.toInCall.ns (fun h' hn' hs' => h _ ⟨⟨?_, hn', fun b o e => ?_, x.toInCall.fresh⟩, fun k c hc => ?_, x.apart, x.above⟩ (Nat.succ_pos _)) (by rw [hk]; rfl)
  · refine ex2E x.toInCall.same fun h₁ tk zz12 => ?_; subst zz12
    exact ⟨h', _, rfl⟩
  · exact hs'.extBut b o (Nat.ne_of_lt (Nat.lt_of_lt_of_le (Heap.lt_size e) x.toInCall.fresh)) (x.toInCall.keep b o e)
  · exact (x.cell k c hc).sameBut hs' (Nat.ne_of_gt (x.above k c (mem_of_lookup hc)))
theorem newEnv1 {scope : Scope} {globals : Addr} {n : Str} {v : Value} {qual : Str} {func : Option Addr} {code : Value} {builtins : Addr} {Q : Env → Shared → Prop}
    (hk : scope.kind = .function) (hl : scope.names.lookup n = some .local)
    (hQ : ∀ env, env = newEnv scope s.heap.objs.size globals (cellsFrom (s.heap.objs.size + 1) scope.names []) qual func code none builtins →
      ∀ s', InCallC s env.locals (fun y => if y = n then some v else none) env.cells (fun _ => none) s' → 0 < s'.toks → Q env s') :
    wpAny M A (newFunctionEnv scope globals [] [(n, v)] qual func code none builtins) Q E s := by
  simp only [newFunctionEnv, Option.isSome_none, Bool.false_eq_true, if_false]
  refine wpAny_bind (wpAny_alloc ?_)
  refine wpAny_bind (wpAny_layCells _ (fun name kind cells => by cases hkc : kind == NameKind.cell <;> simp [hkc]) _ _ _ _ ?_)
  have ok := cellsFrom_ok scope.names (s.heap.push { cls := .type "frame", data := .dict #[] }) (s.heap.objs.size + 1) [] ⟨fun _ _ hm => (nomatch hm), List.Pairwise.nil⟩ (by rw [Heap.size_push]; exact Nat.le_refl _)
  rw [Heap.size_push] at ok
  rw [show ({ s with heap := s.heap.push { cls := .type "frame", data := .dict #[] } } : Shared).heap.objs.size = s.heap.objs.size + 1 from Heap.size_push ..]
  refine wpAny_bind ?_
  rw [List.forIn_cons]
  refine wpAny_bind (wpAny_bind (stLC1 (s₀ := s) (m := fun _ => none) (cm := fun _ => none) (env := newEnv scope s.heap.objs.size globals (cellsFrom (s.heap.objs.size + 1) scope.names []) qual func code none builtins)
    ⟨⟨⟨_, _, rfl⟩, (Heap.Ns.new s.heap (.type "frame")).keeps (pushCells_keeps _ _), fun b o e => pushCells_keeps _ _ b o (Heap.get?_push_of_some _ e), Nat.le_refl _⟩,
      fun n c hc => (ok.empty n c (mem_of_lookup hc)).1, ok.apart, fun n c hm => (ok.empty n c hm).2⟩ hk hl fun s' x hp => wpAny_pure ?_))
  show wpAny _ _ (forIn [] PUnit.unit _) _ _ _
  rw [List.forIn_nil]
  exact wpAny_pure (wpAny_pure (hQ _ rfl s' x hp))
end
theorem ints_rd {X : Addr → Prop} {h : Heap} : ∀ {vs : List Value} {ns : List Int}, IntsAre vs ns → RdAll X h vs (ns.map .int) := by
  intro vs ns x
  induction x with
  | nil => exact .nil
  | cons _ _ _ ih => exact .cons (.int _ _) ih
section
variable {K : Frag}
theorem call_top {name qual : Str} {params : Arguments} {body : List Stmt} {scope : Scope} {dV kV doc pm cdv ct oc : Value} {an od : Option Addr} {osl : Array (Option Value)} {f l : Addr} {vs : List Value} {ns : List Int} {nm : String} {s : Shared} {R : Result → Shared → Prop} (nms : Nms)
    (hK : K.lookup f = some ⟨oc, od, .func (fnOf name qual params body scope dV kV doc pm an cdv ct), osl⟩) (hcd : codeIn K cdv qual = true) (hlim : nolimitIn K)
    (hsc : scope.names = nms.map fun p => ((p.1 : Str), p.2)) (hok : nmsOk nms = true) (hkind : scope.kind = .function) (hco : scope.isCoroutine = false) (hgen : scope.isGenerator = false)
    (h0 : nms[0]? = some (nm, .local)) (hfree : nms.all (fun p => p.2 != .free) = true) (h96K : K.lookup 96 = none)
    (hbind : bindArgs (fnOf name qual params body scope dV kV doc pm an cdv ct) ⟨[.ref l], []⟩ = pure [((nm : Str), .ref l)])
    (kin : K.In s.heap) (bi : ∃ mb, s.heap.Ns builtinsNs mb ∧ ∀ x : Str, x ≠ "__name__" → mb x = bootBuiltins x) (h96 : s.heap.get? 96 = some (tabObj #[])) (bm : BmAt s.heap)
    (hl : s.heap.IsList l vs.toArray) (hI : IntsAre vs ns)
    (hbody : ∀ A L cells Xc, Rm A 6 → A.frames = some [envC qual scope L f cdv cells] → Ex prog w K A (envC qual scope L f cdv cells) nms Xc [] (startσ nms [.list (ns.map .int)]) body (fun o => o = .ret (.bool true)))
    (hR : ∀ h' tk, (∀ b o, b ≠ 96 → s.heap.get? b = some o → h'.get? b = some o) → (∃ ps, h'.get? 96 = some (tabObj ps)) → R (.ok (.ret (.bool true))) { s with heap := h', toks := tk }) :
    codeAny (model prog w) callerA (.call (.ref f) ⟨[.ref l], []⟩) R s := by
  refine codeAny_call_function (fd := fnOf name qual params body scope dV kV doc pm an cdv ct) (body := body) (by decide) (kin _ _ hK) rfl hco hgen rfl (codeRec_of kin hcd) ?_
  rw [hbind]
  have hloc : scope.names.lookup (nm : Str) = some .local := by
    rw [hsc]
    refine lookup_nodup (i := 0) ?_ ?_
    · unfold nmsOk at hok
      rw [Bool.and_eq_true] at hok
      rw [List.map_map]; exact of_decide_eq_true hok.1
    · rw [List.getElem?_map, h0]; rfl
  refine wpAny_pure (newEnv1 hkind hloc fun env he s₂ ic hpos => ?_)
  have he' : env = envC qual scope s.heap.objs.size f cdv (cellsFrom (s.heap.objs.size + 1) scope.names []) := he
  clear he
  generalize hC : cellsFrom (s.heap.objs.size + 1) scope.names [] = cells at he'
  subst he'
  have hlim₂ : s₂.heap.NoLimit := (noLimit_of kin hlim).keeps ic.toInCall.keep
  refine ⟨hlim₂, codeAny_func ?_⟩
  obtain ⟨⟨⟨h₂, tk₂, es₂⟩, hns, hk, hfr⟩, hcellv, hapart, habove⟩ := ic
  have n96 : ∀ a, s.heap.objs.size ≤ a → a ≠ 96 := fun a ha e => absurd (Heap.lt_size h96) (by rw [← e]; exact Nat.not_lt.mpr ha)
  have habove' : ∀ y c, cells.lookup y = some c → s.heap.objs.size < c := fun y c h => habove y c (mem_of_lookup h)
  have hsub : ∀ a, XO (fun a => a = 96) (envC qual scope s.heap.objs.size f cdv cells) [] a → a = 96 ∨ s.heap.objs.size ≤ a := by
    intro a ha
    rcases ha with q | q | ⟨y, q⟩ | ⟨p, hp, _⟩
    · exact .inl q
    · exact .inr (Nat.le_of_eq q.symm)
    · exact .inr (Nat.le_of_lt (habove' y a q))
    · cases hp
  have eo : EnvOk (envC qual scope s.heap.objs.size f cdv cells) nms := ⟨hsc, hok, hkind, rfl, rfl, n96 _ (Nat.le_refl _), fun y c h => n96 _ (Nat.le_of_lt (habove' y c h)), fun y c h => (Nat.ne_of_gt (habove' y c h))⟩
  refine ex1E bi fun mb zz11 => and2E zz11 fun hmb hmbv => ?_
  have hb96 : (96 : Addr) ≠ builtinsNs := fun e => by
    refine ex3E hmb fun o es ep zz10 => and3E zz10 fun e1 e2 _ => ?_
    rw [← e, h96] at e1; cases e1; cases e2
  refine ex1E bm fun o4 zz9 => and2E zz9 fun e4 r4 => ?_
  have h4 : ∀ a, XO (fun a => a = 96) (envC qual scope s.heap.objs.size f cdv cells) [] a → a ≠ 4 := fun a ha e => by
    rcases hsub a ha with q | q
    · rw [e] at q; exact absurd q (by decide)
    · rw [e] at q; exact absurd (Heap.lt_size e4) (Nat.not_lt.mpr q)
  have es : s₂ = { s with heap := s₂.heap, toks := s₂.toks } := by rw [es₂]
  have hst : St K (envC qual scope s.heap.objs.size f cdv cells) nms (fun a => a = 96) [] (startσ nms [.list (ns.map .int)]) s₂ := by
    refine ⟨fun y => if y = (nm : Str) then some (.ref l) else none, ?_⟩
    refine ⟨⟨kin.keeps hk, fun a ha => ?_, ⟨mb, hmb.keeps hk, hmbv⟩, ⟨#[], hk _ _ h96, .inl rfl, fun q => h4 4 q rfl, o4, hk _ _ e4, r4⟩, hpos, .inl rfl, fun a ha => ?_⟩, rfl, eo, ⟨⟨_, hns, fun _ _ => rfl⟩, fun y hy => ?_⟩, ?_, fun p hp => (by cases hp), List.nodup_nil, fun p hp => (by cases hp), fun y z c h1 h2 => name_of_addr hapart (mem_of_lookup h1) (mem_of_lookup h2)⟩
    · rcases hsub a ha with q | q
      · rw [q]; exact ⟨h96K, hb96⟩
      · constructor
        · cases q' : K.lookup a with
          | none => rfl
          | some o => exact absurd (Heap.lt_size (kin _ _ q')) (Nat.not_lt.mpr q)
        · exact fun e => absurd hmb.lt (by rw [← e]; exact Nat.not_lt.mpr q)
    · rcases ha with q | q | ⟨y, q⟩ | ⟨p, hp, _⟩
      · rw [show a = 96 from q]; exact ⟨_, hk _ _ h96⟩
      · subst q; refine ex3E hns fun o _ _ zz8 => and2E zz8 fun e _ => ?_; exact ⟨o, e⟩
      · refine ex1E (hcellv y a q) fun o zz7 => and2E zz7 fun e _ => ?_; exact ⟨o, e⟩
      · cases hp
    · have hyc : (envC qual scope s.heap.objs.size f cdv cells).kindOf y = some .cell := by
        rcases hy with hy | hy
        · exact hy
        · exfalso
          refine ex1E (eo.kind_mem hy) fun p zz6 => and2E zz6 fun hp e => ?_
          have := List.all_eq_true.mp hfree p hp
          simp [e] at this
      have hcs : (cells.lookup y).isSome = true := by
        rw [← hC]
        exact cellsFrom_mem _ _ _ (.inl (mem_of_lookup hyc))
      refine ex1E (Option.isSome_iff_exists.mp hcs) fun c hc => ?_
      refine ⟨c, hc, ?_⟩
      have hne : y ≠ (nm : Str) := fun e => by
        have : scope.names.lookup y = some .cell := hyc
        rw [e, hloc] at this; cases this
      rw [if_neg hne]
      exact hcellv y c hc
    · intro i n k d' h1 h2
      have hi : i = 0 := by
        unfold startσ at h2
        rcases Nat.lt_or_ge i 1 with h | h
        · lia
        · rw [List.getElem?_append_right (by simpa using h)] at h2
          rw [List.getElem?_replicate] at h2
          split at h2 <;> cases h2
      subst hi
      rw [h0] at h1
      cases h1
      have hd : d' = .list (ns.map .int) := by
        unfold startσ at h2
        simpa using h2.symm
      subst hd
      refine ⟨.ref l, if_pos rfl, ?_⟩
      refine ex1E hl fun ol zz5 => and3E zz5 fun el cl rl => ?_
      refine .list (fun q => ?_) ⟨ol, hk _ _ el, cl, rl⟩ (ints_rd hI)
      rcases hsub l q with q | q
      · rw [q, h96] at el; cases el; cases cl
      · exact absurd (Heap.lt_size el) (Nat.not_lt.mpr q)
  show wpAny (model prog w) (callerA.deeper (envC qual scope s.heap.objs.size f cdv cells)) (execs body (envC qual scope s.heap.objs.size f cdv cells)) _ _ _
  refine hbody _ s.heap.objs.size cells (fun a => a = 96) ⟨by show 1 + claimMargin + 1 + 6 < recursionLimit; decide, by show 4 + 3 + 8 * 6 + 8 < cLine; decide, rfl⟩ rfl _ _ _ rfl hst fun out fl s' ho hok' => ?_
  subst ho
  refine ex1E hok' fun v zz4 => and4E zz4 fun zz3 kf w' r' => ?_; subst zz3
  cases r'
  refine ex2E kf fun h' tk zz2 => and3E zz2 fun e' l' q => ?_
  refine ex1E w'.tb fun ps zz1 => and2E zz1 fun e96 _ => ?_
  subst e'
  rw [es₂]
  rw [es₂] at q
  refine hR h' tk (fun b o hb e => q b o hb (fun mu => ?_) (by rw [es₂] at hk; exact hk _ _ e)) ⟨ps, e96⟩
  rcases mu with z | ⟨y, z⟩ | ⟨p, hp, _⟩
  · have z' : b = s.heap.objs.size := z
    rw [z', none_ge (Nat.le_refl _)] at e; cases e
  · rw [none_ge (Nat.le_of_lt (habove' y b z))] at e; cases e
  · cases hp
end
end Mine
end
-- Lit
section
open PySem PySem.W PySem.Calls PyProof.Rows PySem.Builtin PySem.Builtin.Str
namespace Mine
noncomputable def L (s : String) : List Nat := (Str.ofString s).cps.toList
section
variable {K : Frag} {A : Around} {env : Env} {nms : Nms} {X : Addr → Prop} {σ : List (Option D)}
theorem Ev_lits {s : String} {x : List Nat} {k : Nat} {pos : Pos} (h : L s = x) : Ev prog w K A env nms X σ (.Constant (.str (Str.ofString s)) k pos) (.str x) := Ev_str h
theorem Ev.to {e : Expr} {d d' : D} (h : Ev prog w K A env nms X σ e d') (q : d' = d) : Ev prog w K A env nms X σ e d := q ▸ h
theorem EvB.to {e : Expr} {b b' : Bool} (h : EvB prog w K A env nms X σ e b') (q : b' = b) : EvB prog w K A env nms X σ e b := q ▸ h
end
theorem lit8 : L "[" = [91] := by kernel_rfl
theorem lit10 : L "]" = [93] := by kernel_rfl
theorem lit13 : L "\\" = [92] := by kernel_rfl
theorem lit14 : L "\\\\" = [92, 92] := by kernel_rfl
theorem lit18 : L "(?s:" = [40, 63, 115, 58] := by kernel_rfl
theorem lit19 : L ")\\Z" = [41, 92, 90] := by kernel_rfl
theorem lit21 : L "(?>.*?" = [40, 63, 62, 46, 42, 63] := by kernel_rfl
theorem lit22 : L ")" = [41] := by kernel_rfl
theorem KL (P : Params) : nolimitIn (K39 P) := ⟨⟨by kernel_rfl, by kernel_rfl, by kernel_rfl⟩, by kernel_rfl⟩
noncomputable def hasG (nms : Nms) (n : String) : Bool := nms.any fun p => decide (p.1 = n) && p.2 == .globalImplicit
theorem hasG_idx {nms : Nms} {n : String} (h : hasG nms n = true) : ∃ i : Nat, nms[i]? = some (n, NameKind.globalImplicit) := by
  refine ex1E (List.any_eq_true.mp h) fun p zz2 => and2E zz2 fun hp e => ?_
  rw [Bool.and_eq_true] at e
  have e1 := of_decide_eq_true e.1
  have e2 : p.2 = .globalImplicit := by simpa using e.2
  refine ex1E (List.mem_iff_getElem.mp hp) fun i zz1 => ex1E zz1 fun hi q => ?_
  exact ⟨i, by rw [List.getElem?_eq_getElem hi, q, ← e1, ← e2]⟩
section
variable {K : Frag} {A : Around} {env : Env} {nms : Nms} {X : Addr → Prop} {σ : List (Option D)}
theorem Ev_globE {n : String} {pos : Pos} {v : Value} (h : hasG nms n = true) (hv : nsIn K mainGlobals (Str.ofString n) = some (some v)) : Ev prog w K A env nms X σ (.Name (Str.ofString n) pos) (.val v) :=
  let ⟨i, hi⟩ := hasG_idx h; Ev_glob i hi hv
theorem Ev_builtE {n : String} {pos : Pos} {v : Value} (h : hasG nms n = true) (hm : nsIn K mainGlobals (Str.ofString n) = some none) (hb : bootBuiltins (Str.ofString n) = some v) (hne : (n : Str) ≠ "__name__") :
    Ev prog w K A env nms X σ (.Name (Str.ofString n) pos) (.val v) :=
  let ⟨i, hi⟩ := hasG_idx h; Ev_built i hi hm hb hne
end
theorem g_parse257 (P : Params) : nsIn (K39 P) mainGlobals (Str.ofString "parse257") = some (some (.ref 70)) := by kernel_rfl
theorem g_twin_re_1 (P : Params) : nsIn (K39 P) mainGlobals (Str.ofString "_twin_re_1") = some (some (.ref 75)) := by kernel_rfl
theorem g_translate (P : Params) : nsIn (K39 P) mainGlobals (Str.ofString "translate") = some (some (.ref 82)) := by kernel_rfl
theorem g_special_chars_map (P : Params) : nsIn (K39 P) mainGlobals (Str.ofString "_special_chars_map") = some (some (.ref 84)) := by kernel_rfl
theorem g_escape (P : Params) : nsIn (K39 P) mainGlobals (Str.ofString "escape") = some (some (.ref 94)) := by kernel_rfl
theorem g_translate_f (P : Params) : nsIn (K39 P) mainGlobals (Str.ofString "_translate") = some (some (.ref 101)) := by kernel_rfl
theorem g_join_translated_parts (P : Params) : nsIn (K39 P) mainGlobals (Str.ofString "_join_translated_parts") = some (some (.ref 108)) := by kernel_rfl
theorem g_fspath (P : Params) : nsIn (K39 P) mainGlobals (Str.ofString "fspath") = some (some (.ref 181)) := by kernel_rfl
theorem g_get_sep (P : Params) : nsIn (K39 P) mainGlobals (Str.ofString "_get_sep") = some (some (.ref 195)) := by kernel_rfl
theorem g_join (P : Params) : nsIn (K39 P) mainGlobals (Str.ofString "join") = some (some (.ref 202)) := by kernel_rfl
theorem g_split (P : Params) : nsIn (K39 P) mainGlobals (Str.ofString "split") = some (some (.ref 209)) := by kernel_rfl
theorem g_commonpath (P : Params) : nsIn (K39 P) mainGlobals (Str.ofString "commonpath") = some (some (.ref 214)) := by kernel_rfl
theorem g_law_doubled (P : Params) : nsIn (K39 P) mainGlobals (Str.ofString "_law_doubled") = some (some (.ref 221)) := by kernel_rfl
theorem g_law_above (P : Params) : nsIn (K39 P) mainGlobals (Str.ofString "_law_above") = some (some (.ref 228)) := by kernel_rfl
theorem g_law_plain (P : Params) : nsIn (K39 P) mainGlobals (Str.ofString "_law_plain") = some (some (.ref 235)) := by kernel_rfl
theorem g_law_runs (P : Params) : nsIn (K39 P) mainGlobals (Str.ofString "_law_runs") = some (some (.ref 240)) := by kernel_rfl
theorem g_law_shares (P : Params) : nsIn (K39 P) mainGlobals (Str.ofString "_law_shares") = some (some (.ref 247)) := by kernel_rfl
theorem g_law_cut (P : Params) : nsIn (K39 P) mainGlobals (Str.ofString "_law_cut") = some (some (.ref 254)) := by kernel_rfl
theorem g_error_reply (P : Params) : nsIn (K39 P) mainGlobals (Str.ofString "error_reply") = some (some (.ref 61)) := by kernel_rfl
theorem m_len (P : Params) : nsIn (K39 P) mainGlobals (Str.ofString "len") = some none := by kernel_rfl
theorem b_len : bootBuiltins (Str.ofString "len") = some (.builtin "len") := PyProof.Rows.Boot.«len»
theorem m_range (P : Params) : nsIn (K39 P) mainGlobals (Str.ofString "range") = some none := by kernel_rfl
theorem b_range : bootBuiltins (Str.ofString "range") = some (.type "range") := PyProof.Rows.Boot.«range»
theorem m_abs (P : Params) : nsIn (K39 P) mainGlobals (Str.ofString "abs") = some none := by kernel_rfl
theorem b_abs : bootBuiltins (Str.ofString "abs") = some (.builtin "abs") := PyProof.Rows.Boot.«abs»
theorem m_sum (P : Params) : nsIn (K39 P) mainGlobals (Str.ofString "sum") = some none := by kernel_rfl
theorem b_sum : bootBuiltins (Str.ofString "sum") = some (.builtin "sum") := PyProof.Rows.Boot.«sum»
theorem m_min (P : Params) : nsIn (K39 P) mainGlobals (Str.ofString "min") = some none := by kernel_rfl
theorem b_min : bootBuiltins (Str.ofString "min") = some (.builtin "min") := PyProof.Rows.Boot.«min»
theorem m_max (P : Params) : nsIn (K39 P) mainGlobals (Str.ofString "max") = some none := by kernel_rfl
theorem b_max : bootBuiltins (Str.ofString "max") = some (.builtin "max") := PyProof.Rows.Boot.«max»
theorem m_isinstance (P : Params) : nsIn (K39 P) mainGlobals (Str.ofString "isinstance") = some none := by kernel_rfl
theorem b_isinstance : bootBuiltins (Str.ofString "isinstance") = some (.builtin "isinstance") := PyProof.Rows.Boot.«isinstance»
theorem m_issubclass (P : Params) : nsIn (K39 P) mainGlobals (Str.ofString "issubclass") = some none := by kernel_rfl
theorem b_issubclass : bootBuiltins (Str.ofString "issubclass") = some (.builtin "issubclass") := PyProof.Rows.Boot.«issubclass»
theorem m_str (P : Params) : nsIn (K39 P) mainGlobals (Str.ofString "str") = some none := by kernel_rfl
theorem b_str : bootBuiltins (Str.ofString "str") = some (.type "str") := PyProof.Rows.Boot.«str»
theorem m_bytes (P : Params) : nsIn (K39 P) mainGlobals (Str.ofString "bytes") = some none := by kernel_rfl
theorem b_bytes : bootBuiltins (Str.ofString "bytes") = some (.type "bytes") := PyProof.Rows.Boot.«bytes»
theorem m_object (P : Params) : nsIn (K39 P) mainGlobals (Str.ofString "object") = some none := by kernel_rfl
theorem b_object : bootBuiltins (Str.ofString "object") = some (.type "object") := PyProof.Rows.Boot.«object»
theorem m_type (P : Params) : nsIn (K39 P) mainGlobals (Str.ofString "type") = some none := by kernel_rfl
theorem b_type : bootBuiltins (Str.ofString "type") = some (.type "type") := PyProof.Rows.Boot.«type»
theorem m_tuple (P : Params) : nsIn (K39 P) mainGlobals (Str.ofString "tuple") = some none := by kernel_rfl
theorem b_tuple : bootBuiltins (Str.ofString "tuple") = some (.type "tuple") := PyProof.Rows.Boot.«tuple»
theorem m_map (P : Params) : nsIn (K39 P) mainGlobals (Str.ofString "map") = some none := by kernel_rfl
theorem b_map : bootBuiltins (Str.ofString "map") = some (.type "map") := PyProof.Rows.Boot.«map»
theorem m_enumerate (P : Params) : nsIn (K39 P) mainGlobals (Str.ofString "enumerate") = some none := by kernel_rfl
theorem b_enumerate : bootBuiltins (Str.ofString "enumerate") = some (.type "enumerate") := PyProof.Rows.Boot.«enumerate»
noncomputable abbrev litTab : List (String × List Nat) := [("", []), ("257", [50, 53, 55]), (" \"", [32, 34]), ("\"", [34]), (".", [46]), ("*", [42]), ("?", [63]), ("[", [91]), ("!", [33]), ("]", [93]), ("\\[", [92, 91]), ("-", [45]), ("\\", [92]), ("\\\\", [92, 92]), ("(?!)", [40, 63, 33, 41]), ("\\-", [92, 45]), ("^", [94]), ("(?s:", [40, 63, 115, 58]), (")\\Z", [41, 92, 90]), (".*", [46, 42]), ("(?>.*?", [40, 63, 62, 46, 42, 63]), (")", [41]), ("/", [47]), ("\"\"", [34, 34]), ("[\\", [91, 92]), ("257abdko", [50, 53, 55, 97, 98, 100, 107, 111]), ("$()*+.?]^{|}", [36, 40, 41, 42, 43, 46, 63, 93, 94, 123, 124, 125]), ("*[", [42, 91]), ("/d", [47, 100]), ("/d\"", [47, 100, 34]), ("/d\"/d", [47, 100, 34, 47, 100]), (" \"ok\"", [32, 34, 111, 107, 34]), ("a", [97]), (" b*", [32, 98, 42]), ("257 \"", [50, 53, 55, 32, 34]), ("//", [47, 47]), ("b", [98]), ("\"a", [34, 97]), ("a\"b\".*[\"", [97, 34, 98, 34, 46, 42, 91, 34]), ("250", [50, 53, 48]), ("553", [53, 53, 51]), ("25", [50, 53]), ("257-", [50, 53, 55, 45])]
theorem litTab_ok : ∀ p ∈ litTab, L p.1 = p.2 := by
  have : (litTab.all fun p => decide (L p.1 = p.2)) = true := by kernel_rfl
  intro p hp
  exact of_decide_eq_true (List.all_eq_true.mp this p hp)
noncomputable abbrev gTab : List (String × Value) := [("parse257", .ref 70), ("_twin_re_1", .ref 75), ("translate", .ref 82), ("_special_chars_map", .ref 84), ("escape", .ref 94), ("_translate", .ref 101), ("_join_translated_parts", .ref 108), ("fspath", .ref 181), ("_get_sep", .ref 195), ("join", .ref 202), ("split", .ref 209), ("commonpath", .ref 214), ("_law_doubled", .ref 221), ("_law_above", .ref 228), ("_law_plain", .ref 235), ("_law_runs", .ref 240), ("_law_shares", .ref 247), ("_law_cut", .ref 254), ("error_reply", .ref 61)]
theorem gTab_ok (P : Params) : ∀ p ∈ gTab, nsIn (K39 P) mainGlobals (Str.ofString p.1) = some (some p.2) := by
  rw [gTab]; repeat rw [List.forall_mem_cons]
  exact ⟨g_parse257 P, g_twin_re_1 P, g_translate P, g_special_chars_map P, g_escape P, g_translate_f P, g_join_translated_parts P, g_fspath P, g_get_sep P, g_join P, g_split P, g_commonpath P, g_law_doubled P, g_law_above P, g_law_plain P, g_law_runs P, g_law_shares P, g_law_cut P, g_error_reply P, fun _ h => nomatch h⟩
noncomputable abbrev bTab : List (String × Value) := [("len", .builtin "len"), ("range", .type "range"), ("abs", .builtin "abs"), ("sum", .builtin "sum"), ("min", .builtin "min"), ("max", .builtin "max"), ("isinstance", .builtin "isinstance"), ("issubclass", .builtin "issubclass"), ("str", .type "str"), ("bytes", .type "bytes"), ("object", .type "object"), ("type", .type "type"), ("tuple", .type "tuple"), ("map", .type "map"), ("enumerate", .type "enumerate")]
theorem bTab_ok (P : Params) : ∀ p ∈ bTab, nsIn (K39 P) mainGlobals (Str.ofString p.1) = some none ∧ bootBuiltins (Str.ofString p.1) = some p.2 := by
  rw [bTab]; repeat rw [List.forall_mem_cons]
  exact ⟨⟨m_len P, b_len⟩, ⟨m_range P, b_range⟩, ⟨m_abs P, b_abs⟩, ⟨m_sum P, b_sum⟩, ⟨m_min P, b_min⟩, ⟨m_max P, b_max⟩, ⟨m_isinstance P, b_isinstance⟩, ⟨m_issubclass P, b_issubclass⟩, ⟨m_str P, b_str⟩, ⟨m_bytes P, b_bytes⟩, ⟨m_object P, b_object⟩, ⟨m_type P, b_type⟩, ⟨m_tuple P, b_tuple⟩, ⟨m_map P, b_map⟩, ⟨m_enumerate P, b_enumerate⟩, fun _ h => nomatch h⟩
theorem bTab_ne : ∀ p ∈ bTab, (p.1 : Str) ≠ "__name__" := by
  have : (bTab.all fun p => decide ((p.1 : Str) ≠ "__name__")) = true := by kernel_rfl
  intro p hp
  exact of_decide_eq_true (List.all_eq_true.mp this p hp)
section
variable {A : Around} {env : Env} {nms : Nms} {X : Addr → Prop} {σ : List (Option D)}
theorem Ev_lit {s : String} {x : List Nat} {k : Nat} {pos : Pos} (h : (s, x) ∈ litTab) : Ev prog w (K39 w.params) A env nms X σ (.Constant (.str (Str.ofString s)) k pos) (.str x) := Ev_str (litTab_ok _ h)
theorem Ev_gl {n : String} {pos : Pos} {v : Value} (h : hasG nms n = true) (hv : (n, v) ∈ gTab) : Ev prog w (K39 w.params) A env nms X σ (.Name (Str.ofString n) pos) (.val v) := Ev_globE h (gTab_ok _ _ hv)
theorem Ev_bu {n : String} {pos : Pos} {v : Value} (h : hasG nms n = true) (hv : (n, v) ∈ bTab) : Ev prog w (K39 w.params) A env nms X σ (.Name (Str.ofString n) pos) (.val v) := Ev_builtE h (bTab_ok w.params _ hv).1 (bTab_ok w.params _ hv).2 (bTab_ne _ hv)
theorem Ev_callF {n : String} {f : Addr} {o : Obj} {fd : FuncData} {args : List Expr} {p1 p2 : Pos} {ds : List D} {d : D} {k : Nat} (h : hasG nms n = true) (hv : (n, .ref f) ∈ gTab) (hK : (K39 w.params).lookup f = some o) (hd : o.data = .func fd)
    (ha : EvAll prog w (K39 w.params) A env nms X σ args ds) (hs : FSpec prog w (K39 w.params) f k ds d) (hr : Rm A k) : Ev prog w (K39 w.params) A env nms X σ (.Call (.Name (Str.ofString n) p1) args [] p2) d :=
  Ev_callR (Ev_gl h hv) hK hd ha (hs _ _ hr) rfl
end
end Mine
end
-- LtL
section
open PySem PySem.W PySem.Calls PyProof.Rows PySem.Builtin PySem.Builtin.Str PySem.SeqAt PySem.MeetsSeq3
open AutoSeq1 (wpAny_loadPart')
namespace Mine
noncomputable def ltA : List (List Nat) → List (List Nat) → Bool
  | _, [] => false
  | [], _ :: _ => true
  | x :: xs, y :: ys => if x == y then ltA xs ys else decide (x < y)
noncomputable def gtA : List (List Nat) → List (List Nat) → Bool
  | [], _ => false
  | _ :: _, [] => true
  | x :: xs, y :: ys => if x == y then gtA xs ys else decide (y < x)
theorem ltA_loop {X : Addr → Prop} {hp : Heap} (l b : Addr) (n n2 : Nat) (dd dd2 : Option Addr) (sl sl2 : Array (Option Value)) {g : Array GenState} {d : Drawn} {tk : Nat} {os : OsState} {R : Result → Shared → Prop} (vs ws : List Value)
    (hl : hp.get? l = some { cls := .type "list", dict := dd, data := .seq vs.toArray n, slots := sl }) (hb : hp.get? b = some { cls := .type "list", dict := dd2, data := .seq ws.toArray n2, slots := sl2 }) (k : Nat) :
    ∀ (A : Around) (i : Nat) (xs ys : List (List Nat)), vs.length - i = k → i ≤ vs.length → i ≤ ws.length → RdAll X hp (vs.drop i) (xs.map .str) → RdAll X hp (ws.drop i) (ys.map .str) →
      R (.ok (.ret (.bool (ltA xs ys)))) ⟨hp, g, d, tk, os⟩ → codeAny (model prog w) A (.builtin "list.__eq__.loop" ⟨[.ref l, .ref b, rawInt i, rawInt 0], []⟩) R ⟨hp, g, d, tk, os⟩ := by
  induction k with
  | zero =>
    intro A i xs ys hk h1 h2 r1 r2 h
    refine codeAny_builtin entry_eq_loop ?_
    rw [Around.under_plainId plain_eq_loop _]
    have hi : i = vs.length := Nat.le_antisymm h1 (Nat.le_of_sub_eq_zero hk)
    subst hi
    have hx : xs = [] := by
      have := r1.length
      rw [List.drop_of_length_le (Nat.le_refl _), List.length_map] at this
      exact List.length_eq_zero_iff.mp this.symm
    subst hx
    unfold Builtin.«list.__eq__.loop»
    have z0 := zl
    wp_walk using wpAny_loadPart' hl, wpAny_loadPart' hb
    have hi1 : vs.toArray[((vs.length : Nat) : Int).toNat]? = none := by simp
    rw [hi1]
    have z0 := zl
    wp_walk using wpAny_loadPart' hl, wpAny_loadPart' hb
    have e : ltA [] ys = decide (vs.length < ws.length) := by
      have := r2.length
      rw [List.length_drop, List.length_map] at this
      cases ys with
      | nil => simp at this; simp [ltA]; lia
      | cons _ _ => simp at this; simp [ltA]; lia
    rw [e] at h
    exact h
  | succ k ih =>
    intro A i xs ys hk h1 h2 r1 r2 h
    refine codeAny_builtin entry_eq_loop ?_
    rw [Around.under_plainId plain_eq_loop _]
    have hlt : i < vs.length := Nat.sub_pos_iff_lt.mp (hk ▸ Nat.succ_pos k)
    rw [List.drop_eq_getElem_cons hlt] at r1
    cases xs with
    | nil => exfalso; have := r1.length; simp at this; lia
    | cons x xs =>
    rw [List.map_cons] at r1
    cases r1 with | cons a1 r1 =>
    refine ex1E a1.str_inv fun t1 ev => ?_
    have hi1 : vs.toArray[((i : Nat) : Int).toNat]? = some (.str (S x) t1) := by simp [hlt, ev]
    unfold Builtin.«list.__eq__.loop»
    have z0 := zl
    wp_walk using wpAny_loadPart' hl, wpAny_loadPart' hb
    rw [hi1]
    by_cases hlt2 : i < ws.length
    · rw [List.drop_eq_getElem_cons hlt2] at r2
      cases ys with
      | nil => exfalso; have := r2.length; simp at this; lia
      | cons y ys =>
      rw [List.map_cons] at r2
      cases r2 with | cons a2 r2 =>
      refine ex1E a2.str_inv fun t2 ew => ?_
      have hi2 : ws.toArray[((i : Nat) : Int).toNat]? = some (.str (S y) t2) := by simp [hlt2, ew]
      rw [hi2]
      refine wpAny_bind (eqAt_str (A := A.in1) prog w _ _ ?_)
      unfold ltA at h
      have hc : ((i : Int) + 1) = ((i + 1 : Nat) : Int) := by push_cast; rfl
      cases hb' : (x == y) with
      | true =>
        rw [hb', if_pos rfl] at h
        have z0 := zl
        wp_walk
        rw [hc]
        exact ⟨plainId_quiet plain_eq_loop _, ih A (i + 1) xs ys (by rw [Nat.sub_succ, hk]; rfl) hlt hlt2 r1 r2 h⟩
      | false =>
        rw [hb', if_neg Bool.false_ne_true] at h
        have z0 := zl
        wp_walk using wpAny_loadPart' hl, wpAny_loadPart' hb
        rw [hi1, hi2]
        refine wpAny_bind (lt_str (x := S x) (y := S y) (t := t1) (u := t2) (prog := prog) (w := w) (A := A.in1) ?_)
        exact wpAny_pure h
    · have hw : i = ws.length := by lia
      have hy : ys = [] := by
        have := r2.length
        rw [hw, List.drop_of_length_le (Nat.le_refl _), List.length_map] at this
        exact List.length_eq_zero_iff.mp this.symm
      subst hy
      have hi2 : ws.toArray[((i : Nat) : Int).toNat]? = none := by simp; lia
      rw [hi2]
      have z0 := zl
      wp_walk using wpAny_loadPart' hl, wpAny_loadPart' hb
      have e : ltA (x :: xs) [] = decide (vs.length < ws.length) := by
        simp [ltA]; lia
      rw [e] at h
      exact h
theorem rc_ltA {X : Addr → Prop} {A : Around} {s : Shared} {l b : Addr} {vs ws : List Value} {xs ys : List (List Nat)} {E Q : Value → Shared → Prop} (hl : s.heap.IsList l vs.toArray) (hb : s.heap.IsList b ws.toArray) (hu : A.units < cLine)
    (r1 : RdAll X s.heap vs (xs.map .str)) (r2 : RdAll X s.heap ws (ys.map .str)) (h : Q (.bool (ltA xs ys)) s) : wpAny (model prog w) A (richCompare .Lt (.ref l) (.ref b)) Q E s := by
  refine ex1E (id hl) fun zz10 zz11 => and3E zz11 fun ho hc zz12 => ex1E zz12 fun n hd => ?_; obtain ⟨cls, dd, data, sl⟩ := zz10
  refine ex1E (id hb) fun zz7 zz8 => and3E zz8 fun ho2 hc2 zz9 => ex1E zz9 fun n2 hd2 => ?_; obtain ⟨cls2, dd2, data2, sl2⟩ := zz7
  simp only at hc hd hc2 hd2
  subst hc hd hc2 hd2
  refine wpAny_richCompare_same_room ⟨_, ho, rfl⟩ ⟨_, ho2, rfl⟩ F.slot_list_lt (wpAny_call (codeAny_call_builtin F.slot_list_lt.plain F.entry_list_lt (F.slot_list_lt.check _ _ _ _ _ _ _ _ (show s.TypeIs (.ref l) "list" from ⟨_, ho, rfl⟩) (F.args_list_lt_2 _ _) ?_))) hu
  obtain ⟨hp, g, d, tk, os⟩ := s
  have f3 := AutoSeq1.sub_list_list
  unfold Builtin.«list.__lt__»
  have z0 := zl
  wp_walk using wpAny_loadPart' ho, wpAny_loadPart' ho2
  exact ⟨plainId_quiet plain_eq_loop _, ltA_loop l b n n2 dd dd2 sl sl2 vs ws ho ho2 _ _ 0 xs ys rfl (Nat.zero_le _) (Nat.zero_le _) r1 r2 ⟨(fun x => nomatch x), h⟩⟩
theorem gtA_loop {X : Addr → Prop} {hp : Heap} (l b : Addr) (n n2 : Nat) (dd dd2 : Option Addr) (sl sl2 : Array (Option Value)) {g : Array GenState} {d : Drawn} {tk : Nat} {os : OsState} {R : Result → Shared → Prop} (vs ws : List Value)
    (hl : hp.get? l = some { cls := .type "list", dict := dd, data := .seq vs.toArray n, slots := sl }) (hb : hp.get? b = some { cls := .type "list", dict := dd2, data := .seq ws.toArray n2, slots := sl2 }) (k : Nat) :
    ∀ (A : Around) (i : Nat) (xs ys : List (List Nat)), vs.length - i = k → i ≤ vs.length → i ≤ ws.length → RdAll X hp (vs.drop i) (xs.map .str) → RdAll X hp (ws.drop i) (ys.map .str) →
      R (.ok (.ret (.bool (gtA xs ys)))) ⟨hp, g, d, tk, os⟩ → codeAny (model prog w) A (.builtin "list.__eq__.loop" ⟨[.ref l, .ref b, rawInt i, rawInt 4], []⟩) R ⟨hp, g, d, tk, os⟩ := by
  induction k with
  | zero =>
    intro A i xs ys hk h1 h2 r1 r2 h
    refine codeAny_builtin entry_eq_loop ?_
    rw [Around.under_plainId plain_eq_loop _]
    have hi : i = vs.length := Nat.le_antisymm h1 (Nat.le_of_sub_eq_zero hk)
    subst hi
    have hx : xs = [] := by
      have := r1.length
      rw [List.drop_of_length_le (Nat.le_refl _), List.length_map] at this
      exact List.length_eq_zero_iff.mp this.symm
    subst hx
    unfold Builtin.«list.__eq__.loop»
    have z0 := zl
    wp_walk using wpAny_loadPart' hl, wpAny_loadPart' hb
    have hi1 : vs.toArray[((vs.length : Nat) : Int).toNat]? = none := by simp
    rw [hi1]
    have z0 := zl
    wp_walk using wpAny_loadPart' hl, wpAny_loadPart' hb
    have e : gtA [] ys = decide (ws.length < vs.length) := by
      have := r2.length
      rw [List.length_drop, List.length_map] at this
      cases ys with
      | nil => simp at this; simp [gtA]; lia
      | cons _ _ => simp at this; simp [gtA]; lia
    rw [e] at h
    exact h
  | succ k ih =>
    intro A i xs ys hk h1 h2 r1 r2 h
    refine codeAny_builtin entry_eq_loop ?_
    rw [Around.under_plainId plain_eq_loop _]
    have hlt : i < vs.length := Nat.sub_pos_iff_lt.mp (hk ▸ Nat.succ_pos k)
    rw [List.drop_eq_getElem_cons hlt] at r1
    cases xs with
    | nil => exfalso; have := r1.length; simp at this; lia
    | cons x xs =>
    rw [List.map_cons] at r1
    cases r1 with | cons a1 r1 =>
    refine ex1E a1.str_inv fun t1 ev => ?_
    have hi1 : vs.toArray[((i : Nat) : Int).toNat]? = some (.str (S x) t1) := by simp [hlt, ev]
    unfold Builtin.«list.__eq__.loop»
    have z0 := zl
    wp_walk using wpAny_loadPart' hl, wpAny_loadPart' hb
    rw [hi1]
    by_cases hlt2 : i < ws.length
    · rw [List.drop_eq_getElem_cons hlt2] at r2
      cases ys with
      | nil => exfalso; have := r2.length; simp at this; lia
      | cons y ys =>
      rw [List.map_cons] at r2
      cases r2 with | cons a2 r2 =>
      refine ex1E a2.str_inv fun t2 ew => ?_
      have hi2 : ws.toArray[((i : Nat) : Int).toNat]? = some (.str (S y) t2) := by simp [hlt2, ew]
      rw [hi2]
      refine wpAny_bind (eqAt_str (A := A.in1) prog w _ _ ?_)
      unfold gtA at h
      have hc : ((i : Int) + 1) = ((i + 1 : Nat) : Int) := by push_cast; rfl
      cases hb' : (x == y) with
      | true =>
        rw [hb', if_pos rfl] at h
        have z0 := zl
        wp_walk
        rw [hc]
        exact ⟨plainId_quiet plain_eq_loop _, ih A (i + 1) xs ys (by rw [Nat.sub_succ, hk]; rfl) hlt hlt2 r1 r2 h⟩
      | false =>
        rw [hb', if_neg Bool.false_ne_true] at h
        have z0 := zl
        wp_walk using wpAny_loadPart' hl, wpAny_loadPart' hb
        rw [hi1, hi2]
        refine wpAny_bind (P.gt_str (x := S x) (y := S y) (t := t1) (u := t2) (prog := prog) (w := w) (A := A.in1) ?_)
        exact wpAny_pure h
    · have hw : i = ws.length := by lia
      have hy : ys = [] := by
        have := r2.length
        rw [hw, List.drop_of_length_le (Nat.le_refl _), List.length_map] at this
        exact List.length_eq_zero_iff.mp this.symm
      subst hy
      have hi2 : ws.toArray[((i : Nat) : Int).toNat]? = none := by simp; lia
      rw [hi2]
      have z0 := zl
      wp_walk using wpAny_loadPart' hl, wpAny_loadPart' hb
      have e : gtA (x :: xs) [] = decide (ws.length < vs.length) := by
        simp [gtA]; lia
      rw [e] at h
      exact h
theorem rc_gtA {X : Addr → Prop} {A : Around} {s : Shared} {l b : Addr} {vs ws : List Value} {xs ys : List (List Nat)} {E Q : Value → Shared → Prop} (hl : s.heap.IsList l vs.toArray) (hb : s.heap.IsList b ws.toArray) (hu : A.units < cLine)
    (r1 : RdAll X s.heap vs (xs.map .str)) (r2 : RdAll X s.heap ws (ys.map .str)) (h : Q (.bool (gtA xs ys)) s) : wpAny (model prog w) A (richCompare .Gt (.ref l) (.ref b)) Q E s := by
  refine ex1E (id hl) fun zz4 zz5 => and3E zz5 fun ho hc zz6 => ex1E zz6 fun n hd => ?_; obtain ⟨cls, dd, data, sl⟩ := zz4
  refine ex1E (id hb) fun zz1 zz2 => and3E zz2 fun ho2 hc2 zz3 => ex1E zz3 fun n2 hd2 => ?_; obtain ⟨cls2, dd2, data2, sl2⟩ := zz1
  simp only at hc hd hc2 hd2
  subst hc hd hc2 hd2
  refine wpAny_richCompare_same_room ⟨_, ho, rfl⟩ ⟨_, ho2, rfl⟩ F.slot_list_gt (wpAny_call (codeAny_call_builtin F.slot_list_gt.plain F.entry_list_gt (F.slot_list_gt.check _ _ _ _ _ _ _ _ (show s.TypeIs (.ref l) "list" from ⟨_, ho, rfl⟩) (F.args_list_gt_2 _ _) ?_))) hu
  obtain ⟨hp, g, d, tk, os⟩ := s
  have f3 := AutoSeq1.sub_list_list
  unfold Builtin.«list.__gt__»
  have z0 := zl
  wp_walk using wpAny_loadPart' ho, wpAny_loadPart' ho2
  exact ⟨plainId_quiet plain_eq_loop _, gtA_loop l b n n2 dd dd2 sl sl2 vs ws ho ho2 _ _ 0 xs ys rfl (Nat.zero_le _) (Nat.zero_le _) r1 r2 ⟨(fun x => nomatch x), h⟩⟩
end Mine
end
-- MapIt
section
open PySem PySem.W PySem.Calls PyProof.Rows PySem.Builtin PySem.Builtin.Str
open AutoSeq1 (wpAny_loadPart')
namespace Mine
theorem mro_map : mroOf (.type "map") = pure [.type "map", .type "object"] := by rw [mroOf_type]; kernel_rfl
theorem lookup_map_new : typeLookup (.type "map") "__new__" = pure (some (.builtin "map.__new__")) := by rw [typeLookup_type, builtinLookup_eq_fast]; kernel_rfl
theorem sub_map : isSubtype (.type "map") (.type "map") = pure true := by rw [isSubtype_type]; kernel_rfl
theorem slot_map_init : Slot "map" "__init__" "object.__init__" :=
  .of (owner := "object") (n := "__init__") (by rw [typeLookup_type, builtinLookup_eq_fast]; kernel_rfl) (by decide +kernel) (by decide +kernel) (by decide +kernel)
    (by first | exact .inl (by decide +kernel) | exact .inr (by decide +kernel)) (by rw [isSubtype_type]; kernel_rfl)
theorem slot_map_next : Slot "map" "__next__" "map.__next__" :=
  .of (owner := "map") (n := "__next__") (by rw [typeLookup_type, builtinLookup_eq_fast]; kernel_rfl) (by decide +kernel) (by decide +kernel) (by decide +kernel)
    (by first | exact .inl (by decide +kernel) | exact .inr (by decide +kernel)) (by rw [isSubtype_type]; kernel_rfl)
theorem slot_map_iter : Slot "map" "__iter__" "map.__iter__" :=
  .of (owner := "map") (n := "__iter__") (by rw [typeLookup_type, builtinLookup_eq_fast]; kernel_rfl) (by decide +kernel) (by decide +kernel) (by decide +kernel)
    (by first | exact .inl (by decide +kernel) | exact .inr (by decide +kernel)) (by rw [isSubtype_type]; kernel_rfl)
theorem called_map : TypeCalled "map" "map.__new__" "object.__init__" :=
  ⟨by decide +kernel, by decide +kernel, ⟨_, _, mro_map⟩, madeBy_type mro_map lookup_map_new (by decide +kernel), by decide +kernel, sub_map, slot_map_init⟩
theorem typeCall_map_2 (a b : Value) : checkTypeCall "map" ⟨[a, b], []⟩ = pure () := by kernel_rfl
theorem newCall_map_2 (a b : Value) : checkBuiltinCall "map.__new__" ⟨[.type "map", a, b], []⟩ = pure () := by kernel_rfl
theorem entry_map_new : entryFor table "map.__new__" = some Builtin.«map.__new__» := entryFor_of_tree (by kernel_rfl)
theorem entry_map_next : entryFor table "map.__next__" = some Builtin.«map.__next__» := entryFor_of_tree (by kernel_rfl)
theorem entry_map_iter : entryFor table "map.__iter__" = some Builtin.«dict_keyiterator.__iter__» :=
  entryFor_alias (id' := "dict_keyiterator.__iter__") (by rw [fastTable_eq_tree]; kernel_rfl) (by first | rfl | decide +kernel | (unfold String.splitOn; simp +decide [String.splitOnAux])) (by decide +kernel) (by rw [fastTable_eq_tree]; kernel_rfl)
theorem args_map_next (a : Value) : argsOk "map.__next__" ⟨[a], []⟩ := by unfold argsOk; kernel_rfl
theorem args_map_iter (a : Value) : argsOk "map.__iter__" ⟨[a], []⟩ := by unfold argsOk; kernel_rfl
theorem args_obj_init3 (o a b : Value) : argsOk "object.__init__" ⟨[o, a, b], []⟩ := by unfold argsOk; kernel_rfl
theorem map_no_len : typeLookup (.type "map") "__len__" = pure none := by rw [typeLookup_type, builtinLookup_eq_fast]; kernel_rfl
theorem map_no_hint : typeLookup (.type "map") "__length_hint__" = pure none := by rw [typeLookup_type, builtinLookup_eq_fast]; kernel_rfl
noncomputable def mapObj (T : Addr) (f : Value) : Obj := { cls := .type "map", data := .fields #[.ref T, f] }
noncomputable def oneTup (v : Value) : Obj := { cls := .type "tuple", data := .seq #[v] }
noncomputable def litObj (l : Addr) : Obj := { cls := .type "list_iterator", data := .fields #[.ref l, .int 0 0] }
theorem meets_map_new (l : Addr) (f : Value) (o : Obj) (items : Array Value) (n : Nat) (hc : o.cls = .type "list") (hd : o.data = .seq items n) :
    Meets (Builtin.«map.__new__» ⟨[.type "map", f, .ref l], []⟩) (fun _ R s => s.heap.get? l = some o ∧
      R (.ok (.ret (.ref (s.heap.objs.size + 2)))) { s with heap := ((s.heap.push (litObj l)).push (oneTup (.ref s.heap.objs.size))).push (mapObj (s.heap.objs.size + 1) f) }) :=
  .of_wp fun prog w A R s h => by
    obtain ⟨hp, g, d, tk, os⟩ := s; refine and2E h fun hl h => ?_
    have hsub := sub_map
    have hL : Heap.IsList (Shared.heap ⟨hp, g, d, tk, os⟩) l items := ⟨_, hl, hc, n, hd⟩
    have hz : ((hp.push (litObj l)).push (oneTup (.ref hp.objs.size))).objs.size = hp.objs.size + 2 := by rw [Heap.size_push, Heap.size_push]
    have hz1 : (hp.push (litObj l)).objs.size = hp.objs.size + 1 := Heap.size_push ..
    have z0 := zl
    repeat (first | with_reducible refine wpAny_loadPart' hl ?_ | with_reducible refine wpAny_pyIter_list hL ?_ | with_reducible (first | refine wpAny_pure ?_ | refine wpAny_bind ?_ | refine wpAny_holding ?_ | refine wpAny_rule ?_ | refine wpAny_letGo ?_ | refine wpAny_attempt ?_ | refine wpAny_of_eq (by assumption) ?_ | refine wpAny_typeOf (by assumption) ?_ | refine wpAny_specialOf (by assumption) (by assumption) ?_ | refine wpAny_isInstance (by assumption) (by assumption) ?_ | refine wpAny_runValue ?_ | refine wpAny_run ?_) | ((with_reducible first | show wpAny _ _ (load _) _ _ _ | show wpAny _ _ (loadPart _ _) _ _ _ | show wpAny _ _ (alloc _) _ _ _ | show wpAny _ _ (fresh) _ _ _ | show wpAny _ _ (ite _ _ _) _ _ _ | show wpAny _ _ handled _ _ _); wp_step) | wp_delta | wp_step)
    refine ⟨_, rfl, ?_⟩
    show R (.ok (.ret (.ref ((hp.push (litObj l)).push (oneTup (.ref hp.objs.size))).objs.size))) ⟨((hp.push (litObj l)).push (oneTup (.ref hp.objs.size))).push (mapObj (hp.push (litObj l)).objs.size f), g, d, tk, os⟩
    rw [hz, hz1]
    exact h
end Mine
end
-- MinMax
section
open PySem PySem.W PySem.Calls PyProof.Rows PySem.Builtin PySem.Builtin.Str PySem.SeqAt
namespace Mine
noncomputable def emptyL : Obj := { cls := .type "list", dict := none, data := .seq ([] : List Value).toArray }
section
variable {K : Frag} {A : Around} {E : Value → Shared → Prop} {s : Shared} {X : Addr → Prop}
theorem min_two {L : Addr} {va vb : Value} {c : Bool} {Q : Value → Shared → Prop} (hh : A.handled = none) (hl : s.heap.IsList L #[va, vb])
    (hcmp : ∀ h' (E' Q' : Value → Shared → Prop), (∀ b o, s.heap.get? b = some o → h'.get? b = some o) → Q' (.bool c) { s with heap := h' } → wpAny (model prog w) A.in1 (richCompare .Lt vb va) Q' E' { s with heap := h' })
    (hQ : ∀ h', (∀ b o, s.heap.get? b = some o → h'.get? b = some o) → Q (if c = true then vb else va) { s with heap := h' }) : wpAny (model prog w) A (call (.builtin "min") [.ref L]) Q E s := by
  have hname : (toString "min" ++ toString ".loop" : String) = "min.loop" := by decide
  refine call_function_tree F.kind_min F.plain_min F.entry_min (F.args_min1 _) ?_
  show wpAny _ A.in1 (Builtin.Builtins.bindParams "min" ["key", "default"] 0 ⟨[], []⟩ >>= _) _ _ s
  refine wpAny_bind (wpAny_of_eq (show Builtin.Builtins.bindParams "min" ["key", "default"] 0 ⟨[], []⟩ = pure [none, none] from rfl) ?_)
  refine wpAny_bind (wpAny_pure ?_)
  refine wpAny_bind (wpAny_pyIter_list hl ?_)
  show wpAny (model prog w) A.in1 (newList [] >>= _) _ _ { s with heap := s.heap.push (litObj L) }
  obtain ⟨I, hI⟩ : ∃ I, I = s.heap.objs.size := ⟨_, rfl⟩
  have k1 : ∀ b o, s.heap.get? b = some o → (s.heap.push (litObj L)).get? b = some o := fun b o e => Heap.get?_push_of_some _ e
  have eI : (s.heap.push (litObj L)).get? I = some (litObj L) := by rw [hI]; exact Heap.get?_push_size _ rfl
  have nI : s.heap.get? I = none := by rw [hI]; exact none_ge (Nat.le_refl _)
  have z1 : (s.heap.push (litObj L)).objs.size = I + 1 := by rw [hI]; exact Heap.size_push ..
  refine wpAny_bind (wpAny_newObj_type ?_)
  show wpAny (model prog w) A.in1 (again (.builtin (toString "min" ++ toString ".loop") ⟨[.ref s.heap.objs.size, .none, .ref (s.heap.push (litObj L)).objs.size], []⟩)) _ _ { s with heap := (s.heap.push (litObj L)).push emptyL }
  rw [← hI, hname]
  generalize s.heap.push (litObj L) = H1 at k1 eI z1
  obtain ⟨S, hS⟩ : ∃ S, S = H1.objs.size := ⟨_, rfl⟩
  rw [← hS]
  have k2 : ∀ b o, s.heap.get? b = some o → (H1.push emptyL).get? b = some o := fun b o e => Heap.get?_push_of_some _ (k1 b o e)
  have eI2 : (H1.push emptyL).IsListIter I L 0 := ⟨_, Heap.get?_push_of_some _ eI, rfl, rfl⟩
  have eS : (H1.push emptyL).get? S = some { cls := .type "list", dict := none, data := .seq #[] 0, slots := #[] } := by rw [hS]; exact Heap.get?_push_size _ rfl
  have hSI : S ≠ I := by rw [hS, z1]; exact Nat.succ_ne_self _
  have nS : s.heap.get? S = none := by rw [hS, z1, hI]; exact none_ge (Nat.le_succ _)
  generalize H1.push emptyL = H2 at k2 eI2 eS
  have hl2 : H2.IsList L #[va, vb] := let ⟨o, e, q⟩ := hl; ⟨o, k2 _ _ e, q⟩
  have hLI : L ≠ I := fun e => by refine ex1E hl fun o zz8 => and2E zz8 fun q _ => ?_; rw [e, nI] at q; cases q
  have hLS : L ≠ S := fun e => by refine ex1E hl fun o zz7 => and2E zz7 fun q _ => ?_; rw [e, nS] at q; cases q
  -- the first
  refine wpAny_pure ⟨plainId_quiet F.plain_min_loop _, codeAny_builtin F.entry_min_loop ?_⟩
  rw [Around.under_plainId F.plain_min_loop _]
  show wpAny _ A.in1 (seqItems? (.ref S) >>= _) _ _ _
  refine wpAny_bind (wpAny_seqItems eS rfl ?_)
  show wpAny _ A.in1 (tryCatch (pyNext (.ref I)) _ >>= _) _ _ _
  refine wpAny_bind (wpAny_tryCatch (wpAny_pyNext_list_item eI2 hl2 (x := va) rfl fun h₁ it₁ sb₁ => ?_))
  have S₁ := (sb₁.2 S hSI).trans eS
  show wpAny _ A.in1 (updateSeq S (fun _ => #[va, va]) >>= _) _ _ _
  refine wpAny_bind (wpAny_updateSeq S₁ rfl ?_)
  have u₁ : Heap.SameBut S h₁ (h₁.update S (Obj.mapSeq fun _ => #[va, va])) := Heap.SameBut.update ..
  have S₂ := Heap.get?_update_self (Obj.mapSeq fun _ => #[va, va]) S₁ rfl
  have it₂ : (h₁.update S (Obj.mapSeq fun _ => #[va, va])).IsListIter I L 1 := it₁.extBut u₁.extBut (Ne.symm hSI)
  have hl3 : (h₁.update S (Obj.mapSeq fun _ => #[va, va])).IsList L #[va, vb] := (hl2.extBut sb₁.extBut hLI).extBut u₁.extBut hLS
  have k3 : ∀ b o, s.heap.get? b = some o → (h₁.update S (Obj.mapSeq fun _ => #[va, va])).get? b = some o := fun b o e =>
    (u₁.2 b fun q => by rw [q, nS] at e; cases e).trans ((sb₁.2 b fun q => by rw [q, nI] at e; cases e).trans (k2 b o e))
  generalize h₁.update S (Obj.mapSeq fun _ => #[va, va]) = H3 at S₂ it₂ hl3 k3
  rw [hname]
  -- the second
  refine wpAny_pure ⟨plainId_quiet F.plain_min_loop _, codeAny_builtin F.entry_min_loop ?_⟩
  rw [Around.under_plainId F.plain_min_loop _]
  show wpAny _ A.in1 (seqItems? (.ref S) >>= _) _ _ _
  refine wpAny_bind (wpAny_seqItems S₂ rfl ?_)
  show wpAny _ A.in1 (tryCatch (pyNext (.ref I)) _ >>= _) _ _ _
  refine wpAny_bind (wpAny_tryCatch (wpAny_pyNext_list_item it₂ hl3 (x := vb) rfl fun h₄ it₄ sb₄ => ?_))
  have S₄ := (sb₄.2 S hSI).trans S₂
  have hl4 : h₄.IsList L #[va, vb] := hl3.extBut sb₄.extBut hLI
  have k4 : ∀ b o, s.heap.get? b = some o → h₄.get? b = some o := fun b o e => (sb₄.2 b fun q => by rw [q, nI] at e; cases e).trans (k3 b o e)
  show wpAny _ A.in1 (tryCatch (holding [vb, vb] (richCompare .Lt vb va >>= _)) _ >>= _) _ _ _
  refine wpAny_bind (wpAny_tryCatch (wpAny_holding (wpAny_bind (hcmp h₄ _ _ k4 ?_))))
  refine wpAny_bind (wpAny_holding (wpAny_truthy_bool ?_))
  refine wpAny_bind (wpAny_letGo (wpAny_pure ?_))
  have last : ∀ (H : Heap) (v : Value) (n : Nat) (xs : Array Value), xs = #[v, v] → H.get? S = some { cls := .type "list", dict := none, data := .seq xs n, slots := #[] } → H.IsListIter I L 2 → H.IsList L #[va, vb] → (∀ b o, s.heap.get? b = some o → H.get? b = some o) →
      (∀ h', (∀ b o, s.heap.get? b = some o → h'.get? b = some o) → Q v { s with heap := h' }) →
      codeAny (model prog w) A (.builtin "min.loop" ⟨[.ref I, .none, .ref S], []⟩) (wants Q E) { s with heap := H } := by
    intro H v n xs hxs eS it hl k hq
    subst hxs
    refine codeAny_builtin F.entry_min_loop ?_
    rw [Around.under_plainId F.plain_min_loop _]
    show wpAny _ A.in1 (seqItems? (.ref S) >>= _) _ _ _
    refine wpAny_bind (wpAny_seqItems eS rfl ?_)
    show wpAny _ A.in1 (tryCatch (pyNext (.ref I)) _ >>= _) _ _ _
    refine wpAny_bind (wpAny_tryCatch (wpAny_pyNext_list_end (A := A.in1) hh it hl (by rfl) fun h' he => ?_))
    have S' := he S _ hSI eS
    show wpAny _ A.in1 (updateSeq S (fun _ => #[]) >>= _) _ _ _
    refine wpAny_bind (wpAny_updateSeq S' rfl (wpAny_bind (wpAny_letGo (wpAny_pure ?_))))
    exact hq _ fun b o e => (Heap.get?_update_other _ _ (fun q => by rw [q, e] at nS; cases nS)).trans (he b o (fun q => by rw [q, nI] at e; cases e) (k b o e))
  cases c with
  | true =>
    simp only [if_true]
    refine wpAny_bind (wpAny_updateSeq S₄ rfl (wpAny_bind (wpAny_letGo ?_)))
    have u₄ : Heap.SameBut S h₄ (h₄.update S (Obj.mapSeq fun _ => #[vb, vb])) := Heap.SameBut.update ..
    rw [hname]
    refine wpAny_pure ⟨plainId_quiet F.plain_min_loop _, last _ vb _ _ rfl (Heap.get?_update_self _ S₄ rfl) (it₄.extBut u₄.extBut (Ne.symm hSI)) (hl4.extBut u₄.extBut hLS) (fun b o e => (u₄.2 b fun q => by rw [q, nS] at e; cases e).trans (k4 b o e)) hQ⟩
  | false =>
    simp only [Bool.false_eq_true, if_false]
    refine wpAny_bind (wpAny_letGo ?_)
    rw [hname]
    exact wpAny_pure ⟨plainId_quiet F.plain_min_loop _, last _ va _ _ rfl S₄ it₄ hl4 k4 hQ⟩
theorem Op_min2L {xs ys : List (List Nat)} (hh : A.handled = none) (hu : A.units + 1 < cLine) : OpN prog w K A X (fun vs => call (.builtin "min") vs) [.list [.list (xs.map .str), .list (ys.map .str)]] (.list ((if ltA ys xs = true then ys else xs).map .str)) := by
  intro s vs Q E q r hQ
  refine RdAll.E1 r fun _ a => ?_; refine Rd.list2E a fun _ _ _ hn hg a b => ?_
  have ra := a
  have rb := b
  revert hg ra rb; refine Rd.listE a fun _ _ hna hga ra' => ?_; refine Rd.listE b fun _ _ hnb hgb rb' => ?_; intro hg ra rb
  refine min_two (c := ltA ys xs) hh hg (fun h' E' Q' hk hq => ?_) fun h' hk => ?_
  · refine ex1E hga fun oa zz6 => and2E zz6 fun ea qa => ?_
    refine ex1E hgb fun ob zz5 => and2E zz5 fun eb qb => ?_
    exact rc_ltA (A := A.in1) ⟨ob, hk _ _ eb, qb⟩ ⟨oa, hk _ _ ea, qa⟩ hu (rb'.mono (fun _ z => .inl z) fun _ _ _ e => hk _ _ e) (ra'.mono (fun _ z => .inl z) fun _ _ _ e => hk _ _ e) hq
  · refine hQ _ _ (Kp.of (tk := s.toks) (Nat.le_refl _) hk) (q.more (Nat.le_refl _) hk) ?_
    cases ltA ys xs with
    | true => rw [if_pos rfl, if_pos rfl]; exact rb.mono (fun _ z => .inl z) fun _ _ _ e => hk _ _ e
    | false => rw [if_neg Bool.false_ne_true, if_neg Bool.false_ne_true]; exact ra.mono (fun _ z => .inl z) fun _ _ _ e => hk _ _ e
theorem max_two {L : Addr} {va vb : Value} {c : Bool} {Q : Value → Shared → Prop} (hh : A.handled = none) (hl : s.heap.IsList L #[va, vb])
    (hcmp : ∀ h' (E' Q' : Value → Shared → Prop), (∀ b o, s.heap.get? b = some o → h'.get? b = some o) → Q' (.bool c) { s with heap := h' } → wpAny (model prog w) A.in1 (richCompare .Gt vb va) Q' E' { s with heap := h' })
    (hQ : ∀ h', (∀ b o, s.heap.get? b = some o → h'.get? b = some o) → Q (if c = true then vb else va) { s with heap := h' }) : wpAny (model prog w) A (call (.builtin "max") [.ref L]) Q E s := by
  have hname : (toString "max" ++ toString ".loop" : String) = "max.loop" := by decide
  refine call_function_tree F.kind_max F.plain_max F.entry_max (F.args_max1 _) ?_
  show wpAny _ A.in1 (Builtin.Builtins.bindParams "max" ["key", "default"] 0 ⟨[], []⟩ >>= _) _ _ s
  refine wpAny_bind (wpAny_of_eq (show Builtin.Builtins.bindParams "max" ["key", "default"] 0 ⟨[], []⟩ = pure [none, none] from rfl) ?_)
  refine wpAny_bind (wpAny_pure ?_)
  refine wpAny_bind (wpAny_pyIter_list hl ?_)
  show wpAny (model prog w) A.in1 (newList [] >>= _) _ _ { s with heap := s.heap.push (litObj L) }
  obtain ⟨I, hI⟩ : ∃ I, I = s.heap.objs.size := ⟨_, rfl⟩
  have k1 : ∀ b o, s.heap.get? b = some o → (s.heap.push (litObj L)).get? b = some o := fun b o e => Heap.get?_push_of_some _ e
  have eI : (s.heap.push (litObj L)).get? I = some (litObj L) := by rw [hI]; exact Heap.get?_push_size _ rfl
  have nI : s.heap.get? I = none := by rw [hI]; exact none_ge (Nat.le_refl _)
  have z1 : (s.heap.push (litObj L)).objs.size = I + 1 := by rw [hI]; exact Heap.size_push ..
  refine wpAny_bind (wpAny_newObj_type ?_)
  show wpAny (model prog w) A.in1 (again (.builtin (toString "max" ++ toString ".loop") ⟨[.ref s.heap.objs.size, .none, .ref (s.heap.push (litObj L)).objs.size], []⟩)) _ _ { s with heap := (s.heap.push (litObj L)).push emptyL }
  rw [← hI, hname]
  generalize s.heap.push (litObj L) = H1 at k1 eI z1
  obtain ⟨S, hS⟩ : ∃ S, S = H1.objs.size := ⟨_, rfl⟩
  rw [← hS]
  have k2 : ∀ b o, s.heap.get? b = some o → (H1.push emptyL).get? b = some o := fun b o e => Heap.get?_push_of_some _ (k1 b o e)
  have eI2 : (H1.push emptyL).IsListIter I L 0 := ⟨_, Heap.get?_push_of_some _ eI, rfl, rfl⟩
  have eS : (H1.push emptyL).get? S = some { cls := .type "list", dict := none, data := .seq #[] 0, slots := #[] } := by rw [hS]; exact Heap.get?_push_size _ rfl
  have hSI : S ≠ I := by rw [hS, z1]; exact Nat.succ_ne_self _
  have nS : s.heap.get? S = none := by rw [hS, z1, hI]; exact none_ge (Nat.le_succ _)
  generalize H1.push emptyL = H2 at k2 eI2 eS
  have hl2 : H2.IsList L #[va, vb] := let ⟨o, e, q⟩ := hl; ⟨o, k2 _ _ e, q⟩
  have hLI : L ≠ I := fun e => by refine ex1E hl fun o zz4 => and2E zz4 fun q _ => ?_; rw [e, nI] at q; cases q
  have hLS : L ≠ S := fun e => by refine ex1E hl fun o zz3 => and2E zz3 fun q _ => ?_; rw [e, nS] at q; cases q
  -- the first
  refine wpAny_pure ⟨plainId_quiet F.plain_max_loop _, codeAny_builtin F.entry_max_loop ?_⟩
  rw [Around.under_plainId F.plain_max_loop _]
  show wpAny _ A.in1 (seqItems? (.ref S) >>= _) _ _ _
  refine wpAny_bind (wpAny_seqItems eS rfl ?_)
  show wpAny _ A.in1 (tryCatch (pyNext (.ref I)) _ >>= _) _ _ _
  refine wpAny_bind (wpAny_tryCatch (wpAny_pyNext_list_item eI2 hl2 (x := va) rfl fun h₁ it₁ sb₁ => ?_))
  have S₁ := (sb₁.2 S hSI).trans eS
  show wpAny _ A.in1 (updateSeq S (fun _ => #[va, va]) >>= _) _ _ _
  refine wpAny_bind (wpAny_updateSeq S₁ rfl ?_)
  have u₁ : Heap.SameBut S h₁ (h₁.update S (Obj.mapSeq fun _ => #[va, va])) := Heap.SameBut.update ..
  have S₂ := Heap.get?_update_self (Obj.mapSeq fun _ => #[va, va]) S₁ rfl
  have it₂ : (h₁.update S (Obj.mapSeq fun _ => #[va, va])).IsListIter I L 1 := it₁.extBut u₁.extBut (Ne.symm hSI)
  have hl3 : (h₁.update S (Obj.mapSeq fun _ => #[va, va])).IsList L #[va, vb] := (hl2.extBut sb₁.extBut hLI).extBut u₁.extBut hLS
  have k3 : ∀ b o, s.heap.get? b = some o → (h₁.update S (Obj.mapSeq fun _ => #[va, va])).get? b = some o := fun b o e =>
    (u₁.2 b fun q => by rw [q, nS] at e; cases e).trans ((sb₁.2 b fun q => by rw [q, nI] at e; cases e).trans (k2 b o e))
  generalize h₁.update S (Obj.mapSeq fun _ => #[va, va]) = H3 at S₂ it₂ hl3 k3
  rw [hname]
  -- the second
  refine wpAny_pure ⟨plainId_quiet F.plain_max_loop _, codeAny_builtin F.entry_max_loop ?_⟩
  rw [Around.under_plainId F.plain_max_loop _]
  show wpAny _ A.in1 (seqItems? (.ref S) >>= _) _ _ _
  refine wpAny_bind (wpAny_seqItems S₂ rfl ?_)
  show wpAny _ A.in1 (tryCatch (pyNext (.ref I)) _ >>= _) _ _ _
  refine wpAny_bind (wpAny_tryCatch (wpAny_pyNext_list_item it₂ hl3 (x := vb) rfl fun h₄ it₄ sb₄ => ?_))
  have S₄ := (sb₄.2 S hSI).trans S₂
  have hl4 : h₄.IsList L #[va, vb] := hl3.extBut sb₄.extBut hLI
  have k4 : ∀ b o, s.heap.get? b = some o → h₄.get? b = some o := fun b o e => (sb₄.2 b fun q => by rw [q, nI] at e; cases e).trans (k3 b o e)
  show wpAny _ A.in1 (tryCatch (holding [vb, vb] (richCompare .Gt vb va >>= _)) _ >>= _) _ _ _
  refine wpAny_bind (wpAny_tryCatch (wpAny_holding (wpAny_bind (hcmp h₄ _ _ k4 ?_))))
  refine wpAny_bind (wpAny_holding (wpAny_truthy_bool ?_))
  refine wpAny_bind (wpAny_letGo (wpAny_pure ?_))
  have last : ∀ (H : Heap) (v : Value) (n : Nat) (xs : Array Value), xs = #[v, v] → H.get? S = some { cls := .type "list", dict := none, data := .seq xs n, slots := #[] } → H.IsListIter I L 2 → H.IsList L #[va, vb] → (∀ b o, s.heap.get? b = some o → H.get? b = some o) →
      (∀ h', (∀ b o, s.heap.get? b = some o → h'.get? b = some o) → Q v { s with heap := h' }) →
      codeAny (model prog w) A (.builtin "max.loop" ⟨[.ref I, .none, .ref S], []⟩) (wants Q E) { s with heap := H } := by
    intro H v n xs hxs eS it hl k hq
    subst hxs
    refine codeAny_builtin F.entry_max_loop ?_
    rw [Around.under_plainId F.plain_max_loop _]
    show wpAny _ A.in1 (seqItems? (.ref S) >>= _) _ _ _
    refine wpAny_bind (wpAny_seqItems eS rfl ?_)
    show wpAny _ A.in1 (tryCatch (pyNext (.ref I)) _ >>= _) _ _ _
    refine wpAny_bind (wpAny_tryCatch (wpAny_pyNext_list_end (A := A.in1) hh it hl (by rfl) fun h' he => ?_))
    have S' := he S _ hSI eS
    show wpAny _ A.in1 (updateSeq S (fun _ => #[]) >>= _) _ _ _
    refine wpAny_bind (wpAny_updateSeq S' rfl (wpAny_bind (wpAny_letGo (wpAny_pure ?_))))
    exact hq _ fun b o e => (Heap.get?_update_other _ _ (fun q => by rw [q, e] at nS; cases nS)).trans (he b o (fun q => by rw [q, nI] at e; cases e) (k b o e))
  cases c with
  | true =>
    simp only [if_true]
    refine wpAny_bind (wpAny_updateSeq S₄ rfl (wpAny_bind (wpAny_letGo ?_)))
    have u₄ : Heap.SameBut S h₄ (h₄.update S (Obj.mapSeq fun _ => #[vb, vb])) := Heap.SameBut.update ..
    rw [hname]
    refine wpAny_pure ⟨plainId_quiet F.plain_max_loop _, last _ vb _ _ rfl (Heap.get?_update_self _ S₄ rfl) (it₄.extBut u₄.extBut (Ne.symm hSI)) (hl4.extBut u₄.extBut hLS) (fun b o e => (u₄.2 b fun q => by rw [q, nS] at e; cases e).trans (k4 b o e)) hQ⟩
  | false =>
    simp only [Bool.false_eq_true, if_false]
    refine wpAny_bind (wpAny_letGo ?_)
    rw [hname]
    exact wpAny_pure ⟨plainId_quiet F.plain_max_loop _, last _ va _ _ rfl S₄ it₄ hl4 k4 hQ⟩
theorem Op_max2L {xs ys : List (List Nat)} (hh : A.handled = none) (hu : A.units + 1 < cLine) : OpN prog w K A X (fun vs => call (.builtin "max") vs) [.list [.list (xs.map .str), .list (ys.map .str)]] (.list ((if gtA ys xs = true then ys else xs).map .str)) := by
  intro s vs Q E q r hQ
  refine RdAll.E1 r fun _ a => ?_; refine Rd.list2E a fun _ _ _ hn hg a b => ?_
  have ra := a
  have rb := b
  revert hg ra rb; refine Rd.listE a fun _ _ hna hga ra' => ?_; refine Rd.listE b fun _ _ hnb hgb rb' => ?_; intro hg ra rb
  refine max_two (c := gtA ys xs) hh hg (fun h' E' Q' hk hq => ?_) fun h' hk => ?_
  · refine ex1E hga fun oa zz2 => and2E zz2 fun ea qa => ?_
    refine ex1E hgb fun ob zz1 => and2E zz1 fun eb qb => ?_
    exact rc_gtA (A := A.in1) ⟨ob, hk _ _ eb, qb⟩ ⟨oa, hk _ _ ea, qa⟩ hu (rb'.mono (fun _ z => .inl z) fun _ _ _ e => hk _ _ e) (ra'.mono (fun _ z => .inl z) fun _ _ _ e => hk _ _ e) hq
  · refine hQ _ _ (Kp.of (tk := s.toks) (Nat.le_refl _) hk) (q.more (Nat.le_refl _) hk) ?_
    cases gtA ys xs with
    | true => rw [if_pos rfl, if_pos rfl]; exact rb.mono (fun _ z => .inl z) fun _ _ _ e => hk _ _ e
    | false => rw [if_neg Bool.false_ne_true, if_neg Bool.false_ne_true]; exact ra.mono (fun _ z => .inl z) fun _ _ _ e => hk _ _ e
end
end Mine
end
-- Obj1
section
open PySem PySem.W PySem.Calls PyProof.Rows PySem.Builtin PySem.Builtin.Str
namespace Mine
theorem obj_made : Bind.madeBy (.type "object") = pure (some "object.__new__") := by kernel_rfl
theorem obj_called : TypeCalled "object" "object.__new__" "object.__init__" where
  notType := by decide +kernel
  canCreate := by decide +kernel
  mro := ⟨_, _, by rw [show mroOf (.type "object") = pure [.type "object"] from by kernel_rfl]⟩
  made := obj_made
  plain := by decide +kernel
  sub := by rw [isSubtype_type]; kernel_rfl
  init := .of (owner := "object") (n := "__init__") (by rw [typeLookup_type, builtinLookup_eq_fast]; kernel_rfl) (by decide +kernel) (by decide +kernel) (by decide +kernel)
    (by first | exact .inl (by decide +kernel) | exact .inr (by decide +kernel)) (by rw [isSubtype_type]; kernel_rfl)
theorem entry_obj_new : entryFor table "object.__new__" = some Builtin.«object.__new__» := entryFor_of_tree (by kernel_rfl)
theorem obj_ct : checkTypeCall "object" ⟨[], []⟩ = pure () := by kernel_rfl
theorem obj_cn : checkBuiltinCall "object.__new__" ⟨[.type "object"], []⟩ = pure () := by kernel_rfl
theorem obj_args (o : Value) : argsOk "object.__init__" ⟨[o], []⟩ := by unfold argsOk; kernel_rfl
noncomputable def plainObj : Obj := { cls := .type "object", data := .plain }
theorem obj_pk (K : Frag) (S : Setting) (D : Addr) : (peek1 K S (Builtin.«object.__new__» ⟨[.type "object"], []⟩)).map (fun p => (p.1, p.2 D)) = some (plainObj, some (.done (.ret (.ref D)))) := by kernel_rfl
theorem obj_new_meets : Meets (Builtin.«object.__new__» ⟨[.type "object"], []⟩) (fun _ R s => R (.ok (.ret (.ref s.heap.objs.size))) { s with heap := s.heap.push plainObj }) := by
  refine Meets.of_wp fun prog w A R s hs => ?_
  have h1 := obj_pk [] ⟨(model prog w).prog, (model prog w).w.params⟩
  cases e : peek1 [] ⟨(model prog w).prog, (model prog w).w.params⟩ (Builtin.«object.__new__» ⟨[.type "object"], []⟩) with
  | none => rw [e] at h1; cases h1 0
  | some p =>
    obtain ⟨o, g⟩ := p
    rw [e] at h1
    have h2 : ∀ D, (o, g D) = (plainObj, some (.done (.ret (.ref D)))) := fun D => Option.some.inj (h1 D)
    have ho : o = plainObj := congrArg Prod.fst (h2 0)
    subst ho
    exact wp_peek1 (M := model prog w) (K := []) (α := PySem.Fin) (r := fun D => .done (.ret (.ref D))) (fun _ _ e => nomatch e) ⟨_, rfl, hs⟩ _ g e (fun D => congrArg Prod.snd (h2 D))
theorem obj_init_meets {self : Value} : Meets (Builtin.«object.__init__» ⟨[self], []⟩) (fun _ R s => R (.ok (.ret .none)) s) := by
  refine Meets.of_wp fun prog w A R s hs => ?_
  exact wpAny_pure ⟨_, rfl, hs⟩
section
variable {A : Around} {E : Value → Shared → Prop} {s : Shared}
theorem call_object {Q : Value → Shared → Prop} (h : Q (.ref s.heap.objs.size) { s with heap := s.heap.push plainObj }) : wpAny (model prog w) A (call (.type "object") []) Q E s := by
  refine callType_meets obj_called obj_ct obj_cn entry_obj_new F.entry_object_init obj_new_meets (Q₁ := fun v s' => v = .ref s.heap.objs.size ∧ s' = { s with heap := s.heap.push plainObj }) ⟨rfl, rfl⟩ ?_
  rintro obj s₁ ⟨rfl, rfl⟩
  refine ⟨⟨_, Heap.get?_push_size _ rfl, rfl⟩, obj_args _, _, obj_init_meets, rfl, h⟩
end
end Mine
end
-- SetB
section
open PySem PySem.W PySem.Calls PyProof.Rows PySem.Builtin PySem.Builtin.Str
open AutoSeq1 (wpAny_loadPart')
namespace Mine
noncomputable def tOne (led : Bool) : SetTable := { mask := 7, place := #[1], dummies := #[], finger := 0, led := led, moves := 0, plain := true }
noncomputable def setNone (led : Bool) : Obj := { cls := .type "set", dict := none, data := .set #[] 0 (.fresh 0 0 led) }
noncomputable def setOne (led : Bool) : Obj := { cls := .type "set", dict := none, data := .set #[(1, .bool true)] 1 (tOne led) }
theorem lay_one (led : Bool) : layNew (.fresh 0 0 led) #[] 1 (.bool true) = (#[(1, .bool true)], tOne led, false, false) := by cases led <;> rfl
section
variable {prog : Program} {w : World} {A : Around} {E : Value → Shared → Prop} {s : Shared}
theorem tyIs_bool (s : Shared) (b : Bool) : s.TypeIs (.bool b) "bool" := rfl
theorem hash_true {Q : Int → Shared → Prop} (h : Q 1 { s with toks := s.toks + 1 }) : wpAny (model prog w) A (pyHash (.bool true)) Q E s := by
  unfold pyHash
  refine wpAny_bind ?_
  rw [cRoomFor, if_neg (by rw [show [Value.bool true].any Value.onHeap = false from rfl]; exact Bool.false_ne_true)]; refine wpAny_pure ?_
  refine wpAny_bind (wpAny_specialOf (tyIs_bool s true) F.slot_bool_hash.lookup ?_)
  show wpAny _ _ (if (some (Value.builtin "int.__hash__") == some Value.none) = true then _ else _) Q E s
  rw [if_neg (by rw [beq_builtin_none]; exact Bool.false_ne_true)]
  refine wpAny_bind (wpAny_specialOf (tyIs_bool s true) F.slot_bool_hash.lookup ?_)
  show wpAny _ _ (callSpecialIfBoundUnlessNone? (.bool true) "__hash__" _ >>= _) Q E s
  refine wpAny_bind (wpAny_callSpecialIfBoundUnlessNone?_slot (tyIs_bool s true) F.slot_bool_hash
    (wpAny_call_entry F.slot_bool_hash (tyIs_bool s true) entry_int_hash
      (show wpAny _ _ (do ret (← mkInt (rawHash 1))) _ _ s from wpAny_ret_mkInt ?_) (args_int_hash _)))
  show wpAny _ _ (if (decide (-(2 : Int) ^ 63 ≤ rawHash 1) && decide (rawHash 1 < 2 ^ 63)) = true then _ else _) Q E _
  rw [if_pos (by decide +kernel)]
  exact wpAny_pure (by rw [show rawHash 1 = 1 from by decide +kernel]; exact h)
noncomputable def trueKind (prog : Program) (w : World) : KeyKind prog w Unit where
  is := fun _ v => match v with | .bool true => true | _ => false
  hash := fun _ => 1
  inj := fun _ _ _ _ _ => rfl
  byValue := fun k v h => by split at h; rfl; cases h
  pyHash := fun hv h => by split at hv; exact hash_true h; cases hv
  eqBool := fun hu hv h => by
    split at hu
    · split at hv
      · unfold PySem.eqBool
        rw [if_pos (by rfl)]
        exact wpAny_bind (wpAny_rule (wpAny_pure (by simpa using h)))
      · cases hv
    · cases hu
  «strs» := fun k x t v h => by cases h
theorem fits_none (led : Bool) : (SetTable.fresh 0 0 led).fits (#[] : Array (Int × Value)).size = true := by cases led <;> rfl
theorem fits_one (led : Bool) : (tOne led).fits (#[((1 : Int), Value.bool true)] : Array (Int × Value)).size = true := by cases led <;> rfl
theorem elems_one : ElemsOf (trueKind prog w) (#[((1 : Int), Value.bool true)] : Array (Int × Value)).toList := by
  intro e he
  simp at he
  subst he
  exact ⟨⟨(), rfl, rfl⟩, rfl⟩
theorem set_add_at {S : Addr} {es : Array (Int × Value)} {ep : Nat} {t : SetTable} {Q : Value → Shared → Prop} (hS : s.heap.get? S = some { cls := .type "set", dict := none, data := .set es ep t })
    (h : wpAny (model prog w) A.in1 (setAddHashed S (.bool true) 1) (fun _ s' => Q .none s') E { s with toks := s.toks + 1 }) : wpAny (model prog w) A (call (.builtin "set.add") [.ref S, .bool true]) Q E s := by
  refine wpAny_call_entry F.slot_set_add (show s.TypeIs (.ref S) "set" from ⟨_, hS, rfl⟩) F.entry_set_add ?_ (F.args_set_add_2 _ _)
  unfold Builtin.«set.add» Builtin.Frozenset.oneOther
  simp only [List.isEmpty_nil, bind_assoc]
  unfold Builtin.Frozenset.addrOf setAdd
  refine wpAny_bind (wpAny_pure ?_)
  try dsimp only
  refine wpAny_bind (wpAny_pure ?_)
  try dsimp only
  refine wpAny_bind ?_
  refine wpAny_holding ?_
  refine wpAny_bind (hash_true ?_)
  refine wpAny_mono h (fun _ s' hq => ?_) fun _ _ e => e
  exact wpAny_pure ⟨_, rfl, hq⟩
theorem set_add1 {S : Addr} {led : Bool} {Q : Value → Shared → Prop} (hS : s.heap.get? S = some (setNone led))
    (h : ∀ h', Heap.SameBut S s.heap h' → h'.get? S = some (setOne led) → Q .none { s with heap := h', toks := s.toks + 1 }) : wpAny (model prog w) A (call (.builtin "set.add") [.ref S, .bool true]) Q E s := by
  refine set_add_at hS ?_
  unfold setAddHashed setAddHashedIn
  refine wpAny_holding (wpAny_bind (wpAny_setState_of (s := { s with toks := s.toks + 1 }) hS rfl (fits_none led) ?_))
  dsimp only
  rw [show byScan (.bool true) #[] = true from by decide +kernel]
  simp only [↓reduceIte]
  unfold setAddByScan
  refine wpAny_bind ?_
  refine wpAny_bind (wpAny_rule ?_)
  refine wpAny_bind (wpAny_setScan_of (knd := trueKind prog w) (k := ()) (s := { s with toks := s.toks + 1 }) rfl hS rfl (fits_none led) (fun e he => by simp at he) ?_)
  dsimp only [List.findIdx?_nil]
  rw [lay_one]
  refine wpAny_bind (m := _) (wpAny_pure ?_)
  rw [if_pos (show (tOne led).plain = true from rfl)]
  refine wpAny_bind (wpAny_pure ?_)
  rw [if_pos rfl]
  refine wpAny_bind (wpAny_storeSet_of (s := { s with toks := s.toks + 1 }) hS rfl ?_ (by show (1 : Nat) ≤ sizeLine; decide))
  rw [if_neg (by cases led <;> decide)]
  refine wpAny_pure (wpAny_pure ?_)
  have ex : (setNone led).ExactSet := ⟨rfl, rfl, rfl⟩
  refine and2E (SetOf_store (knd := trueKind prog w) (S' := fun _ => true) hS ex rfl (es' := #[(1, .bool true)]) (t' := tOne led) elems_one (fun k => by simp [trueKind]) (by decide) (fits_one led)) fun hg _ => ?_
  exact h _ (Heap.SameBut.update s.heap S (Obj.putSet _ _)) hg
theorem set_add2 {S : Addr} {led : Bool} {Q : Value → Shared → Prop} (hS : s.heap.get? S = some (setOne led)) (h : Q .none { s with toks := s.toks + 1 }) : wpAny (model prog w) A (call (.builtin "set.add") [.ref S, .bool true]) Q E s := by
  refine set_add_at hS ?_
  unfold setAddHashed setAddHashedIn
  refine wpAny_holding (wpAny_bind (wpAny_setState_of (s := { s with toks := s.toks + 1 }) hS rfl (fits_one led) ?_))
  dsimp only
  rw [show byScan (.bool true) #[(1, .bool true)] = true from by decide +kernel]
  simp only [↓reduceIte]
  unfold setAddByScan
  refine wpAny_bind ?_
  refine wpAny_bind (wpAny_rule ?_)
  refine wpAny_bind (wpAny_setScan_of (knd := trueKind prog w) (k := ()) (s := { s with toks := s.toks + 1 }) rfl hS rfl (fits_one led) elems_one ?_)
  exact wpAny_pure (wpAny_pure h)
end
end Mine
end
-- SetB2
section
open PySem PySem.W PySem.Calls PyProof.Rows PySem.Builtin PySem.Builtin.Str
open AutoSeq1 (wpAny_loadPart')
namespace Mine
noncomputable def byT (w : World) : Bool := w.params.followText "set-order"
theorem entry_set_iter : entryFor table "set.__iter__" = some Builtin.«frozenset.__iter__» :=
  entryFor_alias (id' := "frozenset.__iter__") (by rw [fastTable_eq_tree]; kernel_rfl) rfl (by decide +kernel) (by rw [fastTable_eq_tree]; kernel_rfl)
theorem slot_seti_next : Slot "set_iterator" "__next__" "set_iterator.__next__" :=
  .of (owner := "set_iterator") (n := "__next__") (by rw [typeLookup_type, builtinLookup_eq_fast]; kernel_rfl) (by decide +kernel) (by decide +kernel) (by decide +kernel)
    (by first | exact .inl (by decide +kernel) | exact .inr (by decide +kernel)) (by rw [isSubtype_type]; kernel_rfl)
theorem entry_seti_next : entryFor table "set_iterator.__next__" = some Builtin.«set_iterator.__next__» := entryFor_of_tree (by kernel_rfl)
theorem args_seti_next (a : Value) : argsOk "set_iterator.__next__" ⟨[a], []⟩ := by unfold argsOk; kernel_rfl
noncomputable def setiObj (S : Addr) (a b : Int) : Obj := { cls := .type "set_iterator", data := .fields #[rawInt a, rawInt b, .ref S, rawInt 1, rawInt 1] }
section
variable {A : Around} {E : Value → Shared → Prop} {s : Shared}
theorem new_set {Q : Value → Shared → Prop} (h : Q (.ref s.heap.objs.size) { s with heap := s.heap.push (setNone (!byT w)) }) : wpAny (model prog w) A (newSet (.type "set")) Q E s := by
  unfold newSet setsByText
  refine wpAny_bind (wpAny_bind (wpAny_askSetting (wpAny_pure ?_)))
  dsimp only
  simp only [newObj]
  exact wpAny_bind (wpAny_alloc (wpAny_pure h))
theorem set_iter {S : Addr} {led : Bool} {Q : Value → Shared → Prop} (hS : s.heap.get? S = some (setOne led)) (h : Q (.ref s.heap.objs.size) { s with heap := s.heap.push (setiObj S 0 0) }) : wpAny (model prog w) A (pyIter (.ref S)) Q E s := by
  have hT : s.TypeIs (.ref S) "set" := ⟨_, hS, rfl⟩
  refine wpAny_pyIter_slot hT F.slot_set_iter (wpAny_call_entry F.slot_set_iter hT entry_set_iter ?_ (F.args_set_iter_1 _))
  unfold Builtin.«frozenset.__iter__» Builtin.Frozenset.slot0 slotArgs
  simp only [List.isEmpty_nil, Bool.not_true, Bool.false_eq_true, ↓reduceIte, bind_assoc, List.length_nil, bne_self_eq_false]
  unfold Builtin.Frozenset.addrOf Builtin.Frozenset.sizeOf
  refine wpAny_bind (wpAny_pure ?_)
  try dsimp only
  refine wpAny_bind (wpAny_pure ?_)
  refine wpAny_bind (wpAny_bind (wpAny_setEntries_of hS rfl (fits_one led) (wpAny_pure ?_)))
  unfold setDrawn setsByText
  refine wpAny_bind ?_
  refine wpAny_bind (wpAny_setState_of hS rfl (fits_one led) ?_)
  refine wpAny_bind (wpAny_bind (wpAny_askSetting (wpAny_pure (wpAny_pure ?_))))
  rw [if_neg (by intro h; rw [Bool.and_eq_true] at h; exact absurd h.2 (by cases led <;> decide))]
  refine wpAny_bind (wpAny_pure ?_)
  refine wpAny_bind (wpAny_setEpoch_of hS rfl (fits_one led) ?_)
  unfold newFields
  refine wpAny_bind (wpAny_newObj_type ?_)
  exact wpAny_pure ⟨_, rfl, "set_iterator", _, ⟨_, Heap.get?_push_size _ rfl, rfl⟩, slot_seti_next.lookup, h⟩
theorem set_next1 {S I : Addr} {Q : Option Value → Shared → Prop} (hS : s.heap.get? S = some (setOne (!byT w))) (hI : s.heap.get? I = some (setiObj S 0 0)) (hSI : S ≠ I)
    (h : ∀ h' (k : Int), Heap.SameBut I s.heap h' → h'.get? I = some (setiObj S k 1) → ((byT w = true) ∨ k = 2) → Q (some (.bool true)) { s with heap := h' }) : wpAny (model prog w) A (pyNext (.ref I)) Q E s := by
  have hT : s.TypeIs (.ref I) "set_iterator" := ⟨_, hI, rfl⟩
  unfold pyNext
  refine wpAny_bind (wpAny_attempt (wpAny_callSpecial?_slot (name := Str.ofString "__next__") hT slot_seti_next
    (wpAny_call_entry slot_seti_next hT entry_seti_next ?_ (args_seti_next _))))
  unfold Builtin.«set_iterator.__next__»
  obtain ⟨hp, g, d, tk, os⟩ := s
  have z0 := zl
  wp_walk using wpAny_loadPart' hI, wpAny_loadPart' hS
  have hset : ({ program := (model prog w).prog, params := (model prog w).w.params } : Setting).params.followText "set-order" = byT w := rfl
  refine wpAny_askSetting (wpAny_pure ?_)
  rw [hset]
  have fin : ∀ (n : Nat), ((byT w = true) ∨ n = 2) → wpAny (model prog w) A.in1 (do
        setField (.ref I) 0 (rawInt n)
        setField (.ref I) 1 (rawInt (0 + 1))
        ret (.bool true)) (fun fin s' => ∃ v, fin = .done (.ret v) ∧ wpAny (model prog w) A (pure (some v)) Q E s') (fun e s' => wpAny (model prog w) A (do if ← isInstance e (.type "StopIteration") then pure none else throw e) Q E s') ⟨hp, g, d, tk, os⟩ := by
    intro n hn
    refine wpAny_bind (wpAny_setField_rec (s := ⟨hp, g, d, tk, os⟩) hI (by simp) fun h₂ he₂ hs₂ => ?_)
    refine wpAny_bind (wpAny_setField_rec he₂ (by simp) fun h₃ he₃ hs₃ => ?_)
    exact wpAny_pure ⟨_, rfl, wpAny_pure (h h₃ n (hs₂.trans hs₃) he₃ (hn.imp id fun e => by rw [e]; rfl))⟩
  cases hb : byT w with
  | true =>
    rw [hb] at fin hS
    rw [if_pos rfl]
    show wpAny _ _ (do let x ← setWalk S; pure (Option.map (fun e => (e.2, Int.toNat 0)) x[Int.toNat 0]?)) _ _ _
    refine wpAny_bind ?_
    unfold setWalk setsByText
    refine wpAny_bind (wpAny_setState_of (s := ⟨hp, g, d, tk, os⟩) hS rfl (fits_one _) ?_)
    refine wpAny_bind (wpAny_bind (wpAny_askSetting (wpAny_pure ?_)))
    rw [hset, hb, if_pos rfl]
    refine wpAny_bind (wpAny_askSetting (wpAny_pure (wpAny_pure ?_)))
    have hpk : ∀ f : Nat → Nat, pickOrder f #[((1 : Int), Value.bool true)] = #[((1 : Int), Value.bool true)] := by
      intro f; unfold pickOrder pickOrder.go; simp [Nat.mod_one, pickOrder.go]
    rw [hpk]
    exact fin 0 (.inl rfl)
  | false =>
    rw [hb] at fin hS
    rw [if_neg Bool.false_ne_true]
    dsimp only
    split
    · rename_i hd; exact absurd hd (by decide)
    · exact wpAny_bind (wpAny_pure (wpAny_pure (fin 2 (.inr rfl))))
end
end Mine
end
-- SetB3
section
open PySem PySem.W PySem.Calls PyProof.Rows PySem.Builtin PySem.Builtin.Str
open AutoSeq1 (wpAny_loadPart')
namespace Mine
section
variable {A : Around} {E : Value → Shared → Prop} {s : Shared}
theorem raise_stop {α : Type} {I : Addr} {o : Obj} {vs : Array Value} {Q : α → Shared → Prop} (hh : A.handled = none) (ho : s.heap.get? I = some o) (hd : o.data = .fields vs) (h2 : 2 < vs.size)
    (hE : ∀ h' e, Heap.ExtBut I s.heap h' → (∃ o, h'.get? e = some o ∧ o.cls = .type "StopIteration") → E (.ref e) { s with heap := h' }) :
    wpAny (model prog w) A (do setField (.ref I) 2 .none; let e ← newExc (.type "StopIteration") []; (raiseNew e : Sem α)) Q E s := by
  refine wpAny_bind (wpAny_setField ho hd h2 ?_)
  refine wpAny_bind ?_
  simp only [newExc, newTuple]
  refine wpAny_bind (wpAny_newObj_type ?_ (by size_fits))
  refine wpAny_bind (m := firstArgMember _ _) (wpAny_of_eq (a := Value.none) (by first | rfl | (simp only [firstArgMember]; rfl)) ?_)
  refine wpAny_newObj_type ?_ (by size_fits)
  refine wpAny_bind (m := handled) (wpAny_handled ?_)
  rw [hh]
  refine wpAny_bind (wpAny_pure (wpAny_throw ?_))
  exact hE _ _ (((Heap.SameBut.update ..).extBut.push _).push _) ⟨_, Heap.get?_push_size _ rfl, rfl⟩
theorem set_next2 {S I : Addr} {k : Int} {Q : Option Value → Shared → Prop} (hh : A.handled = none) (hS : s.heap.get? S = some (setOne (!byT w))) (hI : s.heap.get? I = some (setiObj S k 1)) (hk : (byT w = true) ∨ k = 2)
    (h : ∀ h', Heap.ExtBut I s.heap h' → Q none { s with heap := h' }) : wpAny (model prog w) A (pyNext (.ref I)) Q E s := by
  have hT : s.TypeIs (.ref I) "set_iterator" := ⟨_, hI, rfl⟩
  unfold pyNext
  refine wpAny_bind (wpAny_attempt (wpAny_callSpecial?_slot (name := Str.ofString "__next__") hT slot_seti_next
    (wpAny_call_entry slot_seti_next hT entry_seti_next ?_ (args_seti_next _))))
  unfold Builtin.«set_iterator.__next__»
  obtain ⟨hp, g, d, tk, os⟩ := s
  have z0 := zl
  wp_walk using wpAny_loadPart' hI, wpAny_loadPart' hS
  have hset : ({ program := (model prog w).prog, params := (model prog w).w.params } : Setting).params.followText "set-order" = byT w := rfl
  refine wpAny_askSetting (wpAny_pure ?_)
  rw [hset]
  have fin : wpAny (model prog w) A.in1 (do
        setField (.ref I) 2 .none
        let e ← newExc (.type "StopIteration") []
        (raiseNew e : Sem PySem.Fin)) (fun fin s' => ∃ v, fin = .done (.ret v) ∧ wpAny (model prog w) A (pure (some v)) Q E s') (fun e s' => wpAny (model prog w) A (do if ← isInstance e (.type "StopIteration") then pure none else throw e) Q E s') ⟨hp, g, d, tk, os⟩ := by
    refine raise_stop (A := A.in1) hh hI rfl (by simp) fun h' e he hx => ?_
    refine ex1E hx fun o zz1 => and2E zz1 fun ho hc => ?_
    refine wpAny_bind (wpAny_isInstance (T := "StopIteration") (b := true) ⟨o, ho, hc⟩ isSubtype_stop ?_)
    exact wpAny_pure (h _ he)
  cases hb : byT w with
  | true =>
    rw [hb] at hS
    rw [if_pos rfl]
    show wpAny _ _ (do let x ← setWalk S; pure (Option.map (fun e => (e.2, k.toNat)) x[Int.toNat 1]?)) _ _ _
    refine wpAny_bind ?_
    unfold setWalk setsByText
    refine wpAny_bind (wpAny_setState_of (s := ⟨hp, g, d, tk, os⟩) hS rfl (fits_one _) ?_)
    refine wpAny_bind (wpAny_bind (wpAny_askSetting (wpAny_pure ?_)))
    rw [hset, hb, if_pos rfl]
    refine wpAny_bind (wpAny_askSetting (wpAny_pure (wpAny_pure ?_)))
    have hpk : ∀ f : Nat → Nat, pickOrder f #[((1 : Int), Value.bool true)] = #[((1 : Int), Value.bool true)] := by
      intro f; unfold pickOrder pickOrder.go; simp [Nat.mod_one, pickOrder.go]
    rw [hpk]
    exact fin
  | false =>
    have hk2 : k = 2 := by rcases hk with q | q; (rw [hb] at q; cases q); exact q
    subst hk2
    rw [if_neg Bool.false_ne_true]
    dsimp only
    split
    · rename_i hd; exact absurd hd (by decide)
    · exact wpAny_bind (wpAny_pure (wpAny_pure fin))
theorem unpack_set {S : Addr} {Q : List Value → Shared → Prop} (hh : A.handled = none) (hS : s.heap.get? S = some (setOne (!byT w)))
    (h : ∀ h', (∀ b o, s.heap.get? b = some o → h'.get? b = some o) → Q [.bool true] { s with heap := h' }) : wpAny (model prog w) A (unpackItems (.ref S) 1 none) Q E s := by
  have hT : s.TypeIs (.ref S) "set" := ⟨_, hS, rfl⟩
  unfold unpackItems
  refine wpAny_bind ?_
  unfold notIterableAtAll
  refine wpAny_bind (wpAny_specialOf hT F.slot_set_iter.lookup ?_)
  refine wpAny_pure ?_
  simp only [Bool.false_eq_true, if_false]
  refine wpAny_bind (wpAny_holding (set_iter hS ?_))
  have hne : S ≠ s.heap.objs.size := Nat.ne_of_lt (Heap.lt_size hS)
  have hI : (s.heap.push (setiObj S 0 0)).get? s.heap.objs.size = some (setiObj S 0 0) := Heap.get?_push_size _ rfl
  have k1 : ∀ b o, s.heap.get? b = some o → (s.heap.push (setiObj S 0 0)).get? b = some o := fun b o e => Heap.get?_push_of_some _ e
  have nI : ∀ {b o}, s.heap.get? b = some o → b ≠ s.heap.objs.size := fun e => Nat.ne_of_lt (Heap.lt_size e)
  generalize s.heap.push (setiObj S 0 0) = H at hI k1
  refine wpAny_bind (wpAny_holding ?_)
  show wpAny _ _ (pyNext (.ref s.heap.objs.size) >>= _) _ _ _
  refine wpAny_bind (set_next1 (s := { s with heap := H }) (k1 _ _ hS) hI hne fun h' k sb e hk => ?_)
  refine wpAny_bind (wpAny_holding (wpAny_pure (wpAny_pure ?_)))
  rw [if_neg (by simp)]
  refine wpAny_bind (wpAny_holding (set_next2 (s := { s with heap := h' }) hh ((sb.2 S hne).trans (k1 _ _ hS)) e hk fun h2 he => ?_))
  simp only [Option.isSome_none, Bool.false_eq_true, if_false]
  exact wpAny_pure (h h2 fun b o q => he b o (nI q) ((sb.2 b (nI q)).trans (k1 b o q)))
end
end Mine
end
-- Comp1
section
open PySem PySem.W PySem.Calls PyProof.Rows PySem.Builtin PySem.Builtin.Str
namespace Mine
theorem closure_some {scope : Scope} {env : Env} (h : ∀ x, (x, NameKind.free) ∈ scope.names → (env.cells.lookup x).isSome = true) :
    ∃ cl, closureFor scope env = pure cl ∧ (∀ x c, cl.lookup x = some c → env.cells.lookup x = some c ∧ (x, NameKind.free) ∈ scope.names) ∧ (∀ x, (x, NameKind.free) ∈ scope.names → (cl.lookup x).isSome = true) := by
  have key : ∀ (f : Str × NameKind → List (Str × Addr) → Sem (ForInStep (List (Str × Addr)))) (hf : ∀ n k cs, f (n, k) cs = if k == .free then (do let a ← cellOf env n; pure (.yield ((n, a) :: cs))) else pure (.yield cs))
      (names : List (Str × NameKind)) (acc : List (Str × Addr)), (∀ x ∈ names, x ∈ scope.names) → (∀ x c, acc.lookup x = some c → env.cells.lookup x = some c ∧ (x, NameKind.free) ∈ scope.names) →
      ∃ cl, forIn names acc f = pure cl ∧ (∀ x c, cl.lookup x = some c → env.cells.lookup x = some c ∧ (x, NameKind.free) ∈ scope.names) ∧ (∀ x, ((x, NameKind.free) ∈ names ∨ (acc.lookup x).isSome = true) → (cl.lookup x).isSome = true) := by
    intro f hf names
    induction names with
    | nil => intro acc _ h2; exact ⟨acc, rfl, h2, fun x hx => hx.elim (fun q => (nomatch q)) id⟩
    | cons p names ih =>
      obtain ⟨n, k⟩ := p
      intro acc h1 h2
      rw [List.forIn_cons, hf]
      by_cases hk : (k == NameKind.free) = true
      · rw [if_pos hk]
        have hkf : k = .free := by simpa using hk
        have hmem : (n, NameKind.free) ∈ scope.names := by rw [← hkf]; exact h1 _ (.head _)
        refine ex1E (Option.isSome_iff_exists.mp (h n hmem)) fun a ha => ?_
        obtain ⟨cl, e1, e2, e3⟩ := ih ((n, a) :: acc) (fun x hx => h1 x (.tail _ hx)) (fun x c hx => by
          rw [List.lookup_cons] at hx
          split at hx
          · cases hx; rename_i hq; rw [beq_iff_eq.mp hq]; exact ⟨ha, hmem⟩
          · exact h2 x c hx)
        refine ⟨cl, ?_, e2, fun x hx => e3 x ?_⟩
        · have : cellOf env n = pure a := by unfold cellOf; rw [ha]
          rw [this]
          exact e1
        · by_cases hxn : x = n
          · right; rw [List.lookup_cons, beq_iff_eq.mpr hxn]; rfl
          · rcases hx with hx | hx
            · rcases List.mem_cons.mp hx with q | q
              · exact absurd (Prod.mk.inj q).1 hxn
              · exact .inl q
            · right; rw [List.lookup_cons, beq_eq_false_iff_ne.mpr hxn]; exact hx
      · rw [if_neg hk]
        refine ex1E (ih acc (fun x hx => h1 x (.tail _ hx)) h2) fun cl zz15 => and3E zz15 fun e1 e2 e3 => ?_
        refine ⟨cl, e1, e2, fun x hx => e3 x (hx.imp (fun q => ?_) id)⟩
        rcases List.mem_cons.mp q with q | q
        · exact absurd (by rw [← (Prod.mk.inj q).2]; rfl) hk
        · exact q
  have key2 : ∀ (f : Str × NameKind → List (Str × Addr) → Sem (ForInStep (List (Str × Addr)))) (hf : ∀ n k cs, f (n, k) cs = if k == .free then (do let a ← cellOf env n; pure (.yield ((n, a) :: cs))) else pure (.yield cs)),
      ∃ cl, (forIn scope.names [] f >>= fun r => pure r) = pure cl ∧ (∀ x c, cl.lookup x = some c → env.cells.lookup x = some c ∧ (x, NameKind.free) ∈ scope.names) ∧ (∀ x, (x, NameKind.free) ∈ scope.names → (cl.lookup x).isSome = true) := by
    intro f hf
    refine ex1E (key f hf scope.names [] (fun _ q => q) (fun x c hx => by cases hx)) fun cl zz14 => and3E zz14 fun e1 e2 e3 => ?_
    exact ⟨cl, by rw [e1]; rfl, e2, fun x hx => e3 x (.inl hx)⟩
  unfold closureFor
  exact key2 _ fun n k cs => by
    cases hk : (k == NameKind.free)
    · simp [hk]
    · simp only [hk]
noncomputable def compσ (nms : Nms) (σ : List (Option D)) (nmsC : Nms) : List (Option D) :=
  nmsC.map fun p => if p.2 == .cell then (nms.findIdx? (fun q => decide (q.1 = p.1) && q.2 == .cell)).bind (fun i => (σ[i]?).join) else none
noncomputable def compOk (nms nmsC : Nms) : Bool := nmsOk nmsC && nmsC.all (fun p => p.2 != .free && (p.2 != .cell || nms.any (fun q => decide (q.1 = p.1) && q.2 == .cell)))
section
variable {K : Frag} {A : Around} {env : Env} {nms nmsC : Nms} {X Xc Xc' : Addr → Prop} {own own' : Own} {sh : Own} {σ σC : List (Option D)} {P : Out → Prop} {s s' : Shared}
inductive EvIfs (prog : Program) (w : World) (K : Frag) (A : Around) (env : Env) (nms : Nms) (X : Addr → Prop) (σ : List (Option D)) : List Expr → Bool → Prop
  | nil : EvIfs prog w K A env nms X σ [] true
  | one {t : Expr} {b : Bool} : EvB prog w K A env nms X σ t b → EvIfs prog w K A env nms X σ [t] b
theorem EvIfs.use {ifs : List Expr} {b : Bool} (h : EvIfs prog w K A env nms X σ ifs b) (s : Shared) (Q : Bool → Shared → Prop) (E : Value → Shared → Prop) (st : StE K env nms X σ s) (hQ : ∀ s', Kp s s' → WX K X s' → Q b s') :
    wpAny (model prog w) A (forIn ifs true fun c r => if r = true then do let ok ← isTrue c env (eval c env); pure (ForInStep.yield ok) else pure (ForInStep.yield r)) Q E s := by
  cases h with
  | nil => exact wpAny_pure (hQ s (Kp.refl _) st.wx)
  | one h =>
    rw [List.forIn_cons]
    refine wpAny_bind ?_
    simp only [if_true]
    exact wpAny_bind (h _ _ st fun s' k w' => wpAny_pure (wpAny_pure (hQ s' k w')))
noncomputable def Kw (wr : List Addr) (s s' : Shared) : Prop := ∃ h' tk, s' = { s with heap := h', toks := tk } ∧ s.toks ≤ tk ∧ ∀ b o, b ≠ 96 → b ∉ wr → s.heap.get? b = some o → h'.get? b = some o
theorem Kw.trans {wr : List Addr} {s s' s'' : Shared} (a : Kw wr s s') (b : Kw wr s' s'') : Kw wr s s'' := by
  refine ex2E a fun h1 t1 zz13 => and3E zz13 fun zz12 l1 k1 => ?_; subst zz12
  refine ex2E b fun h2 t2 zz11 => and3E zz11 fun zz10 l2 k2 => ?_; subst zz10
  exact ⟨h2, t2, rfl, Nat.le_trans l1 l2, fun b o hb hw e => k2 b o hb hw (k1 b o hb hw e)⟩
theorem Kp.kw {wr : List Addr} {s s' : Shared} (k : Kp s s') : Kw wr s s' := let ⟨h', tk, e, l, q⟩ := k; ⟨h', tk, e, l, fun b o hb _ e => q b o hb e⟩
theorem Kw.mono {wr wr' : List Addr} {s s' : Shared} (k : Kw wr s s') (h : ∀ b ∈ wr, b ∈ wr') : Kw wr' s s' := let ⟨h', tk, e, l, q⟩ := k; ⟨h', tk, e, l, fun b o hb hw e => q b o hb (fun z => hw (h b z)) e⟩
theorem Kw.keep {wr : List Addr} {s s' : Shared} (k : Kw wr s s') {b : Addr} {o : Obj} (hb : b ≠ 96) (hw : b ∉ wr) (e : s.heap.get? b = some o) : s'.heap.get? b = some o := by refine ex2E k fun h' tk zz9 => and3E zz9 fun zz8 l q => ?_; subst zz8; exact q b o hb hw e
theorem Rd.kw {wr : List Addr} (x : WX K X s) (k : Kw wr s s') (hw : ∀ b ∈ wr, X b) {v : Value} {d : D} (r : Rd X s.heap v d) : Rd X s'.heap v d :=
  r.mono (fun _ q => .inl q) fun _ _ hn e => k.keep (x.ne96 hn) (fun z => hn (hw _ z)) e
theorem RdAll.kw {wr : List Addr} (x : WX K X s) (k : Kw wr s s') (hw : ∀ b ∈ wr, X b) {v : List Value} {d : List D} (r : RdAll X s.heap v d) : RdAll X s'.heap v d :=
  r.mono (fun _ q => .inl q) fun _ _ hn e => k.keep (x.ne96 hn) (fun z => hn (hw _ z)) e
theorem WX.chg {wr : List Addr} {h' : Heap} {tk : Nat} (x : WX K X s) (l : s.toks ≤ tk) (hk : ∀ b o, b ∉ wr → s.heap.get? b = some o → h'.get? b = some o) (hw : ∀ b ∈ wr, X b ∧ b ≠ 96) (ho : ∀ b ∈ wr, ∃ o, h'.get? b = some o) :
    WX K X { s with heap := h', toks := tk } where
  kin := fun a o e => hk a o (fun q => by rw [(x.xk a (hw a q).1).1] at e; cases e) (x.kin a o e)
  xk := x.xk
  bi := by
    refine ex1E x.bi fun mb zz7 => and2E zz7 fun zz6 q => ?_; obtain ⟨o, es, ep, e, r⟩ := zz6
    exact ⟨mb, ⟨o, es, ep, hk _ _ (fun z => (x.xk _ (hw _ z).1).2 rfl) e, r⟩, q⟩
  tb := x.tb.keeps (fun _ q => .inl q) (fun o e => hk 96 o (fun q => (hw 96 q).2 rfl) e) fun b o hn e => hk b o (fun q => hn (hw b q).1) e
  pos := Nat.lt_of_lt_of_le x.pos l
  x96 := x.x96
  xb := fun a ha => by
    by_cases h : a ∈ wr
    · exact ho a h
    · refine ex1E (x.xb a ha) fun o e => ?_; exact ⟨o, hk a o h e⟩
theorem WX.done {wr : List Addr} {h' : Heap} {tk : Nat} (x : WX K (fun a => X a ∨ a ∈ wr) s) (h96 : X 96) (l : s.toks ≤ tk) (hk : ∀ b o, b ∉ wr → s.heap.get? b = some o → h'.get? b = some o) (hd : ∀ b ∈ wr, ¬ X b) :
    WX K X { s with heap := h', toks := tk } where
  kin := fun a o e => hk a o (fun q => by rw [(x.xk a (.inr q)).1] at e; cases e) (x.kin a o e)
  xk := fun a q => x.xk a (.inl q)
  bi := by
    refine ex1E x.bi fun mb zz5 => and2E zz5 fun zz4 q => ?_; obtain ⟨o, es, ep, e, r⟩ := zz4
    exact ⟨mb, ⟨o, es, ep, hk _ _ (fun z => (x.xk _ (.inr z)).2 rfl) e, r⟩, q⟩
  tb := x.tb.keeps (fun _ q => .inl (.inl q)) (fun o e => hk 96 o (fun q => hd 96 q h96) e) fun b o hn e => hk b o (fun q => hn (.inr q)) e
  pos := Nat.lt_of_lt_of_le x.pos l
  x96 := h96
  xb := fun a ha => by refine ex1E (x.xb a (.inl ha)) fun o e => ?_; exact ⟨o, hk a o (fun q => hd a q ha) e⟩
noncomputable def AsgT (prog : Program) (w : World) (K : Frag) (A : Around) (cenv : Env) (nmsC : Nms) (σC : List (Option D)) (target : Expr) (d : D) (σT : List (Option D)) : Prop :=
  ∀ (X : Addr → Prop) (s : Shared) (v : Value) (Q : Unit → Shared → Prop) (E : Value → Shared → Prop), X cenv.locals → StE K cenv nmsC X σC s → Rd X s.heap v d →
    (∀ s', Kw [cenv.locals] s s' → StE K cenv nmsC X σT s' → Q () s') → wpAny (model prog w) A (assign target cenv v) Q E s
theorem StE.storeL {Q : Unit → Shared → Prop} {E : Value → Shared → Prop} {M : Model} (i : Nat) {n : String} {v : Value} {d : D} (st : StE K env nms X σ s) (hn : nms[i]? = some (n, .local)) (hX : X env.locals) (r : Rd X s.heap v d)
    (h : ∀ s', Kw [env.locals] s s' → StE K env nms X (σ.set i (some d)) s' → Q () s') : wpAny M A (storeName env n v) Q E s := by
  obtain ⟨wx, eo, m, f, rd⟩ := st
  have hK := eo.kindOf hn
  refine ex1E f.ns fun m0 zz3 => and2E zz3 fun hm0 hm => ?_
  refine wpAny_storeName_local hK hm0 (fun h' hns hs => h _ ⟨h', _, rfl, Nat.le_succ _, fun b o hb hw e => (hs.2 b (by simpa using hw)).trans e⟩ ⟨wx.upd hX eo.l96 hs (let ⟨o, _, _, e, _⟩ := hns; ⟨o, e⟩) (Nat.le_succ _), eo, fun y => if y = (n : Str) then some v else m y, ⟨⟨_, hns, fun y hy => ?_⟩, fun y hy => ?_⟩, ?_⟩) ?_
  · split
    · rfl
    · exact hm y hy
  · refine ex1E (f.cell y hy) fun c zz2 => and2E zz2 fun h1 h2 => ?_
    have hyn : y ≠ (n : Str) := fun e => by subst e; rw [hK] at hy; rcases hy with hy | hy <;> cases hy
    refine ⟨c, h1, ?_⟩
    simp only [hyn, if_false]
    exact h2.sameBut hs (eo.lc y c h1)
  · intro j n' k' d' h1 h2
    by_cases e : (n' : Str) = (n : Str)
    · have := eo.same hn h1 e
      subst this
      rw [List.getElem?_set] at h2
      simp only [if_true] at h2
      split at h2
      · cases h2
        refine ⟨v, by simp [e], r.upd hX hs⟩
      · cases h2
    · have hij : i ≠ j := fun q => by subst q; rw [hn] at h1; cases h1; exact e rfl
      rw [List.getElem?_set_ne hij] at h2
      refine ex1E (rd j n' k' d' h1 h2) fun v' zz1 => and2E zz1 fun e' r' => ?_
      exact ⟨v', by simp [e, e'], r'.upd hX hs⟩
  · show (env.scope.kind == .class || (env.scope.kind == .module && env.locals != env.globals)) = false
    rw [eo.kind]; rfl
theorem AsgT_name (i : Nat) {n : String} {p : Pos} {d : D} (hn : nms[i]? = some (n, .local)) : AsgT prog w K A env nms σ (.Name n p) d (σ.set i (some d)) := by
  intro X s v Q E hX st r h
  exact PyProof.Rows.assign_Name (StE.storeL i st hn hX r fun s' k st' => h s' k st')
end
end Mine
end
-- Comp2
section
open PySem PySem.W PySem.Calls PyProof.Rows PySem.Builtin PySem.Builtin.Str
namespace Mine
section
variable {K : Frag} {A : Around} {env : Env} {nms nmsC : Nms} {X Xc Xc' : Addr → Prop} {own own' : Own} {sh : Own} {σ σC : List (Option D)} {P : Out → Prop} {s s' : Shared}
theorem compσ_get {j : Nat} {n : String} {k : NameKind} {d : D} (h1 : nmsC[j]? = some (n, k)) (h2 : (compσ nms σ nmsC)[j]? = some (some d)) : k = .cell ∧ ∃ i : Nat, nms[i]? = some (n, .cell) ∧ σ[i]? = some (some d) := by
  unfold compσ at h2
  rw [List.getElem?_map, h1] at h2
  simp only [Option.map_some] at h2
  split at h2
  · rename_i hk
    refine ⟨by simpa using hk, ?_⟩
    injection h2 with h2
    refine ex1E (Option.bind_eq_some_iff.mp h2) fun i zz30 => and2E zz30 fun hi hσ => ?_
    refine ex1E (List.findIdx?_eq_some_iff_getElem.mp hi) fun hlt zz29 => and2E zz29 fun hp _ => ?_
    refine ⟨i, ?_, ?_⟩
    · rw [List.getElem?_eq_getElem hlt]
      simp only [Bool.and_eq_true, decide_eq_true_eq, beq_iff_eq] at hp
      rw [← hp.1, ← hp.2]
    · cases q : σ[i]? with
      | none => rw [q] at hσ; cases hσ
      | some z => rw [q] at hσ; simp at hσ; rw [hσ]
  · cases h2
theorem comp_ste {scope : Scope} {cl : List (Str × Addr)} {C : Addr} {s₁ : Shared} (st : StE K env nms X σ s) {X' : Addr → Prop} (w' : WX K X' s₁) (hX : ∀ a, X' a → X a ∨ s.heap.get? a = none) (hk : ∀ b o, b ≠ 96 → s.heap.get? b = some o → s₁.heap.get? b = some o) (hC : X' C) (hC0 : s.heap.get? C = none) (hC96 : C ≠ 96)
    (hns : ∃ m, s₁.heap.Ns C m) (hsc : (relabel scope env).names = nmsC.map fun p => ((p.1 : Str), p.2)) (hok : compOk nms nmsC = true) (hkind : scope.kind = .function)
    (hcl1 : ∀ x c, cl.lookup x = some c → env.cells.lookup x = some c ∧ (x, NameKind.free) ∈ scope.names) (hcl2 : ∀ x, (x, NameKind.free) ∈ scope.names → (cl.lookup x).isSome = true) (hnc : ∀ y ∈ scope.names, y.2 ≠ .cell) :
    StE K (compEnvC scope cl C env) nmsC X' (compσ nms σ nmsC) s₁ := by
  obtain ⟨wx, eo, m, f, rd⟩ := st
  refine ex1E hns fun m1 hm1 => ?_
  unfold compOk at hok
  rw [Bool.and_eq_true] at hok
  have hcell : ∀ x, (compEnvC scope cl C env).kindOf x = some .cell → env.kindOf x = some .cell ∧ (cl.lookup x).isSome = true := by
    intro x hx
    have hx' : (x, NameKind.cell) ∈ (relabel scope env).names := mem_of_lookup hx
    unfold relabel at hx'
    refine ex1E (List.mem_map.mp hx') fun zz27 zz28 => and2E zz28 fun hp e => ?_; obtain ⟨n, k⟩ := zz27
    simp only at e
    split at e
    · rename_i hc
      cases e
      simp only [Bool.and_eq_true, beq_iff_eq] at hc
      exact ⟨hc.2, hcl2 _ (by rw [hc.1.1] at hp; exact hp)⟩
    · cases e; exact absurd rfl (hnc _ hp)
  have hall := List.all_eq_true.mp hok.2
  have hfree : ∀ x, (x, NameKind.free) ∈ scope.names → env.kindOf x = some .cell := by
    intro x hx
    by_cases hc : (NameKind.free == NameKind.free && env.scope.kind == .function && env.kindOf x == some .cell) = true
    · simp only [Bool.and_eq_true, beq_iff_eq] at hc
      exact hc.2
    · exfalso
      have hm : (x, NameKind.free) ∈ (relabel scope env).names := by
        unfold relabel
        refine List.mem_map.mpr ⟨_, hx, ?_⟩
        simp only
        rw [if_neg hc]
      rw [hsc] at hm
      refine ex1E (List.mem_map.mp hm) fun p zz26 => and2E zz26 fun hp e => ?_
      have := hall p hp
      have e2 : p.2 = .free := (Prod.mk.inj e).2
      simp [e2] at this
  have hst : ∀ x c, cl.lookup x = some c → env.cells.lookup x = some c ∧ s.heap.IsCell c (m x) := by
    intro x c h
    refine and2E (hcl1 x c h) fun h1 h2 => ?_
    refine ex1E (f.cell x (.inl (hfree x h2))) fun c' zz25 => and2E zz25 fun g1 g2 => ?_
    rw [h1] at g1; cases g1
    exact ⟨h1, g2⟩
  have eoC : EnvOk (compEnvC scope cl C env) nmsC := ⟨hsc, hok.1, hkind, eo.globals, eo.builtins, hC96, fun x c h => eo.c96 x c (hcl1 x c h).1, fun x c h e => by
    refine ex1E ((hst x c h).2) fun o zz24 => and2E zz24 fun e' _ => ?_
    have e2 : c = C := e
    rw [e2, hC0] at e'; cases e'⟩
  refine ⟨w', eoC, fun x => if (compEnvC scope cl C env).kindOf x = some .cell then m x else m1 x, ⟨⟨m1, hm1, fun x hx => by rw [hx]; simp⟩, fun x hx => ?_⟩, ?_⟩
  · have hxc : (compEnvC scope cl C env).kindOf x = some .cell := by
      rcases hx with hx | hx
      · exact hx
      · exfalso
        refine ex1E (eoC.kind_mem hx) fun p zz23 => and2E zz23 fun hp e => ?_
        have := hall p hp
        simp [e] at this
    refine ex1E (Option.isSome_iff_exists.mp (hcell x hxc).2) fun c hc => ?_
    rw [if_pos hxc]
    refine and2E (hst x c hc) fun g1 zz21 => ex1E zz21 fun o zz22 => and2E zz22 fun g2 g3 => ?_
    exact ⟨c, hc, o, hk c o (eo.c96 x c g1) g2, g3⟩
  · intro j n k d h1 h2
    refine and2E (compσ_get h1 h2) fun zz18 zz19 => ex1E zz19 fun i zz20 => and2E zz20 fun g1 g2 => ?_; subst zz18
    refine ex1E (rd i n .cell d g1 g2) fun v zz17 => and2E zz17 fun e r => ?_
    refine ⟨v, ?_, r.mono hX fun b o hn e => hk b o (wx.ne96 hn) e⟩
    simp only
    rw [if_pos (eoC.kindOf h1)]; exact e
theorem compLoop_go {R : Result → Shared → Prop} {elt target iter : Expr} {ifs : List Expr} {scope : Scope} {pos : Pos} {it acc : Value} {env : Env} (I : Nat → Shared → Prop)
    (turn : ∀ n s, I n s → wpAny (model prog w) A (pyNext it) (fun r s₁ => match r with
      | none => R (.ok .next) s₁
      | some v => wpAny (model prog w) A (letOwnedTupleGo target it v) (fun _ s₀ => wpAny (model prog w) A (assign target env v) (fun _ s₂ =>
          wpAny (model prog w) A (forIn ifs true fun c r => if r = true then do let ok ← isTrue c env (eval c env); pure (ForInStep.yield ok) else pure (ForInStep.yield r)) (fun ok s₃ =>
            if ok = true then wpAny (model prog w) A (eval elt env) (fun x s₄ =>
              wpAny (model prog w) A (call (.builtin "list.append") [acc, x]) (fun _ s₅ => ∃ m, m < n ∧ I m s₅) (notedBy (model prog w) A env fun e s' => R (.error e) s') s₄) (notedBy (model prog w) A env fun e s' => R (.error e) s') s₃
            else ∃ m, m < n ∧ I m s₃) (notedBy (model prog w) A env fun e s' => R (.error e) s') s₂) (notedBy (model prog w) A env fun e s' => R (.error e) s') s₀) (notedBy (model prog w) A env fun e s' => R (.error e) s') s₁) (notedBy (model prog w) A env fun e s' => R (.error e) s') s)
    (n : Nat) (h : I n s) : codeAny (model prog w) A (.compLoop (.ListComp elt [⟨target, iter, ifs, 0⟩] scope pos) 0 it acc env) R s := by
  refine codeAny_loop rfl I (fun n s hI => ?_) n h
  show wpAny _ A ((compTurn (.ListComp elt [⟨target, iter, ifs, 0⟩] scope pos) 0 it acc env).onRaise (fun x => do noteFrame x env; theTreesLotGoes x)) _ _ s
  refine wpAny_noted ?_
  rw [compTurn_list]
  refine wpAny_bind (wpAny_standAt (wpAny_bind (wpAny_mono (turn n s hI) (fun r s₁ h₁ => ?_) fun _ _ h' => h')))
  cases r with
  | none => exact wpAny_pure h₁
  | some v =>
    refine wpAny_bind (wpAny_mono h₁ (fun _ s₀ h₀ => ?_) fun _ _ h' => h')
    refine wpAny_bind (wpAny_mono h₀ (fun _ s₂ h₂ => wpAny_bind (wpAny_mono h₂ (fun ok s₃ h₃ => ?_) fun _ _ h' => h')) fun _ _ h' => h')
    cases ok with
    | false => exact wpAny_pure ⟨rfl, h₃⟩
    | true =>
      exact wpAny_bind (wpAny_bind (wpAny_mono h₃ (fun x s₄ h₄ => wpAny_bind (wpAny_mono h₄ (fun _ s₅ h₅ => wpAny_pure (wpAny_pure ⟨rfl, h₅⟩)) fun _ _ h' => h')) fun _ _ h' => h'))
theorem letGo_tup {M : Model} {elts : List Expr} {k : Nat} {pos : Pos} {I : Addr} {v : Value} {Q : Unit → Shared → Prop} {E : Value → Shared → Prop} (h : ∃ o n, s.heap.get? I = some o ∧ o.cls = .type n ∧ special n = false) (hQ : Q () s) : wpAny M A (letOwnedTupleGo (.Tuple elts k pos) (.ref I) v) Q E s := by
  refine ex2E h fun o n z => and3E z fun ho hc hn => ?_
  have hn' : ["enumerate", "zip", "dict_itemiterator", "dict_reverseitemiterator", "odict_iterator", "itertools.zip_longest", "itertools.pairwise"].contains n = false := hn
  cases v with
  | ref a =>
    refine wpAny_bind (wpAny_load ho ?_)
    rw [hc]
    cases hd : o.data with
    | fields vs =>
      show wpAny M A (if (_ && _) = true then _ else _) Q E s
      rw [if_neg (by rw [hn']; exact Bool.false_ne_true)]
      exact wpAny_pure hQ
    | _ => exact wpAny_pure hQ
  | _ => exact wpAny_pure hQ
theorem letGo_plain {M : Model} {target : Expr} {I : Addr} {v : Value} {Q : Unit → Shared → Prop} {E : Value → Shared → Prop} (h : ∃ o n, s.heap.get? I = some o ∧ o.cls = .type n ∧ special n = false) (hQ : Q () s) : wpAny M A (letOwnedTupleGo target (.ref I) v) Q E s := by
  cases target with
  | Tuple elts k pos => exact letGo_tup h hQ
  | List es pos => exact letGo_tup (elts := []) (k := 0) (pos := pos) h hQ
  | _ => exact wpAny_pure hQ
theorem take_snoc {α : Type} {l : List α} {j : Nat} {d : α} (h : l[j]? = some d) : l.take (j + 1) = l.take j ++ [d] := by
  rw [List.take_add_one, h]; rfl
theorem comp_free {scope : Scope} (st : StE K env nms X σ s) (hsc : (relabel scope env).names = nmsC.map fun p => ((p.1 : Str), p.2)) (hok : compOk nms nmsC = true) : ∀ x, (x, NameKind.free) ∈ scope.names → (env.cells.lookup x).isSome = true := by
  intro x hx
  obtain ⟨wx, eo, m, f, rd⟩ := st
  unfold compOk at hok
  rw [Bool.and_eq_true] at hok
  have hall := List.all_eq_true.mp hok.2
  by_cases hc : (NameKind.free == NameKind.free && env.scope.kind == .function && env.kindOf x == some .cell) = true
  · simp only [Bool.and_eq_true, beq_iff_eq] at hc
    refine ex1E (f.cell x (.inl hc.2)) fun c zz15 => and2E zz15 fun g1 _ => ?_
    rw [g1]; rfl
  · exfalso
    have hm : (x, NameKind.free) ∈ (relabel scope env).names := by
      unfold relabel
      refine List.mem_map.mpr ⟨_, hx, ?_⟩
      simp only
      rw [if_neg hc]
    rw [hsc] at hm
    refine ex1E (List.mem_map.mp hm) fun p zz14 => and2E zz14 fun hp e => ?_
    have := hall p hp
    have e2 : p.2 = .free := (Prod.mk.inj e).2
    simp [e2] at this
theorem comp_setup {wr fp : List Addr} {s₁ s₂ : Shared} {h₁ : Heap} {C Dl : Addr} (n : Nat) (h96X : X 96) (k₁ : Kp s s₁) (w₁ : WX K X s₁) (k₂ : Kp s₁ s₂) (w₂ : WX K (fun a => X a ∨ a ∈ wr) s₂) (hwn : ∀ b ∈ wr, s₁.heap.get? b = none) (hwo : ∀ b ∈ wr, ∃ o, s₂.heap.get? b = some o)
    (hfp : ∀ b ∈ fp, b ∈ wr ∨ (¬ X b ∧ ∃ o, s₁.heap.get? b = some o)) (hDn : s₂.heap.get? Dl = none) (hCn : s₂.heap.get? C = none) (hk₂ : ∀ b o, s₂.heap.get? b = some o → h₁.get? b = some o) (hC1 : ∃ o, h₁.get? C = some o) (hD1 : ∃ o, h₁.get? Dl = some o) :
    (C ∉ wr ∧ Dl ∉ wr ∧ C ≠ 96 ∧ Dl ≠ 96) ∧ (∀ b ∈ C :: Dl :: wr, s.heap.get? b = none) ∧ (∀ b ∈ C :: Dl :: wr, s₁.heap.get? b = none) ∧ (∀ b ∈ C :: Dl :: wr, b ≠ 96) ∧ WX K (fun a => X a ∨ a ∈ C :: Dl :: wr) { s₂ with heap := h₁, toks := s₂.toks + n } ∧ (∀ b ∈ fp, b ≠ C ∧ b ≠ Dl ∧ b ≠ 96) := by
  have hCw : C ∉ wr := fun h => (hwo C h).elim fun o e => by rw [hCn] at e; cases e
  have hDw : Dl ∉ wr := fun h => (hwo Dl h).elim fun o e => by rw [hDn] at e; cases e
  have n96 : ∀ {b}, s₂.heap.get? b = none → b ≠ 96 := fun e q => w₂.tb.elim fun ps z => by rw [q, z.1] at e; cases e
  have hC96 := n96 hCn
  have hD96 := n96 hDn
  have hw96 : ∀ b ∈ wr, b ≠ 96 := fun b hb q => w₁.tb.elim fun ps z => by have := hwn b hb; rw [q, z.1] at this; cases this
  have hall96 : ∀ b ∈ C :: Dl :: wr, b ≠ 96 := List.forall_mem_cons.mpr ⟨hC96, List.forall_mem_cons.mpr ⟨hD96, hw96⟩⟩
  have back : ∀ {sa sb : Shared} {b : Addr}, Kp sa sb → b ≠ 96 → sb.heap.get? b = none → sa.heap.get? b = none := fun {sa sb b} k n e => by
    cases q : sa.heap.get? b with
    | none => rfl
    | some o => rw [k.keep n q] at e; cases e
  have hall1 : ∀ b ∈ C :: Dl :: wr, s₁.heap.get? b = none := List.forall_mem_cons.mpr ⟨back k₂ hC96 hCn, List.forall_mem_cons.mpr ⟨back k₂ hD96 hDn, hwn⟩⟩
  have hall0 : ∀ b ∈ C :: Dl :: wr, s.heap.get? b = none := fun b hb => back k₁ (hall96 b hb) (hall1 b hb)
  refine ⟨⟨hCw, hDw, hC96, hD96⟩, hall0, hall1, hall96, ?_, fun b hb => ?_⟩
  · have wj := w₂.join (wr := [C, Dl]) (h' := h₁) (tk := s₂.toks + n) (Nat.le_add_right _ _) hk₂ (List.forall_mem_cons.mpr ⟨hCn, List.forall_mem_cons.mpr ⟨hDn, fun _ h => nomatch h⟩⟩) (List.forall_mem_cons.mpr ⟨hC1, List.forall_mem_cons.mpr ⟨hD1, fun _ h => nomatch h⟩⟩)
    refine wj.weak (.inl h96X) fun a ha => ?_
    rcases ha with q | q
    · exact .inl (.inl q)
    · rcases List.mem_cons.mp q with q | q
      · exact .inr (q ▸ .head _)
      · rcases List.mem_cons.mp q with q | q
        · exact .inr (q ▸ .tail _ (.head _))
        · exact .inl (.inr q)
  · rcases hfp b hb with q | ⟨q, o, e⟩
    · exact ⟨fun z => hCw (z ▸ q), fun z => hDw (z ▸ q), hw96 b q⟩
    · have h96 := w₁.ne96 q
      have e2 := k₂.keep h96 e
      exact ⟨fun z => (by rw [z, hCn] at e2; cases e2), fun z => (by rw [z, hDn] at e2; cases e2), h96⟩
theorem comp_core {elt iter target : Expr} {ifs : List Expr} {scope : Scope} {pos cpos : Pos} {use : Option (Value → Sem Unit)} {ds : List D} (p : D → Bool) (g : D → D) (σT : D → List (Option D)) {Q E : Value → Shared → Prop}
    (hh : A.handled = none) (st : StE K env nms X σ s) (hit : EvIt prog w K A env nms X σ iter ds) (hlen : ds.length ≤ sizeLine)
    (hsc : (relabel scope env).names = nmsC.map fun p => ((p.1 : Str), p.2)) (hok : compOk nms nmsC = true) (hkind : scope.kind = .function) (hnc : ∀ y ∈ scope.names, y.2 ≠ .cell) (hnames : ∀ y ∈ scope.names, y.2 = .local → scope.names.lookup y.1 = some .local)
    (hasg : ∀ cl C d, d ∈ ds → AsgT prog w K A (compEnvC scope cl C env) nmsC (compσ nms σ nmsC) target d (σT d))
    (hturn : ∀ cl C (X' : Addr → Prop), (∀ a, X a → X' a) → ∀ d ∈ ds, EvIfs prog w K A (compEnvC scope cl C env) nmsC X' (σT d) ifs (p d) ∧ (p d = true → Ev prog w K A (compEnvC scope cl C env) nmsC X' (σT d) elt (g d)))
    (hQ : ∀ C Dl (ys : List Value) s₅, Kp s s₅ → WX K (fun a => X a ∨ a ∈ [C, Dl]) s₅ → (∃ m, s₅.heap.Ns C m) → s.heap.get? C = none → s.heap.get? Dl = none → C ≠ Dl → s₅.heap.IsList Dl ys.toArray →
      RdAll (fun a => X a ∨ a ∈ [C, Dl]) s₅.heap ys ((ds.filter p).map g) → compPost (model prog w) A E use Q (.ref Dl) C (.ok .next) s₅)
    (hs : ∀ x, foldedSetIterable iter env x = pure x := by intro _; rfl) :
    wpAny (model prog w) A (comprehension (.ListComp elt [⟨target, iter, ifs, 0⟩] scope pos) scope env cpos (newList []) false (eval iter env) use) Q E s := by
  refine ex1E (closure_some (comp_free st hsc hok)) fun cl zz13 => and3E zz13 fun hclos hcl1 hcl2 => ?_
  refine wpAny_comprehension_free rfl hs hclos hkind hnames (hit _ _ st fun v s₁ k₁ w₁ it => it _ _ fun I fp wr Pv Stt s₂ k₂ w₂ W st₂ hf hob hfp hval hcls => ?_)
  refine wpAny_newObj_type (wpAny_newFunctionEnv hnc (by intro y hy; simp at hy) (fun h₁ hns₁ hsb₁ => ?_) hkind) (by show (0 : Nat) ≤ sizeLine; lia)
  dsimp only at hns₁ hsb₁ ⊢
  generalize hH2 : s₂.heap.push { cls := .type "list", dict := none, data := .seq ([] : List Value).toArray } = H2 at hns₁ hsb₁ ⊢
  have hCe : H2.objs.size = s₂.heap.objs.size + 1 := by rw [← hH2, Heap.size_push]
  have hDg : H2.get? s₂.heap.objs.size = some { cls := .type "list", dict := none, data := .seq ([] : List Value).toArray } := by rw [← hH2]; exact Heap.get?_push_size _ rfl
  have hK2 : ∀ b o, s₂.heap.get? b = some o → H2.get? b = some o := fun b o e => by rw [← hH2]; exact Heap.get?_push_of_some _ e
  clear hH2
  obtain ⟨Dl, hDl⟩ : ∃ Dl, Dl = s₂.heap.objs.size := ⟨_, rfl⟩
  obtain ⟨C, hC⟩ : ∃ C, C = H2.objs.size := ⟨_, rfl⟩
  rw [← hDl] at hDg hCe ⊢
  rw [← hC] at hns₁ hsb₁ hCe ⊢
  have hCD : C ≠ Dl := by rw [hCe]; exact Nat.succ_ne_self _
  -- what stands
  have hk₁ : ∀ b o, H2.get? b = some o → h₁.get? b = some o := fun b o e => hsb₁.extBut b o (by rw [hC]; exact Nat.ne_of_lt (Heap.lt_size e)) (Heap.get?_push_of_some _ e)
  have hk₂ : ∀ b o, s₂.heap.get? b = some o → h₁.get? b = some o := fun b o e => hk₁ b o (hK2 b o e)
  have hDn : s₂.heap.get? Dl = none := by rw [hDl]; exact none_ge (Nat.le_refl _)
  have hCn : s₂.heap.get? C = none := by rw [hCe, hDl]; exact none_ge (Nat.le_succ _)
  refine and6E (comp_setup 0 st.wx.x96 k₁ w₁ k₂ w₂ hf (hob 0 _ st₂) hfp hDn hCn hk₂ (hns₁.elim fun o z => z.elim fun _ z => z.elim fun _ z => ⟨o, z.1⟩) ⟨_, hk₁ _ _ hDg⟩) fun hcw hall0 hall1 hall96 w₃ hfp' => ?_
  have hCw := hcw.1
  have hDw := hcw.2.1
  have hC96 := hcw.2.2.1
  have hD96 := hcw.2.2.2
  have hCn0 := hall0 C (.head _)
  have hDn0 := hall0 Dl (.tail _ (.head _))
  have hwn0 : ∀ b ∈ wr, s.heap.get? b = none := fun b hb => hall0 b (.tail _ (.tail _ hb))
  have hw96 : ∀ b ∈ wr, b ≠ 96 := fun b hb => hall96 b (.tail _ (.tail _ hb))
  let X5 : Addr → Prop := fun a => X a ∨ a ∈ C :: Dl :: wr
  have X5s : ∀ a, X5 a → X a ∨ s.heap.get? a = none := fun a ha => ha.imp id (hall0 a)
  have st₃ : Stt 0 h₁ := W.frame _ _ _ st₂ fun b _ o e => hk₂ b o e
  have loop : codeAny (model prog w) A (.compLoop (.ListComp elt [⟨target, iter, ifs, 0⟩] scope pos) 0 (.ref I) (.ref Dl) (compEnvC scope cl C env)) (compPost (model prog w) A E use Q (.ref Dl) C) { s₂ with heap := h₁, toks := s₂.toks + ([] : List (Str × Value)).length } := by
    refine compLoop_go (fun n s' => ∃ j ys m, n = ds.length - j ∧ j ≤ ds.length ∧ Kw (C :: Dl :: wr) s₁ s' ∧ WX K X5 s' ∧ Stt j s'.heap ∧ s'.heap.Ns C m ∧ s'.heap.IsList Dl (List.toArray ys) ∧ RdAll X5 s'.heap ys (((ds.take j).filter p).map g)) ?_ ds.length
      ⟨0, [], _, rfl, Nat.zero_le _, ?_, w₃, st₃, hns₁, ⟨_, hk₁ _ _ hDg, rfl, _, rfl⟩, by simp; exact .nil⟩
    · rintro n s' ⟨j, ys, m, rfl, hj, kw, w', stj, hns, hl, hr⟩
      by_cases hlt : j < ds.length
      · refine wpAny_with_toks (Nat.le_refl _) (W.item j s' _ _ hlt stj fun v h' tk hv st' hk' l' => ?_)
        refine ex1E (hval j v hlt hv) fun d zz9 => and2E zz9 fun hd rd => ?_
        have hmem : d ∈ ds := List.mem_of_getElem? hd
        have kwI : Kw (C :: Dl :: wr) s' { s' with heap := h', toks := tk } := ⟨h', tk, rfl, l', fun b o _ hb e => hk' b o (fun q => hb (by simp [q])) e⟩
        have kw2 := kw.trans kwI
        have w2 : WX K X5 { s' with heap := h', toks := tk } := w'.chg l' hk' (fun b hb => ⟨.inr (by simp [hb]), hw96 b hb⟩) (hob _ _ st')
        have rd5 : Rd X5 h' v d := rd.mono (fun a ha => ha.imp id (hall1 a)) fun b o hn e => kw2.keep (w₁.ne96 hn) (fun q => by rw [hall1 b q] at e; cases e) e
        have hns2 : h'.Ns C m := let ⟨o, es, ep, e, r⟩ := hns; ⟨o, es, ep, hk' C o hCw e, r⟩
        have ste := comp_ste (scope := scope) (cl := cl) (C := C) st w2 X5s (fun b o hb e => kw2.keep hb (fun q => by rw [hall0 b q] at e; cases e) (k₁.keep hb e)) (.inr (by simp)) hCn0 hC96 ⟨m, hns2⟩ hsc hok hkind hcl1 hcl2 hnc
        refine letGo_plain (hcls _ _ st') ?_
        refine hasg cl C d hmem X5 _ v _ _ (.inr (by simp [compEnvC])) ste rd5 fun s₆ k₆ ste₆ => ?_
        refine and2E (hturn cl C X5 (fun a q => .inl q) d hmem) fun hi he => ?_
        refine hi.use s₆ _ _ ste₆ fun s₇ k₇ w₇ => ?_
        have k₆' : Kw (C :: Dl :: wr) { s' with heap := h', toks := tk } s₆ := k₆.mono (by intro b hb; simp [compEnvC] at hb; simp [hb])
        have kw7 := (kw2.trans k₆').trans k₇.kw
        have keepD : ∀ o, h'.get? Dl = some o → s₇.heap.get? Dl = some o := fun o e => k₇.keep hD96 (k₆.keep hD96 (by simp [compEnvC]; exact fun z => hCD z.symm) e)
        have st7 : Stt (j + 1) s₇.heap := W.frame _ _ _ st' fun b hb o e => by
          refine and3E (hfp' b hb) fun f1 f2 f3 => ?_
          exact k₇.keep f3 (k₆.keep f3 (by simp [compEnvC]; exact f1) e)
        have hl7 : s₇.heap.IsList Dl (List.toArray ys) := let ⟨o, e, r⟩ := hl; ⟨o, keepD o (hk' Dl o hDw e), r⟩
        have hr7 : RdAll X5 s₇.heap ys (((ds.take j).filter p).map g) :=
          (hr.kw w' (kwI.trans (k₆'.trans k₇.kw)) fun b hb => .inr hb)
        have hns7 : ∃ m, s₇.heap.Ns C m := by
          obtain ⟨_, _, m', ff, _⟩ := ste₆.kp k₇ w₇
          refine ex1E ff.ns fun m0 zz8 => and2E zz8 fun hm0 _ => ?_
          exact ⟨m0, hm0⟩
        refine ex1E hns7 fun m7 hns7 => ?_
        cases hb : p d with
        | false =>
          simp only [Bool.false_eq_true, if_false]
          refine ⟨ds.length - (j + 1), by lia, j + 1, ys, m7, rfl, hlt, kw7, w₇, st7, hns7, hl7, ?_⟩
          rw [take_snoc hd, List.filter_append, List.filter_cons, hb]
          simpa using hr7
        | true =>
          simp only [if_true]
          refine he hb _ _ (ste₆.kp k₇ w₇) fun x s₈ k₈ w₈ r₈ => ?_
          have hl8 : s₈.heap.IsList Dl (List.toArray ys) := let ⟨o, e, r⟩ := hl7; ⟨o, k₈.keep hD96 e, r⟩
          have ysz : ys.length ≤ j := by
            rw [hr.length, List.length_map]
            exact Nat.le_trans (List.length_filter_le _ _) (by rw [List.length_take]; lia)
          refine wpAny_list_append hl8 (fun h9 hl9 hs9 => ?_) (by rw [List.size_toArray]; lia)
          have hDX : X5 Dl := .inr (by simp)
          have w9 : WX K X5 { s₈ with heap := h9 } := w₈.upd (tk := s₈.toks) hDX hD96 hs9 (let ⟨o, e, _⟩ := hl9; ⟨o, e⟩) (Nat.le_refl _)
          refine ⟨ds.length - (j + 1), by lia, j + 1, ys ++ [x], m7, rfl, hlt, (kw7.trans k₈.kw).trans ⟨h9, s₈.toks, rfl, Nat.le_refl _, fun b o _ hb e => (hs9.2 b (fun z => hb (by simp [z]))).trans e⟩, w9, ?_, ?_, ?_, ?_⟩
          · refine W.frame _ _ _ st7 fun b hb o e => ?_
            refine and3E (hfp' b hb) fun f1 f2 f3 => ?_
            exact (hs9.2 b f2).trans (k₈.keep f3 e)
          · refine ex3E hns7 fun o es ep zz7 => and2E zz7 fun e r => ?_
            exact ⟨o, es, ep, (hs9.2 C hCD).trans (k₈.keep hC96 e), r⟩
          · have e9 : (List.toArray ys).push x = List.toArray (ys ++ [x]) := by simp
            rw [← e9]; exact hl9
          · rw [take_snoc hd, List.filter_append, List.filter_cons, hb]
            simp only [if_true, List.filter_nil, List.map_append, List.map_cons, List.map_nil]
            have ra : RdAll X5 s₈.heap (ys ++ [x]) (((ds.take j).filter p).map g ++ [g d]) := (hr7.kp w₇ k₈).append (.cons r₈ .nil)
            exact ra.upd hDX hs9
      · have hj' : j = ds.length := by lia
        subst hj'
        refine wpAny_with_toks (Nat.le_refl _) (W.done s' _ _ stj fun h' tk hk' l' => ?_)
        have kwI : Kw (C :: Dl :: wr) s' { s' with heap := h', toks := tk } := ⟨h', tk, rfl, l', fun b o _ hb e => hk' b o (fun q => hb (by simp [q])) e⟩
        have kw2 := kw.trans kwI
        rw [List.take_of_length_le (Nat.le_refl _)] at hr
        have kwf := k₁.kw.trans kw2
        have h6 : ∀ a, (X a ∨ a ∈ [C, Dl]) → X5 a := fun a q => q.imp id fun z => by simp at z ⊢; rcases z with z | z; (exact .inl z); (exact .inr (.inl z))
        have hd6 : ∀ b ∈ wr, ¬ (X b ∨ b ∈ [C, Dl]) := fun b hb q => by
          rcases q with q | q
          · refine ex1E (st.wx.xb b q) fun o e => ?_; rw [hwn0 b hb] at e; cases e
          · simp at q; rcases q with q | q
            · exact hCw (q ▸ hb)
            · exact hDw (q ▸ hb)
        have w6 : WX K (fun a => (X a ∨ a ∈ [C, Dl]) ∨ a ∈ wr) s' := by
          refine w'.weak (.inl (.inl st.wx.x96)) ?_
          rintro a (q | q)
          · exact h6 a q
          · exact .inr (by simp [q])
        refine hQ C Dl ys _ ?_ (w6.done (.inl st.wx.x96) l' hk' hd6) ?_ hCn0 hDn0 hCD ?_ ?_
        · refine ex2E kwf fun h3 t3 zz6 => and3E zz6 fun e3 l3 q3 => ?_
          exact ⟨h3, t3, e3, l3, fun b o hb e => q3 b o hb (fun z => by rw [hall0 b z] at e; cases e) e⟩
        · refine ex3E hns fun o es ep zz5 => and2E zz5 fun e r => ?_
          exact ⟨m, o, es, ep, hk' C o hCw e, r⟩
        · refine ex1E hl fun o zz4 => and2E zz4 fun e r => ?_
          exact ⟨o, hk' Dl o hDw e, r⟩
        · exact hr.mono (fun a q => .inl (h6 a q)) fun b o hn e => hk' b o (fun z => hn (.inr (by simp [z]))) e
    · refine ex2E k₂ fun h2 t2 zz3 => and3E zz3 fun zz2 l2 q2 => ?_; subst zz2
      exact ⟨h₁, _, rfl, Nat.le_trans l2 (Nat.le_add_right _ _), fun b o hb _ e => hk₂ b o (q2 b o hb e)⟩
  refine codeAny_compStart_list loop (W.self 0 _ _ _ st₃ loop)
theorem Ev_listcomp (nmsC : Nms) {elt iter target : Expr} {ifs : List Expr} {scope : Scope} {pos : Pos} {ds : List D} (p : D → Bool) (g : D → D) (σT : D → List (Option D))
    (hh : A.handled = none) (hit : EvIt prog w K A env nms X σ iter ds) (hlen : ds.length ≤ sizeLine)
    (hsc : (relabel scope env).names = nmsC.map fun p => ((p.1 : Str), p.2)) (hok : compOk nms nmsC = true) (hkind : scope.kind = .function) (hnc : ∀ y ∈ scope.names, y.2 ≠ .cell) (hnames : ∀ y ∈ scope.names, y.2 = .local → scope.names.lookup y.1 = some .local)
    (hasg : ∀ cl C d, d ∈ ds → AsgT prog w K A (compEnvC scope cl C env) nmsC (compσ nms σ nmsC) target d (σT d))
    (hturn : ∀ cl C (X' : Addr → Prop), (∀ a, X a → X' a) → ∀ d ∈ ds, EvIfs prog w K A (compEnvC scope cl C env) nmsC X' (σT d) ifs (p d) ∧ (p d = true → Ev prog w K A (compEnvC scope cl C env) nmsC X' (σT d) elt (g d)))
    (hs : ∀ x, foldedSetIterable iter env x = pure x := by intro _; rfl) :
    Ev prog w K A env nms X σ (.ListComp elt [⟨target, iter, ifs, 0⟩] scope pos) (.list ((ds.filter p).map g)) := by
  intro s Q E st hQ
  rw [eval_ListComp]
  refine comp_core (use := none) p g σT hh st hit hlen hsc hok hkind hnc hnames hasg hturn (fun C Dl ys s₅ k w₅ hns hC hD hCD hl hr => ?_) hs
  refine ex1E hns fun m hns => ?_
  refine ⟨m, hns, fun h' hs' => ?_⟩
  have hk' : ∀ b o, b ∉ [C, Dl] → s₅.heap.get? b = some o → h'.get? b = some o := fun b o hb e => (hs'.2 b (by simp at hb; exact hb.1)).trans e
  have hd : ∀ b ∈ [C, Dl], ¬ X b := fun b hb q => by
    refine ex1E (st.wx.xb b q) fun o e => ?_
    simp at hb
    rcases hb with rfl | rfl
    · rw [hC] at e; cases e
    · rw [hD] at e; cases e
  have w₆ := w₅.done (tk := s₅.toks) st.wx.x96 (Nat.le_refl _) hk' hd
  refine hQ _ _ ?_ w₆ (.list (vs := ys) (hd Dl (by simp)) (hl.extBut hs'.extBut (Ne.symm hCD)) (hr.mono (fun a q => .inl (.inl q)) fun b o hn e => hk' b o (fun z => hn (.inr z)) e))
  refine ex2E k fun h3 t3 zz1 => and3E zz1 fun e3 l3 q3 => ?_
  subst e3
  exact ⟨h', t3, rfl, l3, fun b o hb e => (hs'.2 b (fun z => by rw [z, hC] at e; cases e)).trans (q3 b o hb e)⟩
end
end Mine
end
-- Comp3
section
open PySem PySem.W PySem.Calls PyProof.Rows PySem.Builtin PySem.Builtin.Str
namespace Mine
section
variable {K : Frag} {A : Around} {env : Env} {nms nmsC : Nms} {X Xc Xc' : Addr → Prop} {own own' : Own} {sh : Own} {σ σC : List (Option D)} {P : Out → Prop} {s s' : Shared} {E : Value → Shared → Prop}
theorem draw_list {it t : Addr} {items : Array Value} (hne : t ≠ it) : ∀ (n i : Nat) (s : Shared) (Q : List Value → Shared → Prop), s.heap.IsListIter it t i → s.heap.IsList t items → i + n ≤ items.size →
    (∀ h', h'.IsListIter it t (i + n) → Heap.SameBut it s.heap h' → Q ((items.toList.drop i).take n) { s with heap := h' }) → wpAny (model prog w) A (draw (.ref it) n) Q E s
  | 0, i, s, Q, hit, _, _, hQ => by
    show wpAny _ _ (pure []) Q E s
    exact wpAny_pure (by simpa using hQ s.heap hit (Heap.SameBut.refl ..))
  | n + 1, i, s, Q, hit, ht, hle, hQ => by
    have hlt : i < items.size := by lia
    show wpAny _ _ (pyNext (.ref it) >>= _) Q E s
    refine wpAny_bind (wpAny_pyNext_list_item hit ht (x := items[i]) (by simp [hlt]) fun h₁ hit₁ hs₁ => ?_)
    refine wpAny_bind (wpAny_holding (draw_list hne n (i + 1) _ _ hit₁ (ht.extBut hs₁.extBut hne) (by lia) fun h₂ hit₂ hs₂ => wpAny_pure ?_))
    have hd : items.toList.drop i = items[i] :: items.toList.drop (i + 1) := by simp [List.drop_eq_getElem_cons, hlt]
    have := hQ h₂ (by rw [show i + (n + 1) = i + 1 + n by lia]; exact hit₂) (hs₁.trans hs₂)
    rw [hd, List.take_succ_cons] at this
    exact this
theorem unpackItems_list {t : Addr} {items : Array Value} {Q : List Value → Shared → Prop} (hh : A.handled = none) (ht : s.heap.IsList t items)
    (hQ : ∀ h', Heap.ExtBut s.heap.objs.size s.heap h' → Q items.toList { s with heap := h' }) : wpAny (model prog w) A (unpackItems (.ref t) items.size none) Q E s := by
  have hlt : t ≠ s.heap.objs.size := by refine ex1E ht fun o zz5 => and2E zz5 fun ho _ => ?_; exact Nat.ne_of_lt (Heap.lt_size ho)
  unfold unpackItems
  refine wpAny_bind ?_
  · unfold notIterableAtAll
    refine wpAny_bind (wpAny_specialOf ht.typeIs slot_list_iter.lookup ?_)
    refine wpAny_pure ?_
    simp only [Bool.false_eq_true, if_false]
    refine wpAny_bind (wpAny_holding (wpAny_pyIter_list ht ?_))
    refine wpAny_bind (wpAny_holding (draw_list hlt items.size 0 _ _ ⟨_, Heap.get?_push_size _ rfl, rfl, rfl⟩ (ht.push _) (by lia) fun h₁ hit₁ hs₁ => ?_))
    have hall : List.take items.size (List.drop 0 items.toList) = items.toList := by
      rw [List.drop_zero]; exact List.take_of_length_le (by simp)
    rw [hall]
    rw [if_neg (by simp)]
    have ht₁ : h₁.IsList t items := (ht.push _).extBut hs₁.extBut hlt
    refine wpAny_bind (wpAny_holding (wpAny_pyNext_list_end hh hit₁ ht₁ (by simp) fun h₂ he₂ => ?_))
    simp only [Option.isSome_none, Bool.false_eq_true, if_false]
    refine wpAny_pure (hQ h₂ fun b o hb e => he₂ b o hb (hs₁.extBut b o hb (Heap.get?_push_of_some _ e)))
theorem AsgT_pair (i j : Nat) {n1 n2 : String} {p1 p2 tp : Pos} {c : Nat} {d1 d2 : D} (hn1 : nms[i]? = some (n1, .local)) (hn2 : nms[j]? = some (n2, .local)) (hh : A.handled = none) :
    AsgT prog w K A env nms σ (.Tuple [.Name n1 p1, .Name n2 p2] c tp) (.list [d1, d2]) ((σ.set i (some d1)).set j (some d2)) := by
  intro X s v Q E hX st r h
  refine Rd.list2E r fun _ _ _ hn hg a b => ?_
  rename_i ad va vb
  show wpAny _ _ (do standAt tp; unpack (.ref ad) [(false, assign (.Name n1 p1) env), (false, assign (.Name n2 p2) env)]) Q E s
  refine wpAny_bind (wpAny_standAt ?_)
  unfold unpack
  refine wpAny_bind (wpAny_holding (unpackItems_list (items := #[va, vb]) hh hg fun h' hx => ?_))
  have hfull := ExtBut.full hx
  have kp : Kp s { s with heap := h' } := Kp.of (Nat.le_refl _) hfull
  have st₁ := st.kp kp (st.wx.more (Nat.le_refl _) hfull)
  refine assignInOrder_cons (PyProof.Rows.assign_Name (StE.storeL i st₁ hn1 hX (a.kp st.wx kp) fun s₂ k₂ st₂ => ?_))
  refine assignInOrder_cons (PyProof.Rows.assign_Name (StE.storeL j st₂ hn2 hX ((b.kp st.wx kp).kw st₁.wx k₂ (by intro b hb; simp at hb; rw [hb]; exact hX)) fun s₃ k₃ st₃ => assignInOrder_nil ?_))
  exact h s₃ ((kp.kw.trans k₂).trans k₃) st₃
theorem ExS_assignC (i : Nat) (nmsC : Nms) {n : String} {p0 spos : Pos} {elt iter target : Expr} {ifs : List Expr} {scope : Scope} {pos : Pos} {ds : List D} (p : D → Bool) (g : D → D) (σT : D → List (Option D)) (hn : nms[i]? = some (n, .local) ∨ nms[i]? = some (n, .cell))
    (hsw : swapsWith (.ListComp elt [⟨target, iter, ifs, 0⟩] scope pos) (some (.Name n p0)) spos.line env = pure true)
    (hh : A.handled = none) (hit : ∀ own, shape own = sh → EvIt prog w K A env nms (XO Xc env own) σ iter ds) (hlen : ds.length ≤ sizeLine)
    (hsc : (relabel scope env).names = nmsC.map fun p => ((p.1 : Str), p.2)) (hok : compOk nms nmsC = true) (hkind : scope.kind = .function) (hnc : ∀ y ∈ scope.names, y.2 ≠ .cell) (hnames : ∀ y ∈ scope.names, y.2 = .local → scope.names.lookup y.1 = some .local)
    (hasg : ∀ cl C d, d ∈ ds → AsgT prog w K A (compEnvC scope cl C env) nmsC (compσ nms σ nmsC) target d (σT d))
    (hturn : ∀ cl C (X' : Addr → Prop), ∀ d ∈ ds, EvIfs prog w K A (compEnvC scope cl C env) nmsC X' (σT d) ifs (p d) ∧ (p d = true → Ev prog w K A (compEnvC scope cl C env) nmsC X' (σT d) elt (g d)))
    (hP : P (.next (dropS sh i) (σ.set i (some (.list ((ds.filter p).map g))))))
    (hs : ∀ x, foldedSetIterable iter env x = pure x := by intro _; rfl) :
    ExS prog w K A env nms Xc sh σ (.Assign [.Name n p0] (.ListComp elt [⟨target, iter, ifs, 0⟩] scope pos) spos) P := by
  intro own s Q E eo x hQ
  show wpAny (model prog w) A (exec _ env) Q E s
  rw [exec_Assign_Name_used _ _ _ _ hsw]
  refine wpAny_bind (wpAny_standAt (wpAny_bind ?_))
  show wpAny _ A (do let _ ← comprehension (.ListComp elt [⟨target, iter, ifs, 0⟩] scope pos) scope env _ (newList []) false (eval iter env) (some (assign (.Name n p0) env))) _ _ s
  have st := x.ste
  refine wpAny_bind (comp_core (use := some (assign (.Name n p0) env)) p g σT hh st (hit own eo) hlen hsc hok hkind hnc hnames hasg (fun cl C X' _ => hturn cl C X') (Q := fun _ s' => wpAny (model prog w) A (pure ()) (fun _ s'' => wpAny (model prog w) A (pure Flow.next) Q E s'') E s') (fun C Dl ys s₅ kpp w₅ hns hC hD hCD hl hr => ?_) hs)
  refine ex1E hns fun m hns => ?_
  have h96 : Xc 96 := by refine ex1E x fun _ y => ?_; exact y.x96
  have hX0 : ∀ {a}, s.heap.get? a = none → ¬ XO Xc env own a := fun e q => by refine ex1E (st.wx.xb _ q) fun o e' => ?_; rw [e] at e'; cases e'
  have x₅ := x.with_wr (wr := [C]) kpp (w₅.weak (.inl (.inl h96)) fun a q => q.imp id fun z => by simp at z; simp [z]) (by intro b hb; simp at hb; rw [hb]; exact hC)
  have hsub : ∀ a, XO (fun a => Xc a ∨ a ∈ [C]) env own a → XO Xc env own a ∨ a ∈ [C, Dl] := by
    rintro a ((q | q) | q)
    · exact .inl (.inl q)
    · simp at q; exact .inr (by simp [q])
    · exact .inl (.inr q)
  have hDX : ¬ XO (fun a => Xc a ∨ a ∈ [C]) env own Dl := fun q => by
    rcases q with (q | q) | q
    · exact hX0 hD (.inl q)
    · simp at q; exact hCD q.symm
    · exact hX0 hD (.inr q)
  have rD : Rd (XO (fun a => Xc a ∨ a ∈ [C]) env own) s₅.heap (.ref Dl) (.list ((ds.filter p).map g)) := .list hDX hl (mono0s hsub hr)
  have store : ∀ k, (k = .local ∨ k = .cell) → nms[i]? = some (n, k) → wpAny (model prog w) A (assign (.Name n p0) env (.ref Dl)) (fun _ s'' => ∃ m, s''.heap.Ns C m ∧ ∀ h', Heap.SameBut C s''.heap h' → wpAny (model prog w) A (pure ()) (fun _ s'' => wpAny (model prog w) A (pure Flow.next) Q E s'') E { s'' with heap := h' }) E s₅ := by
    intro k hk hn
    refine PyProof.Rows.assign_Name (St.store i x₅ hn hk rD fun s₆ x₆ kf₆ => ?_)
    have hC96 : C ≠ 96 := fun e => by
      refine ex1E st.wx.tb fun ps zz4 => and2E zz4 fun q _ => ?_
      rw [e, q] at hC; cases hC
    have hCm : ¬ Mut env own C := fun q => hX0 hC (.inr q)
    refine ex2E (id kf₆) fun h6 t6 zz3 => and3E zz3 fun e6 l6 q6 => ?_
    refine ⟨m, ?_, fun h' hs' => wpAny_pure (wpAny_pure ?_)⟩
    · refine ex3E hns fun o es ep zz2 => and2E zz2 fun e r => ?_
      rw [e6]
      exact ⟨o, es, ep, q6 C o hC96 hCm e, r⟩
    · have x₇ := x₆.done (h' := h') (tk := s₆.toks) h96 (Nat.le_refl _) (fun b o hb e => (hs'.2 b (by simpa using hb)).trans e) (by
        intro b hb; simp at hb; subst hb
        exact ⟨hC96, fun e => hCm (.inl e), fun y e => hCm (.inr (.inl ⟨y, e⟩))⟩) (by intro b hb; simp at hb; subst hb; exact fun q => hX0 hC (.inl q))
      refine hQ _ _ _ hP ⟨rfl, drop own i, by rw [drop_shape, eo], x₇, ?_, fun p hp => .inl ⟨p, drop_sub p hp, rfl⟩⟩
      refine ex2E kpp fun h5 t5 zz1 => and3E zz1 fun e5 l5 q5 => ?_
      subst e5
      subst e6
      exact ⟨h', t6, rfl, Nat.le_trans l5 l6, fun b o hb hm e => (hs'.2 b (fun z => by rw [z, hC] at e; cases e)).trans (q6 b o hb hm (q5 b o hb e))⟩
  rcases hn with hn | hn
  · exact store _ (.inl rfl) hn
  · exact store _ (.inr rfl) hn
end
end Mine
end
-- CompS
section
open PySem PySem.W PySem.Calls PyProof.Rows PySem.Builtin PySem.Builtin.Str
namespace Mine
theorem compTurn_set (elt target iter : Expr) (ifs : List Expr) (scope : Scope) (pos : Pos) (it acc : Value) (env : Env) :
    compTurn (.SetComp elt [⟨target, iter, ifs, 0⟩] scope pos) 0 it acc env = (do
      standAt iter.pos
      match ← pyNext it with
      | none => pure (.done .next)
      | some v =>
        letOwnedTupleGo target it v
        assign target env v
        let mut ok := true
        for c in ifs do
          if ok then ok ← isTrue c env (eval c env)
        if ok then
          (do let v ← eval elt env; standAt elt.pos; let _ ← call (.builtin "set.add") [acc, v])
        again (.compLoop (.SetComp elt [⟨target, iter, ifs, 0⟩] scope pos) 0 it acc env)) := by rfl
section
variable {K : Frag} {A : Around} {env : Env} {nms nmsC : Nms} {X Xc Xc' : Addr → Prop} {own own' : Own} {sh : Own} {σ σC : List (Option D)} {P : Out → Prop} {s s' : Shared}
theorem codeAny_compStart_set {R : Result → Shared → Prop} {elt target iter : Expr} {ifs : List Expr} {rest : List Comprehension} {scope : Scope} {pos : Pos} {it acc : Value} {env : Env}
    (h0 : codeAny (model prog w) A (.compLoop (.SetComp elt (⟨target, iter, ifs, 0⟩ :: rest) scope pos) 0 it acc env) R s)
    (h : wpAny (model prog w) A (pyIter it) (fun it' s' => codeAny (model prog w) A (.compLoop (.SetComp elt (⟨target, iter, ifs, 0⟩ :: rest) scope pos) 0 it' acc env) R s')
      (notedBy (model prog w) A env fun x s' => R (.error x) s') s) :
    codeAny (model prog w) A (.compStart (.SetComp elt (⟨target, iter, ifs, 0⟩ :: rest) scope pos) 0 it acc env) R s := by
  refine codeAny_of_tree ?_
  show wpAny _ A ((compStart (.SetComp elt (⟨target, iter, ifs, 0⟩ :: rest) scope pos) 0 it acc env).onRaise (fun x => do noteFrame x env; standAt theWindowsPlace)) _ _ s
  refine wpAny_notedAt ?_
  unfold compStart
  show wpAny _ A (ask >>= _) _ _ s
  refine wpAny_bind (wpAny_askSetting (wpAny_ite ?_))
  split
  · first
      | exact wpAny_bind (wpAny_pure (wpAny_pure (And.intro rfl h0)))
      | exact wpAny_pure (And.intro rfl h0)
  · refine wpAny_bind (wpAny_rule ?_)
    show wpAny _ _ (standAt iter.pos >>= _) _ _ s
    exact wpAny_bind (wpAny_standAt (wpAny_bind (wpAny_mono h (fun it' s' h' => wpAny_pure (And.intro rfl h')) fun _ _ x => x)))
theorem compLoop_goS {R : Result → Shared → Prop} {elt target iter : Expr} {ifs : List Expr} {scope : Scope} {pos : Pos} {it acc : Value} {env : Env} (I : Nat → Shared → Prop)
    (turn : ∀ n s, I n s → wpAny (model prog w) A (pyNext it) (fun r s₁ => match r with
      | none => R (.ok .next) s₁
      | some v => wpAny (model prog w) A (letOwnedTupleGo target it v) (fun _ s₀ => wpAny (model prog w) A (assign target env v) (fun _ s₂ =>
          wpAny (model prog w) A (forIn ifs true fun c r => if r = true then do let ok ← isTrue c env (eval c env); pure (ForInStep.yield ok) else pure (ForInStep.yield r)) (fun ok s₃ =>
            if ok = true then wpAny (model prog w) A (eval elt env) (fun x s₄ =>
              wpAny (model prog w) A (call (.builtin "set.add") [acc, x]) (fun _ s₅ => ∃ m, m < n ∧ I m s₅) (notedBy (model prog w) A env fun e s' => R (.error e) s') s₄) (notedBy (model prog w) A env fun e s' => R (.error e) s') s₃
            else ∃ m, m < n ∧ I m s₃) (notedBy (model prog w) A env fun e s' => R (.error e) s') s₂) (notedBy (model prog w) A env fun e s' => R (.error e) s') s₀) (notedBy (model prog w) A env fun e s' => R (.error e) s') s₁) (notedBy (model prog w) A env fun e s' => R (.error e) s') s)
    (n : Nat) (h : I n s) : codeAny (model prog w) A (.compLoop (.SetComp elt [⟨target, iter, ifs, 0⟩] scope pos) 0 it acc env) R s := by
  refine codeAny_loop rfl I (fun n s hI => ?_) n h
  show wpAny _ A ((compTurn (.SetComp elt [⟨target, iter, ifs, 0⟩] scope pos) 0 it acc env).onRaise (fun x => do noteFrame x env; theTreesLotGoes x)) _ _ s
  refine wpAny_noted ?_
  rw [compTurn_set]
  refine wpAny_bind (wpAny_standAt (wpAny_bind (wpAny_mono (turn n s hI) (fun r s₁ h₁ => ?_) fun _ _ h' => h')))
  cases r with
  | none => exact wpAny_pure h₁
  | some v =>
    refine wpAny_bind (wpAny_mono h₁ (fun _ s₀ h₀ => ?_) fun _ _ h' => h')
    refine wpAny_bind (wpAny_mono h₀ (fun _ s₂ h₂ => wpAny_bind (wpAny_mono h₂ (fun ok s₃ h₃ => ?_) fun _ _ h' => h')) fun _ _ h' => h')
    cases ok with
    | false => exact wpAny_pure ⟨rfl, h₃⟩
    | true =>
      exact wpAny_bind (wpAny_bind (wpAny_mono h₃ (fun x s₄ h₄ => wpAny_bind (wpAny_standAt (wpAny_bind (wpAny_mono h₄ (fun _ s₅ h₅ => wpAny_pure (wpAny_pure ⟨rfl, h₅⟩)) fun _ _ h' => h')))) fun _ _ h' => h'))
theorem compS_core {elt iter target : Expr} {ifs : List Expr} {scope : Scope} {pos cpos : Pos} {use : Option (Value → Sem Unit)} {ds : List D} (σT : D → List (Option D)) {Q E : Value → Shared → Prop}
    (hh : A.handled = none) (st : StE K env nms X σ s) (hit : EvIt prog w K A env nms X σ iter ds) (hne : 0 < ds.length)
    (hsc : (relabel scope env).names = nmsC.map fun p => ((p.1 : Str), p.2)) (hok : compOk nms nmsC = true) (hkind : scope.kind = .function) (hnc : ∀ y ∈ scope.names, y.2 ≠ .cell) (hnames : ∀ y ∈ scope.names, y.2 = .local → scope.names.lookup y.1 = some .local)
    (hasg : ∀ cl C d, d ∈ ds → AsgT prog w K A (compEnvC scope cl C env) nmsC (compσ nms σ nmsC) target d (σT d))
    (hturn : ∀ cl C (X' : Addr → Prop), (∀ a, X a → X' a) → ∀ d ∈ ds, EvIfs prog w K A (compEnvC scope cl C env) nmsC X' (σT d) ifs true ∧ Ev prog w K A (compEnvC scope cl C env) nmsC X' (σT d) elt (.bool true))
    (hQ : ∀ C Dl s₅, Kp s s₅ → WX K (fun a => X a ∨ a ∈ [C, Dl]) s₅ → (∃ m, s₅.heap.Ns C m) → s.heap.get? C = none → s.heap.get? Dl = none → C ≠ Dl → s₅.heap.get? Dl = some (setOne (!byT w)) → compPost (model prog w) A E use Q (.ref Dl) C (.ok .next) s₅)
    (hs : ∀ x, foldedSetIterable iter env x = pure x := by intro _; rfl) :
    wpAny (model prog w) A (comprehension (.SetComp elt [⟨target, iter, ifs, 0⟩] scope pos) scope env cpos (newSet (.type "set")) false (eval iter env) use) Q E s := by
  refine ex1E (closure_some (comp_free st hsc hok)) fun cl zz11 => and3E zz11 fun hclos hcl1 hcl2 => ?_
  refine wpAny_comprehension_free rfl hs hclos hkind hnames (hit _ _ st fun v s₁ k₁ w₁ it => it _ _ fun I fp wr Pv Stt s₂ k₂ w₂ W st₂ hf hob hfp hval hcls => ?_)
  refine new_set (wpAny_newFunctionEnv hnc (by intro y hy; simp at hy) (fun h₁ hns₁ hsb₁ => ?_) hkind)
  dsimp only at hns₁ hsb₁ ⊢
  generalize hH2 : s₂.heap.push (setNone (!byT w)) = H2 at hns₁ hsb₁ ⊢
  have hCe : H2.objs.size = s₂.heap.objs.size + 1 := by rw [← hH2, Heap.size_push]
  have hDg : H2.get? s₂.heap.objs.size = some (setNone (!byT w)) := by rw [← hH2]; exact Heap.get?_push_size _ rfl
  have hK2 : ∀ b o, s₂.heap.get? b = some o → H2.get? b = some o := fun b o e => by rw [← hH2]; exact Heap.get?_push_of_some _ e
  clear hH2
  obtain ⟨Dl, hDl⟩ : ∃ Dl, Dl = s₂.heap.objs.size := ⟨_, rfl⟩
  obtain ⟨C, hC⟩ : ∃ C, C = H2.objs.size := ⟨_, rfl⟩
  rw [← hDl] at hDg hCe ⊢
  rw [← hC] at hns₁ hsb₁ hCe ⊢
  have hCD : C ≠ Dl := by rw [hCe]; exact Nat.succ_ne_self _
  -- what stands
  have hk₁ : ∀ b o, H2.get? b = some o → h₁.get? b = some o := fun b o e => hsb₁.extBut b o (by rw [hC]; exact Nat.ne_of_lt (Heap.lt_size e)) (Heap.get?_push_of_some _ e)
  have hk₂ : ∀ b o, s₂.heap.get? b = some o → h₁.get? b = some o := fun b o e => hk₁ b o (hK2 b o e)
  have hDn : s₂.heap.get? Dl = none := by rw [hDl]; exact none_ge (Nat.le_refl _)
  have hCn : s₂.heap.get? C = none := by rw [hCe, hDl]; exact none_ge (Nat.le_succ _)
  refine and6E (comp_setup 0 st.wx.x96 k₁ w₁ k₂ w₂ hf (hob 0 _ st₂) hfp hDn hCn hk₂ (hns₁.elim fun o z => z.elim fun _ z => z.elim fun _ z => ⟨o, z.1⟩) ⟨_, hk₁ _ _ hDg⟩) fun hcw hall0 hall1 hall96 w₃ hfp' => ?_
  have hCw := hcw.1
  have hDw := hcw.2.1
  have hC96 := hcw.2.2.1
  have hD96 := hcw.2.2.2
  have hCn0 := hall0 C (.head _)
  have hDn0 := hall0 Dl (.tail _ (.head _))
  have hwn0 : ∀ b ∈ wr, s.heap.get? b = none := fun b hb => hall0 b (.tail _ (.tail _ hb))
  have hw96 : ∀ b ∈ wr, b ≠ 96 := fun b hb => hall96 b (.tail _ (.tail _ hb))
  let X5 : Addr → Prop := fun a => X a ∨ a ∈ C :: Dl :: wr
  have X5s : ∀ a, X5 a → X a ∨ s.heap.get? a = none := fun a ha => ha.imp id (hall0 a)
  have st₃ : Stt 0 h₁ := W.frame _ _ _ st₂ fun b _ o e => hk₂ b o e
  have loop : codeAny (model prog w) A (.compLoop (.SetComp elt [⟨target, iter, ifs, 0⟩] scope pos) 0 (.ref I) (.ref Dl) (compEnvC scope cl C env)) (compPost (model prog w) A E use Q (.ref Dl) C) { s₂ with heap := h₁, toks := s₂.toks + ([] : List (Str × Value)).length } := by
    refine compLoop_goS (fun n s' => ∃ j m, n = ds.length - j ∧ j ≤ ds.length ∧ Kw (C :: Dl :: wr) s₁ s' ∧ WX K X5 s' ∧ Stt j s'.heap ∧ s'.heap.Ns C m ∧ s'.heap.get? Dl = some (if j = 0 then setNone (!byT w) else setOne (!byT w))) ?_ ds.length
      ⟨0, _, rfl, Nat.zero_le _, ?_, w₃, st₃, hns₁, hk₁ _ _ hDg⟩
    · rintro n s' ⟨j, m, rfl, hj, kw, w', stj, hns, hl⟩
      by_cases hlt : j < ds.length
      · refine wpAny_with_toks (Nat.le_refl _) (W.item j s' _ _ hlt stj fun v h' tk hv st' hk' l' => ?_)
        refine ex1E (hval j v hlt hv) fun d zz7 => and2E zz7 fun hd rd => ?_
        have hmem : d ∈ ds := List.mem_of_getElem? hd
        have kwI : Kw (C :: Dl :: wr) s' { s' with heap := h', toks := tk } := ⟨h', tk, rfl, l', fun b o _ hb e => hk' b o (fun q => hb (by simp [q])) e⟩
        have kw2 := kw.trans kwI
        have w2 : WX K X5 { s' with heap := h', toks := tk } := w'.chg l' hk' (fun b hb => ⟨.inr (by simp [hb]), hw96 b hb⟩) (hob _ _ st')
        have rd5 : Rd X5 h' v d := rd.mono (fun a ha => ha.imp id (hall1 a)) fun b o hn e => kw2.keep (w₁.ne96 hn) (fun q => by rw [hall1 b q] at e; cases e) e
        have hns2 : h'.Ns C m := let ⟨o, es, ep, e, r⟩ := hns; ⟨o, es, ep, hk' C o hCw e, r⟩
        have ste := comp_ste (scope := scope) (cl := cl) (C := C) st w2 X5s (fun b o hb e => kw2.keep hb (fun q => by rw [hall0 b q] at e; cases e) (k₁.keep hb e)) (.inr (by simp)) hCn0 hC96 ⟨m, hns2⟩ hsc hok hkind hcl1 hcl2 hnc
        refine letGo_plain (hcls _ _ st') ?_
        refine hasg cl C d hmem X5 _ v _ _ (.inr (by simp [compEnvC])) ste rd5 fun s₆ k₆ ste₆ => ?_
        refine and2E (hturn cl C X5 (fun a q => .inl q) d hmem) fun hi he => ?_
        refine hi.use s₆ _ _ ste₆ fun s₇ k₇ w₇ => ?_
        have k₆' : Kw (C :: Dl :: wr) { s' with heap := h', toks := tk } s₆ := k₆.mono (by intro b hb; simp [compEnvC] at hb; simp [hb])
        have kw7 := (kw2.trans k₆').trans k₇.kw
        have keepD : ∀ o, h'.get? Dl = some o → s₇.heap.get? Dl = some o := fun o e => k₇.keep hD96 (k₆.keep hD96 (by simp [compEnvC]; exact fun z => hCD z.symm) e)
        have st7 : Stt (j + 1) s₇.heap := W.frame _ _ _ st' fun b hb o e => by
          refine and3E (hfp' b hb) fun f1 f2 f3 => ?_
          exact k₇.keep f3 (k₆.keep f3 (by simp [compEnvC]; exact f1) e)
        have hl7 : s₇.heap.get? Dl = some (if j = 0 then setNone (!byT w) else setOne (!byT w)) := keepD _ (hk' Dl _ hDw hl)
        have hns7 : ∃ m, s₇.heap.Ns C m := by
          obtain ⟨_, _, m', ff, _⟩ := ste₆.kp k₇ w₇
          refine ex1E ff.ns fun m0 zz6 => and2E zz6 fun hm0 _ => ?_
          exact ⟨m0, hm0⟩
        refine ex1E hns7 fun m7 hns7 => ?_
        simp only [if_true]
        refine he _ _ (ste₆.kp k₇ w₇) fun x s₈ k₈ w₈ r₈ => ?_
        cases r₈
        have hl8 : s₈.heap.get? Dl = some (if j = 0 then setNone (!byT w) else setOne (!byT w)) := k₈.keep hD96 hl7
        have hDX : X5 Dl := .inr (by simp)
        have fin : ∀ h9, Heap.SameBut Dl s₈.heap h9 → h9.get? Dl = some (setOne (!byT w)) → ∃ m, m < ds.length - j ∧ ∃ j m', m = ds.length - j ∧ j ≤ ds.length ∧ Kw (C :: Dl :: wr) s₁ { s₈ with heap := h9, toks := s₈.toks + 1 } ∧ WX K X5 { s₈ with heap := h9, toks := s₈.toks + 1 } ∧ Stt j h9 ∧ h9.Ns C m' ∧ h9.get? Dl = some (if j = 0 then setNone (!byT w) else setOne (!byT w)) := by
          intro h9 hs9 e9
          have w9 : WX K X5 { s₈ with heap := h9, toks := s₈.toks + 1 } := w₈.upd (tk := s₈.toks + 1) hDX hD96 hs9 ⟨_, e9⟩ (Nat.le_succ _)
          refine ⟨ds.length - (j + 1), by lia, j + 1, m7, rfl, hlt, (kw7.trans k₈.kw).trans ⟨h9, s₈.toks + 1, rfl, Nat.le_succ _, fun b o _ hb e => (hs9.2 b (fun z => hb (by simp [z]))).trans e⟩, w9, ?_, ?_, by rw [if_neg (Nat.succ_ne_zero _)]; exact e9⟩
          · refine W.frame _ _ _ st7 fun b hb o e => ?_
            refine and3E (hfp' b hb) fun f1 f2 f3 => ?_
            exact (hs9.2 b f2).trans (k₈.keep f3 e)
          · refine ex3E hns7 fun o es ep zz5 => and2E zz5 fun e r => ?_
            exact ⟨o, es, ep, (hs9.2 C hCD).trans (k₈.keep hC96 e), r⟩
        by_cases hj0 : j = 0
        · rw [if_pos hj0] at hl8
          exact set_add1 hl8 fun h9 hs9 e9 => fin h9 hs9 e9
        · rw [if_neg hj0] at hl8
          exact set_add2 hl8 (fin s₈.heap (Heap.SameBut.refl Dl _) hl8)
      · have hj' : j = ds.length := by lia
        subst hj'
        refine wpAny_with_toks (Nat.le_refl _) (W.done s' _ _ stj fun h' tk hk' l' => ?_)
        have kwI : Kw (C :: Dl :: wr) s' { s' with heap := h', toks := tk } := ⟨h', tk, rfl, l', fun b o _ hb e => hk' b o (fun q => hb (by simp [q])) e⟩
        have kw2 := kw.trans kwI
        rw [if_neg (by lia)] at hl
        have kwf := k₁.kw.trans kw2
        have h6 : ∀ a, (X a ∨ a ∈ [C, Dl]) → X5 a := fun a q => q.imp id fun z => by simp at z ⊢; rcases z with z | z; (exact .inl z); (exact .inr (.inl z))
        have hd6 : ∀ b ∈ wr, ¬ (X b ∨ b ∈ [C, Dl]) := fun b hb q => by
          rcases q with q | q
          · refine ex1E (st.wx.xb b q) fun o e => ?_; rw [hwn0 b hb] at e; cases e
          · simp at q; rcases q with q | q
            · exact hCw (q ▸ hb)
            · exact hDw (q ▸ hb)
        have w6 : WX K (fun a => (X a ∨ a ∈ [C, Dl]) ∨ a ∈ wr) s' := by
          refine w'.weak (.inl (.inl st.wx.x96)) ?_
          rintro a (q | q)
          · exact h6 a q
          · exact .inr (by simp [q])
        refine hQ C Dl _ ?_ (w6.done (.inl st.wx.x96) l' hk' hd6) ?_ hCn0 hDn0 hCD ?_
        · refine ex2E kwf fun h3 t3 zz4 => and3E zz4 fun e3 l3 q3 => ?_
          exact ⟨h3, t3, e3, l3, fun b o hb e => q3 b o hb (fun z => by rw [hall0 b z] at e; cases e) e⟩
        · refine ex3E hns fun o es ep zz3 => and2E zz3 fun e r => ?_
          exact ⟨m, o, es, ep, hk' C o hCw e, r⟩
        · exact hk' Dl _ hDw hl
    · refine ex2E k₂ fun h2 t2 zz2 => and3E zz2 fun zz1 l2 q2 => ?_; subst zz1
      exact ⟨h₁, _, rfl, Nat.le_trans l2 (Nat.le_add_right _ _), fun b o hb _ e => hk₂ b o (q2 b o hb e)⟩
  refine codeAny_compStart_set loop (W.self 0 _ _ _ st₃ loop)
end
end Mine
end
-- CompS2
section
open PySem PySem.W PySem.Calls PyProof.Rows PySem.Builtin PySem.Builtin.Str
namespace Mine
section
variable {K : Frag} {A : Around} {env : Env} {nms nmsC : Nms} {X Xc Xc' : Addr → Prop} {own own' : Own} {sh : Own} {σ σC : List (Option D)} {P : Out → Prop} {s s' : Shared} {E : Value → Shared → Prop}
theorem ExS_set1 (i : Nat) (nmsC : Nms) {n : String} {k : NameKind} {p0 tp spos : Pos} {c : Nat} {elt iter target : Expr} {ifs : List Expr} {scope : Scope} {pos : Pos} {ds : List D} (σT : D → List (Option D)) (hn : nms[i]? = some (n, k)) (hk : k = .local ∨ k = .cell)
    (hh : A.handled = none) (hit : ∀ own, shape own = sh → EvIt prog w K A env nms (XO Xc env own) σ iter ds) (hne : 0 < ds.length)
    (hsc : (relabel scope env).names = nmsC.map fun p => ((p.1 : Str), p.2)) (hok : compOk nms nmsC = true) (hkind : scope.kind = .function) (hnc : ∀ y ∈ scope.names, y.2 ≠ .cell) (hnames : ∀ y ∈ scope.names, y.2 = .local → scope.names.lookup y.1 = some .local)
    (hasg : ∀ cl C d, d ∈ ds → AsgT prog w K A (compEnvC scope cl C env) nmsC (compσ nms σ nmsC) target d (σT d))
    (hturn : ∀ cl C (X' : Addr → Prop), ∀ d ∈ ds, EvIfs prog w K A (compEnvC scope cl C env) nmsC X' (σT d) ifs true ∧ Ev prog w K A (compEnvC scope cl C env) nmsC X' (σT d) elt (.bool true))
    (hP : P (.next (dropS sh i) (σ.set i (some (.bool true)))))
    (hs : ∀ x, foldedSetIterable iter env x = pure x := by intro _; rfl)
    (hs1 : swapsWithSole [.Tuple [.Name n p0] c tp] (.SetComp elt [⟨target, iter, ifs, 0⟩] scope pos) spos.line env = pure false := by rfl)
    (hw : swappedStores [.Tuple [.Name n p0] c tp] (.SetComp elt [⟨target, iter, ifs, 0⟩] scope pos) env = pure none := by rfl) :
    ExS prog w K A env nms Xc sh σ (.Assign [.Tuple [.Name n p0] c tp] (.SetComp elt [⟨target, iter, ifs, 0⟩] scope pos) spos) P := by
  intro own s Q E eo x hQ
  refine Assign_Tuple ?_ hs1 hw
  show wpAny _ A (comprehension (.SetComp elt [⟨target, iter, ifs, 0⟩] scope pos) scope env _ (newSet (.type "set")) false (eval iter env) none) _ _ s
  have st := x.ste
  refine compS_core (use := none) σT hh st (hit own eo) hne hsc hok hkind hnc hnames hasg (fun cl C X' _ => hturn cl C X') (fun C Dl s₅ kp w₅ hns hC hD hCD hl => ?_) hs
  refine ex1E hns fun m hns => ?_
  refine ⟨m, hns, fun h' hs' => ?_⟩
  have hk' : ∀ b o, b ∉ [C, Dl] → s₅.heap.get? b = some o → h'.get? b = some o := fun b o hb e => (hs'.2 b (by simp at hb; exact hb.1)).trans e
  have hd : ∀ b ∈ [C, Dl], ¬ XO Xc env own b := fun b hb q => by
    refine ex1E (st.wx.xb b q) fun o e => ?_
    simp at hb
    rcases hb with rfl | rfl
    · rw [hC] at e; cases e
    · rw [hD] at e; cases e
  have w₆ := w₅.done (tk := s₅.toks) st.wx.x96 (Nat.le_refl _) hk' hd
  have hl' : h'.get? Dl = some (setOne (!byT w)) := (hs'.2 Dl (Ne.symm hCD)).trans hl
  have k₆ : Kp s { s₅ with heap := h' } := by
    refine ex2E kp fun h3 t3 zz1 => and3E zz1 fun e3 l3 q3 => ?_
    subst e3
    exact ⟨h', t3, rfl, l3, fun b o hb e => (hs'.2 b (fun z => by rw [z, hC] at e; cases e)).trans (q3 b o hb e)⟩
  have x₆ := x.kp k₆ w₆
  show wpAny _ _ (do standAt tp; unpack (.ref Dl) [(false, assign (.Name n p0) env)]) _ E _
  refine wpAny_bind (wpAny_standAt ?_)
  unfold unpack
  refine wpAny_bind (wpAny_holding (unpack_set (s := { s₅ with heap := h' }) hh hl' fun h₇ hk₇ => ?_))
  have k₇ : Kp { s₅ with heap := h' } { s₅ with heap := h₇ } := Kp.of (tk := s₅.toks) (Nat.le_refl _) hk₇
  have x₇ := x₆.kp k₇ (w₆.more (tk := s₅.toks) (Nat.le_refl _) hk₇)
  refine assignInOrder_cons (PyProof.Rows.assign_Name (St.store i x₇ hn hk (.bool true) fun s₈ x₈ kf₈ => assignInOrder_nil ?_))
  exact hQ _ _ _ hP ⟨rfl, drop own i, by rw [drop_shape, eo], x₈, (Kp.kf (k₆.trans k₇)).trans (Fresher.refl _ _) kf₈, fun p hp => .inl ⟨p, drop_sub p hp, rfl⟩⟩
end
end Mine
end
-- Cps
section
open PySem PySem.W PySem.Calls PyProof.Rows PySem.Builtin PySem.Builtin.Str
namespace Mine
section
variable {K : Frag} {A : Around} {env : Env} {nms : Nms} {Xc : Addr → Prop} {sh : Own} {σ : List (Option D)} {P : Out → Prop}
theorem Ex_ifT {t : Expr} {body orelse rest : List Stmt} {pos : Pos} (ht : EvT prog w K A env nms Xc sh σ t true)
    (h : Ex prog w K A env nms Xc sh σ body (fun o => match o with | .next sh' σ' => Ex prog w K A env nms Xc sh' σ' rest P | o => P o)) : Ex prog w K A env nms Xc sh σ (.If t body orelse pos :: rest) P :=
  Ex_cons (ExS_if (b := true) ht (fun _ => h) (fun q => nomatch q))
theorem Ex_ifF {t : Expr} {body orelse rest : List Stmt} {pos : Pos} (ht : EvT prog w K A env nms Xc sh σ t false)
    (h : Ex prog w K A env nms Xc sh σ orelse (fun o => match o with | .next sh' σ' => Ex prog w K A env nms Xc sh' σ' rest P | o => P o)) : Ex prog w K A env nms Xc sh σ (.If t body orelse pos :: rest) P :=
  Ex_cons (ExS_if (b := false) ht (fun q => nomatch q) (fun _ => h))
theorem ExS_whileC {T : Type} {test : Expr} {body : List Stmt} {pos : Pos} (I : T → Prop) (μ : T → Nat) (shf : T → Own) (σf : T → List (Option D))
    (turn : ∀ x, I x → ∃ b, EvT prog w K A env nms Xc (shf x) (σf x) test b ∧ (b = false → P (.next (shf x) (σf x))) ∧
      (b = true → ∀ Q : Out → Prop, (∀ y sh' σ', μ y < μ x → I y → sh' = shf y → σ' = σf y → Q (.next sh' σ')) → (∀ y sh' σ', μ y < μ x → I y → sh' = shf y → σ' = σf y → Q (.cont sh' σ')) →
        (∀ sh' σ', P (.next sh' σ') → Q (.brk sh' σ')) → (∀ d, P (.ret d) → Q (.ret d)) → Ex prog w K A env nms Xc (shf x) (σf x) body Q))
    (x : T) (h : I x) (hs : sh = shf x) (hσ : σ = σf x) : ExS prog w K A env nms Xc sh σ (.While test body [] pos) P := by
  refine ExS_while (fun n sh σ => ∃ x, n = μ x ∧ I x ∧ sh = shf x ∧ σ = σf x) ?_ (μ x) ⟨x, rfl, h, hs, hσ⟩
  rintro n sh σ ⟨x, rfl, hI, rfl, rfl⟩
  obtain ⟨b, h1, h2, h3⟩ := turn x hI
  refine ⟨b, h1, h2, fun hb => h3 hb _ ?_ ?_ ?_ ?_⟩
  · exact fun y sh' σ' l i e1 e2 => ⟨μ y, l, y, rfl, i, e1, e2⟩
  · exact fun y sh' σ' l i e1 e2 => ⟨μ y, l, y, rfl, i, e1, e2⟩
  · exact fun _ _ p => p
  · exact fun _ p => p
theorem ExS_while3 {T1 T2 T3 : Type} {test : Expr} {body : List Stmt} {pos : Pos} (I : T1 → T2 → T3 → Prop) (μ : T1 → T2 → T3 → Nat) (shf : T1 → T2 → T3 → Own) (σf : T1 → T2 → T3 → List (Option D))
    (turn : ∀ p q r, I p q r → ∃ b, EvT prog w K A env nms Xc (shf p q r) (σf p q r) test b ∧ (b = false → P (.next (shf p q r) (σf p q r))) ∧
      (b = true → ∀ Q : Out → Prop, (∀ p' q' r' sh' σ', μ p' q' r' < μ p q r → I p' q' r' → sh' = shf p' q' r' → σ' = σf p' q' r' → Q (.next sh' σ')) → (∀ p' q' r' sh' σ', μ p' q' r' < μ p q r → I p' q' r' → sh' = shf p' q' r' → σ' = σf p' q' r' → Q (.cont sh' σ')) →
        (∀ sh' σ', P (.next sh' σ') → Q (.brk sh' σ')) → (∀ d, P (.ret d) → Q (.ret d)) → Ex prog w K A env nms Xc (shf p q r) (σf p q r) body Q))
    (p : T1) (q : T2) (r : T3) (h : I p q r) (hs : sh = shf p q r) (hσ : σ = σf p q r) : ExS prog w K A env nms Xc sh σ (.While test body [] pos) P :=
  ExS_whileC (T := T1 × T2 × T3) (fun x => I x.1 x.2.1 x.2.2) (fun x => μ x.1 x.2.1 x.2.2) (fun x => shf x.1 x.2.1 x.2.2) (fun x => σf x.1 x.2.1 x.2.2)
    (fun x hI => (turn x.1 x.2.1 x.2.2 hI).imp fun _ h => ⟨h.1, h.2.1, fun hb Q n c => h.2.2 hb Q (fun p' q' r' => n (p', q', r')) (fun p' q' r' => c (p', q', r'))⟩) (p, q, r) h hs hσ
theorem ExS_while4 {T1 T2 T3 T4 : Type} {test : Expr} {body : List Stmt} {pos : Pos} (I : T1 → T2 → T3 → T4 → Prop) (μ : T1 → T2 → T3 → T4 → Nat) (shf : T1 → T2 → T3 → T4 → Own) (σf : T1 → T2 → T3 → T4 → List (Option D))
    (turn : ∀ p q r s, I p q r s → ∃ b, EvT prog w K A env nms Xc (shf p q r s) (σf p q r s) test b ∧ (b = false → P (.next (shf p q r s) (σf p q r s))) ∧
      (b = true → ∀ Q : Out → Prop, (∀ p' q' r' s' sh' σ', μ p' q' r' s' < μ p q r s → I p' q' r' s' → sh' = shf p' q' r' s' → σ' = σf p' q' r' s' → Q (.next sh' σ')) → (∀ p' q' r' s' sh' σ', μ p' q' r' s' < μ p q r s → I p' q' r' s' → sh' = shf p' q' r' s' → σ' = σf p' q' r' s' → Q (.cont sh' σ')) →
        (∀ sh' σ', P (.next sh' σ') → Q (.brk sh' σ')) → (∀ d, P (.ret d) → Q (.ret d)) → Ex prog w K A env nms Xc (shf p q r s) (σf p q r s) body Q))
    (p : T1) (q : T2) (r : T3) (s : T4) (h : I p q r s) (hs : sh = shf p q r s) (hσ : σ = σf p q r s) : ExS prog w K A env nms Xc sh σ (.While test body [] pos) P :=
  ExS_whileC (T := T1 × T2 × T3 × T4) (fun x => I x.1 x.2.1 x.2.2.1 x.2.2.2) (fun x => μ x.1 x.2.1 x.2.2.1 x.2.2.2) (fun x => shf x.1 x.2.1 x.2.2.1 x.2.2.2) (fun x => σf x.1 x.2.1 x.2.2.1 x.2.2.2)
    (fun x hI => (turn x.1 x.2.1 x.2.2.1 x.2.2.2 hI).imp fun _ h => ⟨h.1, h.2.1, fun hb Q n c => h.2.2 hb Q (fun p' q' r' s' => n (p', q', r', s')) (fun p' q' r' s' => c (p', q', r', s'))⟩) (p, q, r, s) h hs hσ
theorem ExS_while5 {T1 T2 T3 T4 T5 : Type} {test : Expr} {body : List Stmt} {pos : Pos} (I : T1 → T2 → T3 → T4 → T5 → Prop) (μ : T1 → T2 → T3 → T4 → T5 → Nat) (shf : T1 → T2 → T3 → T4 → T5 → Own) (σf : T1 → T2 → T3 → T4 → T5 → List (Option D))
    (turn : ∀ p q r s t, I p q r s t → ∃ b, EvT prog w K A env nms Xc (shf p q r s t) (σf p q r s t) test b ∧ (b = false → P (.next (shf p q r s t) (σf p q r s t))) ∧
      (b = true → ∀ Q : Out → Prop, (∀ p' q' r' s' t' sh' σ', μ p' q' r' s' t' < μ p q r s t → I p' q' r' s' t' → sh' = shf p' q' r' s' t' → σ' = σf p' q' r' s' t' → Q (.next sh' σ')) → (∀ p' q' r' s' t' sh' σ', μ p' q' r' s' t' < μ p q r s t → I p' q' r' s' t' → sh' = shf p' q' r' s' t' → σ' = σf p' q' r' s' t' → Q (.cont sh' σ')) →
        (∀ sh' σ', P (.next sh' σ') → Q (.brk sh' σ')) → (∀ d, P (.ret d) → Q (.ret d)) → Ex prog w K A env nms Xc (shf p q r s t) (σf p q r s t) body Q))
    (p : T1) (q : T2) (r : T3) (s : T4) (t : T5) (h : I p q r s t) (hs : sh = shf p q r s t) (hσ : σ = σf p q r s t) : ExS prog w K A env nms Xc sh σ (.While test body [] pos) P :=
  ExS_whileC (T := T1 × T2 × T3 × T4 × T5) (fun x => I x.1 x.2.1 x.2.2.1 x.2.2.2.1 x.2.2.2.2) (fun x => μ x.1 x.2.1 x.2.2.1 x.2.2.2.1 x.2.2.2.2) (fun x => shf x.1 x.2.1 x.2.2.1 x.2.2.2.1 x.2.2.2.2) (fun x => σf x.1 x.2.1 x.2.2.1 x.2.2.2.1 x.2.2.2.2)
    (fun x hI => (turn x.1 x.2.1 x.2.2.1 x.2.2.2.1 x.2.2.2.2 hI).imp fun _ h => ⟨h.1, h.2.1, fun hb Q n c => h.2.2 hb Q (fun p' q' r' s' t' => n (p', q', r', s', t')) (fun p' q' r' s' t' => c (p', q', r', s', t'))⟩) (p, q, r, s, t) h hs hσ
theorem ExS_to1 {T : Type} {st : Stmt} (R : T → Prop) (shf : T → Own) (σf : T → List (Option D)) (h : ∀ Q : Out → Prop, (∀ x sh' σ', R x → sh' = shf x → σ' = σf x → Q (.next sh' σ')) → ExS prog w K A env nms Xc sh σ st Q)
    (k : ∀ x, R x → P (.next (shf x) (σf x))) : ExS prog w K A env nms Xc sh σ st P := h P fun x _ _ r e1 e2 => e1 ▸ e2 ▸ k x r
theorem ExS_to1b {T : Type} {st : Stmt} (R : T → Prop) (shf : T → Own) (σf : T → List (Option D)) (h : ∀ Q : Out → Prop, (∀ x sh' σ', R x → sh' = shf x → σ' = σf x → Q (.next sh' σ')) → (∀ sh' σ', P (.brk sh' σ') → Q (.brk sh' σ')) → ExS prog w K A env nms Xc sh σ st Q)
    (k : ∀ x, R x → P (.next (shf x) (σf x))) : ExS prog w K A env nms Xc sh σ st P := h P (fun x _ _ r e1 e2 => e1 ▸ e2 ▸ k x r) fun _ _ h => h
theorem ExS_to2 {T1 T2 : Type} {st : Stmt} (R : T1 → T2 → Prop) (shf : T1 → T2 → Own) (σf : T1 → T2 → List (Option D)) (h : ∀ Q : Out → Prop, (∀ x y sh' σ', R x y → sh' = shf x y → σ' = σf x y → Q (.next sh' σ')) → ExS prog w K A env nms Xc sh σ st Q)
    (k : ∀ x y, R x y → P (.next (shf x y) (σf x y))) : ExS prog w K A env nms Xc sh σ st P := h P fun x y _ _ r e1 e2 => e1 ▸ e2 ▸ k x y r
theorem hel_map {E : Type} {f : E → D} {xs : List E} (j : Nat) (d : D) (h : (xs.map f)[j]? = some d) : ∃ e, xs[j]? = some e ∧ d = f e := by
  rw [List.getElem?_map] at h
  exact (Option.map_eq_some_iff.mp h).elim fun e z => ⟨e, z.1, z.2.symm⟩
theorem hel_one {d : D} (j : Nat) (e : D) (h : ([d] : List D)[j]? = some e) : ∃ _ : Unit, j = 0 ∧ e = d := by
  cases j with
  | zero => cases h; exact ⟨(), rfl, rfl⟩
  | succ j => cases h
theorem hel_range {a : Int} {n : Nat} (j : Nat) (d : D) (h : (intsD a n)[j]? = some d) : ∃ _ : Unit, j < n ∧ d = .int (a + (j : Nat)) := by
  refine ex1E (hel_map j d h) fun e z => ?_
  have hj : j < n := (List.getElem?_eq_some_iff.mp z.1).elim fun q _ => by rw [List.length_range] at q; exact q
  rw [List.getElem?_range hj] at z
  exact ⟨(), hj, Option.some.inj z.1 ▸ z.2⟩
theorem ExS_forT {T E : Type} (i : Nat) {n : String} {k : NameKind} {p pos : Pos} {iter : Expr} {body : List Stmt} {ds : List D} (hn : nms[i]? = some (n, k)) (hk : k = .local ∨ k = .cell)
    (el : Nat → E → Prop) (f : Nat → E → D) (hel : ∀ j d, ds[j]? = some d → ∃ e, el j e ∧ d = f j e) (I : Nat → T → Prop) (shf : Nat → T → Own) (σf : Nat → T → List (Option D))
    (hit : ∀ own, shape own = sh → EvIt prog w K A env nms (XO Xc env own) σ iter ds) (x : T) (h : I 0 x) (hs : sh = shf 0 x) (hσ : σ = σf 0 x)
    (turn : ∀ j e x, el j e → I j x → ∀ Xc' : Addr → Prop, (∀ a, Xc a → Xc' a) → ∀ Q : Out → Prop, (∀ y sh' σ', I (j + 1) y → sh' = shf (j + 1) y → σ' = σf (j + 1) y → Q (.next sh' σ')) → (∀ y sh' σ', I (j + 1) y → sh' = shf (j + 1) y → σ' = σf (j + 1) y → Q (.cont sh' σ')) → (∀ sh' σ', P (.next sh' σ') → Q (.brk sh' σ')) → (∀ d, P (.ret d) → Q (.ret d)) → Ex prog w K A env nms Xc' (dropS (shf j x) i) ((σf j x).set i (some (f j e))) body Q)
    (fin : ∀ x, I ds.length x → P (.next (shf ds.length x) (σf ds.length x)))
    (hx : ∀ x, foldedSetIterable iter env x = pure x := by intro _; rfl) : ExS prog w K A env nms Xc sh σ (.For (.Name n p) iter body [] pos) P := by
  refine ExS_for i hn hk (fun j sh σ => ∃ x, I j x ∧ sh = shf j x ∧ σ = σf j x) hit ⟨x, h, hs, hσ⟩ (fun j d sh σ hd hJ Xc' sub => ?_) (fun sh σ hJ => ?_) hx
  · refine ex1E hJ fun x z => ex1E (hel j d hd) fun e y => ?_
    rw [z.2.1, z.2.2, y.2]
    exact turn j e x y.1 z.1 Xc' sub _ (fun y _ _ i e1 e2 => ⟨y, i, e1, e2⟩) (fun y _ _ i e1 e2 => ⟨y, i, e1, e2⟩) (fun _ _ p => p) (fun _ p => p)
  · refine ex1E hJ fun x z => ?_
    rw [z.2.1, z.2.2]
    exact fin x z.1
theorem ExS_enumT {T E : Type} (i i2 : Nat) {n1 n2 : String} {k1 k2 : NameKind} {p1 p2 tp pos cpos : Pos} {c0 : Nat} {fe le : Expr} {body : List Stmt} {ds : List D} (hn1 : nms[i]? = some (n1, k1)) (hk1 : k1 = .local ∨ k1 = .cell) (hn2 : nms[i2]? = some (n2, k2)) (hk2 : k2 = .local ∨ k2 = .cell) (hh : A.handled = none)
    (el : Nat → E → Prop) (f : Nat → E → D) (hel : ∀ j d, ds[j]? = some d → ∃ e, el j e ∧ d = f j e) (I : Nat → T → Prop) (shf : Nat → T → Own) (σf : Nat → T → List (Option D))
    (hfe : ∀ own, shape own = sh → Ev prog w K A env nms (XO Xc env own) σ fe (.val (.type "enumerate"))) (hle : ∀ own, shape own = sh → Ev prog w K A env nms (XO Xc env own) σ le (.list ds)) (x : T) (h : I 0 x) (hs : sh = shf 0 x) (hσ : σ = σf 0 x)
    (turn : ∀ j e x, el j e → I j x → ∀ Xc' : Addr → Prop, (∀ a, Xc a → Xc' a) → ∀ Q : Out → Prop, (∀ y sh' σ', I (j + 1) y → sh' = shf (j + 1) y → σ' = σf (j + 1) y → Q (.next sh' σ')) → (∀ y sh' σ', I (j + 1) y → sh' = shf (j + 1) y → σ' = σf (j + 1) y → Q (.cont sh' σ')) → (∀ sh' σ', P (.next sh' σ') → Q (.brk sh' σ')) → (∀ d, P (.ret d) → Q (.ret d)) → Ex prog w K A env nms Xc' (dropS (dropS (shf j x) i) i2) (((σf j x).set i (some (.int j))).set i2 (some (f j e))) body Q)
    (fin : ∀ x, I ds.length x → P (.next (shf ds.length x) (σf ds.length x)))
    (hst : starEach [le] env = (false, eval le env) :: starEach [] env := by rfl)
    (he : eval (.Call fe [le] [] cpos) env = (do callWith cpos (← eval fe env) [] (backTo cpos (starEach [le] env)) (backToKw cpos (keywordEach [] env))) := by rfl)
    (hx : ∀ x, foldedSetIterable (.Call fe [le] [] cpos) env x = pure x := by intro _; rfl) : ExS prog w K A env nms Xc sh σ (.For (.Tuple [.Name n1 p1, .Name n2 p2] c0 tp) (.Call fe [le] [] cpos) body [] pos) P := by
  refine ExS_forEnum i i2 hn1 hk1 hn2 hk2 hh (fun j sh σ => ∃ x, I j x ∧ sh = shf j x ∧ σ = σf j x) hfe hle ⟨x, h, hs, hσ⟩ (fun j d sh σ hd hJ Xc' sub => ?_) (fun sh σ hJ => ?_) hst he hx
  · refine ex1E hJ fun x z => ex1E (hel j d hd) fun e y => ?_
    rw [z.2.1, z.2.2, y.2]
    exact turn j e x y.1 z.1 Xc' sub _ (fun y _ _ i e1 e2 => ⟨y, i, e1, e2⟩) (fun y _ _ i e1 e2 => ⟨y, i, e1, e2⟩) (fun _ _ p => p) (fun _ p => p)
  · refine ex1E hJ fun x z => ?_
    rw [z.2.1, z.2.2]
    exact fin x z.1
end
end Mine
end
-- Exc1
section
open PySem PySem.W PySem.Calls PyProof.Rows PySem.Builtin PySem.Builtin.Str PySem.Builtin.BaseException PySem.Builtin.Exceptions
namespace Mine
noncomputable def nsMapOf (o : Obj) : Str → Option Value := match o.data with | .dict es _ => nsFind es | _ => fun _ => none
noncomputable def nsOkOf (o : Obj) : Bool := match o.data with | .dict es _ => es.toList.all (fun e => match e.key with | .str _ _ => true | _ => false) | _ => false
theorem ns_of_obj {h : Heap} {a : Addr} {o : Obj} (e : h.get? a = some o) (ok : nsOkOf o = true) : h.Ns a (nsMapOf o) := by
  obtain ⟨c, d, dt, sl⟩ := o
  cases dt with
  | dict es ep =>
    refine ⟨_, es, ep, e, rfl, fun x hx => ?_, fun _ => rfl⟩
    have := List.all_eq_true.mp ok x (Array.mem_toList_iff.mpr hx)
    split at this
    · rename_i nm t hk; exact ⟨nm, t, hk⟩
    · cases this
  | _ => cases ok
noncomputable def nsAt (K : Frag) (a : Addr) : Str → Option Value := match K.lookup a with | some o => nsMapOf o | none => fun _ => none
noncomputable def nsOkAt (K : Frag) (a : Addr) : Bool := match K.lookup a with | some o => nsOkOf o | none => false
theorem ns_at {K : Frag} {h : Heap} (x : K.In h) {a : Addr} (ok : nsOkAt K a = true) : h.Ns a (nsAt K a) := by
  unfold nsOkAt at ok
  unfold nsAt
  cases e : K.lookup a with
  | none => rw [e] at ok; cases ok
  | some o => rw [e] at ok; exact ns_of_obj (x _ _ e) ok
noncomputable abbrev excTail : List Value := [.type "Exception", .type "BaseException", .type "object"]
structure Own61 (h : Heap) : Prop where
  c : ∃ nm q bs hdct sn sub ab col dd k0 k1 k2 k3 k5, h.get? 61 = some (excClassObj nm q 61 60 bs (.ref 48 :: excTail) hdct sn sub ab col dd k0 k1 k2 k3 k5 "Exception.__new__")
  n : ∃ m, h.Ns 60 m ∧ (∀ n ∈ quietNames, m n = none) ∧ m "__str__" = none
  b : ∃ nm q N bs hdct sn sub ab col dd k0 k1 k2 k3 k5 m, h.get? 48 = some (excClassObj nm q 48 N bs excTail hdct sn sub ab col dd k0 k1 k2 k3 k5 "Exception.__new__") ∧ h.Ns N m ∧ (∀ n ∈ quietNames, m n = none) ∧ m "__str__" = none
noncomputable def qn (m : Str → Option Value) : Bool := (m "__str__").isNone && quietNames.all fun n => (m n).isNone
theorem qn_of {m : Str → Option Value} (h : qn m = true) : (∀ n ∈ quietNames, m n = none) ∧ m "__str__" = none := by
  unfold qn at h
  rw [Bool.and_eq_true] at h
  exact ⟨fun n hn => Option.isNone_iff_eq_none.mp (List.all_eq_true.mp h.2 n hn), Option.isNone_iff_eq_none.mp h.1⟩
theorem ok60 (P : Params) : nsOkAt (K39 P) 60 = true := by kernel_rfl
theorem qn60 (P : Params) : qn (nsAt (K39 P) 60) = true := by kernel_rfl
theorem cls61 (P : Params) : ∃ nm q bs hdct sn sub ab col dd k0 k1 k2 k3 k5, (K39 P).lookup 61 = some (excClassObj nm q 61 60 bs (.ref 48 :: excTail) hdct sn sub ab col dd k0 k1 k2 k3 k5 "Exception.__new__") := ⟨_, _, _, _, _, _, _, _, _, _, _, _, _, _, rfl⟩
theorem cls48 (P : Params) : ∃ nm q N bs hdct sn sub ab col dd k0 k1 k2 k3 k5, (K39 P).lookup 48 = some (excClassObj nm q 48 N bs excTail hdct sn sub ab col dd k0 k1 k2 k3 k5 "Exception.__new__") ∧ nsOkAt (K39 P) N = true ∧ qn (nsAt (K39 P) N) = true := ⟨_, _, _, _, _, _, _, _, _, _, _, _, _, _, _, rfl, by kernel_rfl, by kernel_rfl⟩
theorem own61 {P : Params} {h : Heap} (x : (K39 P).In h) : Own61 h where
  c := by
    refine ex8E (cls61 P) fun nm q bs hdct sn sub ab col zz16 => ex6E zz16 fun dd k0 k1 k2 k3 k5 e => ?_
    exact ⟨nm, q, bs, hdct, sn, sub, ab, col, dd, k0, k1, k2, k3, k5, x _ _ e⟩
  n := ⟨_, ns_at x (ok60 P), qn_of (qn60 P)⟩
  b := by
    refine ex8E (cls48 P) fun nm q N bs hdct sn sub ab zz14 => ex7E zz14 fun col dd k0 k1 k2 k3 k5 zz15 => and3E zz15 fun e ok qk => ?_
    exact ⟨nm, q, N, bs, hdct, sn, sub, ab, col, dd, k0, k1, k2, k3, k5, _, x _ _ e, ns_at x ok, qn_of qk⟩
theorem Own61.tail {h : Heap} (o : Own61 h) : OwnTailQ h excTail (.ref 48 :: excTail) := by
  refine ex8E o.b fun _ _ _ _ _ _ _ _ zz12 => ex8E zz12 fun _ _ _ _ _ _ _ _ zz13 => and4E zz13 fun e n q _ => ?_
  exact .own e n q .base
theorem Own61.cls {h : Heap} (o : Own61 h) : OwnClsQ "error_reply" 61 excTail "Exception.__new__" (fun _ => some (.ref 61)) h := by
  refine ex8E o.c fun nm q bs hdct sn sub ab col zz11 => ex6E zz11 fun dd k0 k1 k2 k3 k5 e => ?_
  refine ex1E o.n fun m zz10 => and3E zz10 fun hn hq _ => ?_
  exact ⟨rfl, _, _, nm, q, bs, hdct, sn, sub, ab, col, dd, k0, k1, k2, k3, k5, m, e, hn, hq, o.tail⟩
theorem look_str : typeLookup (.type "Exception") "__str__" = pure (some (.builtin "BaseException.__str__")) := F.excStr_Exception.str.lookup
theorem along_str : lookupAlong excTail "__str__" = pure (some (.builtin "BaseException.__str__")) := by
  have h := look_str
  rw [typeLookup_eq, F.excBase_Exception.mroIs] at h; exact h
section
variable {prog : Program} {w : World} {A : Around} {E : Value → Shared → Prop} {s : Shared} {e t0 : Addr} {oe : Obj} {vs : Array Value} {x : Str} {tk : Tok}
structure Exc61 (h : Heap) (e t0 : Addr) (x : Str) (tk : Tok) : Prop where
  own : Own61 h
  e : ∃ oe vs, h.get? e = some oe ∧ oe.cls = .ref 61 ∧ oe.data = .fields vs ∧ vs[0]? = some (.ref t0)
  t : h.TupAt t0 [.str x tk]
theorem look61 {M : Model} {Q : Option Value → Shared → Prop} (o : Own61 s.heap) (hq : Q (some (.builtin "BaseException.__str__")) s) : wpAny M A (typeLookup (.ref 61) "__str__") Q E s := by
  refine ex8E o.c fun nm q bs hdct sn sub ab col zz9 => ex6E zz9 fun dd k0 k1 k2 k3 k5 hC => ?_
  refine ex1E o.n fun m zz8 => and3E zz8 fun hn _ hs => ?_
  refine ex8E o.b fun nm' q' N' bs' hdct' sn' sub' ab' zz6 => ex8E zz6 fun col' dd' k0' k1' k2' k3' k5' m' zz7 => and4E zz7 fun hB hn' _ hs' => ?_
  obtain ⟨h, g, d, t, os⟩ := s
  rw [typeLookup_eq]
  refine wpAny_bind (wpAny_mroOf_exc hC ?_)
  rw [lookupAlong_cons]
  refine wpAny_bind (wpAny_classOwn_exc hC hn ?_)
  rw [hs]
  show wpAny _ _ (lookupAlong _ _) _ _ _
  rw [lookupAlong_cons]
  refine wpAny_bind (wpAny_classOwn_exc hB hn' ?_)
  rw [hs']
  show wpAny _ _ (lookupAlong _ _) _ _ _
  rw [along_str]
  exact wpAny_pure hq
theorem check61 {M : Model} {Q : Unit → Shared → Prop} (x61 : Exc61 s.heap e t0 x tk) (hq : Q () s) : wpAny M A (checkBuiltinCall "BaseException.__str__" ⟨[.ref e], []⟩) Q E s := by
  refine ex8E x61.own.c fun nm q bs hdct sn sub ab col zz5 => ex6E zz5 fun dd k0 k1 k2 k3 k5 hC => ?_
  refine ex2E x61.e fun oe vs zz4 => and3E zz4 fun he hcls _ => ?_
  obtain ⟨h, g, d, t, os⟩ := s
  have hk : builtinKind "BaseException.__str__" = some .slot := by decide +kernel
  have hsplit : splitId "BaseException.__str__" = some ("BaseException", "__str__") := by decide +kernel
  have hcB : (Value.ref 61 :: .ref 48 :: excTail).contains (.type "BaseException") = true := by decide +kernel
  have ha := F.args_bexc_str (.ref e)
  simp only [checkBuiltinCall, hk, hsplit]
  refine wpAny_bind ?_
  unfold isInstance
  have z0 := zl
  repeat (first | (with_reducible refine wpAny_loadPart_at he ?_; rw [hcls]) | (with_reducible refine wpAny_isSubtype_exc hC ?_; rw [hcB]) | wp_step)
  exact hq
theorem bexcStr61 {Q : Fin → Shared → Prop} (x61 : Exc61 s.heap e t0 x tk) (hq : Q (.done (.ret (.str x tk))) s) :
    wpAny (model prog w) A (Builtin.«BaseException.__str__» ⟨[.ref e], []⟩) Q E s := by
  refine ex2E x61.e fun oe vs zz3 => and4E zz3 fun he hcls hd h0 => ?_
  refine ex2E x61.t fun ot k zz2 => and3E zz2 fun hto htc htd => ?_
  unfold Builtin.«BaseException.__str__»
  have hb : ∀ {Q : Value × List Value → Shared → Prop}, Q (.ref t0, [.str x tk]) s → wpAny (model prog w) A (bexcArgs (.ref e)) Q E s := by
    intro Q h
    unfold bexcArgs
    exact wpAny_bind (wpAny_field he hd h0 (wpAny_bind (wpAny_seqItems hto htd (wpAny_pure h))))
  have z0 := zl
  repeat (first | with_reducible refine hb ?_ | wp_step)
  exact hq
theorem strOf61 (hu : A.units < cLine) {Q : Value → Shared → Prop} (x61 : Exc61 s.heap e t0 x tk) (hq : Q (.str x tk) s) :
    wpAny (model prog w) A (Builtin.Str.strOf (.ref e)) Q E s := by
  have hsp : ∀ {Q : Option Value → Shared → Prop}, Q (some (.str x tk)) s → wpAny (model prog w) A (callSpecial? (.ref e) "__str__") Q E s := by
    intro Q h
    simp only [callSpecial?, specialOf]
    refine wpAny_bind ?_
    refine ex2E x61.e fun oe vs zz1 => and4E zz1 fun he hcls hd h0 => ?_
    unfold typeOf
    refine wpAny_bind ?_
    obtain ⟨hh, g, d, t, os⟩ := s
    have z0 := zl
    repeat (first | (with_reducible refine wpAny_loadPart_at he ?_; rw [hcls]) | with_reducible refine look61 x61.own ?_ | wp_step)
    rw [F.excStr_Exception.str.bind]
    refine wpAny_pure (wpAny_bind ?_)
    refine wpAny_call (codeAny_call_builtin F.excStr_Exception.str.plain F.entry_bexc_str (check61 x61 (bexcStr61 x61 ?_)))
    exact wpAny_pure h
  unfold Builtin.Str.strOf
  have z0 := zl
  repeat (first | with_reducible refine wpAny_cRoomFor hu ?_ | with_reducible refine hsp ?_ | wp_step)
  exact hq
theorem str_of61 (hu : A.units + 2 < cLine) {Q : Value → Shared → Prop} (x61 : Exc61 s.heap e t0 x tk) (h : Q (.str x tk) s) :
    wpAny (model prog w) A (call (.type "str") [.ref e]) Q E s :=
  callType_new F.called_str (by decide) (F.typeCall_str_1 _) (F.newCall_str_1 _) (fun obj => F.args_object_init_2 obj _) F.entry_str_new
    (meets_str_new (S := fun A' R s' => A'.units + 1 < cLine ∧ Exc61 s'.heap e t0 x tk ∧ R (.ok (.ret (.str x tk))) s')
      fun _ _ A' _ _ hq => strOf61 (A := A'.in1) hq.1 hq.2.1 hq.2.2)
    ⟨(show A.units + 1 + 1 < cLine from hu), x61, typeIs_str _ _ _, h⟩
end
end Mine
end
-- Exc2
section
open PySem PySem.W PySem.Calls PyProof.Rows PySem.Builtin PySem.Builtin.Str
namespace Mine
section
variable {K : Frag}
end
end Mine
end
-- LawO2
section
open PySem PySem.W PySem.Calls PyProof.Rows PySem.Builtin PySem.Builtin.Str
namespace Mine
section
variable {K : Frag} {A : Around} {env : Env} {nms : Nms} {X Xc : Addr → Prop} {sh : Own} {σ : List (Option D)} {P : Out → Prop}
theorem Op_neB {a b : Bool} : Op2 prog w K A X (compareOp .NotEq) (.bool a) (.bool b) (.bool (a != b)) := by
  intro s va vb Q E wx ra rb hQ
  refine Rd.boolE ra ?_; refine Rd.boolE rb ?_
  exact PyProof.Rows.ne_bool (hQ _ s (Kp.refl _) wx (.bool _))
theorem ExS_assign2L (i j : Nat) {n1 n2 : String} {k1 k2 : NameKind} {p1 p2 tpos pos : Pos} {c : Nat} {e : Expr} {d1 d2 : D} (hn1 : nms[i]? = some (n1, k1)) (hn2 : nms[j]? = some (n2, k2)) (hk1 : k1 = .local ∨ k1 = .cell) (hk2 : k2 = .local ∨ k2 = .cell)
    (hf : (sh.all fun p => p.1 != i && p.1 != j) = true) (hh : A.handled = none) (he : EvS prog w K A env nms Xc sh σ e (.list [d1, d2])) (hp : P (.next sh ((σ.set i (some d1)).set j (some d2))))
    (hs : swapsWithSole [.Tuple [.Name n1 p1, .Name n2 p2] c tpos] e pos.line env = pure false := by rfl)
    (hw : swappedStores [.Tuple [.Name n1 p1, .Name n2 p2] c tpos] e env = pure none := by rfl) :
    ExS prog w K A env nms Xc sh σ (.Assign [.Tuple [.Name n1 p1, .Name n2 p2] c tpos] e pos) P := by
  intro own s Q E eo x hQ
  have f1 : ∀ p ∈ own, p.1 ≠ i := notkey eo (by rw [List.all_eq_true] at hf ⊢; intro p hp; have := hf p hp; simp at this; simp [this])
  have f2 : ∀ p ∈ own, p.1 ≠ j := notkey eo (by rw [List.all_eq_true] at hf ⊢; intro p hp; have := hf p hp; simp at this; simp [this])
  refine Assign_Tuple (he own eo _ _ x.ste fun v s₁ k₁ w₁ r₁ => ?_) hs hw
  have x₁ := x.kp k₁ w₁
  refine Rd.list2E r₁ fun _ _ _ hnx hg a b => ?_
  rename_i ad va vb
  show wpAny _ _ (do standAt tpos; unpack (.ref ad) [(false, assign (.Name n1 p1) env), (false, assign (.Name n2 p2) env)]) _ E s₁
  refine wpAny_bind (wpAny_standAt ?_)
  unfold unpack
  refine wpAny_bind (wpAny_holding (unpackItems_list (items := #[va, vb]) hh hg fun h' hx => ?_))
  have hfull := ExtBut.full hx
  have kp : Kp s₁ { s₁ with heap := h' } := Kp.of (Nat.le_refl _) hfull
  have x₂ := x₁.kp kp (w₁.more (Nat.le_refl _) hfull)
  have a₂ := a.kp w₁ kp
  have b₂ := b.kp w₁ kp
  refine assignInOrder_cons (PyProof.Rows.assign_Name (St.store' i x₂ hn1 hk1 f1 a₂ fun s₃ x₃ kf₃ => ?_))
  refine assignInOrder_cons (PyProof.Rows.assign_Name (St.store' j x₃ hn2 hk2 f2 (b₂.kf x₂.wx kf₃) fun s₄ x₄ kf₄ => assignInOrder_nil ?_))
  exact hQ _ _ _ hp ⟨rfl, own, eo, x₄, ((Kp.kf (k₁.trans kp)).trans (Fresher.refl _ _) kf₃).trans (Fresher.refl _ _) kf₄, Fresher.refl _ _⟩
end
end Mine
end
-- MapIt2
section
open PySem PySem.W PySem.Calls PyProof.Rows PySem.Builtin PySem.Builtin.Str
open AutoSeq1 (wpAny_loadPart')
namespace Mine
section
variable {K : Frag} {A : Around} {E : Value → Shared → Prop} {s : Shared} {X : Addr → Prop}
theorem map_next_item {M T it l : Addr} {i : Nat} {f x : Value} {items : Array Value} {Q : Option Value → Shared → Prop} (hM : s.heap.get? M = some (mapObj T f)) (hT : s.heap.get? T = some (oneTup (.ref it)))
    (hit : s.heap.IsListIter it l i) (hl : s.heap.IsList l items) (hx : items[i]? = some x) (hMi : M ≠ it)
    (hc : ∀ h' (E' : Value → Shared → Prop), h'.IsListIter it l (i + 1) → Heap.SameBut it s.heap h' → wpAny (model prog w) A.in1 (call f [x]) (fun v s' => Q (some v) s') E' { s with heap := h' }) : wpAny (model prog w) A (pyNext (.ref M)) Q E s := by
  have hTy : s.TypeIs (.ref M) "map" := ⟨_, hM, rfl⟩
  unfold pyNext
  refine wpAny_bind (wpAny_attempt (wpAny_callSpecial?_slot (name := Str.ofString "__next__") hTy slot_map_next
    (wpAny_call_entry slot_map_next hTy entry_map_next ?_ (args_map_next _))))
  show wpAny _ _ (field (.ref M) 0 >>= _) _ _ _
  refine wpAny_bind (wpAny_field hM rfl (x := .ref T) rfl ?_)
  show wpAny _ _ (seqItems? (.ref T) >>= _) _ _ _
  refine wpAny_bind (wpAny_seqItems hT rfl ?_)
  refine wpAny_bind ?_
  show wpAny _ _ (forIn (#[Value.ref it] : Array Value) (#[] : Array Value) _) _ _ _
  rw [← Array.forIn_toList]; simp only [List.forIn_cons, List.forIn_nil]
  refine wpAny_bind (wpAny_bind (wpAny_holding (wpAny_nextOf_list_item hit hl hx fun h₁ hit₁ hs₁ => wpAny_pure (wpAny_pure ?_))))
  show wpAny _ _ (field (.ref M) 1 >>= _) _ _ _
  refine wpAny_bind (wpAny_field ((hs₁.2 M hMi).trans hM) rfl (x := f) rfl ?_)
  refine wpAny_bind (wpAny_holding (wpAny_mono (hc h₁ _ hit₁ hs₁) (fun v s' hq => ?_) fun _ _ e => e))
  exact wpAny_bind (wpAny_letGo (wpAny_pure ⟨_, rfl, wpAny_pure hq⟩))
theorem map_next_end {M T it l : Addr} {i : Nat} {f : Value} {items : Array Value} {Q : Option Value → Shared → Prop} (hh : A.handled = none) (hM : s.heap.get? M = some (mapObj T f)) (hT : s.heap.get? T = some (oneTup (.ref it)))
    (hit : s.heap.IsListIter it l i) (hl : s.heap.IsList l items) (hx : items[i]? = none)
    (hQ : ∀ h', Heap.ExtBut it s.heap h' → Q none { s with heap := h' }) : wpAny (model prog w) A (pyNext (.ref M)) Q E s := by
  have hTy : s.TypeIs (.ref M) "map" := ⟨_, hM, rfl⟩
  unfold pyNext
  refine wpAny_bind (wpAny_attempt (wpAny_callSpecial?_slot (name := Str.ofString "__next__") hTy slot_map_next
    (wpAny_call_entry slot_map_next hTy entry_map_next ?_ (args_map_next _))))
  show wpAny _ _ (field (.ref M) 0 >>= _) _ _ _
  refine wpAny_bind (wpAny_field hM rfl (x := .ref T) rfl ?_)
  show wpAny _ _ (seqItems? (.ref T) >>= _) _ _ _
  refine wpAny_bind (wpAny_seqItems hT rfl ?_)
  refine wpAny_bind ?_
  show wpAny _ _ (forIn (#[Value.ref it] : Array Value) (#[] : Array Value) _) _ _ _
  rw [← Array.forIn_toList]; simp only [List.forIn_cons, List.forIn_nil]
  refine wpAny_bind (wpAny_bind (wpAny_holding (wpAny_nextOf_list_end hh hit hl hx fun h' x he' hx' => ?_)))
  refine ex1E hx' fun o zz1 => and2E zz1 fun ho hc => ?_
  refine wpAny_bind (wpAny_isInstance (T := "StopIteration") (b := true) ⟨o, ho, hc⟩ isSubtype_stop ?_)
  exact wpAny_pure (hQ _ he')
end
end Mine
end
-- MapIt3
section
open PySem PySem.W PySem.Calls PyProof.Rows PySem.Builtin PySem.Builtin.Str
open AutoSeq1 (wpAny_loadPart')
namespace Mine
section
variable {K : Frag} {A : Around} {E : Value → Shared → Prop} {s : Shared} {X : Addr → Prop}
theorem call_map {l : Addr} {f : Value} {items : Array Value} {Q : Value → Shared → Prop} (hl : s.heap.IsList l items)
    (h : Q (.ref (s.heap.objs.size + 2)) { s with heap := ((s.heap.push (litObj l)).push (oneTup (.ref s.heap.objs.size))).push (mapObj (s.heap.objs.size + 1) f) }) :
    wpAny (model prog w) A (call (.type "map") [f, .ref l]) Q E s := by
  refine ex1E hl fun o zz10 => and3E zz10 fun ho hc zz11 => ex1E zz11 fun n hd => ?_
  have hz : ((s.heap.push (litObj l)).push (oneTup (.ref s.heap.objs.size))).objs.size = s.heap.objs.size + 2 := by rw [Heap.size_push, Heap.size_push]
  have hM : (((s.heap.push (litObj l)).push (oneTup (.ref s.heap.objs.size))).push (mapObj (s.heap.objs.size + 1) f)).get? (s.heap.objs.size + 2) = some (mapObj (s.heap.objs.size + 1) f) := by
    rw [← hz]; exact Heap.get?_push_size _ rfl
  exact callType_new called_map (by decide) (typeCall_map_2 _ _) (newCall_map_2 _ _) (fun obj => args_obj_init3 obj _ _) entry_map_new (meets_map_new l f o items n hc hd) ⟨ho, ⟨_, hM, rfl⟩, h⟩
theorem map_loop {M T it l S : Addr} {f res : Value} {vs : List Value} {ds : List D} {R : Result → Shared → Prop} (g : D → D) (hh : A.handled = none) (h96 : X 96) (hn : ∀ a ∈ [M, T, l], ¬ (X a ∨ a ∈ [it, S])) (hits : it ≠ S) (hi96 : it ≠ 96) (hS96 : S ≠ 96) (hiX : ¬ X it)
    (hf : ∀ d ∈ ds, OpN prog w K A.in1.in1 (fun a => X a ∨ a ∈ [it, S]) (fun vs => call f vs) [d] (g d)) (hlen : ds.length ≤ sizeLine) :
    ∀ (k i : Nat) (s : Shared) (acc : List Value) (c : Nat), ds.length - i = k → i ≤ ds.length → WX K (fun a => X a ∨ a ∈ [it, S]) s → s.heap.get? M = some (mapObj T f) → s.heap.get? T = some (oneTup (.ref it)) → s.heap.IsListIter it l i → s.heap.IsList l vs.toArray → RdAll (fun a => X a ∨ a ∈ [it, S]) s.heap vs ds →
    s.heap.get? S = some { cls := .type "list", dict := none, data := .seq acc.toArray c, slots := #[] } → RdAll (fun a => X a ∨ a ∈ [it, S]) s.heap acc ((ds.take i).map g) →
    (∀ s' acc' c', Kw [it, S] s s' → WX K (fun a => X a ∨ a ∈ [S]) s' → s'.heap.get? S = some { cls := .type "list", dict := none, data := .seq (List.toArray acc') c', slots := #[] } → RdAll (fun a => X a ∨ a ∈ [S]) s'.heap acc' (ds.map g) → R (.ok (.ret res)) s') →
    codeAny (model prog w) A (.builtin "list.extend.loop" ⟨[.ref S, .ref M, res], []⟩) R s := by
  intro k
  induction k with
  | zero =>
    intro i s acc c hk hi wx hM hT hit hl hr hS hacc hR
    have hin : i = ds.length := Nat.le_antisymm hi (Nat.le_of_sub_eq_zero hk)
    subst hin
    refine codeAny_builtin F.entry_extend_loop ?_
    rw [Around.under_plainId F.plain_extend_loop _]
    show wpAny _ A.in1 (pyNext (.ref M) >>= _) _ _ s
    refine wpAny_bind (map_next_end hh hM hT hit hl (by simp [hr.length]) fun h' he => ?_)
    rw [List.take_of_length_le (Nat.le_refl _)] at hacc
    have hk : ∀ b o, b ∉ [it] → s.heap.get? b = some o → h'.get? b = some o := fun b o hb e => he b o (by simpa using hb) e
    have kw : Kw [it, S] s { s with heap := h' } := ⟨h', s.toks, rfl, Nat.le_refl _, fun b o _ hb e => hk b o (fun q => hb (by simp at q; simp [q])) e⟩
    have hsub : ∀ a, (X a ∨ a ∈ [S]) → (X a ∨ a ∈ [it, S]) := fun a q => q.imp id fun z => by simp at z; simp [z]
    have wx2 : WX K (fun a => (X a ∨ a ∈ [S]) ∨ a ∈ [it]) s := wx.weak (.inl (.inl h96)) fun a q => by
      rcases q with (q | q) | q
      · exact .inl q
      · simp at q; exact .inr (by simp [q])
      · simp at q; exact .inr (by simp [q])
    have wx3 := wx2.done (.inl h96) (Nat.le_refl s.toks) hk (fun b hb q => by
      simp at hb; subst hb
      rcases q with q | q
      · exact hiX q
      · simp at q; exact hits q)
    refine wpAny_pure (hR _ acc c kw wx3 (hk S _ (by simp; exact fun q => hits q.symm) hS) (hacc.mono (fun a q => .inl (hsub a q)) fun b o hb e => hk b o (fun q => hb (.inr (by simp at q; simp [q]))) e))
  | succ k ih =>
    intro i s acc c hk hi wx hM hT hit hl hr hS hacc hR
    have hlt : i < ds.length := Nat.sub_pos_iff_lt.mp (hk ▸ Nat.succ_pos k)
    have hlv : i < vs.length := by rw [hr.length]; exact hlt
    refine codeAny_builtin F.entry_extend_loop ?_
    rw [Around.under_plainId F.plain_extend_loop _]
    show wpAny _ A.in1 (pyNext (.ref M) >>= _) _ _ s
    have hMit : M ≠ it := fun e => hn M (by simp) (.inr (by simp [e]))
    refine ex1E (hr.get' (List.getElem?_eq_getElem hlv)) fun d zz9 => and2E zz9 fun hd rd => ?_
    have hdm : d ∈ ds := List.mem_of_getElem? hd
    refine wpAny_bind (map_next_item hM hT hit hl (x := vs[i]) (by simp [hlv]) hMit fun h₁ E' hit₁ hs₁ => ?_)
    have w₁ : WX K (fun a => X a ∨ a ∈ [it, S]) { s with heap := h₁ } := wx.upd (tk := s.toks) (.inr (.head _)) hi96 hs₁ (let ⟨o, e, _⟩ := hit₁; ⟨o, e⟩) (Nat.le_refl _)
    have up : ∀ {v d}, Rd (fun a => X a ∨ a ∈ [it, S]) s.heap v d → Rd (fun a => X a ∨ a ∈ [it, S]) h₁ v d := fun r => r.upd (.inr (.head _)) hs₁
    refine hf d hdm { s with heap := h₁ } [vs[i]] _ _ w₁ (.cons (up rd) .nil) fun v s₂ k₂ w₂ r₂ => ?_
    have keep : ∀ {b o}, b ∈ [M, T, l] → s.heap.get? b = some o → s₂.heap.get? b = some o := fun {b o} hb e =>
      k₂.keep (wx.ne96 (hn b hb)) ((hs₁.2 b (fun q => hn b hb (.inr (by simp [q])))).trans e)
    have hS₂ : s₂.heap.get? S = some { cls := .type "list", dict := none, data := .seq acc.toArray c, slots := #[] } := k₂.keep hS96 ((hs₁.2 S (Ne.symm hits)).trans hS)
    show wpAny _ A.in1 (updateSeq S (·.push v) >>= _) _ _ _
    have lacc : acc.length = i := by rw [hacc.length, List.length_map, List.length_take, Nat.min_eq_left hi]
    refine wpAny_bind (wpAny_updateSeq hS₂ rfl ?_ (by rw [List.size_toArray, lacc]; first | exact Nat.lt_of_lt_of_le hlt hlen | exact Nat.le_trans (Nat.le_of_lt hlt) hlen) (by first | (rw [Array.size_push, List.size_toArray, lacc]; exact Nat.le_trans hlt hlen) | (simp; lia)))
    have hsU : Heap.SameBut S s₂.heap (s₂.heap.update S (Obj.mapSeq (·.push v))) := Heap.SameBut.update ..
    have hS₃ : (s₂.heap.update S (Obj.mapSeq (·.push v))).get? S = some { cls := .type "list", dict := none, data := .seq (acc ++ [v]).toArray (c + 1), slots := #[] } := by
      rw [Heap.get?_update_self _ hS₂ rfl]; simp [Obj.mapSeq]
    have w₃ : WX K (fun a => X a ∨ a ∈ [it, S]) { s₂ with heap := s₂.heap.update S (Obj.mapSeq (·.push v)) } := w₂.upd (tk := s₂.toks) (.inr (.tail _ (.head _))) hS96 hsU ⟨_, hS₃⟩ (Nat.le_refl _)
    have keep3 : ∀ {b o}, b ∈ [M, T, l] → s.heap.get? b = some o → (s₂.heap.update S (Obj.mapSeq (·.push v))).get? b = some o := fun {b o} hb e =>
      (hsU.2 b (fun q => hn b hb (.inr (by simp [q])))).trans (keep hb e)
    have up3 : ∀ {vs ds}, RdAll (fun a => X a ∨ a ∈ [it, S]) s.heap vs ds → RdAll (fun a => X a ∨ a ∈ [it, S]) (s₂.heap.update S (Obj.mapSeq (·.push v))) vs ds := fun r => ((r.upd (.inr (.head _)) hs₁).kp w₁ k₂).upd (.inr (.tail _ (.head _))) hsU
    have kw₁ : Kw [it, S] s { s₂ with heap := s₂.heap.update S (Obj.mapSeq (·.push v)) } := by
      refine ex2E k₂ fun h2 t2 zz8 => and3E zz8 fun e2 l2 q2 => ?_
      subst e2
      exact ⟨_, t2, rfl, l2, fun b o hb hw e => (hsU.2 b (fun q => hw (by simp [q]))).trans (q2 b o hb ((hs₁.2 b (fun q => hw (by simp [q]))).trans e))⟩
    refine wpAny_pure ⟨plainId_quiet F.plain_extend_loop _, ih (i + 1) _ (acc ++ [v]) (c + 1) (by rw [Nat.sub_succ, hk]; rfl) hlt w₃ (keep3 (by simp) hM) (keep3 (by simp) hT) ?_ ?_ (up3 hr) hS₃ ?_ fun s' acc' c' kw wx' hS' hacc' => hR s' acc' c' (kw₁.trans kw) wx' hS' hacc'⟩
    · refine ex1E hit₁ fun o zz7 => and2E zz7 fun e q => ?_
      exact ⟨o, (hsU.2 it hits).trans (k₂.keep hi96 e), q⟩
    · refine ex1E hl fun o zz6 => and2E zz6 fun e q => ?_
      exact ⟨o, keep3 (by simp) e, q⟩
    · rw [take_snoc hd, List.map_append]
      exact (up3 hacc).append (.cons (r₂.upd (.inr (.tail _ (.head _))) hsU) .nil)
theorem call_tuple_map {M T it l : Addr} {f : Value} {vs : List Value} {ds : List D} {Q : Value → Shared → Prop} (g : D → D) (hh : A.handled = none) (wx : WX K (fun a => X a ∨ a ∈ [it]) s) (h96 : X 96) (hn : ∀ a ∈ [M, T, l], ¬ (X a ∨ a ∈ [it])) (hi96 : it ≠ 96) (hiX : ¬ X it)
    (hf : ∀ (X' : Addr → Prop), ∀ d ∈ ds, OpN prog w K A.in1.in1.in1.in1 X' (fun vs => call f vs) [d] (g d)) (hlen : ds.length ≤ sizeLine)
    (hM : s.heap.get? M = some (mapObj T f)) (hT : s.heap.get? T = some (oneTup (.ref it))) (hit : s.heap.IsListIter it l 0) (hl : s.heap.IsList l vs.toArray) (hr : RdAll (fun a => X a ∨ a ∈ [it]) s.heap vs ds)
    (hQ : ∀ v s', Kw [it] s s' → WX K X s' → Rd X s'.heap v (.tuple (ds.map g)) → Q v s') : wpAny (model prog w) A (call (.type "tuple") [.ref M]) Q E s := by
  have hTy : s.TypeIs (.ref M) "map" := ⟨_, hM, rfl⟩
  have hcol : ∀ (A : Around) (hh : A.handled = none) (hf : ∀ (X' : Addr → Prop), ∀ d ∈ ds, OpN prog w K A.in1.in1 X' (fun vs => call f vs) [d] (g d)) (R : Result → Shared → Prop),
      (∀ S acc c s', Kw [it] s s' → WX K X s' → S ≠ 96 → s'.heap.get? S = some { cls := .type "list", dict := none, data := .seq (List.toArray acc) c, slots := #[] } → RdAll X s'.heap acc (ds.map g) → R (.ok (.ret (.ref S))) s') → codeAny (model prog w) A (.builtin "proto.collect" ⟨[.ref M], []⟩) R s := by
    intro A hh hf R hR
    refine codeAny_builtin F.entry_proto_collect ?_
    rw [Around.under_plainId F.plain_proto_collect _]
    show wpAny _ A.in1 (newList [] >>= fun l => again (.builtin "list.__iadd__" ⟨[l, .ref M], []⟩)) _ _ s
    refine wpAny_bind (wpAny_newObj_type ?_)
    refine wpAny_pure ⟨plainId_quiet F.plain_list_iadd _, codeAny_builtin F.entry_list_iadd ?_⟩
    rw [Around.under_plainId F.plain_list_iadd _]
    have hk1 : ∀ b o, s.heap.get? b = some o → (s.heap.push { cls := .type "list", dict := none, data := .seq ([] : List Value).toArray }).get? b = some o := fun b o e => Heap.get?_push_of_some _ e
    have hS₁ : (s.heap.push { cls := .type "list", dict := none, data := .seq ([] : List Value).toArray }).get? s.heap.objs.size = some { cls := .type "list", dict := none, data := .seq ([] : List Value).toArray } := Heap.get?_push_size _ rfl
    generalize hH : s.heap.push { cls := .type "list", dict := none, data := .seq ([] : List Value).toArray } = H at hk1 hS₁
    have hSn : s.heap.get? s.heap.objs.size = none := none_ge (Nat.le_refl _)
    generalize hS : s.heap.objs.size = S at hS₁ hSn
    have hSM : S ≠ M := fun e => by rw [e, hM] at hSn; cases hSn
    have hT1 : Shared.TypeIs { s with heap := H } (.ref M) "map" := ⟨_, hk1 _ _ hM, rfl⟩
    show wpAny _ A.in1 (Builtin.List.listExtendWith (.ref S) (.ref M) (.ref S)) _ _ _
    unfold Builtin.List.listExtendWith
    refine wpAny_bind (wpAny_typeOf hT1 ?_)
    have h1 : Builtin.List.listSameRef (.ref S) (.ref M) = false := by simp [Builtin.List.listSameRef, hSM]
    have h2 : (Value.type "map" == Value.type "list") = false := by decide
    have h3 : (Value.type "map" == Value.type "tuple") = false := by decide
    simp only [h1, h2, h3, Bool.or_false, Bool.false_eq_true, if_false]
    refine wpAny_bind (wpAny_pyIter_slot hT1 slot_map_iter (wpAny_call_entry slot_map_iter hT1 entry_map_iter (wpAny_pure ⟨_, rfl, "map", _, hT1, slot_map_next.lookup, ?_⟩) (args_map_iter _)))
    refine wpAny_bind (wpAny_holding ?_)
    unfold Builtin.List.listLengthHint
    refine wpAny_bind (wpAny_specialOf hT1 map_no_len ?_)
    show wpAny _ A.in1 (specialOf (Value.ref M) (Str.ofString "__length_hint__") >>= _) _ _ _
    refine wpAny_bind (wpAny_specialOf hT1 map_no_hint ?_)
    refine wpAny_pure ?_
    show wpAny _ A.in1 (rule "list.extend.makes-room" >>= fun _ => Builtin.List.listTouch (.ref S) >>= fun _ =>
      again (.builtin "list.extend.loop" ⟨[.ref S, .ref M, .ref S], []⟩)) _ _ _
    refine wpAny_bind (wpAny_rule ?_)
    refine wpAny_bind ?_
    show wpAny _ A.in1 (updateSeq S (·.push .none) >>= fun _ => updateSeq S (·.pop)) _ _ _
    refine wpAny_bind (wpAny_updateSeq hS₁ rfl ?_)
    have hS₂ := Heap.get?_update_self (Obj.mapSeq (·.push Value.none)) hS₁ rfl
    refine wpAny_updateSeq hS₂ rfl ?_
    have hS₃ := Heap.get?_update_self (Obj.mapSeq (·.pop)) hS₂ rfl
    have oth : ∀ b o, b ≠ S → H.get? b = some o → ((H.update S (Obj.mapSeq (·.push Value.none))).update S (Obj.mapSeq (·.pop))).get? b = some o :=
      fun b o hb e => (Heap.get?_update_other _ _ (Ne.symm hb)).trans ((Heap.get?_update_other _ _ (Ne.symm hb)).trans e)
    generalize hH3 : (H.update S (Obj.mapSeq (·.push Value.none))).update S (Obj.mapSeq (·.pop)) = H3 at hS₃ oth
    have all : ∀ b o, s.heap.get? b = some o → H3.get? b = some o := fun b o e => oth b o (fun q => by rw [q, hSn] at e; cases e) (hk1 b o e)
    have hnew : ∀ b ∈ [S], s.heap.get? b = none := by intro b hb; simp at hb; rw [hb]; exact hSn
    have wj := wx.join (wr := [S]) (h' := H3) (Nat.le_refl s.toks) all hnew (by intro b hb; simp at hb; rw [hb]; exact ⟨_, hS₃⟩)
    have hXS : ¬ (X S ∨ S ∈ [it]) := wx.fresh hSn
    have hS96 : S ≠ 96 := fun e => hXS (.inl (e ▸ h96))
    have hSit : it ≠ S := fun e => hXS (.inr (by simp [e]))
    have wX : WX K (fun a => X a ∨ a ∈ [it, S]) { s with heap := H3 } := wj.weak (.inl h96) fun a q => by
      rcases q with q | q
      · exact .inl (.inl q)
      · simp at q; rcases q with q | q
        · exact .inl (.inr (by simp [q]))
        · exact .inr (by simp [q])
    have hX2 : ∀ a, (X a ∨ a ∈ [it, S]) → (X a ∨ a ∈ [it]) ∨ s.heap.get? a = none := fun a q => by
      rcases q with q | q
      · exact .inl (.inl q)
      · simp at q; rcases q with q | q
        · exact .inl (.inr (by simp [q]))
        · exact .inr (by rw [q]; exact hSn)
    refine wpAny_pure ⟨plainId_quiet F.plain_extend_loop _, map_loop (K := K) (X := X) (l := l) g hh h96 ?_ hSit hi96 hS96 hiX (hf _) hlen ds.length 0 { s with heap := H3 } [] _ rfl (Nat.zero_le _) wX (all _ _ hM) (all _ _ hT) ?_ ?_ (hr.mono hX2 fun b o _ e => all b o e) hS₃ .nil fun s' acc c kw w' hS' hacc => ?_⟩
    · intro a ha q
      rcases hX2 a q with q | q
      · exact hn a ha q
      · simp at ha
        rcases ha with rfl | rfl | rfl
        · rw [hM] at q; cases q
        · rw [hT] at q; cases q
        · refine ex1E hl fun o zz5 => and2E zz5 fun e _ => ?_; rw [e] at q; cases q
    · refine ex1E hit fun o zz4 => and2E zz4 fun e q => ?_; exact ⟨o, all _ _ e, q⟩
    · refine ex1E hl fun o zz3 => and2E zz3 fun e q => ?_; exact ⟨o, all _ _ e, q⟩
    · refine hR S acc c s' ?_ (w'.weak h96 fun a q => .inl q) hS96 hS' (mono0s (fun a q => .inl q) hacc)
      refine ex2E kw fun h2 t2 zz2 => and3E zz2 fun zz1 l2 q2 => ?_; subst zz1
      exact ⟨h2, t2, rfl, l2, fun b o hb hw e => q2 b o hb (fun z => by
        simp at z; rcases z with z | z
        · exact hw (by simp [z])
        · rw [z, hSn] at e; cases e) (all b o e)⟩
  refine callType_codes (Q₁ := fun obj s₁ => s₁.TypeIs obj "tuple" ∧ Q obj s₁) F.called_tuple (F.typeCall_tuple_1 _) F.entry_object_init ?_ fun obj s₁ h₁ => ?_
  rotate_left
  · exact ⟨h₁.1, F.args_object_init_2 obj _, object_init_meets F.called_tuple.init.lookup F.called_tuple.made (by decide) prog w A.in1 _ s₁ ⟨h₁.1, rfl, h₁.2⟩⟩
  refine codeAny_of_tree ?_
  show wpAny _ A.in1.in1 (do checkBuiltinCall "tuple.__new__" ⟨[.type "tuple", .ref M], []⟩; again (.builtin "tuple.__new__" ⟨[.type "tuple", .ref M], []⟩)) _ _ s
  refine wpAny_bind (wpAny_of_eq (F.newCall_tuple_1 _) (wpAny_pure ⟨plainId_quiet F.plain_tuple_new _, codeAny_builtin F.entry_tuple_new ?_⟩))
  rw [Around.under_plainId F.plain_tuple_new _]
  have hsub := sub_tuple_self
  have hinit := init_tuple_lookup
  have hmh := madeHere_tuple
  have z0 := zl
  wp_walk using wpAny_typeOf hTy
  refine hcol A.in1.in1 hh hf _ fun S acc c s' kw wx' hS96 hS' hacc => ?_
  refine wpAny_bind (wpAny_load hS' (wpAny_pure ?_))
  show wpAny _ _ (Builtin.Tuple.tupleExact acc.toArray >>= fun v => ret v) _ _ _
  unfold Builtin.Tuple.tupleExact
  have lacc : acc.length = ds.length := by rw [hacc.length, List.length_map]
  refine wpAny_bind (wpAny_newObj_type ?_ (by show acc.toArray.size ≤ sizeLine; rw [List.size_toArray]; lia))
  have hk : ∀ b o, s'.heap.get? b = some o → (s'.heap.push ({ cls := .type "tuple", data := .seq acc.toArray } : Obj)).get? b = some o := fun b o e => Heap.get?_push_of_some _ e
  refine wpAny_pure ⟨⟨_, Heap.get?_push_size _ rfl, rfl⟩, hQ _ _ (kw.trans (Kp.of (Nat.le_refl _) hk).kw) (wx'.more (Nat.le_refl _) hk) (.tuple wx'.fresh_size ⟨_, Heap.get?_push_size _ rfl, rfl, _, rfl⟩ (hacc.mono (fun _ q => .inl q) fun _ _ _ e => hk _ _ e))⟩
end
end Mine
end
-- MapIt4
section
open PySem PySem.W PySem.Calls PyProof.Rows PySem.Builtin PySem.Builtin.Str
namespace Mine
section
variable {K : Frag} {A : Around} {env : Env} {nms : Nms} {X : Addr → Prop} {σ : List (Option D)}
theorem Ev_tuplemap {te me fe le : Expr} {p1 p2 : Pos} {fv : Value} {ds : List D} (g : D → D) (hh : A.handled = none) (hte : Ev prog w K A env nms X σ te (.val (.type "tuple"))) (hme : Ev prog w K A env nms X σ me (.val (.type "map")))
    (hfe : Ev prog w K A env nms X σ fe (.val fv)) (hle : Ev prog w K A env nms X σ le (.list ds)) (hlen : ds.length ≤ sizeLine)
    (hf : ∀ (X' : Addr → Prop), ∀ d ∈ ds, OpN prog w K A.in1.in1.in1.in1 X' (fun vs => call fv vs) [d] (g d))
    (hst : starEach [.Call me [fe, le] [] p2] env = (false, eval (.Call me [fe, le] [] p2) env) :: starEach [] env := by rfl)
    (hst2 : starEach [fe, le] env = (false, eval fe env) :: starEach [le] env := by rfl) (hst3 : starEach [le] env = (false, eval le env) :: starEach [] env := by rfl)
    (he2 : eval (.Call me [fe, le] [] p2) env = (do callWith p2 (← eval me env) [] (backTo p2 (starEach [fe, le] env)) (backToKw p2 (keywordEach [] env))) := by rfl)
    (he1 : eval (.Call te [.Call me [fe, le] [] p2] [] p1) env = (do callWith p1 (← eval te env) [] (backTo p1 (starEach [.Call me [fe, le] [] p2] env)) (backToKw p1 (keywordEach [] env))) := by rfl) :
    Ev prog w K A env nms X σ (.Call te [.Call me [fe, le] [] p2] [] p1) (.tuple (ds.map g)) := by
  intro s Q E st hQ
  refine Call_ (hte _ _ st fun v s₁ k₁ w₁ r₁ => ?_) he1
  refine Rd.valE r₁ ?_
  refine PyProof.Rows.callWith_type (by rw [hst]; rfl) ?_
  rw [hst]
  refine evalArgs_plain (spliced_cons (Call_ (hme _ _ (st.kp k₁ w₁) fun v s₂ k₂ w₂ r₂ => ?_) he2))
  refine Rd.valE r₂ ?_
  have k₁₂ := k₁.trans k₂
  have ha : EvAll prog w K A env nms X σ [fe, le] [.val fv, .list ds] := .cons hst2 hfe (.cons hst3 hle .nil)
  refine PyProof.Rows.callWith_type (ha.plain p2) (ha.args _ p2 s₂ _ _ (st.kp k₁₂ w₂) fun vs s₃ k₃ w₃ r₃ => ?_)
  have k₁₃ := k₁₂.trans k₃
  refine RdAll.E2 r₃ fun _ _ a b => ?_; cases a; refine Rd.listE b fun _ _ hn hg r => ?_
  rename_i l vs
  refine ex1E (id hg) fun ol zz3 => and2E zz3 fun hol _ => ?_
  refine call_map hg ?_
  refine wpAny_pure ?_
  have hit0 : s₃.heap.get? s₃.heap.objs.size = none := none_ge (Nat.le_refl _)
  have hT0 : s₃.heap.get? (s₃.heap.objs.size + 1) = none := none_ge (Nat.le_succ _)
  have hM0 : s₃.heap.get? (s₃.heap.objs.size + 2) = none := none_ge (Nat.le_add_right _ 2)
  have e1 : (s₃.heap.push (litObj l)).get? s₃.heap.objs.size = some (litObj l) := Heap.get?_push_size _ rfl
  have z1 : (s₃.heap.push (litObj l)).objs.size = s₃.heap.objs.size + 1 := Heap.size_push ..
  have e2 : ((s₃.heap.push (litObj l)).push (oneTup (.ref s₃.heap.objs.size))).get? (s₃.heap.objs.size + 1) = some (oneTup (.ref s₃.heap.objs.size)) := by rw [← z1]; exact Heap.get?_push_size _ rfl
  have z2 : ((s₃.heap.push (litObj l)).push (oneTup (.ref s₃.heap.objs.size))).objs.size = s₃.heap.objs.size + 2 := by rw [Heap.size_push, z1]
  have e3 : (((s₃.heap.push (litObj l)).push (oneTup (.ref s₃.heap.objs.size))).push (mapObj (s₃.heap.objs.size + 1) fv)).get? (s₃.heap.objs.size + 2) = some (mapObj (s₃.heap.objs.size + 1) fv) := by rw [← z2]; exact Heap.get?_push_size _ rfl
  have q1 : ∀ b o, s₃.heap.get? b = some o → (((s₃.heap.push (litObj l)).push (oneTup (.ref s₃.heap.objs.size))).push (mapObj (s₃.heap.objs.size + 1) fv)).get? b = some o :=
    fun b o e => Heap.get?_push_of_some _ (Heap.get?_push_of_some _ (Heap.get?_push_of_some _ e))
  have e1' := Heap.get?_push_of_some (mapObj (s₃.heap.objs.size + 1) fv) (Heap.get?_push_of_some (oneTup (.ref s₃.heap.objs.size)) e1)
  have e2' := Heap.get?_push_of_some (mapObj (s₃.heap.objs.size + 1) fv) e2
  generalize (((s₃.heap.push (litObj l)).push (oneTup (.ref s₃.heap.objs.size))).push (mapObj (s₃.heap.objs.size + 1) fv)) = H at e1' e2' e3 q1
  have wj := w₃.join (wr := [s₃.heap.objs.size]) (h' := H) (Nat.le_refl s₃.toks) q1 (by intro b hb; simp at hb; rw [hb]; exact hit0) (by intro b hb; simp at hb; rw [hb]; exact ⟨_, e1'⟩)
  have hXf : ∀ {a}, s₃.heap.get? a = none → ¬ X a := fun e => w₃.fresh e
  have h96 : ∀ {a}, s₃.heap.get? a = none → a ≠ 96 := fun e q => hXf e (q ▸ w₃.x96)
  refine call_tuple_map (K := K) (X := X) (l := l) (it := s₃.heap.objs.size) (T := s₃.heap.objs.size + 1) (f := fv) (vs := vs) g hh wj w₃.x96 ?_ (h96 hit0) (hXf hit0) hf hlen e3 e2' ⟨_, e1', rfl, rfl⟩ ⟨_, q1 _ _ hol, (by assumption)⟩
    (r.mono (fun a q => q.imp id fun z => by simp at z; rw [z]; exact hit0) fun b o _ e => q1 b o e) fun v s₄ kw w₄ r₄ => ?_
  · intro a ha q
    simp at ha
    rcases q with q | q
    · rcases ha with rfl | rfl | rfl
      · exact hXf hM0 q
      · exact hXf hT0 q
      · exact hn q
    · simp at q
      rcases ha with e | e | e
      · exact absurd (e.symm.trans q) (Nat.ne_of_gt (Nat.lt_add_of_pos_right (by decide)))
      · exact absurd (e.symm.trans q) (Nat.ne_of_gt (Nat.lt_add_of_pos_right (by decide)))
      · rw [← e, q, hit0] at hol; cases hol
  · refine hQ v s₄ (k₁₃.trans ?_) w₄ r₄
    refine ex2E kw fun h2 t2 zz2 => and3E zz2 fun zz1 l2 q2 => ?_; subst zz1
    exact ⟨h2, t2, rfl, l2, fun b o hb e => q2 b o hb (fun z => by simp at z; rw [z, hit0] at e; cases e) (q1 b o e)⟩
end
end Mine
end
-- Bm
section
open PySem PySem.W PySem.Calls PyProof.Rows PySem.Builtin PySem.Builtin.Str
namespace Mine
theorem md_get : typeLookup (.type "method_descriptor") "__get__" = pure (some (.builtin "method_descriptor.__get__")) := by rw [typeLookup_type, builtinLookup_eq_fast]; kernel_rfl
theorem md_set : typeLookup (.type "method_descriptor") "__set__" = pure none := by rw [typeLookup_type, builtinLookup_eq_fast]; kernel_rfl
theorem md_del : typeLookup (.type "method_descriptor") "__delete__" = pure none := by rw [typeLookup_type, builtinLookup_eq_fast]; kernel_rfl
theorem md_entry : entryFor table "method_descriptor.__get__" = some Builtin.«method_descriptor.__get__» := entryFor_of_tree (by kernel_rfl)
theorem ty_append : typeOf (.builtin "list.append") = pure (.type "method_descriptor") := type_list_append
theorem tyIs_append (s : Shared) : s.TypeIs (.builtin "list.append") "method_descriptor" := ty_append
theorem slot_md_get : Slot "method_descriptor" "__get__" "method_descriptor.__get__" :=
  .of (owner := "method_descriptor") (n := "__get__") (by rw [typeLookup_type, builtinLookup_eq_fast]; kernel_rfl) (by decide +kernel) (by decide +kernel) (by decide +kernel)
    (by first | exact .inl (by decide +kernel) | exact .inr (by decide +kernel)) (by rw [isSubtype_type]; kernel_rfl)
theorem args_md_get (a b c : Value) : argsOk "method_descriptor.__get__" ⟨[a, b, c], []⟩ := by unfold argsOk; kernel_rfl
theorem sub_owner_append : isSubtype (.type "list") (.type (".".intercalate ("list.append".cutAt '.').dropLast)) = pure true := by
  rw [show (".".intercalate ("list.append".cutAt '.').dropLast) = "list" from by decide +kernel, isSubtype_type]; kernel_rfl
noncomputable def bmObj (a : Addr) : Obj := { cls := .type "builtin_function_or_method", data := .fields #[.builtin "list.append", .ref a] }
section
variable {A : Around} {E : Value → Shared → Prop} {h : Heap} {g : Array GenState} {d : Drawn} {t : Nat} {os : OsState} {a : Addr} {o : Obj}
theorem bm_get {R : Result → Shared → Prop} (hx : h.get? a = some o) (hc : o.cls = .type "list") (hq : R (.ok (.ret (.ref h.objs.size))) ⟨h.push (bmObj a), g, d, t, os⟩) :
    codeAny (model prog w) A (.call (.builtin "method_descriptor.__get__") ⟨[.builtin "list.append", .ref a, .type "list"], []⟩) R ⟨h, g, d, t, os⟩ := by
  have hT : (⟨h, g, d, t, os⟩ : Shared).TypeIs (.ref a) "list" := ⟨_, hx, hc⟩
  have hT5 := tyIs_append ⟨h, g, d, t, os⟩
  have f8 := sub_owner_append
  refine codeAny_call_builtin slot_md_get.plain md_entry (slot_md_get.check _ _ _ _ _ _ _ _ hT5 (args_md_get _ _ _) ?_)
  have z0 := zl
  repeat (any_goals (first | with_reducible assumption | with_reducible (first | refine wpAny_pure ?_ | refine wpAny_bind ?_ | refine wpAny_holding ?_ | refine wpAny_rule ?_ | refine wpAny_attempt ?_ | refine wpAny_of_eq (by assumption) ?_ | refine wpAny_typeOf (by assumption) ?_ | refine wpAny_specialOf_val (by assumption) (by assumption) ?_ | refine wpAny_specialOf (by assumption) (by assumption) ?_ | refine wpAny_isInstance_val (by assumption) (by assumption) ?_ | refine wpAny_isInstance (by assumption) (by assumption) ?_ | refine wpAny_call ?_ | refine wpAny_runValue ?_ | refine wpAny_run ?_) | ((with_reducible first | show wpAny _ _ (load _) _ _ _ | show wpAny _ _ (loadPart _ _) _ _ _ | show wpAny _ _ (alloc _) _ _ _ | show wpAny _ _ (ite _ _ _) _ _ _); wp_step) | wp_delta | wp_step | assumption))
theorem bm_entry {tk : Tok} {Q : Fin → Shared → Prop} {vs : Array Value} {ep : Nat} (hx : h.get? a = some (W.listOf vs ep)) (hq : Q (.done (.ret (.ref h.objs.size))) ⟨h.push (bmObj a), g, d, t, os⟩) :
    wpAny (model prog w) A (Builtin.«object.__getattribute__» ⟨[.ref a, .str "append" tk], []⟩) Q E ⟨h, g, d, t, os⟩ := by
  have hT : (⟨h, g, d, t, os⟩ : Shared).TypeIs (.ref a) "list" := ⟨_, hx, rfl⟩
  have hT5 := tyIs_append ⟨h, g, d, t, os⟩
  have f1 := slot_list_append.lookup
  have f6 := md_get
  have f7 := md_set
  have f9 := md_del
  unfold W.listOf at hx
  have z0 := zl
  repeat (any_goals (first | with_reducible assumption | with_reducible (first | refine wpAny_pure ?_ | refine wpAny_bind ?_ | refine wpAny_holding ?_ | refine wpAny_rule ?_ | refine wpAny_attempt ?_ | refine wpAny_of_eq (by assumption) ?_ | refine wpAny_typeOf (by assumption) ?_ | refine wpAny_specialOf_val (by assumption) (by assumption) ?_ | refine wpAny_specialOf (by assumption) (by assumption) ?_ | refine wpAny_isInstance_val (by assumption) (by assumption) ?_ | refine wpAny_isInstance (by assumption) (by assumption) ?_ | refine wpAny_call ?_ | refine wpAny_runValue ?_ | refine wpAny_run ?_) | ((with_reducible first | show wpAny _ _ (load _) _ _ _ | show wpAny _ _ (loadPart _ _) _ _ _ | show wpAny _ _ (alloc _) _ _ _ | show wpAny _ _ (ite _ _ _) _ _ _); wp_step) | wp_delta | wp_step | assumption))
  exact bm_get hx rfl (wpAny_pure hq)
theorem bm_call {tk : Tok} {R : Result → Shared → Prop} {vs : Array Value} {ep : Nat} (hx : h.get? a = some (W.listOf vs ep)) (hq : R (.ok (.ret (.ref h.objs.size))) ⟨h.push (bmObj a), g, d, t, os⟩) :
    codeAny (model prog w) A (.call (.builtin "list.__getattribute__") ⟨[.ref a, .str "append" tk], []⟩) R ⟨h, g, d, t, os⟩ :=
  codeAny_call_builtin F.slot_list_getattribute.plain F.entry_list_ga (F.slot_list_getattribute.check _ _ _ _ _ _ _ _ (show (⟨h, g, d, t, os⟩ : Shared).TypeIs (.ref a) "list" from ⟨_, hx, rfl⟩) (F.args_list_getattribute_2 _ _) (bm_entry hx hq))
theorem bm_by {tk : Tok} {Q : Value → Shared → Prop} {vs : Array Value} {ep : Nat} {e : Bool} (hx : h.get? a = some (W.listOf vs ep)) (hq : Q (.ref h.objs.size) ⟨h.push (bmObj a), g, d, t, os⟩) :
    wpAny (model prog w) A (getAttrBy (.ref a) (.str "append" tk) true e) Q E ⟨h, g, d, t, os⟩ := by
  have hT : (⟨h, g, d, t, os⟩ : Shared).TypeIs (.ref a) "list" := ⟨_, hx, rfl⟩
  have f2 := F.slot_list_getattribute.lookup
  have f3 := F.slot_list_getattribute.bind (.ref a)
  cases e
  · have z0 := zl
    repeat (any_goals (first | with_reducible assumption | with_reducible (first | refine wpAny_pure ?_ | refine wpAny_bind ?_ | refine wpAny_holding ?_ | refine wpAny_rule ?_ | refine wpAny_attempt ?_ | refine wpAny_of_eq (by assumption) ?_ | refine wpAny_typeOf (by assumption) ?_ | refine wpAny_specialOf_val (by assumption) (by assumption) ?_ | refine wpAny_specialOf (by assumption) (by assumption) ?_ | refine wpAny_isInstance_val (by assumption) (by assumption) ?_ | refine wpAny_isInstance (by assumption) (by assumption) ?_ | refine wpAny_call ?_ | refine wpAny_runValue ?_ | refine wpAny_run ?_) | ((with_reducible first | show wpAny _ _ (load _) _ _ _ | show wpAny _ _ (loadPart _ _) _ _ _ | show wpAny _ _ (alloc _) _ _ _ | show wpAny _ _ (ite _ _ _) _ _ _); wp_step) | wp_delta | wp_step | assumption))
    refine bm_call hx ?_
    have z0 := zl
    repeat (any_goals (first | with_reducible assumption | with_reducible (first | refine wpAny_pure ?_ | refine wpAny_bind ?_ | refine wpAny_holding ?_ | refine wpAny_rule ?_ | refine wpAny_attempt ?_ | refine wpAny_of_eq (by assumption) ?_ | refine wpAny_typeOf (by assumption) ?_ | refine wpAny_specialOf_val (by assumption) (by assumption) ?_ | refine wpAny_specialOf (by assumption) (by assumption) ?_ | refine wpAny_isInstance_val (by assumption) (by assumption) ?_ | refine wpAny_isInstance (by assumption) (by assumption) ?_ | refine wpAny_call ?_ | refine wpAny_runValue ?_ | refine wpAny_run ?_) | ((with_reducible first | show wpAny _ _ (load _) _ _ _ | show wpAny _ _ (loadPart _ _) _ _ _ | show wpAny _ _ (alloc _) _ _ _ | show wpAny _ _ (ite _ _ _) _ _ _); wp_step) | wp_delta | wp_step | assumption))
  · have z0 := zl
    repeat (any_goals (first | with_reducible assumption | with_reducible (first | refine wpAny_pure ?_ | refine wpAny_bind ?_ | refine wpAny_holding ?_ | refine wpAny_rule ?_ | refine wpAny_attempt ?_ | refine wpAny_of_eq (by assumption) ?_ | refine wpAny_typeOf (by assumption) ?_ | refine wpAny_specialOf_val (by assumption) (by assumption) ?_ | refine wpAny_specialOf (by assumption) (by assumption) ?_ | refine wpAny_isInstance_val (by assumption) (by assumption) ?_ | refine wpAny_isInstance (by assumption) (by assumption) ?_ | refine wpAny_call ?_ | refine wpAny_runValue ?_ | refine wpAny_run ?_) | ((with_reducible first | show wpAny _ _ (load _) _ _ _ | show wpAny _ _ (loadPart _ _) _ _ _ | show wpAny _ _ (alloc _) _ _ _ | show wpAny _ _ (ite _ _ _) _ _ _); wp_step) | wp_delta | wp_step | assumption))
    refine bm_call hx ?_
    have z0 := zl
    repeat (any_goals (first | with_reducible assumption | with_reducible (first | refine wpAny_pure ?_ | refine wpAny_bind ?_ | refine wpAny_holding ?_ | refine wpAny_rule ?_ | refine wpAny_attempt ?_ | refine wpAny_of_eq (by assumption) ?_ | refine wpAny_typeOf (by assumption) ?_ | refine wpAny_specialOf_val (by assumption) (by assumption) ?_ | refine wpAny_specialOf (by assumption) (by assumption) ?_ | refine wpAny_isInstance_val (by assumption) (by assumption) ?_ | refine wpAny_isInstance (by assumption) (by assumption) ?_ | refine wpAny_call ?_ | refine wpAny_runValue ?_ | refine wpAny_run ?_) | ((with_reducible first | show wpAny _ _ (load _) _ _ _ | show wpAny _ _ (loadPart _ _) _ _ _ | show wpAny _ _ (alloc _) _ _ _ | show wpAny _ _ (ite _ _ _) _ _ _); wp_step) | wp_delta | wp_step | assumption))
end
theorem bm_attr {A : Around} {E : Value → Shared → Prop} {s : Shared} {a : Addr} {Q : Value → Shared → Prop} {vs : Array Value} {ep : Nat} {e : Bool} (hx : s.heap.get? a = some (W.listOf vs ep)) (hq : Q (.ref s.heap.objs.size) { s with heap := s.heap.push (bmObj a), toks := s.toks + 1 }) :
    wpAny (model prog w) A (getAttr (.ref a) "append" e) Q E s := by
  obtain ⟨h, g, d, t, os⟩ := s
  unfold getAttr
  refine wpAny_bind ?_
  intro Γ p hΓ
  exact bm_by (A := A) (E := E) (t := t + 1) (tk := t) (Q := Q) (e := e) hx hq
section
variable {A : Around} {E : Value → Shared → Prop} {h : Heap} {g : Array GenState} {d : Drawn} {t : Nat} {os : OsState} {a b : Addr}
theorem kind_append : builtinKind "list.append" = some .method := by decide +kernel
theorem sub_list_module : isSubtype (.type "list") (.type "module") = pure false := by rw [isSubtype_type]; kernel_rfl
theorem va_append : Manifest.varargsMethods.contains "list.append" = false := by decide +kernel
theorem bm_args (a v : Value) : (match Manifest.signature? "list.append" with | some sig => Bind.checkArgs "list.append" { sig with full := s!"{Bind.lastOf "list"}.{Bind.lastOf "list.append"}" } ⟨[a, v], []⟩ | none => unsupported "no") = pure () := by kernel_rfl
theorem bm_check {v : Value} {Q : Unit → Shared → Prop} {vs : Array Value} {ep : Nat} (hx : h.get? a = some (W.listOf vs ep)) (hq : Q () ⟨h, g, d, t, os⟩) :
    wpAny (model prog w) A (checkBoundCall "list.append" ⟨[.ref a, v], []⟩) Q E ⟨h, g, d, t, os⟩ := by
  have hT : (⟨h, g, d, t, os⟩ : Shared).TypeIs (.ref a) "list" := ⟨_, hx, rfl⟩
  have f1 := sub_list_module
  have ha := bm_args (.ref a) v
  unfold W.listOf at hx
  unfold checkBoundCall
  cases hs : Manifest.signature? "list.append" with
  | none => exact absurd hs (by decide +kernel)
  | some sig =>
    rw [hs] at ha
    rw [kind_append]
    have ha : Bind.checkArgs "list.append" { sig with full := s!"{Bind.lastOf "list"}.{Bind.lastOf "list.append"}" } ⟨[.ref a, v], []⟩ = pure () := ha
    refine wpAny_bind (wpAny_isInstance (b := false) hT f1 ?_)
    rw [va_append]
    refine wpAny_bind (m := isType _) ?_
    have z0 := zl
    repeat (any_goals (first | with_reducible assumption | (rw [ha]; exact wpAny_pure hq) | (rw [f1]) | wp_step | assumption))
theorem bm_append {v : Value} {R : Result → Shared → Prop} {vs : Array Value} {ep : Nat} (hb : h.get? b = some (bmObj a)) (hx : h.get? a = some (W.listOf vs ep))
    (hq : ∀ A' : Around, wpAny (model prog w) A' (updateSeq a (·.push v)) (fun _ s' => R (.ok (.ret .none)) s') (fun e s' => R (.error e) s') ⟨h, g, d, t, os⟩) : codeAny (model prog w) A (.call (.ref b) ⟨[v], []⟩) R ⟨h, g, d, t, os⟩ := by
  refine codeAny_of_tree ?_
  show wpAny _ _ (callAny (.ref b) ⟨[v], []⟩) _ _ _
  refine wpAny_bind (m := load b) (wpAny_load hb ?_)
  show wpAny _ _ (checkBoundCall "list.append" ⟨[.ref a, v], []⟩ >>= fun _ => again (.builtin "list.append" ⟨[.ref a, v], []⟩)) _ _ _
  refine wpAny_bind (bm_check hx ?_)
  refine wpAny_pure ⟨Code.quiet_builtin _ (by decide +kernel), codeAny_builtin entry_list_append ?_⟩
  show wpAny _ _ (updateSeq a (·.push v) >>= fun _ => ret .none) _ _ _
  exact wpAny_bind (wpAny_mono (hq _) (fun _ s' h' => wpAny_pure h') fun _ _ h' => h')
end
theorem callWith_bm {A : Around} {E : Value → Shared → Prop} {s : Shared} {pos : Pos} {a b : Addr} {args : List (Bool × Sem Value)} {Q : Value → Shared → Prop} (hplain : args.any (·.1) = false)
    (h : wpAny (model prog w) A (evalArgs (.ref b) true args []) (fun x s₁ => s₁.heap.get? b = some (bmObj a) ∧ wpAny (model prog w) A (call (.ref b) x.pos x.kw) Q E s₁) E s) :
    wpAny (model prog w) A (callWith pos (.ref b) [] args []) Q E s := by
  unfold callWith
  refine wpAny_bind (wpAny_holding (wpAny_mono h (fun x s₁ h₁ => wpAny_bind (wpAny_standAt ?_)) fun _ _ x => x))
  rw [hplain]
  refine wpAny_bind (wpAny_bind (wpAny_load h₁.1 ?_))
  show wpAny _ _ (pure Keeper.machine) _ _ _
  refine wpAny_pure ?_
  exact wpAny_bind (wpAny_mono h₁.2 (fun r s₂ hr => wpAny_bind (wpAny_holding (wpAny_point (wpAny_pure hr)))) fun _ _ x => x)
section
variable {K : Frag} {A : Around} {env : Env} {nms nmsC : Nms} {X Xc Xc' : Addr → Prop} {own own' : Own} {sh : Own} {σ σC : List (Option D)} {P : Out → Prop} {s s' : Shared} {E : Value → Shared → Prop}
theorem ExS_getapp (i j : Nat) {n rn : String} {k rk : NameKind} {p0 np apos pos : Pos} {a : Addr} {ds : List D} (hn : nms[j]? = some (n, k)) (hk : k = .local ∨ k = .cell) (hrn : nms[i]? = some (rn, rk)) (hrk : rk = .local ∨ rk = .cell) (hm : (i, a, ds) ∈ sh) (hij : i ≠ j)
    (hf : (sh.all fun p => p.1 != j) = true) (hp : ∀ b, P (.next sh (σ.set j (some (.obj b (bmObj a))))))
    (hs : swapsWith (.Attribute (.Name rn np) "append" apos) (some (.Name n p0)) pos.line env = pure false := by rfl) :
    ExS prog w K A env nms Xc sh σ (.Assign [.Name n p0] (.Attribute (.Name rn np) "append" apos) pos) P := by
  intro own s Q E eo x hQ
  have f1 : ∀ p ∈ own, p.1 ≠ j := notkey eo hf
  have ha := mem_shape eo hm
  have x0 := x
  refine ex1E x0 fun m y => ?_
  refine ex4E (y.ow _ ha) fun n' k' vs ep zz5 => and4E zz5 fun h1 h2 h3 h4 => ?_
  rw [hrn] at h1; cases h1
  have hK := y.eo.kindOf hrn
  refine wpAny_Assign_Name (Attribute_name ?_) hs
  have fin : wpAny (model prog w) A (getAttr (.ref a) "append" true) (fun v s₁ => wpAny (model prog w) A (storeName env n v) (fun _ => Q Flow.next) E s₁) E s := by
    refine bm_attr h3 ?_
    have hkk : ∀ c o, s.heap.get? c = some o → (s.heap.push (bmObj a)).get? c = some o := fun c o e => Heap.get?_push_of_some _ e
    have kp : Kp s { s with heap := s.heap.push (bmObj a), toks := s.toks + 1 } := Kp.of (Nat.le_succ _) hkk
    have x₁ := x.kp kp (x.wx.more (Nat.le_succ _) hkk)
    refine St.store' j x₁ hn hk f1 (.obj (o := bmObj a) x.wx.fresh_size (Heap.get?_push_size _ rfl)) fun s' x' kf => ?_
    exact hQ _ _ _ (hp s.heap.objs.size) ⟨rfl, own, eo, x', (Kp.kf kp).trans (Fresher.refl _ _) kf, Fresher.refl _ _⟩
  refine wpAny_Name ?_ (y.eo.plain hrn).1
  rcases hrk with rfl | rfl
  · refine ex1E y.frm.ns fun m0 zz4 => and2E zz4 fun hm0 hm => ?_
    exact wpAny_loadName_local y.eo.kind hK hm0 ((hm _ hK).trans h2) fin
  · refine ex1E (y.frm.cell _ (.inl hK)) fun c zz3 => and2E zz3 fun g1 g2 => ?_
    rw [h2] at g2
    exact wpAny_loadName_cell y.eo.kind hK g1 g2 fin
theorem ExS_app (i j : Nat) {n : String} {k : NameKind} {np cpos pos : Pos} {e : Expr} {a b : Addr} {d : D} {ds : List D} (hn : nms[j]? = some (n, k)) (hk : k = .local ∨ k = .cell) (hj : σ[j]? = some (some (.obj b (bmObj a)))) (hm : (i, a, ds) ∈ sh) (hsz : ds.length ≤ sizeLine)
    (he : EvS prog w K A env nms Xc sh σ e d) (hp : P (.next (updO sh i d) σ)) (hst : starEach [e] env = [(false, eval e env)] := by rfl)
    (hc : eval (.Call (.Name n np) [e] [] cpos) env = (do callWith cpos (← eval (.Name n np) env) [] (backTo cpos (starEach [e] env)) (backToKw cpos (keywordEach [] env))) := by rfl)
    (hi : interactive env = false := by rfl) (hs : swapsWith (.Call (.Name n np) [e] [] cpos) none pos.line env = pure false := by rfl) :
    ExS prog w K A env nms Xc sh σ (.Expr (.Call (.Name n np) [e] [] cpos) pos) P := by
  intro own s Q E eo x hQ
  have ha := mem_shape eo hm
  refine wpAny_Expr ?_ hi hs
  have hev : Ev prog w K A env nms (XO Xc env own) σ (.Name n np) (.obj b (bmObj a)) := Ev_name j hn hj (by rcases hk with h | h; exact .inl h; exact .inr (.inl h))
  refine Call_ (hev _ _ x.ste fun v₀ s₀ k₀ w₀ r₀ => ?_) hc
  cases r₀ with | obj hb eb =>
  have x₀ := x.kp k₀ w₀
  have hall : EvAll prog w K A env nms (XO Xc env own) σ [e] [d] := .cons hst (he own eo) .nil
  refine callWith_bm (a := a) (hall.plain cpos) (hall.args _ cpos s₀ _ _ x₀.ste fun vs s₁ k₁ w₁ r₁ => ⟨k₁.keep (w₀.ne96 hb) eb, ?_⟩)
  have x₁ := x₀.kp k₁ w₁
  cases r₁ with | cons r r₁ =>
  cases r₁
  have x1 := x₁
  refine ex1E x1 fun m y => ?_
  refine ex4E (y.ow _ ha) fun n' k' vs ep zz2 => and4E zz2 fun h1 h2 h3 h4 => ?_
  refine wpAny_call ?_
  have eb1 := k₁.keep (w₀.ne96 hb) eb
  obtain ⟨hh, gg, dd, tt, oo⟩ := s₁
  refine bm_append eb1 h3 fun A' => ?_
  refine St.append x₁ ha r hsz fun s' x' kf => ?_
  refine hQ _ _ _ hp ⟨rfl, _, ?_, x', (Kp.kf (k₀.trans k₁)).trans (Fresher.refl _ _) kf, ?_⟩
  · rw [updO_shape, eo]
  · intro p hp'
    have : p.2.1 ∈ (updO own i d).map (·.2.1) := List.mem_map.mpr ⟨p, hp', rfl⟩
    rw [updO_addr] at this
    refine ex1E (List.mem_map.mp this) fun q zz1 => and2E zz1 fun hq e => ?_
    exact .inl ⟨q, hq, e⟩
end
end Mine
end
-- Sub
section
open PySem PySem.W PySem.Calls PyProof.Rows PySem.Builtin PySem.Builtin.Str
namespace Mine
theorem re_ga : typeLookup (.type "re.Pattern") "__getattribute__" = pure (some (.builtin "object.__getattribute__")) := by rw [typeLookup_type, builtinLookup_eq_fast]; kernel_rfl
theorem canon_obj_ga : (Manifest.canonical "object.__getattribute__" != "object.__getattribute__") = false := by decide +kernel
theorem re_gattr : typeLookup (.type "re.Pattern") "__getattr__" = pure none := by rw [typeLookup_type, builtinLookup_eq_fast]; kernel_rfl
theorem re_sub_lk : typeLookup (.type "re.Pattern") "sub" = pure (some (.builtin "re.Pattern.sub")) := by rw [typeLookup_type, builtinLookup_eq_fast]; kernel_rfl
theorem re_sub_ty : typeOf (.builtin "re.Pattern.sub") = pure (.type "method_descriptor") := by show builtinType _ = _; rw [builtinType_eq_fast]; kernel_rfl
theorem gm_sub {M : Model} {A : Around} {E : Value → Shared → Prop} {s : Shared} {l : Addr} {o : Obj} {pl : Sem Bool} {Q : Value × List Value → Shared → Prop} (ho : s.heap.get? l = some o) (hc : o.cls = .type "re.Pattern") (hd : o.dict = none)
    (h : Q (.builtin "re.Pattern.sub", [.ref l]) s) : wpAny M A (getMethod (.ref l) "sub" pl) Q E s := by
  have hT : s.TypeIs (.ref l) "re.Pattern" := ⟨o, ho, hc⟩
  unfold getMethod
  refine wpAny_bind (wpAny_specialOf hT re_ga ?_)
  show wpAny M A (if (Manifest.canonical "object.__getattribute__" != "object.__getattribute__") = true then _ else _) Q E s
  rw [canon_obj_ga, if_neg Bool.false_ne_true]
  refine wpAny_bind (wpAny_specialOf hT re_gattr ?_)
  refine wpAny_bind (wpAny_specialOf hT re_sub_lk ?_)
  refine wpAny_bind (wpAny_of_eq re_sub_ty ?_)
  refine wpAny_bind (wpAny_load ho ?_)
  rw [hd]
  exact wpAny_bind (wpAny_rule (wpAny_pure h))
section
variable {prog : Program} {w : World} {A : Around} {X : Addr → Prop} {E : Value → Shared → Prop} {s : Shared}
theorem WX.kp96 {K : Frag} {h' : Heap} {tk : Nat} (x : WX K X s) (l : s.toks ≤ tk) (hk : ∀ b o, b ≠ 96 → s.heap.get? b = some o → h'.get? b = some o) (tb : TabInv X h') : WX K X { s with heap := h', toks := tk } where
  kin := fun a o e => hk a o (fun q => by rw [q, (x.xk 96 x.x96).1] at e; cases e) (x.kin a o e)
  xk := x.xk
  bi := by
    refine ex1E x.bi fun mb zz8 => and2E zz8 fun zz7 q => ?_; obtain ⟨o, es, ep, e, r⟩ := zz7
    exact ⟨mb, ⟨o, es, ep, hk _ _ (Ne.symm (x.xk 96 x.x96).2) e, r⟩, q⟩
  tb := tb
  pos := Nat.lt_of_lt_of_le x.pos l
  x96 := x.x96
  xb := fun a ha => by
    by_cases h : a = 96
    · subst h; refine ex1E tb fun ps zz6 => and2E zz6 fun e _ => ?_; exact ⟨_, e⟩
    · refine ex1E (x.xb a ha) fun o e => ?_; exact ⟨o, hk a o h e⟩
theorem lam_make {params : Arguments} {body : Expr} {scope : Scope} {pos : Pos} {env : Env} {Q : Value → Shared → Prop} (hw : WX (K39 w.params) X s) (hge : env.globals = mainGlobals) (hcode : env.code = .ref 100) (hcl : closureFor scope env = pure []) (hdef : defaultsOf params env = ([], []))
    (hq : env.qual ++ "<lambda>" = ("_translate.<locals>.<lambda>" : Str)) (hl : pos.line = 88) (hcol : pos.col = 39)
    (h : ∀ f fd s', Kp s s' → WX (K39 w.params) X s' → s'.heap.get? f = some ({ cls := .type "function", data := .func fd } : Obj) → ¬ X f → Q (.ref f) s') : wpAny (model prog w) A (eval (.Lambda params body scope pos) env) Q E s := by
  refine kla_eval hdef ?_
  refine ex1E hw.tb fun ps zz3 => and4E zz3 fun t1 t2 t4 zz4 => ex1E zz4 fun o4 zz5 => and4E zz5 fun e4 c4 d4 p4 => ?_
  obtain ⟨mg, hmg, hmb⟩ : ∃ mg : Str → Option Value, s.heap.Ns mainGlobals mg ∧ mg "__builtins__" = some (.ref 4) := by
    exact ⟨_, strD.ns (a := mainGlobals) ⟨by kernel_rfl, by kernel_rfl, by kernel_rfl⟩ hw.kin, by kernel_rfl⟩
  have hC : CodeHd s.heap 100 96 := codeHd_of_K hw.kin (by kernel_rfl)
  have hgP : mainGlobals ≠ 96 := by decide
  have hB : s.heap.BuiltinsAt mg 96 := ⟨4, o4, hmb, by decide, by decide, by decide, e4, c4, d4, p4⟩
  rw [hq]
  rcases t2 with rfl | ⟨c', rfl, hc', hrec⟩
  · refine wpAny_with_toks (Nat.le_refl _) (kla_makeFunction hcl hge hmg hcode hC t1 trivial rfl hgP hB fun c' ctv h' tk hx hge hlt hrec htb ltk => ?_)
    have hk : ∀ b o, b ≠ 96 → s.heap.get? b = some o → (h'.push (kla_obj "<lambda>" "_translate.<locals>.<lambda>" params body scope [] ((mg "__name__").getD .none) c' ctv)).get? b = some o := fun b o hb e => Heap.get?_push_of_some _ (hx b o hb e)
    have hc'X : ¬ X c' := hw.fresh (none_ge hge)
    have hsz : s.heap.objs.size ≤ h'.objs.size := Nat.le_trans hge (Nat.le_of_lt hlt)
    have tb : TabInv X (h'.push (kla_obj "<lambda>" "_translate.<locals>.<lambda>" params body scope [] ((mg "__name__").getD .none) c' ctv)) := by
      rw [hl, hcol] at htb
      refine ⟨_, Heap.get?_push_of_some _ htb, .inr ⟨c', by simp, hc'X, ?_⟩, t4, o4, hk _ _ (by decide) e4, c4, d4, p4⟩
      refine ex4E hrec fun c2 oc vs t zz1 => and3E zz1 fun q1 q2 q3 => ?_
      exact ⟨c2, oc, vs, t, q1, Heap.get?_push_of_some _ q2, q3⟩
    exact h _ _ _ ⟨_, tk, rfl, ltk, hk⟩ (hw.kp96 ltk hk tb) (Heap.get?_push_size _ rfl) (hw.fresh (none_ge hsz))
  · refine wpAny_with_toks (Nat.le_refl _) (kla_makeFunctionHit (cv := .ref c') hcl hge hmg hcode hC t1 ?_ ?_ hB fun ctv h' tk hk hsz ltk => ?_)
    · trivial
    · show codeAmong pos [rawInt 88, rawInt 39, .ref c'] = _
      show (if ((88 : Int) == pos.line && (39 : Int) == pos.col) = true then some (Value.ref c') else _) = _
      rw [hl, hcol]; rfl
    · have hk' : ∀ b o, s.heap.get? b = some o → (h'.push ({ cls := .type "function", data := .func (kla_fn "<lambda>" "_translate.<locals>.<lambda>" params body scope [] ((mg "__name__").getD .none) (.ref c') ctv) } : Obj)).get? b = some o := fun b o e => Heap.get?_push_of_some _ (hk b o e)
      exact h _ _ _ (Kp.of ltk hk') (hw.more ltk hk') (Heap.get?_push_size _ rfl) (hw.fresh (none_ge hsz))
end
theorem slot_re_sub : Slot "re.Pattern" "sub" "re.Pattern.sub" :=
  .of (owner := "re.Pattern") (n := "sub") (by rw [typeLookup_type, builtinLookup_eq_fast]; kernel_rfl) (by decide +kernel) (by decide +kernel) (by decide +kernel)
    (by first | exact .inl (by decide +kernel) | exact .inr (by decide +kernel)) (by rw [isSubtype_type]; kernel_rfl)
theorem entry_re_sub : entryFor table "re.Pattern.sub" = some Builtin.«re.Pattern.sub» := entryFor_of_tree (by kernel_rfl)
theorem entry_re_loop : entryFor table "re.Pattern.sub.loop" = some Builtin.«re.Pattern.sub.loop» := entryFor_of_tree (by kernel_rfl)
theorem args_re_sub (a b c : Value) : argsOk "re.Pattern.sub" ⟨[a, b, c], []⟩ := by unfold argsOk; kernel_rfl
theorem fn_call_lk : typeLookup (.type "function") "__call__" = pure (some (.builtin "function.__call__")) := by rw [typeLookup_type, builtinLookup_eq_fast]; kernel_rfl
section
variable {prog : Program} {w : World} {A : Around} {X : Addr → Prop} {E : Value → Shared → Prop} {h : Heap} {g : Array GenState} {d : Drawn} {t : Nat} {os : OsState}
noncomputable def reCode : Array Nat := #[14, 14, 4, 1, 1, 9, 0, 64, 0, 1342177280, 0, 0, 0, 0, 0, 17, 0, 13, 11, 9, 0, 64, 0, 1342177280, 0, 0, 0, 0, 0, 17, 1, 1]
theorem rnf_star (P : Params) (prog : Program) : peek (K39 P) ⟨prog, P⟩ (Re.reRunToEnd (Sre.forSearch reCode #[42] 1 0 1 false)) = some none := by kernel_rfl
theorem rnf_brack (P : Params) (prog : Program) : peek (K39 P) ⟨prog, P⟩ (Re.reRunToEnd (Sre.forSearch reCode #[91] 1 0 1 false)) = some none := by kernel_rfl
theorem rnf {M : Model} {E : Value → Shared → Prop} {s : Shared} {c : Nat} {T : Re.ReTarget} {Q : Option Sre.M → Shared → Prop} (hc : c = 42 ∨ c = 91) (x : (K39 M.w.params).In s.heap) (h1 : T.code = reCode) (h2 : T.text = #[c]) (h3 : T.groups = 1) (h4 : T.lim = 1) (h : Q none s) :
    wpAny M A (Re.reNextFound T (0 : Int).toNat false) Q E s := by
  unfold Re.reNextFound
  rw [h1, h2, h3, h4]
  rcases hc with rfl | rfl
  · exact (Looks.of_peek (M := M) x (rnf_star _ _)).here h
  · exact (Looks.of_peek (M := M) x (rnf_brack _ _)).here h
theorem re_loop {f l : Addr} {c : Nat} {tk : Tok} {Q : Fin → Shared → Prop} (hc : c = 42 ∨ c = 91) (x : (K39 w.params).In h) (hl : h.get? l = some (W.listOf #[] 0))
    (hQ : ∀ h' t' k, (∀ b o, b ≠ l → h.get? b = some o → h'.get? b = some o) → Q (.done (.ret (.str (S [c]) t'))) ⟨h', g, d, k, os⟩) :
    wpAny (model prog w) A (Builtin.«re.Pattern.sub.loop» ⟨[.ref 75, .str (S [c]) tk, .ref f, rawInt 1, rawInt 0, rawInt 0, rawInt 0, rawInt 0, .bool false, .ref l, .bool false], []⟩) Q E ⟨h, g, d, t, os⟩ := by
  have h75 := x 75 _ rfl
  have h74 := x 74 _ rfl
  have f2 := sub_ss
  have f3 := F.sub_str_bytearray
  unfold Builtin.«re.Pattern.sub.loop»
  have z0 := zl
  repeat (any_goals (first | with_reducible assumption | (rw [f2]) | (rw [f3]) | ((with_reducible show wpAny _ _ (Re.reNextFound _ _ _) _ _ _); refine rnf (c := c) hc x ?h1 ?h2 ?h3 ?h4 ?_; (case h1 => kernel_rfl); (case h2 => rfl); (case h3 => rfl); (case h4 => rfl)) | ((fail_if_success (with_reducible show wpAny _ _ (call _ _) _ _ _)); wp_step) | assumption))
  show wpAny (model prog w) A (call (.builtin "str.join") [.str (S []) (t + 1), .ref l]) _ _ _
  have e0 : (S [c]).cps.extract (0 : Int).toNat 1 = #[c] := by simp [S]
  refine SC.join (l := [(S [c], t)]) (texts := [S [c]]) ?_ rfl ?_ fun t' k => ?_
  · show Heap.IsList (h.update l (Obj.mapSeq fun y => y.push (Value.str ⟨(S [c]).cps.extract (0 : Int).toNat 1⟩ t))) l (strValues [(S [c], t)]).toArray
    rw [e0]
    exact ⟨_, Heap.get?_update_self _ hl rfl, rfl, _, rfl⟩
  · show JoinOk (S []) ([[c]].map S) = true
    exact JoinOk_of _ _ (by simp [sizeLine_eq])
  · have ej : Txt.join (S []) [S [c]] = S [c] := (join_eq [] [[c]]).trans rfl
    rw [ej]
    have := hQ (h.update l (Obj.mapSeq fun y => y.push (Value.str ⟨(S [c]).cps.extract (0 : Int).toNat 1⟩ t))) t' k fun b o hb e => ((Heap.SameBut.update ..).2 b hb).trans e
    exact wpAny_pure this
theorem re_sub {A' : Around} {f : Addr} {fd : FuncData} {c : Nat} {tk : Tok} {R : Result → Shared → Prop} (hc : c = 42 ∨ c = 91) (x : (K39 w.params).In h) (hf : h.get? f = some ({ cls := .type "function", data := .func fd } : Obj))
    (hR : ∀ h' t' k, (∀ b o, h.get? b = some o → h'.get? b = some o) → R (.ok (.ret (.str (S [c]) t'))) ⟨h', g, d, k, os⟩) :
    wpAny (model prog w) A' (Builtin.«re.Pattern.sub» ⟨[.ref 75, .ref f, .str (S [c]) tk], []⟩) (fun fin s' => match fin with | .done f => R (.ok f) s' | .again c' => c'.quiet = true ∧ codeAny (model prog w) A c' R s') (fun e s' => R (.error e) s') ⟨h, g, d, t, os⟩ := by
  have hT : (⟨h, g, d, t, os⟩ : Shared).TypeIs (.ref f) "function" := ⟨_, hf, rfl⟩
  have h75 := x 75 _ rfl
  have h74 := x 74 _ rfl
  have f1 := fn_call_lk
  have f2 := sub_ss
  have f3 := F.sub_str_bytearray
  unfold Builtin.«re.Pattern.sub» Builtin.Re.reSubstitute
  have z0 := zl
  repeat (any_goals (first | with_reducible assumption | (rw [f2]) | (rw [f3]) | wp_step | assumption))
  have hk : ∀ b o, h.get? b = some o → (h.push { cls := .type "list", data := .seq #[] }).get? b = some o := fun b o e => Heap.get?_push_of_some _ e
  refine ⟨Code.quiet_builtin _ (by decide +kernel), codeAny_builtin entry_re_loop ?_⟩
  refine re_loop hc (x.keeps hk) (Heap.get?_push_size _ rfl) fun h' t' k q => ?_
  refine hR h' t' k fun b o e => q b o (fun z => ?_) (hk b o e)
  rw [z, none_ge (Nat.le_refl _)] at e; cases e
end
end Mine
end
-- Sub2
section
open PySem PySem.W PySem.Calls PyProof.Rows PySem.Builtin PySem.Builtin.Str
namespace Mine
section
variable {A : Around} {env : Env} {nms : Nms} {X : Addr → Prop} {σ : List (Option D)}
theorem Ev_resub {o e : Expr} {apos pos lpos : Pos} {params : Arguments} {body : Expr} {scope : Scope} {c : Nat} (hc : c = 42 ∨ c = 91) (ho : Ev prog w (K39 w.params) A env nms X σ o (.val (.ref 75))) (hge : env.globals = mainGlobals) (hcode : env.code = .ref 100) (hcl : closureFor scope env = pure [])
    (hdef : defaultsOf params env = ([], [])) (hq : env.qual ++ "<lambda>" = ("_translate.<locals>.<lambda>" : Str)) (hl : lpos.line = 88) (hcol : lpos.col = 39) (hev : Ev prog w (K39 w.params) A env nms X σ e (.str [c]))
    {pl : Sem Bool} (hst : starEach [.Lambda params body scope lpos, e] env = (false, eval (.Lambda params body scope lpos) env) :: starEach [e] env) (hst2 : starEach [e] env = (false, eval e env) :: starEach [] env)
    (he : eval (.Call (.Attribute o "sub" apos) [.Lambda params body scope lpos, e] [] pos) env = (do
      let ov ← eval o env
      standAt apos.atName
      let (f, first) ← holding [ov] (getMethod ov "sub" pl)
      callWith pos f first (backTo pos (starEach [.Lambda params body scope lpos, e] env)) [])) :
    Ev prog w (K39 w.params) A env nms X σ (.Call (.Attribute o "sub" apos) [.Lambda params body scope lpos, e] [] pos) (.str [c]) := by
  intro s Q E st hQ
  refine MethodCall_ (pl := pl) (ho _ _ st fun v s₁ k₁ w₁ r₁ => ?_) he
  refine Rd.valE r₁ ?_
  refine gm_sub (w₁.kin 75 _ rfl) rfl rfl ?_
  refine callWith_builtin (by rw [hst, hst2]; rfl) ?_
  rw [hst]
  refine evalArgs_plain ?_
  refine spliced_cons (lam_make w₁ hge hcode hcl hdef hq hl hcol fun f fd s₂ k₂ w₂ hf hfX => ?_)
  rw [hst2]
  refine spliced_cons (hev _ _ (st.kp (k₁.trans k₂) w₂) fun v s₃ k₃ w₃ r₃ => wpAny_pure ?_)
  refine Rd.strE r₃ fun tk => ?_
  have hf3 := k₃.keep (w₂.ne96 hfX) hf
  obtain ⟨h, g, d, t, os⟩ := s₃
  have hT : (⟨h, g, d, t, os⟩ : Shared).TypeIs (.ref 75) "re.Pattern" := ⟨_, w₃.kin 75 _ rfl, rfl⟩
  show wpAny (model prog w) A (call (.builtin "re.Pattern.sub") [.ref 75, .ref f, .str (S [c]) tk]) Q E _
  refine wpAny_with_toks (Nat.le_refl _) (wpAny_call (codeAny_call_builtin slot_re_sub.plain entry_re_sub (slot_re_sub.check _ _ _ _ _ _ _ _ hT (args_re_sub _ _ _) (re_sub (A := A) (A' := A.in1) (R := fun r s' => match r with | .ok (.ret v) => t ≤ s'.toks → Q v s' | .ok _ => False | .error e => t ≤ s'.toks → E e s') hc w₃.kin hf3 fun h' t' k hk => ?_))))
  intro lk
  exact hQ _ _ ((k₁.trans k₂).trans (k₃.trans (Kp.of lk hk))) (w₃.more lk hk) (.str _ _)
end
end Mine
end
-- Esc2
section
open PySem PySem.W PySem.Calls PyProof.Rows PySem.Builtin PySem.Builtin.Str
namespace Mine
noncomputable def ikV : Value → Int × Nat
  | .int k t => (k, t)
  | _ => (0, 0)
noncomputable def deI (e : DictEntry) : DictEntry := ⟨hashInt (ikV e.key).1, .int (ikV e.key).1 (ikV e.key).2, e.val⟩
noncomputable def at84 (K : Frag) (k : Int) : Option Value := findBy (fun k v => Value.isInt k v) (esA K 84) k
theorem ob84 (P : Params) : (K39 P).lookup 84 = some { cls := .type "dict", data := .dict (esA (K39 P) 84) 24 } := by kernel_rfl
theorem de84 (P : Params) : (esA (K39 P) 84).toList = (esA (K39 P) 84).toList.map deI := by kernel_rfl
theorem map84 {h : Heap} (x : (K39 w.params).In h) : h.MapOf (intKind prog w) 84 (at84 (K39 w.params)) := by
  refine ⟨_, esA (K39 w.params) 84, 24, x _ _ (ob84 _), ⟨rfl, rfl, rfl⟩, rfl, fun en hen => ?_, fun k => rfl⟩
  have h1 := Array.mem_toList_iff.mpr hen
  rw [de84] at h1
  refine ex1E (List.mem_map.mp h1) fun e h2 => ?_
  rw [← h2.2]
  exact ⟨(ikV e.key).1, beq_self_eq_true _, rfl⟩
theorem sub_key_lookup : isSubtype (.type "KeyError") (.type "LookupError") = pure true := by rw [isSubtype_type]; kernel_rfl
section
variable {A : Around} {E : Value → Shared → Prop} {s : Shared}
theorem wpAny_mkInt' {M : Model} {i : Int} {Q : Value → Shared → Prop} (h : Q (.int i s.toks) { s with toks := s.toks + 1 }) : wpAny M A (mkInt i) Q E s := fun _ _ _ => h
theorem tl_miss {c : Nat} {Q : Str.Mapped → Shared → Prop} (hh : A.handled = none) (x : (K39 w.params).In s.heap) (hm : at84 (K39 w.params) c = none)
    (h : ∀ h' k, (∀ b o, s.heap.get? b = some o → h'.get? b = some o) → Q .keep { s with heap := h', toks := k }) : wpAny (model prog w) A (Str.tableLookup (.ref 84) c) Q E s := by
  unfold Str.tableLookup
  refine wpAny_bind (wpAny_attempt (wpAny_bind (wpAny_mkInt' ?_)))
  refine wpAny_getItem_missing_of (knd := intKind prog w) (k := (c : Int)) (intKind_is _ _ _ _) (by decide) hh (map84 x) hm fun h' e ne => ?_
  obtain ⟨k1, k2, ob, t, k3, k4, k5⟩ := ne
  refine wpAny_bind (wpAny_isInstance (⟨ob, k3, k4⟩ : Shared.TypeIs _ (.ref e) "KeyError") sub_key_lookup ?_)
  exact wpAny_bind (wpAny_rule (wpAny_pure (h h' _ k1)))
theorem tl_hit {c : Nat} {y : Str} {tk : Tok} {Q : Str.Mapped → Shared → Prop} (x : (K39 w.params).In s.heap) (hm : at84 (K39 w.params) c = some (.str y tk))
    (h : ∀ k, Q (.text y) { s with toks := k }) : wpAny (model prog w) A (Str.tableLookup (.ref 84) c) Q E s := by
  unfold Str.tableLookup
  refine wpAny_bind (wpAny_attempt (wpAny_bind (wpAny_mkInt' ?_)))
  refine wpAny_getItem_of (knd := intKind prog w) (k := (c : Int)) (intKind_is _ _ _ _) (map84 x) hm ?_
  obtain ⟨hp, g, d, t, os⟩ := s
  have z0 := zl
  repeat (any_goals (first | with_reducible assumption | wp_step | assumption))
  exact h _
theorem all_one {c : Nat} (hc : c < 128) : ((S [c]).cps.all fun x => decide (x < 128)) = true := by simp [S, hc]
theorem wp_if {α : Type} {M : Model} {c : Prop} [d : Decidable c] {a b : Sem α} {Q : α → Shared → Prop} (hc : c) (h : wpAny M A a Q E s) : wpAny M A (ite c a b) Q E s := by rw [if_pos hc]; exact h
theorem tr_miss {c : Nat} {tk : Tok} {Q : Fin → Shared → Prop} (hc : c < 128) (hh : A.handled = none) (x : (K39 w.params).In s.heap) (hm : at84 (K39 w.params) c = none)
    (hQ : ∀ h' k t', (∀ b o, s.heap.get? b = some o → h'.get? b = some o) → Q (.done (.ret (.str (S [c]) t'))) { s with heap := h', toks := k }) :
    wpAny (model prog w) A (Builtin.«str.translate» ⟨[.str (S [c]) tk, .ref 84], []⟩) Q E s := by
  unfold Builtin.«str.translate»
  obtain ⟨h, g, d, t, os⟩ := s
  have ha := all_one hc
  have z0 := zl
  repeat (any_goals (first | with_reducible assumption | ((with_reducible show wpAny _ _ (Str.tableLookup _ _) _ _ _); refine tl_miss hh x hm fun h' k hk => ?_) | refine wp_if ha ?_ | wp_step | assumption))
  exact hQ h' (k + 1) k hk
theorem tr_hit {c e : Nat} {tk tk' : Tok} {Q : Fin → Shared → Prop} (hc : c < 128) (x : (K39 w.params).In s.heap) (hm : at84 (K39 w.params) c = some (.str (S [92, e]) tk'))
    (hQ : ∀ k t', Q (.done (.ret (.str (S [92, e]) t'))) { s with toks := k }) :
    wpAny (model prog w) A (Builtin.«str.translate» ⟨[.str (S [c]) tk, .ref 84], []⟩) Q E s := by
  unfold Builtin.«str.translate»
  obtain ⟨h, g, d, t, os⟩ := s
  have ha := all_one hc
  have hy : ((S [92, e]).length == 1) = false := rfl
  have z0 := zl
  repeat (any_goals (first | with_reducible assumption | ((with_reducible show wpAny _ _ (Str.tableLookup _ _) _ _ _); refine tl_hit x hm fun k => ?_; simp only [hy, Bool.false_and, Bool.false_eq_true, if_false]) | refine wp_if ha ?_ | wp_step | assumption))
  exact hQ (k + 1) k
end
end Mine
end
-- Esc3
section
open PySem PySem.W PySem.Calls PyProof.Rows PySem.Builtin PySem.Builtin.Str
namespace Mine
theorem RdAll.inv2 {X : Addr → Prop} {h : Heap} {vs : List Value} {d1 d2 : D} (r : RdAll X h vs [d1, d2]) : ∃ v1 v2, vs = [v1, v2] ∧ Rd X h v1 d1 ∧ Rd X h v2 d2 := by
  refine RdAll.E2 r fun _ _ a b => ?_; exact ⟨_, _, rfl, a, b⟩
theorem Rd.val_inv {X : Addr → Prop} {h : Heap} {v v' : Value} (r : Rd X h v (.val v')) : v = v' := by cases r; rfl
section
variable {A : Around} {E : Value → Shared → Prop} {s : Shared}
noncomputable def escP (c : Nat) : List Nat := if c = 46 then [92, 46] else if c = 32 then [92, 32] else [c]
noncomputable def okP : List Nat := [97, 34, 98, 46, 32, 111, 107, 50, 53, 55, 47, 100]
theorem at_miss (P : Params) : [97, 34, 98, 111, 107, 50, 53, 55, 47, 100].all (fun c => (at84 (K39 P) ((c : Nat) : Int)).isNone) = true := by kernel_rfl
theorem at_46 (P : Params) : at84 (K39 P) 46 = some (.str (S [92, 46]) 478) := by kernel_rfl
theorem at_32 (P : Params) : at84 (K39 P) 32 = some (.str (S [92, 32]) 502) := by kernel_rfl
theorem M_translate {X : Addr → Prop} {x : List Nat} : Meth prog w A X "translate" "str.translate" (.str x) := by
  intro s v pl Q E r; refine Rd.strE r fun t => ?_; intro h
  with_reducible exact GM.of (.str (S x) t) (typeIs_str _ _ _) F.slot_str_translate F.type_str_translate GM.noRef h
theorem Op_translate {X : Addr → Prop} {c : Nat} (hc : c ∈ okP) (hh : A.handled = none) : OpN prog w (K39 w.params) A X (fun vs => call (.builtin "str.translate") vs) [.str [c], .val (.ref 84)] (.str (escP c)) := by
  intro s vs Q E q r hQ
  refine ex2E r.inv2 fun va vb zz3 => and3E zz3 fun zz2 a b => ?_; subst zz2
  refine ex1E a.str_inv fun t zz1 => ?_; subst zz1
  obtain rfl := b.val_inv
  have h128 : c < 128 := by
    exact (by decide : ∀ c ∈ okP, c < 128) c hc
  refine wpAny_with_toks (Nat.le_refl _) (wpAny_call_entry F.slot_str_translate (typeIs_str _ _ _) F.entry_str_translate ?_ (F.args_str_translate_2 _ _))
  by_cases h46 : c = 46
  · subst h46
    refine tr_hit (e := 46) (tk' := 478) h128 q.kin (at_46 w.params) fun k t' => ⟨_, rfl, fun l => Post.tk hQ q (.str _ _) l⟩
  by_cases h32 : c = 32
  · subst h32
    refine tr_hit (e := 32) (tk' := 502) h128 q.kin (at_32 w.params) fun k t' => ⟨_, rfl, fun l => Post.tk hQ q (.str _ _) l⟩
  · have e0 : escP c = [c] := by unfold escP; rw [if_neg h46, if_neg h32]
    rw [e0] at hQ
    have hm : at84 (K39 w.params) c = none := by
      have := List.all_eq_true.mp (at_miss w.params) c (((by decide : ∀ c ∈ okP, c = 46 ∨ c = 32 ∨ c ∈ [97, 34, 98, 111, 107, 50, 53, 55, 47, 100]) c hc).elim (fun e => absurd e h46) fun e => e.elim (fun e => absurd e h32) id)
      exact Option.isNone_iff_eq_none.mp this
    refine tr_miss h128 (by exact hh) q.kin hm fun h' k t' hk => ⟨_, rfl, fun l => Post.at hQ q l hk (.str _ _)⟩
end
end Mine
end
-- TrO
section
open PySem PySem.W PySem.Calls PyProof.Rows PySem.Builtin PySem.Builtin.Str PySem.SeqAt
namespace Mine
section
variable {K : Frag} {A : Around} {env : Env} {nms : Nms} {X : Addr → Prop} {σ : List (Option D)}
theorem Op_inT {x : List Nat} {ys : List (List Nat)} : Op2 prog w K A X (compareOp .In) (.str x) (.tuple (ys.map .str)) (.bool (ys.contains x)) := by
  intro s va vb Q E q ra rb hQ
  have fin : Q (.bool (ys.contains x)) s := Post.here hQ q (.bool _)
  refine Rd.strE ra fun t => ?_; refine Rd.tupleE rb fun _ _ hn hg r => ?_
  have e : ∀ (vs : List Value) (ys : List (List Nat)), RdAll X s.heap vs (ys.map .str) → vs.any (fun v => match v with | .str z _ => z == S x | _ => false) = ys.contains x := by
    intro vs
    induction vs with
    | nil => intro ys r; have := r.length; cases ys with
      | nil => rfl
      | cons _ _ => simp at this
    | cons v vs ih => intro ys r; cases ys with
      | nil => have := r.length; simp at this
      | cons y ys =>
        rw [List.map_cons] at r
        cases r with | cons a r =>
        refine ex1E a.str_inv fun u zz6 => ?_; subst zz6
        rw [List.any_cons, ih ys r, List.contains_cons]
        show (S y == S x || _) = _
        rw [S_beq, Bool.beq_comm]
  rename_i a vs
  refine in_tupleAt (fun v => match v with | .str z _ => z == S x | _ => false) (hg : s.heap.IsTuple _ _) (fun y hy => ?_) ?_
  · refine ex1E (List.mem_iff_getElem.mp (by simpa using hy : y ∈ vs)) fun i zz5 => ex1E zz5 fun hi zz4 => ?_; subst zz4
    refine ex1E (r.get' (List.getElem?_eq_getElem hi)) fun d zz3 => and2E zz3 fun h3 h4 => ?_
    refine ex1E (List.mem_map.mp (List.mem_of_getElem? h3)) fun y zz2 => and2E zz2 fun _ zz1 => ?_; subst zz1
    refine ex1E h4.str_inv fun u eu => ?_
    rw [eu]
    show EqAt _ _ _ _ (S y == S x)
    rw [S_beq]
    exact eqAt_str
  · rw [List.any_toArray, e vs ys r]; exact fin
end
noncomputable def pat1 : Option Nat → List Nat
  | none => [42]
  | some c => if c = 42 ∨ c = 91 then [91, c, 93] else [c]
noncomputable def patL (ts : List (Option Nat)) : List Nat := ts.flatMap pat1
noncomputable def par1 (a : Addr) : Option Nat → D
  | none => .val (.ref a)
  | some c => .str (esc1 c)
noncomputable def parD (a : Addr) (ts : List (Option Nat)) : List D := ts.map (par1 a)
theorem patL_cons (t : Option Nat) (ts : List (Option Nat)) : patL (t :: ts) = pat1 t ++ patL ts := rfl
theorem patL_append (a b : List (Option Nat)) : patL (a ++ b) = patL a ++ patL b := List.flatMap_append
theorem parD_append (a : Addr) (x y : List (Option Nat)) : parD a (x ++ y) = parD a x ++ parD a y := List.map_append
theorem pat1_pos (t : Option Nat) : 0 < (pat1 t).length := by unfold pat1; split <;> (try split) <;> simp
theorem pat1_le (t : Option Nat) : (pat1 t).length ≤ 3 := by unfold pat1; split <;> (try split) <;> simp
noncomputable def apart : List (Option Nat) → Bool
  | none :: none :: _ => false
  | _ :: r => apart r
  | [] => true
theorem apart_last : ∀ (pre post : List (Option Nat)), apart (pre ++ none :: post) = true → pre = [] ∨ ∃ p c, pre = p ++ [some c] := by
  intro pre
  induction pre with
  | nil => intro _ _; exact .inl rfl
  | cons t pre ih =>
    intro post h
    cases pre with
    | nil =>
      cases t with
      | none => exact absurd h Bool.false_ne_true
      | some c => exact .inr ⟨[], c, rfl⟩
    | cons u pre =>
      have h' : apart ((u :: pre) ++ none :: post) = true := by
        cases t with
        | none => cases u with
          | none => exact absurd h Bool.false_ne_true
          | some c => exact h
        | some c => exact h
      rcases ih post h' with q | ⟨p, c, q⟩
      · cases q
      · exact .inr ⟨t :: p, c, by rw [q]; rfl⟩
end Mine
end
-- JpO
section
open PySem PySem.W PySem.Calls PyProof.Rows PySem.Builtin PySem.Builtin.Str PySem.SeqAt
namespace Mine
section
variable {K : Frag} {A : Around} {env : Env} {nms : Nms} {X : Addr → Prop} {σ : List (Option D)}
theorem Op_iaddI {a b : Int} : Op2 prog w K A X (inplaceOp .Add) (.int a) (.int b) (.int (a + b)) := by
  intro s va vb Q E x ra rb hQ; refine Rd.intE ra fun _ => ?_; refine Rd.intE rb fun _ => ?_
  exact iadd_int (Post.tk hQ x (.int _ _) (Nat.le_succ _))
end
noncomputable def starM (ms : List (List Nat)) : List (Option Nat) := ms.flatMap fun m => none :: m.map some
theorem starM_cons (m : List Nat) (ms : List (List Nat)) : starM (m :: ms) = none :: (m.map some ++ starM ms) := rfl
noncomputable def outM : List (List Nat) → List Nat
  | [] => []
  | m :: r => match r with
    | [] => [46, 42] ++ esc m
    | _ :: _ => [40, 63, 62, 46, 42, 63] ++ esc m ++ [41] ++ outM r
noncomputable def okM : List (List Nat) → Bool
  | [] => true
  | m :: r => match r with
    | [] => true
    | _ :: _ => !m.isEmpty && okM r
theorem parD_at {a : Addr} {ts pre post : List (Option Nat)} {t : Option Nat} {i : Int} (h : ts = pre ++ t :: post) (hi : i = pre.length) : (parD a ts)[i.toNat]? = some (par1 a t) := by
  rw [hi, h, Int.toNat_natCast, parD_append, List.getElem?_append_right (by simp [parD])]; simp [parD]
theorem parD_len (a : Addr) (ts : List (Option Nat)) : (parD a ts).length = ts.length := by simp [parD]
theorem joinL_nil (xs : List (List Nat)) : joinL [] xs = xs.flatten := by
  induction xs with
  | nil => rfl
  | cons x xs ih => cases xs with
    | nil => simp [joinL]
    | cons y ys => rw [joinL, ih]; simp
theorem sum_flat (xs : List (List Nat)) : (xs.map (fun x => x.length + ([] : List Nat).length)).sum = xs.flatten.length := by
  induction xs with
  | nil => rfl
  | cons x xs ih => rw [List.map_cons, List.sum_cons, ih, List.flatten_cons, List.length_append]; rfl
end Mine
end
-- Obj2
section
open PySem PySem.W PySem.Calls PyProof.Rows PySem.Builtin PySem.Builtin.Str
namespace Mine
section
variable {K : Frag} {A : Around} {env : Env} {nms : Nms} {Xc : Addr → Prop} {sh : Own} {σ : List (Option D)} {P : Out → Prop}
theorem ExS_newobj (i : Nat) {n : String} {k : NameKind} {p pos cpos : Pos} {fe : Expr} (hn : nms[i]? = some (n, k)) (hk : k = .local ∨ k = .cell) (hf : ∀ own, shape own = sh → Ev prog w K A env nms (XO Xc env own) σ fe (.val (.type "object")))
    (hp : ∀ a, P (.next (dropS sh i) (σ.set i (some (.val (.ref a))))))
    (he : eval (.Call fe [] [] cpos) env = (do callWith cpos (← eval fe env) [] (backTo cpos (starEach [] env)) (backToKw cpos (keywordEach [] env))) := by rfl)
    (hs : swapsWith (.Call fe [] [] cpos) (some (.Name n p)) pos.line env = pure false := by rfl) : ExS prog w K A env nms Xc sh σ (.Assign [.Name n p] (.Call fe [] [] cpos) pos) P := by
  intro own s Q E eo x hQ
  refine wpAny_Assign_Name (Call_ (hf own eo _ _ x.ste fun v s₁ k₁ w₁ r₁ => ?_) he) hs
  refine Rd.valE r₁ ?_
  refine PyProof.Rows.callWith_type rfl (PyProof.Rows.evalArgs_none ?_)
  refine call_object ?_
  have x₁ := x.kp k₁ w₁
  have hk1 : ∀ b o, s₁.heap.get? b = some o → (s₁.heap.push plainObj).get? b = some o := fun b o e => Heap.get?_push_of_some _ e
  have k₂ : Kp s₁ { s₁ with heap := s₁.heap.push plainObj } := Kp.of (Nat.le_refl _) hk1
  refine St.store i (x₁.kp k₂ (w₁.more (Nat.le_refl _) hk1)) hn hk (.val _) fun s' x' kf => ?_
  exact hQ _ _ _ (hp _) ⟨rfl, drop own i, by rw [drop_shape, eo], x', (Kp.kf (k₁.trans k₂)).trans (Fresher.refl _ _) kf, fun p hp => .inl ⟨p, drop_sub p hp, rfl⟩⟩
end
theorem apart_star : ∀ (ms : List (List Nat)), okM ms = true → apart (starM ms) = true := by
  have h1 : ∀ (m : List Nat) (t : List (Option Nat)), apart t = true → apart (m.map some ++ t) = true := by
    intro m t ht
    induction m with
    | nil => exact ht
    | cons c m ih => exact ih
  intro ms
  induction ms with
  | nil => intro _; rfl
  | cons m r ih =>
    intro h
    rw [starM_cons]
    cases r with
    | nil =>
      have := h1 m [] rfl
      cases m with
      | nil => rfl
      | cons c m => exact this
    | cons m2 r =>
      have h' : m.isEmpty = false ∧ okM (m2 :: r) = true := by
        have h : (!m.isEmpty && okM (m2 :: r)) = true := h
        simpa using h
      cases m with
      | nil => simp at h'
      | cons c m => exact h1 m _ (ih h'.2)
theorem apart_all (r0 : List Nat) (ms : List (List Nat)) (h : okM ms = true) : apart (r0.map some ++ starM ms) = true := by
  induction r0 with
  | nil => exact apart_star ms h
  | cons c m ih => exact ih
noncomputable def transL (r0 : List Nat) (ms : List (List Nat)) : List Nat := [40, 63, 115, 58] ++ (esc r0 ++ outM ms) ++ [41, 92, 90]
noncomputable def shield (r0 : List Nat) (ms : List (List Nat)) : List Nat := patL (r0.map some ++ starM ms)
end Mine
end
-- PL3
section
open PySem PySem.W PySem.Calls PyProof.Rows PySem.Builtin PySem.Builtin.Str PySem.StrLaws
namespace Mine
theorem split_none {x y : List Nat} (h : ∀ i, ¬ AtL x y i) : splitL x y = [x] := by
  have key : Txt.split (S x) (S y) = [S x] := by
    unfold Txt.split
    split
    · rfl
    · rw [if_pos]
      rcases occ_head (S x) (S y) ((S x).length + 1) (Nat.le_add_left 1 _) with ⟨e, _⟩ | ⟨i, r, e, hA, _⟩
      · rw [e]; rfl
      · exact absurd ((at_atL x y i).mp hA) (h i)
  unfold splitL
  rw [key]; rfl
theorem split_one {a y b : List Nat} (hy : y ≠ []) (hk : Str.strKind (S y) = 1) (h : ∀ i, AtL (a ++ y ++ b) y i → i = a.length) : splitL (a ++ y ++ b) y = [a, b] := by
  have hpos : 1 ≤ (S y).length := by rw [S_length]; cases y with
    | nil => exact absurd rfl hy
    | cons _ _ => simp
  have c1 : (decide ((S (a ++ y ++ b)).length < (S y).length) || decide (strKind (S (a ++ y ++ b)) < strKind (S y))) = false := by
    rw [hk, S_length, S_length]
    have h1 : ¬ Str.strKind (S (a ++ y ++ b)) < 1 := by unfold Str.strKind; split <;> (try split) <;> first | decide | lia
    have h2 : ¬ (a ++ y ++ b).length < y.length := Nat.not_lt.mpr (by rw [List.length_append, List.length_append]; exact Nat.le_trans (Nat.le_add_left _ _) (Nat.le_add_right _ _))
    rw [decide_eq_false h1, decide_eq_false h2]; rfl
  refine ex1E (occ_tight (S (a ++ y ++ b)) (S y) hpos) fun f zz2 => and2E zz2 fun hc hf => ?_
  have hA : At (S (a ++ y ++ b)) (S y) (S (a ++ y ++ b)).length a.length := (at_atL _ _ _).mpr atL_of
  have ho : occurrences (S (a ++ y ++ b)) (S y) 0 (S (a ++ y ++ b)).length ((S (a ++ y ++ b)).length + 1) = [a.length] := by
    cases e : occurrences (S (a ++ y ++ b)) (S y) 0 (S (a ++ y ++ b)).length ((S (a ++ y ++ b)).length + 1) with
    | nil =>
      rw [e] at hc
      have hf0 : f = 0 := hc
      exact absurd hA (hf _ (hf0 ▸ Nat.zero_le _))
    | cons c r =>
      rw [e] at hc
      refine and4E hc fun h1 h2 h3 h4 => ?_
      have hca := h _ ((at_atL _ _ _).mp h2)
      cases r with
      | nil => rw [hca]
      | cons d r =>
        refine and3E h4 fun g1 g2 _ => ?_
        have hda := h _ ((at_atL _ _ _).mp g2)
        rw [hca, hda] at g1
        exact absurd g1 (Nat.not_le.mpr (Nat.lt_add_of_pos_right hpos))
  have key : Txt.split (S (a ++ y ++ b)) (S y) = [S a, S b] := by
    unfold Txt.split
    rw [c1, if_neg Bool.false_ne_true, ho, if_neg (by simp), partsBetween_eq]
    unfold partsFrom partsFrom
    have e1 : strSub (S (a ++ y ++ b)) 0 a.length = S a := by
      rw [← S_of (strSub _ _ _), strSub_toList, S_cps]; simp
    have e2 : strSub (S (a ++ y ++ b)) (a.length + (S y).length) (S (a ++ y ++ b)).length = S b := by
      rw [← S_of (strSub _ _ _), strSub_toList, S_cps, S_length, S_length, show a.length + y.length = (a ++ y).length by simp, List.drop_left, List.take_of_length_le (by rw [List.length_append]; exact Nat.le_of_eq (Nat.add_sub_cancel_left _ _).symm)]
    rw [e1, e2]
  unfold splitL
  rw [key]; rfl
theorem parts_len (x y : List Nat) (n : Nat) (h : x.length + 2 ≤ n) : (partsBetween (S x) (occurrences (S x) (S y) 0 (S x).length ((S x).length + 1)) (S y).length).length ≤ n := by
  have := occ_length_le (S x) (S y) 0 (S x).length ((S x).length + 1)
  rw [S_length] at this
  unfold partsBetween
  simp only [List.length_map, List.length_zip, List.length_cons, List.length_append, List.length_nil, S_length]
  generalize (occurrences (S x) (S y) 0 x.length (x.length + 1)).length = o at this ⊢
  lia
theorem find_first {a y b : List Nat} (h : ∀ i, i < a.length → ¬ AtL (a ++ y ++ b) y i) : Txt.find (S (a ++ y ++ b)) (S y) = (a.length : Int) := by
  unfold Txt.find
  rcases occ_head (S (a ++ y ++ b)) (S y) 1 (Nat.le_refl _) with ⟨e, h2⟩ | ⟨i, r, e, hA, h2⟩
  · exact absurd ((at_atL _ _ _).mpr atL_of) (h2 a.length)
  · rw [e]
    have hA := (at_atL _ _ _).mp hA
    show (i : Int) = _
    rcases Nat.lt_trichotomy i a.length with q | q | q
    · exact absurd hA (h i q)
    · rw [q]
    · exact absurd ((at_atL _ _ _).mpr atL_of) (h2 _ q)
theorem atL_head {t y : List Nat} {c : Nat} {i : Nat} (h : AtL t (c :: y) i) : t[i]? = some c := by
  have := atL_split h
  rw [this, List.append_assoc, List.getElem?_append_right (by rw [List.length_take]; exact Nat.min_le_left _ _)]
  have hl : i + (c :: y).length ≤ t.length := h.1
  simp only [List.length_cons] at hl
  rw [List.length_take, Nat.min_eq_left (Nat.le_trans (Nat.le_add_right _ _) hl), Nat.sub_self]; rfl
theorem atL_two {t : List Nat} {c d : Nat} {i : Nat} (h : AtL t [c, d] i) : t[i]? = some c ∧ t[i + 1]? = some d := by
  refine ⟨atL_head h, ?_⟩
  have hl : i + [c, d].length ≤ t.length := h.1
  simp only [List.length_cons, List.length_nil] at hl
  rw [atL_split h, List.append_assoc, List.getElem?_append_right (by rw [List.length_take]; exact Nat.le_trans (Nat.min_le_left _ _) (Nat.le_succ _)), List.length_take, Nat.min_eq_left (Nat.le_trans (Nat.le_add_right _ _) hl), Nat.add_sub_cancel_left]; rfl
theorem no40 {x : List Nat} (h : ∀ c ∈ x, c ∈ sig) : 40 ∉ esc x := by
  intro hm
  refine ex1E (List.mem_flatMap.mp hm) fun c zz1 => and2E zz1 fun hc hm => ?_
  have hc := h c hc
  unfold sig at hc
  simp only [List.mem_cons, List.not_mem_nil, or_false] at hc
  rcases hc with rfl | rfl | rfl | rfl | rfl | rfl | rfl | rfl | rfl | rfl | rfl | rfl | rfl | rfl <;> exact absurd hm (by decide)
noncomputable def noDS : List Nat → Bool
  | [] => true
  | a :: r => match r with
    | [] => true
    | b :: _ => !(a == 46 && b == 42) && noDS r
theorem noDS_cons (a : Nat) (r : List Nat) (h : noDS r = true) (h2 : a = 46 → r.head? ≠ some 42) : noDS (a :: r) = true := by
  cases r with
  | nil => rfl
  | cons b r =>
    show (!(a == 46 && b == 42) && noDS (b :: r)) = true
    rw [h, Bool.and_true, Bool.not_eq_true', Bool.and_eq_false_iff]
    by_cases ha : a = 46
    · right; simp; intro e; exact h2 ha (by rw [e]; rfl)
    · left; simpa using ha
theorem noDS_app (l u : List Nat) (hl : noDS l = true) (h : noDS u = true) (h2 : u.head? ≠ some 42) : noDS (l ++ u) = true := by
  induction l with
  | nil => exact h
  | cons a l ih =>
    have hl' : noDS l = true := by
      cases l with
      | nil => rfl
      | cons b l => exact (Bool.and_eq_true_iff.mp (show (!(a == 46 && b == 42) && noDS (b :: l)) = true from hl)).2
    refine noDS_cons a _ (ih hl') fun e => ?_
    cases l with
    | nil => exact h2
    | cons b l =>
      intro q
      cases q
      subst e
      cases hl
theorem esc1_ok : ∀ c ∈ sig, noDS (esc1 c) = true ∧ (esc1 c).head? ≠ none ∧ (esc1 c).head? ≠ some 42 := by decide +kernel
theorem noDS_esc1 {c : Nat} (hc : c ∈ sig) (u : List Nat) (h : noDS u = true) (h2 : u.head? ≠ some 42) : noDS (esc1 c ++ u) = true ∧ (esc1 c ++ u).head? ≠ some 42 := by
  refine and3E (esc1_ok c hc) fun a b e => ⟨noDS_app _ _ a h h2, ?_⟩
  generalize esc1 c = l at b e
  cases l with
  | nil => exact absurd rfl b
  | cons x l => exact e
theorem noDS_esc {x : List Nat} (hx : ∀ c ∈ x, c ∈ sig) (u : List Nat) (h : noDS u = true) (h2 : u.head? ≠ some 42) : noDS (esc x ++ u) = true ∧ (esc x ++ u).head? ≠ some 42 := by
  induction x with
  | nil => exact ⟨h, h2⟩
  | cons c x ih =>
    refine and2E (ih fun d hd => hx d (.tail _ hd)) fun i1 i2 => ?_
    rw [esc_cons, List.append_assoc]
    exact noDS_esc1 (hx c (.head _)) _ i1 i2
theorem noDS_at : ∀ (t : List Nat) (i : Nat), noDS t = true → ¬ (t[i]? = some 46 ∧ t[i + 1]? = some 42)
  | [], i, _, h => by simp at h
  | [a], i, _, h => by
    have := h.2
    simp at this
  | a :: b :: r, 0, hn, h => by
    have h1 : a = 46 := by simpa using h.1
    have h2 : b = 42 := by simpa using h.2
    subst h1; subst h2
    simp [noDS] at hn
  | a :: b :: r, i + 1, hn, h => by
    have hn' : noDS (b :: r) = true := by
      have : (!(a == 46 && b == 42) && noDS (b :: r)) = true := hn
      rw [Bool.and_eq_true] at this; exact this.2
    exact noDS_at (b :: r) i hn' (by simpa using h)
theorem find_star {a b : List Nat} (h : noDS (a ++ [46]) = true) : Txt.find (S (a ++ [46, 42] ++ b)) (S [46, 42]) = (a.length : Int) := by
  refine find_first fun i hi hA => ?_
  refine and2E (atL_two hA) fun h1 h2 => ?_
  refine noDS_at (a ++ [46]) i h ⟨?_, ?_⟩
  · rw [← h1, List.append_assoc, List.getElem?_append_left hi, List.getElem?_append_left hi]
  · rw [← h2, show a ++ [46, 42] ++ b = (a ++ [46]) ++ (42 :: b) by simp, List.getElem?_append_left (l₂ := 42 :: b) (by simp; lia)]
theorem runs_two {r0 rl : List Nat} (h0 : ∀ c ∈ r0, c ∈ sig) (h2 : ∀ c ∈ rl, c ∈ sig) : splitL (esc r0 ++ outM [rl]) [40, 63, 62, 46, 42, 63] = [esc r0 ++ [46, 42] ++ esc rl] := by
  have e : esc r0 ++ outM [rl] = esc r0 ++ [46, 42] ++ esc rl := by simp [outM]
  rw [e]
  refine split_none fun i hA => ?_
  have := List.mem_of_getElem? (atL_head hA)
  rw [List.mem_append, List.mem_append] at this
  rcases this with (q | q) | q
  · exact no40 h0 q
  · exact absurd q (by decide)
  · exact no40 h2 q
theorem runs_three {r0 r1 rl : List Nat} (h0 : ∀ c ∈ r0, c ∈ sig) (h1 : ∀ c ∈ r1, c ∈ sig) (h2 : ∀ c ∈ rl, c ∈ sig) : splitL (esc r0 ++ outM [r1, rl]) [40, 63, 62, 46, 42, 63] = [esc r0, esc r1 ++ [41] ++ [46, 42] ++ esc rl] := by
  have e : esc r0 ++ outM [r1, rl] = esc r0 ++ [40, 63, 62, 46, 42, 63] ++ (esc r1 ++ [41] ++ [46, 42] ++ esc rl) := by simp [outM]
  rw [e]
  refine split_one (by simp) (by decide +kernel) fun i hA => ?_
  have hi := atL_head hA
  rcases Nat.lt_trichotomy i (esc r0).length with q | q | q
  · exfalso
    rw [List.append_assoc, List.getElem?_append_left q] at hi
    exact no40 h0 (List.mem_of_getElem? hi)
  · exact q
  · exfalso
    rw [List.append_assoc, List.getElem?_append_right (Nat.le_of_lt q), List.cons_append] at hi
    obtain ⟨k, hk⟩ : ∃ k, i - (esc r0).length = k + 1 := Nat.exists_eq_succ_of_ne_zero (Nat.sub_ne_zero_of_lt q)
    rw [hk, List.getElem?_cons_succ] at hi
    have hm := List.mem_of_getElem? hi
    simp only [List.mem_append, List.mem_cons, List.not_mem_nil, or_false] at hm
    rcases hm with q | ((q | q) | q) | q
    · exact absurd q (by decide)
    · exact no40 h1 q
    · exact absurd q (by decide)
    · exact absurd q (by decide)
    · exact no40 h2 q
end Mine
end
-- RunO
section
open PySem PySem.W PySem.Calls PyProof.Rows PySem.Builtin PySem.Builtin.Str PySem.SeqAt
namespace Mine
section
variable {K : Frag} {A : Around} {env : Env} {nms : Nms} {X : Addr → Prop} {σ : List (Option D)}
theorem EvB_or4 {a b c d : Expr} {pos : Pos} {x y z u : Bool} (ha : EvB prog w K A env nms X σ a x) (hb : x = false → EvB prog w K A env nms X σ b y) (hc : x = false → y = false → EvB prog w K A env nms X σ c z) (hd : x = false → y = false → z = false → EvB prog w K A env nms X σ d u) :
    EvB prog w K A env nms X σ (.BoolOp .Or [a, b, c, d] pos) (x || y || z || u) := by
  intro s Q E st hQ
  show wpAny _ _ (do match BoolOp.Or, ← isTrue a env (eval a env) with
    | .And, false => pure false
    | .Or, true => pure true
    | _, _ => (do match BoolOp.Or, ← isTrue b env (eval b env) with
      | .And, false => pure false
      | .Or, true => pure true
      | _, _ => (do match BoolOp.Or, ← isTrue c env (eval c env) with
        | .And, false => pure false
        | .Or, true => pure true
        | _, _ => (do match BoolOp.Or, ← isTrue d env (eval d env) with
          | .And, false => pure false
          | .Or, true => pure true
          | _, _ => pure (BoolOp.Or == BoolOp.And))))) _ _ _
  refine wpAny_bind (ha _ _ st fun s₁ k₁ w₁ => ?_)
  cases x with
  | true => exact wpAny_pure (hQ s₁ k₁ w₁)
  | false =>
    refine wpAny_bind (hb rfl _ _ (st.kp k₁ w₁) fun s₂ k₂ w₂ => ?_)
    cases y with
    | true => exact wpAny_pure (hQ s₂ (k₁.trans k₂) w₂)
    | false =>
      refine wpAny_bind (hc rfl rfl _ _ (st.kp (k₁.trans k₂) w₂) fun s₃ k₃ w₃ => ?_)
      cases z with
      | true => exact wpAny_pure (hQ s₃ ((k₁.trans k₂).trans k₃) w₃)
      | false =>
        refine wpAny_bind (hd rfl rfl rfl _ _ (st.kp ((k₁.trans k₂).trans k₃) w₃) fun s₄ k₄ w₄ => ?_)
        cases u <;> exact wpAny_pure (hQ s₄ (((k₁.trans k₂).trans k₃).trans k₄) w₄)
end
noncomputable def shL (x : List Nat) : List Nat := patL (x.map some)
theorem shL_cons (c : Nat) (x : List Nat) : shL (c :: x) = pat1 (some c) ++ shL x := rfl
theorem shL_flat (x : List Nat) : (x.map fun c => pat1 (some c)).flatten = shL x := by
  induction x with
  | nil => rfl
  | cons c x ih => rw [List.map_cons, List.flatten_cons, ih, shL_cons]
theorem shL_le (x : List Nat) : (shL x).length ≤ 3 * x.length := by
  induction x with
  | nil => simp [shL, patL]
  | cons c x ih => rw [shL_cons, List.length_append, List.length_cons]; have := pat1_le (some c); lia
theorem shield_join (r0 : List Nat) (ms : List (List Nat)) : joinL [42] (shL r0 :: ms.map shL) = shield r0 ms := by
  unfold shield
  rw [patL_append]
  induction ms generalizing r0 with
  | nil => simp [joinL, shL, starM, patL]
  | cons m ms ih =>
    rw [List.map_cons, joinL, ih m, starM_cons, patL_cons, patL_append]
    simp [shL, pat1]
theorem in_set {c : Nat} (hc : c ∈ sig) : Txt.contains (S [42, 91]) (S [c]) = decide (c = 42 ∨ c = 91) := by
  unfold sig at hc
  simp only [List.mem_cons, List.not_mem_nil, or_false] at hc
  rcases hc with rfl | rfl | rfl | rfl | rfl | rfl | rfl | rfl | rfl | rfl | rfl | rfl | rfl | rfl <;> decide +kernel
noncomputable def unescF (n : Nat) : List Nat → List Nat := Nat.rec (fun _ => []) (fun _ ih l => bif l.isEmpty then [] else bif l.head? == some 91 then (bif (l.drop 1).head? == some 92 then (l.drop 2).headD 0 :: ih (l.drop 4) else (l.drop 1).headD 0 :: ih (l.drop 3)) else bif l.head? == some 92 then (l.drop 1).headD 0 :: ih (l.drop 2) else l.headD 0 :: ih (l.drop 1)) n
noncomputable def unesc (l : List Nat) : List Nat := unescF l.length l
theorem unescF_1 (n : Nat) (u : List Nat) : ∀ c ∈ sig, unescF (n + 1) (esc1 c ++ u) = c :: unescF n u := by
  unfold sig
  repeat rw [List.forall_mem_cons]
  exact ⟨rfl, rfl, rfl, rfl, rfl, rfl, rfl, rfl, rfl, rfl, rfl, rfl, rfl, rfl, fun _ h => nomatch h⟩
theorem unescF_esc : ∀ x : List Nat, (∀ c ∈ x, c ∈ sig) → ∀ n, x.length ≤ n → unescF n (esc x) = x
  | [], _, n, _ => by cases n <;> rfl
  | c :: x, h, 0, hn => nomatch hn
  | c :: x, h, n + 1, hn => by
    rw [esc_cons, unescF_1 n _ c (h c (.head _)), unescF_esc x (fun d hd => h d (.tail _ hd)) n (Nat.le_of_succ_le_succ hn)]
theorem unesc_esc {x : List Nat} (h : ∀ c ∈ x, c ∈ sig) : unesc (esc x) = x := unescF_esc x h _ (esc_ge x)
noncomputable def onS (f : List Nat → List Nat) : D → D
  | .str x => .str (f x)
  | d => d
theorem onS_map (f : List Nat → List Nat) (xs : List (List Nat)) : (xs.map D.str).map (onS f) = (xs.map f).map D.str := by
  rw [List.map_map, List.map_map]; rfl
theorem filter_all {α : Type} (l : List α) : l.filter (fun _ => true) = l := List.filter_eq_self.mpr fun _ _ => rfl
theorem comp_map (f : List Nat → List Nat) (xs : List (List Nat)) : ((xs.map D.str).filter (fun _ => true)).map (onS f) = (xs.map f).map D.str := by
  rw [filter_all, onS_map]
theorem filter_none {α β : Type} (l : List α) (f : α → β) : (l.filter (fun _ => false)).map f = [] := by
  rw [List.filter_eq_nil_iff.mpr fun _ _ => Bool.false_ne_true]; rfl
end Mine
end
-- CpO
section
open PySem PySem.W PySem.Calls PyProof.Rows PySem.Builtin PySem.Builtin.Str
namespace Mine
section
variable {K : Frag} {A : Around} {env : Env} {nms : Nms} {X : Addr → Prop} {σ : List (Option D)}
theorem Tr_tuple {ds : List D} (hsz : ds.length ≤ sizeLine) : Tr prog w K A X (.tuple ds) (!ds.isEmpty) := by
  intro s v Q E q r hQ
  have := sizeLine_lt
  refine Rd.tupleE r fun _ _ hn hg r => ?_
  refine truthy_tuple (hg) (by rw [List.size_toArray, r.length]; exact len63 hsz) ?_
  rename_i a vs
  have e : (!(vs.toArray).isEmpty) = !ds.isEmpty := by
    have := r.length
    cases vs <;> cases ds <;> simp_all
  rw [e]
  exact hQ _ (Kp.bump 2) (q.toks (Nat.le_add_right _ 2))
theorem Ev_idxT {v i : Expr} {pos : Pos} {ds : List D} {k : Int} {d : D} (hv : Ev prog w K A env nms X σ v (.tuple ds)) (hi : Ev prog w K A env nms X σ i (.int k)) (ho : Op2 prog w K A X getItem (.tuple ds) (.int k) d)
    (hs : ∀ o iv, subscripted i false o iv = operate [o, iv] (getItem o iv) := by intro _ _; with_unfolding_all rfl) :
    Ev prog w K A env nms X σ (.Subscript v i pos) d := by
  intro s Q E st hQ
  refine Subscript_ (hv _ _ st fun vo s₁ k₁ w₁ r₁ => hi _ _ (st.kp k₁ w₁) fun vi s₂ k₂ w₂ r₂ => ?_)
  have r₁' := r₁.kp w₁ k₂
  refine Rd.tupleE r₁' fun _ _ hn hg r => ?_
  refine tail_any (T := "tuple") (let ⟨o, e, c, _⟩ := hg; ⟨o, e, c⟩) PySem.F.slot_tuple_getitem.lookup ?_ (hs _ _)
  exact ho s₂ _ _ Q E w₂ (.tuple hn hg r) r₂ fun v s₃ k₃ w₃ r₃ => hQ v s₃ ((k₁.trans k₂).trans k₃) w₃ r₃
end
theorem rm_u {u n k : Nat} (h : k ≤ 8) : u + k + 8 * n + 8 ≤ u + 8 * (n + 1) + 8 := by
  rw [Nat.mul_succ, Nat.add_assoc u k, Nat.add_comm k]
  exact Nat.add_le_add_right (Nat.add_le_add_left (Nat.add_le_add_left h _) _) 8
theorem Rm.in1 {A : Around} {n k : Nat} (r : Rm A (n + 1)) (hk : k ≤ 8) (A' : Around) (h1 : A'.depth = A.depth) (h2 : A'.units = A.units + k) (h3 : A'.handled = A.handled) : Rm A' n :=
  ⟨by rw [h1]; exact Nat.lt_of_succ_lt r.d, by rw [h2]; exact Nat.lt_of_le_of_lt (rm_u hk) r.u, by rw [h3]; exact r.h⟩
theorem gtA_eq : ∀ xs ys : List (List Nat), gtA xs ys = ltA ys xs
  | [], [] => rfl
  | [], _ :: _ => rfl
  | _ :: _, [] => rfl
  | x :: xs, y :: ys => by
    unfold gtA ltA
    rw [gtA_eq xs ys, Bool.beq_comm]
theorem str_total : ∀ x y : List Nat, decide (x < y) = false → decide (y < x) = false → x = y
  | [], [], _, _ => rfl
  | [], _ :: _, h, _ => by rw [StrLaws.lt_nil_cons] at h; cases h
  | _ :: _, [], _, h => by rw [StrLaws.lt_nil_cons] at h; cases h
  | a :: x, b :: y, h1, h2 => by
    rw [StrLaws.lt_cons_cons] at h1 h2
    rw [Bool.or_eq_false_iff] at h1 h2
    have e : a = b := by
      exact Nat.le_antisymm (Nat.not_lt.mp (of_decide_eq_false h2.1)) (Nat.not_lt.mp (of_decide_eq_false h1.1))
    subst e
    simp only [beq_self_eq_true, Bool.true_and] at h1 h2
    rw [str_total x y h1.2 h2.2]
theorem str_asymm : ∀ x y : List Nat, decide (x < y) = true → decide (y < x) = false
  | [], [], h => by rw [StrLaws.lt_nil_nil] at h; cases h
  | [], _ :: _, _ => StrLaws.lt_cons_nil _ _
  | _ :: _, [], h => by rw [StrLaws.lt_cons_nil] at h; cases h
  | a :: x, b :: y, h => by
    rw [StrLaws.lt_cons_cons] at h ⊢
    rw [Bool.or_eq_true, Bool.and_eq_true] at h
    rw [Bool.or_eq_false_iff, Bool.and_eq_false_iff]
    rcases h with h | ⟨h1, h2⟩
    · have := of_decide_eq_true h
      exact ⟨decide_eq_false (Nat.lt_asymm this), .inl (beq_false_of_ne (Nat.ne_of_gt this))⟩
    · have e : a = b := by simpa using h1
      subst e
      exact ⟨decide_eq_false (Nat.lt_irrefl _), .inr (str_asymm x y h2)⟩
theorem ltA_total : ∀ xs ys : List (List Nat), ltA xs ys = false → ltA ys xs = false → xs = ys
  | [], [], _, _ => rfl
  | [], _ :: _, h, _ => by cases h
  | _ :: _, [], _, h => by cases h
  | x :: xs, y :: ys, h1, h2 => by
    unfold ltA at h1 h2
    by_cases e : x = y
    · subst e
      rw [if_pos (beq_self_eq_true x)] at h1 h2
      rw [ltA_total xs ys h1 h2]
    · rw [if_neg (by simpa using e)] at h1
      rw [if_neg (by simpa using fun q => e q.symm)] at h2
      exact absurd (str_total x y h1 h2) e
theorem ltA_asymm : ∀ xs ys : List (List Nat), ltA xs ys = true → ltA ys xs = false
  | [], [], h => by cases h
  | [], _ :: _, _ => rfl
  | _ :: _, [], h => by cases h
  | x :: xs, y :: ys, h => by
    unfold ltA at h ⊢
    by_cases e : x = y
    · subst e
      rw [if_pos (beq_self_eq_true x)] at h ⊢
      exact ltA_asymm xs ys h
    · rw [if_neg (by simpa using e)] at h
      rw [if_neg (by simpa using fun q => e q.symm)]
      exact str_asymm x y h
noncomputable def lcp : List (List Nat) → List (List Nat) → List (List Nat)
  | x :: xs, y :: ys => if x = y then x :: lcp xs ys else []
  | _, _ => []
theorem lcp_cc (x y : List Nat) (xs ys : List (List Nat)) : lcp (x :: xs) (y :: ys) = if x = y then x :: lcp xs ys else [] := rfl
theorem lcp_cn (x : List Nat) (xs : List (List Nat)) : lcp (x :: xs) [] = [] := rfl
theorem lcp_n (ys : List (List Nat)) : lcp [] ys = [] := by cases ys <;> rfl
theorem lcp_comm : ∀ xs ys : List (List Nat), lcp xs ys = lcp ys xs
  | [], [] => rfl
  | [], _ :: _ => rfl
  | _ :: _, [] => rfl
  | x :: xs, y :: ys => by
    rw [lcp_cc, lcp_cc]
    by_cases e : x = y
    · subst e; rw [if_pos rfl, if_pos rfl, lcp_comm xs ys]
    · rw [if_neg e, if_neg fun q => e q.symm]
theorem lt_idx : ∀ (q : Nat) (xs ys : List (List Nat)), ltA xs ys = true ∨ xs = ys → xs.take q = ys.take q → q < xs.length → q < ys.length
  | _, [], _, _, _, h => by simp at h
  | q, x :: xs, [], h, _, _ => by rcases h with h | h <;> cases h
  | 0, x :: xs, y :: ys, _, _, _ => by simp
  | q + 1, x :: xs, y :: ys, h, ht, hq => by
    simp at ht hq
    obtain ⟨e, ht⟩ := ht
    subst e
    have h' : ltA xs ys = true ∨ xs = ys := by
      rcases h with h | h
      · unfold ltA at h; rw [if_pos (beq_self_eq_true x)] at h; exact .inl h
      · exact .inr (by simpa using h)
    have := lt_idx q xs ys h' ht hq
    simp; exact this
theorem lcp_break : ∀ (q : Nat) (xs ys : List (List Nat)) (a b : List Nat), xs.take q = ys.take q → xs[q]? = some a → ys[q]? = some b → a ≠ b → lcp xs ys = xs.take q
  | 0, x :: xs, y :: ys, a, b, _, h1, h2, hne => by
    simp at h1 h2; subst h1; subst h2
    rw [lcp_cc, if_neg hne]; rfl
  | q + 1, x :: xs, y :: ys, a, b, ht, h1, h2, hne => by
    simp at ht h1 h2
    obtain ⟨e, ht⟩ := ht
    subst e
    rw [lcp_cc, if_pos rfl, lcp_break q xs ys a b ht h1 h2 hne]; rfl
  | _, [], _, _, _, _, h, _, _ => by simp at h
  | _, _ :: _, [], _, _, _, _, h, _ => by simp at h
theorem lcp_end : ∀ (xs ys : List (List Nat)), xs.take xs.length = ys.take xs.length → lcp xs ys = xs
  | [], _, _ => lcp_n _
  | _ :: _, [], h => by simp at h
  | x :: xs, y :: ys, h => by
    simp at h
    obtain ⟨e, h⟩ := h
    subst e
    rw [lcp_cc, if_pos rfl, lcp_end xs ys (by simpa using h)]
theorem mm_ord (a b : List (List Nat)) : (ltA (if ltA b a = true then b else a) (if gtA b a = true then b else a) = true ∨ (if ltA b a = true then b else a) = (if gtA b a = true then b else a)) ∧ lcp (if ltA b a = true then b else a) (if gtA b a = true then b else a) = lcp a b := by
  rw [gtA_eq]
  cases h1 : ltA b a with
  | true =>
    rw [ltA_asymm b a h1]
    simp only [if_true, Bool.false_eq_true, if_false]
    exact ⟨.inl h1, lcp_comm b a⟩
  | false =>
    cases h2 : ltA a b with
    | true => simp only [if_true, Bool.false_eq_true, if_false]; exact ⟨.inl h2, trivial⟩
    | false =>
      simp only [Bool.false_eq_true, if_false]
      have := ltA_total a b h2 h1
      subst this
      exact ⟨.inr trivial, rfl⟩
noncomputable def cpt (c : List Nat) : Bool := !c.isEmpty && c != [46]
noncomputable def comps (x : List Nat) : List (List Nat) := (splitL x [47]).filter cpt
noncomputable def cptD : D → Bool
  | .str c => cpt c
  | _ => false
theorem filter_str (p : List Nat → Bool) (pD : D → Bool) (h : ∀ x, pD (.str x) = p x) (xs : List (List Nat)) : ((xs.map D.str).filter pD).map _root_.id = (xs.filter p).map D.str := by
  rw [List.map_id]
  induction xs with
  | nil => rfl
  | cons x xs ih =>
    rw [List.map_cons, List.filter_cons, List.filter_cons, h, ih]
    split <;> rfl
theorem splitL_le (x y : List Nat) : (splitL x y).length ≤ x.length + 2 := by
  unfold splitL
  rw [List.length_map]
  unfold Txt.split
  split
  · simp
  · split
    · simp
    · exact parts_len x y (x.length + 2) (Nat.le_refl _)
theorem joinL_split (x y : List Nat) : joinL y (splitL x y) = x := by
  have h := StrLaws.join_split (S x) (S y)
  have e : (splitL x y).map S = Txt.split (S x) (S y) := by
    unfold splitL
    rw [List.map_map]
    exact (List.map_congr_left fun z _ => S_of z).trans (List.map_id _)
  have j := join_eq y (splitL x y)
  rw [e] at j
  unfold Txt.join at j
  rw [StrLaws.glued_eq_join, h] at j
  exact (S_inj j).symm
theorem joinL_ge (y : List Nat) : ∀ (xs : List (List Nat)) (c : List Nat), c ∈ xs → c.length ≤ (joinL y xs).length
  | [], _, h => by cases h
  | [x], c, h => by simp at h; subst h; exact Nat.le_refl _
  | x :: x2 :: r, c, h => by
    unfold joinL
    rw [List.length_append, List.length_append]
    cases h with
    | head => lia
    | tail _ h => have := joinL_ge y (x2 :: r) c h; lia
theorem splitL_mem {x y c : List Nat} (h : c ∈ splitL x y) : c.length ≤ x.length := by
  have := joinL_ge y _ c h
  rwa [joinL_split] at this
end Mine
end
-- PL4
section
open PySem PySem.W PySem.Calls PyProof.Rows PySem.Builtin PySem.Builtin.Str PySem.StrLaws
namespace Mine
theorem repl_none {x y z : List Nat} (hy : y ≠ []) (h : ∀ i, ¬ AtL x y i) : replL x y z = x := by
  have h10 : ((S y).length == 0) = false := by
    rw [S_length]; cases y with
    | nil => exact absurd rfl hy
    | cons _ _ => rfl
  have ho : occurrences (S x) (S y) 0 (S x).length ((S x).length + 1) = [] := by
    rcases occ_head (S x) (S y) ((S x).length + 1) (by lia) with ⟨e, _⟩ | ⟨i, r, e, hA, _⟩
    · exact e
    · exact absurd ((at_atL x y i).mp hA) (h i)
  unfold replL Txt.replace
  rw [h10, Bool.false_and, Bool.or_false, ho]
  rfl
theorem occ_one {a y b : List Nat} (hy : y ≠ []) (h : ∀ i, AtL (a ++ y ++ b) y i → i = a.length) : occurrences (S (a ++ y ++ b)) (S y) 0 (S (a ++ y ++ b)).length ((S (a ++ y ++ b)).length + 1) = [a.length] := by
  have hpos : 1 ≤ (S y).length := by rw [S_length]; cases y with
    | nil => exact absurd rfl hy
    | cons _ _ => simp
  refine ex1E (occ_tight (S (a ++ y ++ b)) (S y) hpos) fun f zz3 => and2E zz3 fun hc hf => ?_
  have hA : At (S (a ++ y ++ b)) (S y) (S (a ++ y ++ b)).length a.length := (at_atL _ _ _).mpr atL_of
  cases e : occurrences (S (a ++ y ++ b)) (S y) 0 (S (a ++ y ++ b)).length ((S (a ++ y ++ b)).length + 1) with
  | nil =>
    rw [e] at hc
    have hf0 : f = 0 := hc
    exact absurd hA (hf _ (hf0 ▸ Nat.zero_le _))
  | cons c r =>
    rw [e] at hc
    refine and4E hc fun h1 h2 h3 h4 => ?_
    have hca := h _ ((at_atL _ _ _).mp h2)
    cases r with
    | nil => rw [hca]
    | cons d r =>
      refine and3E h4 fun g1 g2 _ => ?_
      have hda := h _ ((at_atL _ _ _).mp g2)
      lia
theorem repl_one {a y b z : List Nat} (hy : y ≠ []) (h : ∀ i, AtL (a ++ y ++ b) y i → i = a.length) : replL (a ++ y ++ b) y z = a ++ z ++ b := by
  have h10 : ((S y).length == 0) = false := by
    rw [S_length]; cases y with
    | nil => exact absurd rfl hy
    | cons _ _ => rfl
  have ho := occ_one hy h
  unfold replL Txt.replace
  rw [h10, Bool.false_and, Bool.or_false, ho, if_neg (by simp), glued_eq_join, partsBetween_eq]
  unfold partsFrom partsFrom
  have e1 : strSub (S (a ++ y ++ b)) 0 a.length = S a := by
    rw [← S_of (strSub _ _ _), strSub_toList, S_cps]; simp
  have e2 : strSub (S (a ++ y ++ b)) (a.length + (S y).length) (S (a ++ y ++ b)).length = S b := by
    rw [← S_of (strSub _ _ _), strSub_toList, S_cps, S_length, S_length, show a.length + y.length = (a ++ y).length by simp, List.drop_left, List.take_of_length_le (by rw [List.length_append]; exact Nat.le_of_eq (Nat.add_sub_cancel_left _ _).symm)]
  rw [e1, e2]
  show (S a ++ S z ++ S b).cps.toList = _
  rw [S_append, S_append]; rfl
noncomputable def nsig : List Nat := [97, 34, 98, 46, 42, 91]
structure Good (n : List Nat) : Prop where
  ne : n ≠ []
  s : ∀ c ∈ n, c ∈ nsig
noncomputable def fld : List (List Nat) := [[47], [47, 100], [47, 100, 34], [47, 100, 34, 47, 100]]
noncomputable def pth (f n : List Nat) : List Nat := if f = [47] then 47 :: n else f ++ 47 :: n
noncomputable def Q257 : List Nat := [50, 53, 55, 32, 34]
noncomputable def wds : List (List Nat) := [[34, 32, 34, 111, 107, 34], [34], [34, 97], [34, 32, 98, 42]]
noncomputable def rawOf (f n w : List Nat) : List Nat := Q257 ++ dbl 34 (pth f n) ++ w
theorem nsig_ne {c : Nat} (h : c ∈ nsig) : c ≠ 47 ∧ c ≠ 100 := by
  exact (by decide : ∀ c ∈ nsig, c ≠ 47 ∧ c ≠ 100) c h
theorem nsig_sig {c : Nat} (h : c ∈ nsig) : c ∈ sig := by
  exact (by decide : ∀ c ∈ nsig, c ∈ sig) c h
theorem ns47 {n : List Nat} (h : ∀ c ∈ n, c ∈ nsig) : 47 ∉ n := fun q => (nsig_ne (h _ q)).1 rfl
theorem dbl47 {n : List Nat} (h : 47 ∉ n) : 47 ∉ dbl 34 n := by
  induction n with
  | nil => exact h
  | cons c r ih =>
    rw [dbl_cons]
    intro q
    rcases List.mem_append.mp q with q | q
    · split at q <;> simp at q
      exact h (by rw [q]; exact .head _)
    · exact ih (fun z => h (.tail _ z)) q
theorem Good.c {n : List Nat} (g : Good n) : ∃ c r, n = c :: r ∧ c ∈ nsig ∧ ∀ d ∈ r, d ∈ nsig := by
  cases n with
  | nil => exact absurd rfl g.ne
  | cons c r => exact ⟨c, r, rfl, g.s c (.head _), fun d hd => g.s d (.tail _ hd)⟩
theorem fld_cases {P : List Nat → Prop} {f : List Nat} (hf : f ∈ fld) (h0 : P [47]) (h1 : P [47, 100]) (h2 : P [47, 100, 34]) (h3 : P [47, 100, 34, 47, 100]) : P f := by
  simp only [fld, List.mem_cons, List.not_mem_nil, or_false] at hf
  rcases hf with rfl | rfl | rfl | rfl <;> assumption
theorem pth0 (n : List Nat) : pth [47] n = 47 :: n := rfl
theorem pth1 (n : List Nat) : pth [47, 100] n = [47, 100] ++ 47 :: n := rfl
theorem pth2 (n : List Nat) : pth [47, 100, 34] n = [47, 100, 34] ++ 47 :: n := rfl
theorem pth3 (n : List Nat) : pth [47, 100, 34, 47, 100] n = [47, 100, 34, 47, 100] ++ 47 :: n := rfl
theorem starts_cons (c d : Nat) (x : List Nat) : startsL (c :: x) [d] = (c == d) := by
  cases h : (c == d) with
  | true =>
    rw [beq_iff_eq] at h; subst h
    exact (startsL_iff _ _).mpr ⟨x, rfl⟩
  | false =>
    cases q : startsL (c :: x) [d] with
    | false => rfl
    | true =>
      refine ex1E ((startsL_iff _ _).mp q) fun b hb => ?_
      cases hb; simp at h
theorem join_pth {f n : List Nat} (hf : f ∈ fld) (g : Good n) : joinP f n = pth f n := by
  refine ex2E g.c fun c r zz2 => and3E zz2 fun zz1 hc hr => ?_; subst zz1
  have h47 := (nsig_ne hc).1
  have e : startsL (c :: r) [47] = false := by rw [starts_cons]; simpa using h47
  refine fld_cases (P := fun f => joinP f (c :: r) = pth f (c :: r)) hf ?_ ?_ ?_ ?_ <;> (unfold joinP; rw [e]; rfl)
theorem join_d {f n : List Nat} (hf : f ∈ fld) : joinP [47, 100] (pth f n) = pth f n := by
  have e : ∀ x, startsL (47 :: x) [47] = true := fun x => by rw [starts_cons]; rfl
  refine fld_cases (P := fun f => joinP [47, 100] (pth f n) = pth f n) hf ?_ ?_ ?_ ?_ <;> (unfold joinP; first | rw [pth0] | rw [pth1] | rw [pth2] | rw [pth3]) <;> (try simp only [List.cons_append]) <;> (rw [e]; rfl)
theorem n47_at {n : List Nat} (h : 47 ∉ n) (i : Nat) : n[i]? ≠ some 47 := fun q => h (List.mem_of_getElem? q)
theorem repl_pth {f n : List Nat} (hf : f ∈ fld) (hn : 47 ∉ n) : replL (f ++ [47] ++ n) [47, 47] [47] = pth f n := by
  have nn := n47_at hn
  refine fld_cases (P := fun f => replL (f ++ [47] ++ n) [47, 47] [47] = pth f n) hf ?_ ?_ ?_ ?_
  · have := repl_one (a := []) (y := [47, 47]) (b := n) (z := [47]) (by decide) fun i h => by
      refine and2E (atL_two h) fun h1 h2 => ?_
      match i, h1, h2 with
      | 0, _, _ => rfl
      | 1, _, h2 => exact absurd h2 (by simpa using nn 0)
      | i + 2, h1, _ => exact absurd h1 (by simpa using nn i)
    exact this
  · refine repl_none (by decide) fun i h => ?_
    refine and2E (atL_two h) fun h1 h2 => ?_
    match i, h1, h2 with
    | 0, _, h2 => simp at h2
    | 1, h1, _ => simp at h1
    | 2, _, h2 => exact absurd h2 (by simpa using nn 0)
    | i + 3, h1, _ => exact absurd h1 (by simpa using nn i)
  · refine repl_none (by decide) fun i h => ?_
    refine and2E (atL_two h) fun h1 h2 => ?_
    match i, h1, h2 with
    | 0, _, h2 => simp at h2
    | 1, h1, _ => simp at h1
    | 2, h1, _ => simp at h1
    | 3, _, h2 => exact absurd h2 (by simpa using nn 0)
    | i + 4, h1, _ => exact absurd h1 (by simpa using nn i)
  · refine repl_none (by decide) fun i h => ?_
    refine and2E (atL_two h) fun h1 h2 => ?_
    match i, h1, h2 with
    | 0, _, h2 => simp at h2
    | 1, h1, _ => simp at h1
    | 2, h1, _ => simp at h1
    | 3, _, h2 => simp at h2
    | 4, h1, _ => simp at h1
    | 5, _, h2 => exact absurd h2 (by simpa using nn 0)
    | i + 6, h1, _ => exact absurd h1 (by simpa using nn i)
end Mine
end
-- PL5
section
open PySem PySem.W PySem.Calls PyProof.Rows PySem.Builtin PySem.Builtin.Str PySem.StrLaws
namespace Mine
theorem cut47 : ∀ {p q a b : List Nat}, 47 ∉ p → 47 ∉ q → p ++ 47 :: a = q ++ 47 :: b → p = q ∧ a = b
  | [], [], _, _, _, _, h => ⟨rfl, (List.cons.inj h).2⟩
  | [], c :: q, _, _, _, hq, h => absurd (by rw [(List.cons.inj h).1]; exact .head _) hq
  | c :: p, [], _, _, hp, _, h => absurd (by rw [← (List.cons.inj h).1]; exact .head _) hp
  | c :: p, d :: q, a, b, hp, hq, h => by
    refine and2E (List.cons.inj h) fun h1 h2 => ?_
    refine and2E (cut47 (fun z => hp (.tail _ z)) (fun z => hq (.tail _ z)) h2) fun h3 h4 => ?_
    exact ⟨by rw [h1, h3], h4⟩
theorem join_inj : ∀ {ps qs : List (List Nat)}, ps ≠ [] → qs ≠ [] → (∀ p ∈ ps, 47 ∉ p) → (∀ q ∈ qs, 47 ∉ q) → joinL [47] ps = joinL [47] qs → ps = qs
  | [], _, h, _, _, _, _ => absurd rfl h
  | _ :: _, [], _, h, _, _, _ => absurd rfl h
  | [p], [q], _, _, _, _, h => by rw [show p = q from h]
  | [p], q :: q' :: r, _, _, hp, _, h => by
    exfalso
    have h' : p = q ++ [47] ++ joinL [47] (q' :: r) := h
    exact hp p (.head _) (by rw [h']; simp)
  | p :: p' :: r, [q], _, _, _, hq, h => by
    exfalso
    have h' : p ++ [47] ++ joinL [47] (p' :: r) = q := h
    exact hq q (.head _) (by rw [← h']; simp)
  | p :: p' :: r, q :: q' :: r', _, _, hp, hq, h => by
    have h' : p ++ [47] ++ joinL [47] (p' :: r) = q ++ [47] ++ joinL [47] (q' :: r') := h
    rw [List.append_assoc, List.append_assoc] at h'
    refine and2E (cut47 (hp p (.head _)) (hq q (.head _)) h') fun h1 h2 => ?_
    have := join_inj (ps := p' :: r) (qs := q' :: r') (by simp) (by simp) (fun z hz => hp z (.tail _ hz)) (fun z hz => hq z (.tail _ hz)) h2
    rw [h1, this]
theorem split_is {x : List Nat} {ps : List (List Nat)} (hx : x ≠ []) (hps : ps ≠ []) (hf : ∀ p ∈ ps, 47 ∉ p) (h : joinL [47] ps = x) : splitL x [47] = ps := by
  refine join_inj (fun e => hx ?_) hps (fun p hp => ?_) hf ?_
  · have := joinL_split x [47]
    rw [e] at this
    exact this.symm
  · unfold splitL at hp
    refine ex1E (List.mem_map.mp hp) fun z zz4 => and2E zz4 fun hz zz3 => ?_; subst zz3
    exact split_free (S x) 47 z hz
  · rw [joinL_split, h]
noncomputable def cm (b f : List Nat) : List Nat := ((fld.filter fun o => (o == [47] || startsL (b ++ [47]) (o ++ [47])) && (o == [47] || startsL (f ++ [47]) (o ++ [47]))).getLast?).getD []
theorem comps0 : comps [47] = [] := by decide +kernel
theorem comps1 : comps [47, 100] = [[100]] := by decide +kernel
theorem comps2 : comps [47, 100, 34] = [[100, 34]] := by decide +kernel
theorem comps3 : comps [47, 100, 34, 47, 100] = [[100, 34], [100]] := by decide +kernel
theorem comps_pth {f n : List Nat} (hf : f ∈ fld) (hn : 47 ∉ n) : comps (pth f n) = comps f ++ [n].filter cpt := by
  have c0 : ∀ l : List (List Nat), (([] : List Nat) :: l).filter cpt = l.filter cpt := fun l => List.filter_cons_of_neg (by decide)
  have c1 : ∀ l : List (List Nat), ([100] :: l).filter cpt = [100] :: l.filter cpt := fun l => List.filter_cons_of_pos (by decide)
  have c2 : ∀ l : List (List Nat), ([100, 34] :: l).filter cpt = [100, 34] :: l.filter cpt := fun l => List.filter_cons_of_pos (by decide)
  refine fld_cases (P := fun f => comps (pth f n) = comps f ++ [n].filter cpt) hf ?_ ?_ ?_ ?_
  · rw [comps0]; unfold comps
    rw [pth0, split_is (ps := [[], n]) (by simp) (by simp) (by simp [hn]) (by simp [joinL]), c0]; rfl
  · rw [comps1]; unfold comps
    rw [pth1, split_is (ps := [[], [100], n]) (by simp) (by simp) (by simp [hn]) (by simp [joinL]), c0, c1]; rfl
  · rw [comps2]; unfold comps
    rw [pth2, split_is (ps := [[], [100, 34], n]) (by simp) (by simp) (by simp [hn]) (by simp [joinL]), c0, c2]; rfl
  · rw [comps3]; unfold comps
    rw [pth3, split_is (ps := [[], [100, 34], [100], n]) (by simp) (by simp) (by simp [hn]) (by simp [joinL]), c0, c2, c1]; rfl
theorem Good.n100 {n : List Nat} (g : Good n) : 100 ∉ n := fun q => (nsig_ne (g.s _ q)).2 rfl
theorem lcp_pth {b f n : List Nat} (hb : b ∈ fld) (hf : f ∈ fld) (g : Good n) : lcp (comps b) (comps (pth f n)) = lcp (comps b) (comps f) := by
  rw [comps_pth hf (ns47 g.s)]
  have n1 : [100] ≠ n := fun e => g.n100 (by rw [← e]; simp)
  have n2 : [100, 34] ≠ n := fun e => g.n100 (by rw [← e]; simp)
  cases h : cpt n with
  | false => rw [List.filter_cons_of_neg (by rw [h]; decide)]; simp
  | true =>
    rw [List.filter_cons_of_pos h]
    refine fld_cases (P := fun b => lcp (comps b) (comps f ++ (n :: [].filter cpt)) = lcp (comps b) (comps f)) hb ?_ ?_ ?_ ?_ <;>
    refine fld_cases (P := fun f => lcp _ (comps f ++ (n :: [].filter cpt)) = lcp _ (comps f)) hf ?_ ?_ ?_ ?_ <;>
    simp [comps0, comps1, comps2, comps3, lcp_cc, lcp_cn, lcp_n, n1, n2]
theorem common_is {b f n : List Nat} (hb : b ∈ fld) (hf : f ∈ fld) (g : Good n) : [47] ++ joinL [47] (lcp (comps b) (comps (pth f n))) = cm b f := by
  rw [lcp_pth hb hf g]
  refine fld_cases (P := fun b => [47] ++ joinL [47] (lcp (comps b) (comps f)) = cm b f) hb ?_ ?_ ?_ ?_ <;>
  refine fld_cases (P := fun f => [47] ++ joinL [47] (lcp (comps _) (comps f)) = cm _ f) hf ?_ ?_ ?_ ?_ <;> (first | rw [comps0] | rw [comps1] | rw [comps2] | rw [comps3]) <;> (try first | rw [comps0] | rw [comps1] | rw [comps2] | rw [comps3]) <;> decide +kernel
theorem cm_last {b f : List Nat} (hb : b ∈ fld) (hf : f ∈ fld) : (fld.filter fun o => (o == [47] || startsL (b ++ [47]) (o ++ [47])) && (o == [47] || startsL (f ++ [47]) (o ++ [47]))).getLast? = some (cm b f) := by
  refine fld_cases (P := fun b => (fld.filter fun o => (o == [47] || startsL (b ++ [47]) (o ++ [47])) && (o == [47] || startsL (f ++ [47]) (o ++ [47]))).getLast? = some (cm b f)) hb ?_ ?_ ?_ ?_ <;>
  refine fld_cases (P := fun f => (fld.filter fun o => (o == [47] || startsL (_ ++ [47]) (o ++ [47])) && (o == [47] || startsL (f ++ [47]) (o ++ [47]))).getLast? = some (cm _ f)) hf ?_ ?_ ?_ ?_ <;> decide +kernel
noncomputable def frn (f : List Nat) : List Nat := Q257 ++ dbl 34 (if f = [47] then [] else f)
theorem raw_cut (f n w : List Nat) (hf : f ∈ fld) : rawOf f n w = frn f ++ 47 :: (dbl 34 n ++ w) := by
  refine fld_cases (P := fun f => rawOf f n w = frn f ++ 47 :: (dbl 34 n ++ w)) hf ?_ ?_ ?_ ?_ <;> simp [rawOf, frn, pth, dbl_cons, Q257, dbl]
theorem w47 {w : List Nat} (hw : w ∈ wds) : 47 ∉ w := by
  simp only [wds, List.mem_cons, List.not_mem_nil, or_false] at hw
  rcases hw with rfl | rfl | rfl | rfl <;> decide
theorem raw_splT {f n w : List Nat} (hf : f ∈ fld) (hn : 47 ∉ n) (hw : w ∈ wds) : splT (rawOf f n w) = dbl 34 n ++ w := by
  rw [raw_cut f n w hf]
  exact splT_at _ _ (fun q => (List.mem_append.mp q).elim (dbl47 hn) (w47 hw))
theorem raw_splH {f n w : List Nat} (hf : f ∈ fld) (hn : 47 ∉ n) (hw : w ∈ wds) : splH (rawOf f n w) = frn f := by
  rw [raw_cut f n w hf]
  have h47 : 47 ∉ dbl 34 n ++ w := fun q => (List.mem_append.mp q).elim (dbl47 hn) (w47 hw)
  refine fld_cases (P := fun f => splH (frn f ++ 47 :: (dbl 34 n ++ w)) = frn f) hf ?_ ?_ ?_ ?_
  · exact splH_at [50, 53, 55, 32] _ 34 (by decide) h47
  · exact splH_at [50, 53, 55, 32, 34, 47] _ 100 (by decide) h47
  · exact splH_at [50, 53, 55, 32, 34, 47, 100, 34] _ 34 (by decide) h47
  · exact splH_at [50, 53, 55, 32, 34, 47, 100, 34, 34, 47] _ 100 (by decide) h47
theorem pth_splT {f n : List Nat} (hf : f ∈ fld) (hn : 47 ∉ n) : splT (pth f n) = n := by
  refine fld_cases (P := fun f => splT (pth f n) = n) hf ?_ ?_ ?_ ?_
  · exact splT_at [] n hn
  · exact splT_at _ n hn
  · exact splT_at _ n hn
  · exact splT_at _ n hn
theorem pth_splH {f n : List Nat} (hf : f ∈ fld) (hn : 47 ∉ n) : splH (pth f n) = f := by
  refine fld_cases (P := fun f => splH (pth f n) = f) hf ?_ ?_ ?_ ?_
  · exact splH_root n hn
  · exact splH_at [47] n 100 (by decide) hn
  · exact splH_at [47, 100] n 34 (by decide) hn
  · exact splH_at [47, 100, 34, 47] n 100 (by decide) hn
theorem front_is {f : List Nat} (hf : f ∈ fld) : frn f ++ [47] = Q257 ++ replL (dbl 34 (f ++ [47])) [47, 47] [47] := by
  refine fld_cases (P := fun f => frn f ++ [47] = Q257 ++ replL (dbl 34 (f ++ [47])) [47, 47] [47]) hf ?_ ?_ ?_ ?_ <;> decide +kernel
theorem dbl_head {c : Nat} {r : List Nat} : ∃ s, dbl 34 (c :: r) = c :: s := by
  rw [dbl_cons]
  by_cases h : c = 34
  · rw [if_pos h, h]; exact ⟨_, rfl⟩
  · rw [if_neg h]; exact ⟨_, rfl⟩
theorem join_raw {f n w : List Nat} (hf : f ∈ fld) (g : Good n) : joinP (frn f) (dbl 34 n ++ w) = rawOf f n w := by
  rw [raw_cut f n w hf]
  refine ex2E g.c fun c r zz2 => and3E zz2 fun zz1 hc hr => ?_; subst zz1
  refine ex1E (@dbl_head c r) fun s hs => ?_
  have h47 := (nsig_ne hc).1
  have e : startsL (c :: (s ++ w)) [47] = false := by rw [starts_cons]; simpa using h47
  rw [hs, List.cons_append]
  refine fld_cases (P := fun f => joinP (frn f) (c :: (s ++ w)) = frn f ++ 47 :: c :: (s ++ w)) hf ?_ ?_ ?_ ?_ <;> (unfold joinP; rw [e]; rfl)
end Mine
end
-- PL6
section
open PySem PySem.W PySem.Calls PyProof.Rows PySem.Builtin PySem.Builtin.Str PySem.StrLaws
namespace Mine
theorem wds_head {w : List Nat} (hw : w ∈ wds) : ∃ t, w = 34 :: t ∧ t.head? ≠ some 34 := by
  simp only [wds, List.mem_cons, List.not_mem_nil, or_false] at hw
  rcases hw with rfl | rfl | rfl | rfl <;> exact ⟨_, rfl, by decide⟩
theorem raw_parse {f n w : List Nat} (hw : w ∈ wds) : parseL (rawOf f n w) = pth f n := by
  refine ex1E (wds_head hw) fun t zz4 => and2E zz4 fun zz3 ht => ?_; subst zz3
  show parseL (50 :: 53 :: 55 :: 32 :: 34 :: (dbl 34 (pth f n) ++ 34 :: t)) = _
  rw [parseL_257, parseGo_dbl _ _ ht]
theorem raw_3 (f n w : List Nat) : sl (rawOf f n w) none (some 3) = [50, 53, 55] := by
  rw [show (3 : Int) = ((3 : Nat) : Int) from rfl, sl_xn]; rfl
theorem Q257_3 (z : List Nat) : sl (Q257 ++ z) none (some 3) = [50, 53, 55] := by
  rw [show (3 : Int) = ((3 : Nat) : Int) from rfl, sl_xn]; rfl
theorem pth_head (f n : List Nat) (hf : f ∈ fld) : ∃ r, pth f n = 47 :: r := by
  refine fld_cases (P := fun f => ∃ r, pth f n = 47 :: r) hf ?_ ?_ ?_ ?_ <;> exact ⟨_, rfl⟩
theorem pth_starts {f n : List Nat} (hf : f ∈ fld) : startsL (pth f n) [47] = true := by
  refine ex1E (pth_head f n hf) fun r hr => ?_
  rw [hr, starts_cons]; rfl
theorem code_3 {c f n w : List Nat} (hc : c = [50, 53, 48] ∨ c = [53, 53, 51] ∨ c = [50, 53]) : (sl (c ++ sl (rawOf f n w) (some 3) none) none (some 3) == [50, 53, 55]) = false := by
  rw [show (3 : Int) = ((3 : Nat) : Int) from rfl, sl_xn, sl_nx]
  rcases hc with rfl | rfl | rfl <;> rfl
theorem bare_is (f n w : List Nat) : (rawOf f n w).take ((rawOf f n w).length - w.length) = Q257 ++ dbl 34 (pth f n) := by
  unfold rawOf
  generalize Q257 ++ dbl 34 (pth f n) = z
  rw [List.length_append, Nat.add_sub_cancel, List.take_left]
theorem bare_sl (f n w : List Nat) : sl (rawOf f n w) none (some (((rawOf f n w).length : Int) - (w.length : Int))) = Q257 ++ dbl 34 (pth f n) := by
  have : w.length ≤ (rawOf f n w).length := by unfold rawOf; generalize Q257 ++ dbl 34 (pth f n) = z; rw [List.length_append]; exact Nat.le_add_left _ _
  rw [← Int.ofNat_sub this, sl_xn, bare_is]
theorem bare_parse (p : List Nat) : parseL (Q257 ++ dbl 34 p) = p := by
  show parseL (50 :: 53 :: 55 :: 32 :: 34 :: dbl 34 p) = p
  rw [parseL_257, parseGo_bare]
theorem bare_4 (z : List Nat) : sl (Q257 ++ z) none (some 4) = [50, 53, 55, 32] := by
  rw [show (4 : Int) = ((4 : Nat) : Int) from rfl, sl_xn]; rfl
theorem bare_5 (z : List Nat) : sl (Q257 ++ z) (some 5) none = z := by
  rw [show (5 : Int) = ((5 : Nat) : Int) from rfl, sl_nx]; rfl
theorem bare_4' (z : List Nat) : sl (Q257 ++ z) (some 4) none = 34 :: z := by
  rw [show (4 : Int) = ((4 : Nat) : Int) from rfl, sl_nx]; rfl
theorem dbl47h (r : List Nat) : dbl 34 (47 :: r) = 47 :: dbl 34 r := by rw [dbl_cons]; rfl
theorem bare_none1 (r : List Nat) : parseL ([50, 53, 55, 32] ++ dbl 34 (47 :: r)) = [] := by
  rw [dbl47h]
  exact parseL_no _ fun y e => by simp at e
theorem bare_none2 (z : List Nat) : parseL ([50, 53, 55, 45] ++ 34 :: z) = [] := parseL_no _ fun y e => by simp at e
theorem s3a (z : List Nat) : sl ([50, 53, 55, 32] ++ z) none (some 3) = [50, 53, 55] := by
  rw [show (3 : Int) = ((3 : Nat) : Int) from rfl, sl_xn]; rfl
theorem s3b (z : List Nat) : sl ([50, 53, 55, 45] ++ z) none (some 3) = [50, 53, 55] := by
  rw [show (3 : Int) = ((3 : Nat) : Int) from rfl, sl_xn]; rfl
noncomputable def belowR (b : List Nat) : List Nat := Q257 ++ joinP (dbl 34 b) []
theorem shares_none (r0 t : List Nat) : (sharesL r0 [] [] t != []) = startsL t r0 := by
  unfold sharesL sharesGo
  have h0 : sl t (some ((t.length : Int) - (([] : List Nat).length : Int))) none = [] := by
    rw [show (t.length : Int) - (([] : List Nat).length : Int) = ((t.length : Nat) : Int) by simp, sl_nx, List.drop_length]
  have h1 : (sl t (some ((t.length : Int) - (([] : List Nat).length : Int))) none != []) = false := by rw [h0]; rfl
  simp only [h1, Bool.or_false]
  by_cases h : startsL t r0 = true
  · refine ex1E ((startsL_iff _ _).mp h) fun b hb => ?_
    have hl : ¬ ((t.length : Int) - (([] : List Nat).length : Int) < (r0.length : Int)) := by rw [hb]; simp; lia
    rw [decide_eq_false hl, h]
    simp
  · rw [Bool.not_eq_true] at h
    rw [h]; simp
noncomputable def stC (p : List Nat) : List Nat → Bool := List.rec (fun _ => true) (fun b _ ih l => match l with | [] => false | a :: l => a == b && ih l) p
theorem starts_stC (p : List Nat) : ∀ l, startsL l p = stC p l := by
  induction p with
  | nil => intro l; rfl
  | cons b p ih =>
    intro l
    cases l with
    | nil => rfl
    | cons a l => exact congrArg (a == b && ·) (ih l)
theorem and_f {a b : Bool} (h : a = false) : (a && b) = false := by rw [h]; rfl
theorem beq_f {a b : Nat} (h : a ≠ b) : (a == b) = false := beq_false_of_ne h
theorem below_is {b f n w : List Nat} (hb : b ∈ fld) (hf : f ∈ fld) (g : Good n) : startsL (rawOf f n w) (belowR b) = (cm b f == b) := by
  refine ex2E g.c fun c r zz2 => and3E zz2 fun zz1 hc hr => ?_; subst zz1
  refine ex1E (@dbl_head c r) fun s hs => ?_
  refine and2E (nsig_ne hc) fun h47 h100 => ?_
  have h47 := beq_f h47
  have h100 := beq_f h100
  rw [raw_cut f _ w hf, hs, starts_stC]
  refine fld_cases (P := fun b => stC (belowR b) (frn f ++ 47 :: (c :: s ++ w)) = (cm b f == b)) hb ?_ ?_ ?_ ?_ <;>
  refine fld_cases (P := fun f => stC (belowR _) (frn f ++ 47 :: (c :: s ++ w)) = (cm _ f == _)) hf ?_ ?_ ?_ ?_ <;>
  first | rfl | exact and_f h47 | exact and_f h100
theorem Good.of {n : List Nat} (h1 : n ≠ []) (h2 : ∀ c ∈ n, c ∈ nsig) : Good n := ⟨h1, h2⟩
theorem cut_parts {x0 x1 x2 n : List Nat} (h : cutL x0 x1 x2 n ≠ []) : ∃ p q, cutL x0 x1 x2 n = [p, q] ∧ n = x0 ++ p ++ x1 ++ q ++ x2 := by
  have := cut_cut1 x0 x1 x2 n
  unfold Cut1 at this
  rcases this with ⟨e, _⟩ | ⟨f, s, h1, h2, _⟩
  · exact absurd e h
  · exact ⟨f, s, h1, h2⟩
end Mine
end
-- PL7
section
open PySem PySem.W PySem.Calls PyProof.Rows PySem.Builtin PySem.Builtin.Str PySem.StrLaws
namespace Mine
theorem sl_mem {α : Type} {l : List α} {lo hi : Option Int} {x : α} (h : x ∈ sl l lo hi) : x ∈ l := by
  unfold sl at h
  exact List.mem_of_mem_drop (List.mem_of_mem_take h)
theorem three_le {a b x y n : Nat} (ha : a ≤ n) (h1 : x ≤ n - a - b) (h2 : y ≤ n - a - (b + x)) : a + x + y ≤ n := by
  have q : x + y ≤ n - a := by
    have h3 : x ≤ n - a := Nat.le_trans h1 (Nat.sub_le _ _)
    have h4 : y ≤ n - a - x := Nat.le_trans h2 (Nat.sub_le_sub_left (Nat.le_add_left x b) _)
    rw [Nat.add_comm]; exact Nat.le_trans (Nat.add_le_add_right h4 x) (Nat.le_of_eq (Nat.sub_add_cancel h3))
  rw [Nat.add_assoc, Nat.add_comm]; exact Nat.le_trans (Nat.add_le_add_right q a) (Nat.le_of_eq (Nat.sub_add_cancel ha))
theorem made_cut {made : List Nat} {m s e : Int} (hm0 : 0 ≤ m) (hm1 : m < made.length) (hs0 : 0 ≤ s) (hs1 : s < (made.length : Int) - m) (he0 : 0 ≤ e) (he1 : e < 2) :
    (sl made none (some m)).length = m.toNat ∧ (sl made (some m) none).length = made.length - m.toNat ∧ sl (sl made (some m) none) (some s) (some (s + 1 + e)) ≠ [] ∧
      (sl made none (some m)).length + (sl (sl made (some m) none) (some s) (some (s + 1 + e))).length + (sl (sl (sl made (some m) none) (some (s + (sl (sl made (some m) none) (some s) (some (s + 1 + e))).length)) none) (some (-1)) none).length ≤ made.length := by
  refine ex1E (Int.eq_ofNat_of_zero_le hm0) fun a zz3 => ?_; subst zz3
  refine ex1E (Int.eq_ofNat_of_zero_le hs0) fun b zz2 => ?_; subst zz2
  refine ex1E (Int.eq_ofNat_of_zero_le he0) fun c zz1 => ?_; subst zz1
  have ha : a < made.length := Int.ofNat_lt.mp hm1
  have hb : b + a < made.length := Int.ofNat_lt.mp (Int.add_lt_of_lt_sub_right hs1)
  have e1 : (b : Int) + 1 + c = ((b + 1 + c : Nat) : Int) := rfl
  rw [e1, sl_xn, sl_nx, sl_nn]
  have l1 : (made.take a).length = a := by rw [List.length_take, Nat.min_eq_left (Nat.le_of_lt ha)]
  have l2 : (made.drop a).length = made.length - a := List.length_drop
  have l3 : (((made.drop a).drop b).take (b + 1 + c - b)).length ≤ made.length - a - b := by rw [List.length_take, List.length_drop, List.length_drop]; exact Nat.min_le_right _ _
  have l3' : 1 ≤ (((made.drop a).drop b).take (b + 1 + c - b)).length := by
    rw [List.length_take, List.length_drop, List.length_drop, Nat.add_assoc, Nat.add_sub_cancel_left]
    exact Nat.le_min.mpr ⟨Nat.le_add_right 1 c, Nat.le_sub_of_add_le (Nat.le_sub_of_add_le (by rw [Nat.add_assoc, Nat.add_comm]; exact hb))⟩
  generalize ((made.drop a).drop b).take (b + 1 + c - b) = x1 at l3 l3'
  have e2 : (b : Int) + (x1.length : Nat) = ((b + x1.length : Nat) : Int) := rfl
  rw [e2, sl_nx]
  have l4 := sl_length_le ((made.drop a).drop (b + x1.length)) (some (-1)) none
  rw [List.length_drop, l2] at l4
  refine ⟨by rw [l1]; rfl, by rw [l2]; rfl, fun e => (by rw [e] at l3'; cases l3'), ?_⟩
  rw [l1]
  exact three_le (Nat.le_of_lt ha) l3 l4
end Mine
end
-- Law0
section
open PySem PySem.W PySem.Calls PyProof.Rows PySem.Builtin PySem.Builtin.Str
namespace Mine
noncomputable section
noncomputable def fnB : Option Obj → List Stmt
  | some ⟨_, _, .func fd, _⟩ => (match fd.body with | .stmts b => b | _ => [])
  | _ => []
noncomputable def lawB (P : Params) : List Stmt := fnB ((K39 P).lookup 259)
noncomputable def forB : List Stmt → Nat → List Stmt
  | .For _ _ b _ _ :: _, 0 => b
  | _ :: r, n + 1 => forB r n
  | _, _ => []
noncomputable def outerB (P : Params) : List Stmt := forB (lawB P) 10
noncomputable def innerB (P : Params) : List Stmt := forB (outerB P) 11
noncomputable def lastB (P : Params) : List Stmt := forB (lawB P) 11
noncomputable def fnSc : Option Obj → Scope
  | some ⟨_, _, .func fd, _⟩ => fd.scope
  | _ => ⟨.function, [], false, false, []⟩
noncomputable def lawSc (P : Params) : Scope := fnSc ((K39 P).lookup 259)
noncomputable def nm_law : Nms := [("script", .local), ("cells", .cell), ("bases", .cell), ("k", .local), ("draws", .local), ("folders", .local), ("words", .cell), ("rows", .local), ("d", .cell), ("folder", .cell), ("name", .local), ("raws", .local), ("raw", .local), ("places", .local), ("made", .local), ("base", .cell), ("x0", .local), ("rest", .local), ("start", .local), ("x1", .local), ("x2", .local), ("y0", .local), ("y1", .local), ("y2", .local), ("i", .local), ("j", .local), ("home", .local), ("wire", .local), ("below", .local), ("parts", .local), ("common", .local), ("head", .local), ("tail", .local), ("front", .local), ("back", .local), ("shares", .local), ("pieces", .local), ("fresh", .local), ("answer", .local), ("place", .local), ("heard", .local), ("refused", .local), ("bare", .local), ("range", .globalImplicit), ("min", .globalImplicit), ("len", .globalImplicit), ("_law_runs", .globalImplicit), ("_law_doubled", .globalImplicit), ("join", .globalImplicit), ("_law_cut", .globalImplicit), ("split", .globalImplicit), ("_law_shares", .globalImplicit), ("commonpath", .globalImplicit), ("parse257", .globalImplicit), ("error_reply", .globalImplicit), ("str", .globalImplicit)]
noncomputable abbrev Row := List Nat × List Nat
noncomputable def rawsL (w : List Nat) (R : List Row) : List (List Nat) := R.map fun p => rawOf p.1 p.2 w
noncomputable def placesL (R : List Row) : List (List Nat) := R.map fun p => pth p.1 p.2
structure RowsOk (R : List Row) (n : Nat) : Prop where
  len : R.length = 3
  f : ∀ p ∈ R, p.1 ∈ fld
  g : ∀ p ∈ R, Good p.2
  l : ∀ p ∈ R, p.2.length ≤ n
end
end Mine
end
-- Law1
section
open PySem PySem.W PySem.Calls PyProof.Rows PySem.Builtin PySem.Builtin.Str PySem.StrLaws
namespace Mine
theorem get_ne {σ : List (Option D)} {i j : Nat} {x : Option D} {r : Option (Option D)} (h : σ[i]? = r) (hne : Nat.beq j i = false) : (σ.set j x)[i]? = r := by
  rw [List.getElem?_set_ne (fun e => by rw [e, Nat.beq_refl] at hne; cases hne)]; exact h
theorem get_eq {σ : List (Option D)} {i : Nat} {x : Option D} (h : i < σ.length) : (σ.set i x)[i]? = some x := by
  rw [List.getElem?_set_self h]
theorem lt_set {σ : List (Option D)} {i j : Nat} {x : Option D} (h : i < σ.length) : i < (σ.set j x).length := by rw [List.length_set]; exact h
theorem lt_len {σ : List (Option D)} {i n : Nat} (h : σ.length = n) (q : Nat.blt i n = true) : i < σ.length := by rw [h]; exact Nat.blt_eq.mp q
theorem len_set {σ : List (Option D)} {j n : Nat} {x : Option D} (h : σ.length = n) : (σ.set j x).length = n := by rw [List.length_set]; exact h
theorem get_ne4 {σ : List (Option D)} {i j1 j2 j3 j4 : Nat} {x1 x2 x3 x4 : Option D} {r : Option (Option D)} (h : σ[i]? = r) (hne : (Nat.beq j1 i || Nat.beq j2 i || Nat.beq j3 i || Nat.beq j4 i) = false) : ((((σ.set j1 x1).set j2 x2).set j3 x3).set j4 x4)[i]? = r := by
  have a := Bool.or_eq_false_iff.mp hne
  have b := Bool.or_eq_false_iff.mp a.1
  have c := Bool.or_eq_false_iff.mp b.1
  exact get_ne (get_ne (get_ne (get_ne h c.1) c.2) b.2) a.2
theorem lt_set4 {σ : List (Option D)} {i j1 j2 j3 j4 : Nat} {x1 x2 x3 x4 : Option D} (h : i < σ.length) : i < ((((σ.set j1 x1).set j2 x2).set j3 x3).set j4 x4).length := lt_set (lt_set (lt_set (lt_set h)))
theorem len_set4 {σ : List (Option D)} {n j1 j2 j3 j4 : Nat} {x1 x2 x3 x4 : Option D} (h : σ.length = n) : ((((σ.set j1 x1).set j2 x2).set j3 x3).set j4 x4).length = n := len_set (len_set (len_set (len_set h)))
section
variable {K : Frag} {A : Around} {env : Env} {nms : Nms} {X Xc : Addr → Prop} {sh : Own} {σ : List (Option D)} {P : Out → Prop}
theorem EvT_of {t : Expr} {b : Bool} (h : EvB prog w K A env nms (XO Xc env []) σ t b) : EvT prog w K A env nms Xc [] σ t b := h
end
theorem comp_bf {σ : List (Option D)} {b f : D} (h1 : σ[15]? = some (some b)) (h2 : σ[9]? = some (some f)) : compσ nm_law σ [(".0", .local), ("one", .local), ("_law_above", .globalImplicit), ("base", .cell), ("folder", .cell)] = [none, none, none, some b, some f] := by
  show [none, none, none, (σ[15]?).join, (σ[9]?).join] = _
  rw [h1, h2]; rfl
theorem comp_d {σ : List (Option D)} {d : D} (h : σ[8]? = some (some d)) : compσ nm_law σ [(".0", .local), ("k", .local), ("d", .cell)] = [none, none, some d] := by
  show [none, none, (σ[8]?).join] = _
  rw [h]; rfl
theorem comp_w {σ : List (Option D)} {d : D} (h : σ[6]? = some (some d)) : compσ nm_law σ [(".0", .local), ("folder", .local), ("name", .local), ("_law_doubled", .globalImplicit), ("join", .globalImplicit), ("words", .cell)] = [none, none, none, none, none, some d] := by
  show [none, none, none, none, none, (σ[6]?).join] = _
  rw [h]; rfl
theorem comp_bc {σ : List (Option D)} {b c : D} (h1 : σ[2]? = some (some b)) (h2 : σ[1]? = some (some c)) : compσ nm_law σ [(".0", .local), ("k", .local), ("sum", .globalImplicit), ("bases", .cell), ("cells", .cell)] = [none, none, none, some b, some c] := by
  show [none, none, none, (σ[2]?).join, (σ[1]?).join] = _
  rw [h1, h2]; rfl
structure OutS (script cs bases draws : D) (wd : List Nat) (R : List Row) (σ : List (Option D)) : Prop where
  len : σ.length = 56
  h0 : σ[0]? = some (some (script))
  h1 : σ[1]? = some (some (cs))
  h2 : σ[2]? = some (some (bases))
  h4 : σ[4]? = some (some (draws))
  h5 : σ[5]? = some (some (.list (fld.map .str)))
  h6 : σ[6]? = some (some (.str wd))
  h7 : σ[7]? = some (some (.list (R.map fun p => .list [.str p.1, .str p.2])))
  h11 : σ[11]? = some (some (.list ((rawsL wd R).map .str)))
  h13 : σ[13]? = some (some (.list ((placesL R).map .str)))
structure InnS (script cs bases draws : D) (wd : List Nat) (R : List Row) (d : Int) (base x0 x1 x2 y0 y1 y2 : List Nat) (i jj : Int) (σ : List (Option D)) : Prop where
  len : σ.length = 56
  h0 : σ[0]? = some (some (script))
  h1 : σ[1]? = some (some (cs))
  h2 : σ[2]? = some (some (bases))
  h4 : σ[4]? = some (some (draws))
  h5 : σ[5]? = some (some (.list (fld.map .str)))
  h6 : σ[6]? = some (some (.str wd))
  h7 : σ[7]? = some (some (.list (R.map fun p => .list [.str p.1, .str p.2])))
  h8 : σ[8]? = some (some (.int d))
  h11 : σ[11]? = some (some (.list ((rawsL wd R).map .str)))
  h13 : σ[13]? = some (some (.list ((placesL R).map .str)))
  h15 : σ[15]? = some (some (.str base))
  h16 : σ[16]? = some (some (.str x0))
  h19 : σ[19]? = some (some (.str x1))
  h20 : σ[20]? = some (some (.str x2))
  h21 : σ[21]? = some (some (.str y0))
  h22 : σ[22]? = some (some (.str y1))
  h23 : σ[23]? = some (some (.str y2))
  h24 : σ[24]? = some (some (.int i))
  h25 : σ[25]? = some (some (.int jj))
  h26 : σ[26]? = some (some (.list ((x0 :: ([x1] ++ [x2])).map .str)))
  h27 : σ[27]? = some (some (.list ((dbl 34 x0 :: ([dbl 34 x1] ++ [dbl 34 x2 ++ wd])).map .str)))
  h28 : σ[28]? = some (some (.list ((belowR base :: ([] ++ [[]])).map .str)))
theorem InnS.out {script cs bases draws : D} {wd : List Nat} {R : List Row} {d : Int} {base x0 x1 x2 y0 y1 y2 : List Nat} {i jj : Int} {σ : List (Option D)} (g : InnS script cs bases draws wd R d base x0 x1 x2 y0 y1 y2 i jj σ) : OutS script cs bases draws wd R σ :=
  ⟨g.len, g.h0, g.h1, g.h2, g.h4, g.h5, g.h6, g.h7, g.h11, g.h13⟩
theorem nL0 : nm_law[0]? = some ("script", .local) := rfl
theorem nL1 : nm_law[1]? = some ("cells", .cell) := rfl
theorem nL2 : nm_law[2]? = some ("bases", .cell) := rfl
theorem nL3 : nm_law[3]? = some ("k", .local) := rfl
theorem nL4 : nm_law[4]? = some ("draws", .local) := rfl
theorem nL5 : nm_law[5]? = some ("folders", .local) := rfl
theorem nL6 : nm_law[6]? = some ("words", .cell) := rfl
theorem nL7 : nm_law[7]? = some ("rows", .local) := rfl
theorem nL8 : nm_law[8]? = some ("d", .cell) := rfl
theorem nL9 : nm_law[9]? = some ("folder", .cell) := rfl
theorem nL10 : nm_law[10]? = some ("name", .local) := rfl
theorem nL11 : nm_law[11]? = some ("raws", .local) := rfl
theorem nL12 : nm_law[12]? = some ("raw", .local) := rfl
theorem nL13 : nm_law[13]? = some ("places", .local) := rfl
theorem nL14 : nm_law[14]? = some ("made", .local) := rfl
theorem nL15 : nm_law[15]? = some ("base", .cell) := rfl
theorem nL16 : nm_law[16]? = some ("x0", .local) := rfl
theorem nL17 : nm_law[17]? = some ("rest", .local) := rfl
theorem nL18 : nm_law[18]? = some ("start", .local) := rfl
theorem nL19 : nm_law[19]? = some ("x1", .local) := rfl
theorem nL20 : nm_law[20]? = some ("x2", .local) := rfl
theorem nL21 : nm_law[21]? = some ("y0", .local) := rfl
theorem nL22 : nm_law[22]? = some ("y1", .local) := rfl
theorem nL23 : nm_law[23]? = some ("y2", .local) := rfl
theorem nL24 : nm_law[24]? = some ("i", .local) := rfl
theorem nL25 : nm_law[25]? = some ("j", .local) := rfl
theorem nL26 : nm_law[26]? = some ("home", .local) := rfl
theorem nL27 : nm_law[27]? = some ("wire", .local) := rfl
theorem nL28 : nm_law[28]? = some ("below", .local) := rfl
theorem nL29 : nm_law[29]? = some ("parts", .local) := rfl
theorem nL30 : nm_law[30]? = some ("common", .local) := rfl
theorem nL31 : nm_law[31]? = some ("head", .local) := rfl
theorem nL32 : nm_law[32]? = some ("tail", .local) := rfl
theorem nL33 : nm_law[33]? = some ("front", .local) := rfl
theorem nL34 : nm_law[34]? = some ("back", .local) := rfl
theorem nL35 : nm_law[35]? = some ("shares", .local) := rfl
theorem nL36 : nm_law[36]? = some ("pieces", .local) := rfl
theorem nL37 : nm_law[37]? = some ("fresh", .local) := rfl
theorem nL38 : nm_law[38]? = some ("answer", .local) := rfl
theorem nL39 : nm_law[39]? = some ("place", .local) := rfl
theorem nL40 : nm_law[40]? = some ("heard", .local) := rfl
theorem nL41 : nm_law[41]? = some ("refused", .local) := rfl
theorem nL42 : nm_law[42]? = some ("bare", .local) := rfl
section
variable {K : Frag} {A : Around} {env : Env} {nms : Nms} {X : Addr → Prop} {σ : List (Option D)}
theorem Ev_nk {i : Nat} {n : String} {k : NameKind} {pos : Pos} {d : D} (hn : nms[i]? = some (n, k)) (hk : okK k = true) (hd : σ[i]? = some (some d)) : Ev prog w K A env nms X σ (.Name n pos) d := Ev_name i hn hd (okK_of hk)
end
end Mine
end
-- Law2
section
open PySem PySem.W PySem.Calls PyProof.Rows PySem.Builtin PySem.Builtin.Str PySem.StrLaws
namespace Mine
theorem rows_upd {R : List Row} {N k : Nat} {p : Row} {fr : List Nat} (ok : RowsOk R N) (hk : k < 3) (hp : R[k]? = some p) (gf : Good fr) (hl : fr.length ≤ N) : RowsOk (R.take k ++ [(p.1, fr)] ++ R.drop (k + 1)) N := by
  have hm := List.mem_of_getElem? hp
  have mem : ∀ q ∈ R.take k ++ [(p.1, fr)] ++ R.drop (k + 1), q ∈ R ∨ q = (p.1, fr) := by
    intro q hq
    simp only [List.mem_append, List.mem_cons, List.not_mem_nil, or_false] at hq
    rcases hq with (h | h) | h
    · exact .inl (List.mem_of_mem_take h)
    · exact .inr h
    · exact .inl (List.mem_of_mem_drop h)
  refine ⟨?_, fun q hq => ?_, fun q hq => ?_, fun q hq => ?_⟩
  · rw [List.length_append, List.length_append, List.length_take, List.length_drop, ok.len, Nat.min_eq_left (Nat.le_of_lt hk)]
    exact Nat.add_sub_cancel' hk
  · rcases mem q hq with h | rfl
    · exact ok.f q h
    · exact ok.f p hm
  · rcases mem q hq with h | rfl
    · exact ok.g q h
    · exact gf
  · rcases mem q hq with h | rfl
    · exact ok.l q h
    · exact hl
theorem rows_from {R : List Row} {k i : Nat} {x : Row} (hl : R.length = 3) (hk : k < 3) (hi : k + 1 ≤ i) : (R.take k ++ [x] ++ R.drop (k + 1))[i]? = R[i]? := by
  have h1 : (R.take k ++ [x]).length = k + 1 := by rw [List.length_append, List.length_take, Nat.min_eq_left (Nat.le_of_lt (hl ▸ hk))]; rfl
  rw [List.getElem?_append_right (by rw [h1]; exact hi), h1, List.getElem?_drop, Nat.add_sub_cancel' hi]
end Mine
end
section
open PySem PySem.W PySem.Calls PyProof.Rows PySem.Builtin PySem.Builtin.Str
namespace Mine
set_option hygiene false in
local macro_rules | `(tactic| walk_at "bd") => `(tactic| first
  | with_reducible assumption
  | ((with_reducible first | apply len_app | apply Nat.add_le_add | apply sl_le | apply len_map | apply dbl_le) <;> walk_at "bd")
  | exact Nat.le_refl _)
set_option hygiene false in
local macro_rules | `(tactic| walk_at "sz") => `(tactic| first
  | with_reducible assumption
  | ((with_reducible apply le_lit) <;> first | decide | walk_at "bd")
  | ((try rw [sizeLine_eq]); (try simp only [List.length_append, List.length_cons, List.length_nil, List.length_map]); lia)
  | ((try rw [sizeLine_eq]); simp; done)
  | ((try rw [sizeLine_eq]); simp; lia))
set_option hygiene false in
local macro_rules | `(tactic| walk_at "n") => `(tactic| first | exact Ev_nme 0 rfl rfl rfl | exact Ev_nme 1 rfl rfl rfl | exact Ev_nme 2 rfl rfl rfl | exact Ev_nme 3 rfl rfl rfl | exact Ev_nme 4 rfl rfl rfl | exact Ev_nme 5 rfl rfl rfl | exact Ev_nme 6 rfl rfl rfl | exact Ev_nme 7 rfl rfl rfl | exact Ev_nme 8 rfl rfl rfl | exact Ev_nme 9 rfl rfl rfl | exact Ev_nme 10 rfl rfl rfl | exact Ev_nme 11 rfl rfl rfl | exact Ev_nme 12 rfl rfl rfl | exact Ev_nme 13 rfl rfl rfl | exact Ev_nme 14 rfl rfl rfl | exact Ev_nme 15 rfl rfl rfl | exact Ev_nme 16 rfl rfl rfl | exact Ev_nme 17 rfl rfl rfl)
set_option hygiene false in
local macro_rules | `(tactic| walk_at "m") => `(tactic| with_reducible first | exact List.mem_cons_self | (refine List.mem_cons_of_mem _ ?_; walk_at "m"))
set_option hygiene false in
local macro_rules | `(tactic| walk_at "g") => `(tactic| first
  | ((with_reducible show Ev _ _ _ _ _ _ _ _ (Expr.Name _ _) _); first | walk_at "n" | exact Ev_bu (by decide +kernel) (by walk_at "m") | exact Ev_gl (by decide +kernel) (by walk_at "m"))
  | ((with_reducible show _ = _); first | with_reducible assumption | with_unfolding_all exact rfl)
  | with_reducible exact Ev_int
  | ((with_reducible show Ev _ _ _ _ _ _ _ _ (Expr.Constant _ _ _) _); exact Ev_lit (by walk_at "m"))
  | with_reducible show (_ : Type _)
  | ((with_reducible constructor) <;> walk_at "g")
  | ((with_reducible show Op2 _ _ _ _ _ _ _ _ _); first
    | with_reducible first | exact Op_add | exact Op_sub | exact Op_eqS | exact Op_inSS | exact Op_notInSS | exact Op_neS | exact Op_lt | exact Op_le | exact Op_gt | exact Op_ge | exact Op_eqI
    | ((with_reducible first | refine' Op_addS ?_ | refine' Op_addL ?_ | refine' Op_mulS ?_ | refine' Op_fdiv ?_ ?_ | refine' Op_mod ?_) <;> walk_at "g")
    | ((with_reducible refine' Op_idxL ?_ ?_ ?_) <;> walk_at "g")
    | ((with_reducible refine' Op_idxLast ?_ ?_) <;> walk_at "g")
    | walk_at "o")
  | ((with_reducible show EvB _ _ _ _ _ _ _ _ _ _); (with_reducible first | refine' EvB_cmp ?_ ?_ ?_ ?_ | refine' EvB_not ?_ | refine' EvB_or3 ?_ ?_ ?_ | refine' EvB_or ?_ ?_ | refine' EvB_and ?_ ?_ | refine' EvB_val ?_ ?_ ?_) <;> walk_at "g")
  | ((with_reducible show Ev _ _ _ _ _ _ _ _ _ _); first
    | with_reducible first | exact Ev_bool | exact Ev_none
    | ((with_reducible first | refine' Ev_bin ?_ ?_ ?_ | refine' Ev_meth ?_ ?_ ?_ ?_ ?_ | refine' Ev_cmp ?_ ?_ ?_ ?_ | refine' Ev_neg ?_ | refine' Ev_list ?_ ?_ | refine' Ev_tuple ?_ ?_) <;> walk_at "g")
    | ((with_reducible show Ev _ _ _ _ _ _ _ _ (Expr.Call _ _ _ _) _); refine' Ev_callF (by decide +kernel) (by walk_at "m") (by rfl) (by rfl) ?_ ?_ ?_ <;> first | walk_at "s" | walk_at "g")
    | ((with_reducible refine' Ev_callB ?_ ?_ ?_ ?_) <;> walk_at "g")
    | ((with_reducible refine' Ev_callT ?_ ?_ ?_ ?_) <;> walk_at "g")
    | ((with_reducible first | refine' Ev_slice ?_ ?_ ?_ ?_ | refine' Ev_sub ?_ ?_ ?_ ?_) <;> walk_at "g"))
  | ((with_reducible show EvAll _ _ _ _ _ _ _ _ _ _); first | exact EvAll.nil | (refine' EvAll.cons ?_ ?_ ?_ <;> walk_at "g"))
  | with_reducible first | exact M_startswith | exact M_endswith | exact M_rfind | exact M_find | exact M_rstrip | exact M_join | exact M_split | exact Op_issub | exact Op_isB | exact Op_isS | exact Op_type | exact Op_abs | exact Op_startswith | exact Op_endswith | exact Op_rfind | exact Op_find | exact Op_find3 | exact Tr_bool
  | ((with_reducible first | refine' Op_lenS ?_ | refine' Op_lenL ?_ | refine' Op_min2 ?_ | refine' Op_rstrip ?_ | refine' Op_join ?_ | refine' Op_split ?_ ?_ ?_ | refine' Tr_str ?_ | refine' Tr_list ?_ | refine' Sub1_s ?_ ?_ ?_ | refine' Sub1_l ?_ | refine' Sl1_s ?_ | refine' Sl1_l ?_) <;> walk_at "g")
  | with_reducible assumption
  | ((with_reducible apply Rm.le) <;> first | assumption | decide)
  | ((with_reducible first | show _ ≤ _ | show _ < _) <;> first | decide | walk_at "sz")
  | (intros; with_unfolding_all exact rfl)
  | ((with_reducible intro _) <;> walk_at "g")
  | decide
  | assumption)
local macro_rules | `(tactic| walk_at "fs") => `(tactic| (
  (case hK => rfl)
  (case hcd => kernel_rfl)
  (case hsc => rfl)
  (case hk => rfl)
  (case hco => rfl)
  (case hg => rfl)))
local macro_rules | `(tactic| walk_at "csc") => `(tactic| (
  (case hsc => rfl)
  (case hok => decide +kernel)
  (case hkind => rfl)
  (case hnc => decide +kernel)
  (case hnames => decide +kernel)))
-- SpCut
section
section
noncomputable def nm_cut : Nms := [("x0", .local), ("x1", .local), ("x2", .local), ("name", .local), ("k", .local), ("first", .local), ("second", .local), ("range", .globalImplicit), ("len", .globalImplicit)]
set_option maxHeartbeats 4000000 in
theorem sp_cut {x0 x1 x2 name : List Nat} (h0 : x0.length ≤ 1000000) (h1 : x1.length ≤ 1000000) (h2 : x2.length ≤ 1000000) (h3 : name.length ≤ 1000000) :
    FSpec prog w (K39 w.params) 254 1 [.str x0, .str x1, .str x2, .str name] (.list ((cutL x0 x1 x2 name).map .str)) := by
  refine' FSpec_of nm_cut (f := 254) (ds := [.str x0, .str x1, .str x2, .str name]) (n := 0) ?hK ?hcd (KL _) ?hsc (by decide +kernel) ?hk ?hco ?hg rfl (Nat.le_of_ble_eq_true rfl) rfl rfl ?hb ?hbody
  walk_at "fs"
  case hb =>
    intro s vs hv
    refine ex4E (len4 hv) fun a b c d zz1 => ?_; subst zz1
    exact BindsTo.of_eq rfl
  case hbody =>
    intro A L Xc hr
    have e0 : startσ nm_cut [.str x0, .str x1, .str x2, .str name] = [some (.str x0), some (.str x1), some (.str x2), some (.str name), none, none, none, none, none] := rfl
    rw [e0]
    generalize hN0 : ((name.length : Int) - x1.length - x2.length + 1 - x0.length).toNat = N
    refine Ex_cons (ExS_forT 4 rfl (.inl rfl) (ds := intsD (x0.length : Int) N) _ _ hel_range
      (fun j (_ : Option D × Option D × Option D) => cutL x0 x1 x2 name = cutFn x0 x1 x2 name (((List.range N).map fun i => (x0.length : Int) + (i : Nat)).drop j))
      (fun _ _ => []) (fun _ z => [some (.str x0), some (.str x1), some (.str x2), some (.str name), z.1, z.2.1, z.2.2, none, none]) ?_ (none, none, none) (by rw [List.drop_zero, ← hN0]; rfl) rfl rfl ?_ ?_)
    · intro own _
      rw [← hN0]
      refine EvIt_range2 hr.h ?_ ?_ ?_ (by lia) (by lia) (by lia) (by lia)
      · walk_at "g"
      · walk_at "g"
      · walk_at "g"
    · intro j _ z hj hc Xc' _ Q hN _ _ hR
      rw [List.drop_eq_getElem_cons (by simpa using hj)] at hc
      simp only [List.getElem_map, List.getElem_range] at hc
      unfold cutFn at hc
      generalize hk : (x0.length : Int) + (j : Nat) = k at hc ⊢
      have l1 := sl_length_le name (some x0.length) (some k)
      have l2 := sl_length_le name (some (k + x1.length)) (some (name.length - x2.length))
      refine Ex_cons (ExS_assign2s 5 6 (d1 := .str (sl name (some x0.length) (some k))) (d2 := .str (sl name (some (k + x1.length)) (some (name.length - x2.length)))) rfl rfl (.inl rfl) (.inl rfl) (by decide) rfl hr.h ?_ ?_)
      · intro own _
        show Ev _ _ _ _ _ _ _ [some (.str x0), some (.str x1), some (.str x2), some (.str name), some (.int k), z.2.1, z.2.2, none, none] _ _
        walk_at "g"
      · show Ex _ _ _ _ _ _ _ _ [some (.str x0), some (.str x1), some (.str x2), some (.str name), some (.int k), some (.str (sl name (some x0.length) (some k))), some (.str (sl name (some (k + x1.length)) (some (name.length - x2.length)))), none, none] _ _
        refine Ex_cons (ExS_if (b := x0 ++ sl name (some x0.length) (some k) ++ x1 ++ sl name (some (k + x1.length)) (some (name.length - x2.length)) ++ x2 == name) (by unfold EvT; walk_at "g") ?_ ?_)
        · intro h
          rw [if_pos h] at hc
          refine Ex_cons (ExS_ret (d := .list ((cutL x0 x1 x2 name).map .str)) ?_ (hR _ rfl))
          rw [hc]
          unfold EvL
          show Ev _ _ _ _ _ _ _ _ _ (.list [.str _, .str _])
          walk_at "g"
        · intro h
          rw [if_neg (by rw [h]; decide)] at hc
          exact Ex_nil (Ex_nil (hN (_, _, _) _ _ hc rfl rfl))
    · intro z hc
      rw [List.drop_of_length_le (by simp [intsD])] at hc
      refine Ex_cons (ExS_ret (d := .list ((cutL x0 x1 x2 name).map .str)) ?_ rfl)
      rw [hc]
      unfold EvL
      show Ev _ _ _ _ _ _ _ _ _ (.list [])
      walk_at "g"
end
end
-- SpEscape
section
section
noncomputable def nm_escape : Nms := [("pattern", .local), ("isinstance", .globalImplicit), ("str", .globalImplicit), ("_special_chars_map", .globalImplicit)]
set_option maxHeartbeats 4000000 in
theorem sp_escape {c : Nat} (hc : c ∈ okP) : FSpec prog w (K39 w.params) 94 1 [.str [c]] (.str (escP c)) := by
  refine' FSpec_of nm_escape (f := 94) (ds := [.str [c]]) (n := 0) ?hK ?hcd (KL _) ?hsc (by decide +kernel) ?hk ?hco ?hg rfl (Nat.le_of_ble_eq_true rfl) rfl rfl ?hb ?hbody
  walk_at "fs"
  case hb =>
    intro s vs hv
    refine ex1E (len1 hv) fun a zz1 => ?_; subst zz1
    exact BindsTo.of_eq rfl
  case hbody =>
    intro A L Xc hr
    have e0 : startσ nm_escape [.str [c]] = [some (.str [c]), none, none, none] := rfl
    rw [e0]
    refine Ex_ifT ?_ ?_
    · unfold EvT
      show EvB _ _ _ _ _ _ _ [some (.str [c]), none, none, none] _ _
      walk_at "g"
    · refine Ex_cons (ExS_ret (d := .str (escP c)) ?_ rfl)
      unfold EvL
      show Ev _ _ _ _ _ _ _ [some (.str [c]), none, none, none] _ _
      refine Ev_meth (he := by rfl) (x := .str [c]) (ds := [.val (.ref 84)]) ?_ M_translate ?_ (Op_translate hc hr.h)
      · walk_at "g"
      · refine EvAll.cons (by rfl) ?_ EvAll.nil
        walk_at "g"
end
end
-- SpJp
section
set_option hygiene false in
local macro_rules | `(tactic| walk_at "o") => `(tactic| first
  | with_reducible exact Op_isnot_sv
  | with_reducible exact Op_isnot_vv
  | with_reducible exact Op_is_vv)
section
noncomputable def nm_jp : Nms := [("inp", .local), ("STAR", .local), ("res", .local), ("add", .local), ("i", .local), ("n", .local), ("fixed", .local), ("len", .globalImplicit)]
set_option maxHeartbeats 8000000 in
theorem sp_jp {a : Addr} {r0 : List Nat} {ms : List (List Nat)} (hok : okM ms = true) (hne : ms ≠ []) (hL : (esc r0 ++ outM ms).length ≤ 100000) (hT : (r0.map some ++ starM ms).length ≤ 3000) :
    FSpec prog w (K39 w.params) 108 1 [.list (parD a (r0.map some ++ starM ms)), .val (.ref a)] (.str ([40, 63, 115, 58] ++ (esc r0 ++ outM ms) ++ [41, 92, 90])) := by
  generalize hts : r0.map some ++ starM ms = ts at hT
  generalize hG : esc r0 ++ outM ms = G at hL
  refine' FSpec_of nm_jp (f := 108) (ds := [.list (parD a ts), .val (.ref a)]) (n := 0) ?hK ?hcd (KL _) ?hsc (by decide +kernel) ?hk ?hco ?hg rfl (Nat.le_of_ble_eq_true rfl) rfl rfl ?hb ?hbody
  walk_at "fs"
  case hb =>
    intro s vs hv
    refine ex2E (len2 hv) fun a b zz1 => ?_; subst zz1
    exact BindsTo.of_eq rfl
  case hbody =>
    intro A L Xc hr
    have lpar := parD_len a ts
    have lp3 : (parD a ts).length ≤ 3000 := by lia
    have e0 : startσ nm_jp [.list (parD a ts), .val (.ref a)] = [some (.list (parD a ts)), some (.val (.ref a)), none, none, none, none, none, none] := rfl
    rw [e0]
    refine Ex_cons (ExS_assignOwn 2 (ds := []) rfl (.inl rfl) (fun own _ => EvAll.nil) (by simp) fun ar => ?_)
    show Ex _ _ _ _ _ _ _ [(2, ar, [])] [some (.list (parD a ts)), some (.val (.ref a)), none, none, none, none, none, none] _ _
    refine Ex_cons (ExS_getapp 2 3 rfl (.inl rfl) rfl (.inl rfl) (.head _) (by decide) rfl fun b => ?_)
    show Ex _ _ _ _ _ _ _ [(2, ar, [])] [some (.list (parD a ts)), some (.val (.ref a)), none, some (.obj b (bmObj ar)), none, none, none, none] _ _
    refine Ex_cons (ExS_assign2s 4 5 (d1 := .int 0) (d2 := .int ts.length) rfl rfl (.inl rfl) (.inl rfl) (by decide) rfl hr.h ?_ ?_)
    · intro own _
      rw [← lpar]
      walk_at "g"
    show Ex _ _ _ _ _ _ _ [(2, ar, ([] : List (List Nat)).map .str)] [some (.list (parD a ts)), some (.val (.ref a)), none, some (.obj b (bmObj ar)), some (.int ((0 : Nat))), some (.int ts.length), none, none] _ _
    -- the first run
    refine Ex_cons (ExS_to1 (fun acc : List (List Nat) => acc.flatten = esc r0 ∧ acc.length ≤ 2 * r0.length) (fun acc => [(2, ar, acc.map .str)]) (fun _ => [some (.list (parD a ts)), some (.val (.ref a)), none, some (.obj b (bmObj ar)), some (.int (r0.length)), some (.int ts.length), none, none])
      (fun Q hQ => ExS_while3 (fun (p q : List Nat) (acc : List (List Nat)) => r0 = p ++ q ∧ acc.flatten = esc p ∧ acc.length ≤ 2 * p.length) (fun _ q _ => q.length) (fun _ _ acc => [(2, ar, acc.map .str)]) (fun p _ _ => [some (.list (parD a ts)), some (.val (.ref a)), none, some (.obj b (bmObj ar)), some (.int (p.length)), some (.int ts.length), none, none]) ?_ [] r0 [] ⟨rfl, rfl, by simp⟩ rfl rfl) ?_)
    · intro p q acc zi; refine and3E zi fun e hfl hal => ?_
      have hlp : p.length ≤ ts.length := by rw [← hts, e]; simp <;> lia
      refine ⟨!q.isEmpty, ?_, ?_, ?_⟩
      · unfold EvT
        show EvB _ _ _ _ _ _ _ [some (.list (parD a ts)), some (.val (.ref a)), some (.list (acc.map .str)), some (.obj b (bmObj ar)), some (.int (p.length)), some (.int ts.length), none, none] _ _
        cases q with
        | nil =>
          cases ms with
          | nil => exact absurd rfl hne
          | cons m ms =>
            have hd := parD_at (a := a) (ts := ts) (i := p.length) (pre := p.map some) (t := none) (post := m.map some ++ starM ms) (by rw [← hts, e, starM_cons]; simp) (by simp)
            refine EvB.to (EvB_and (x := decide ((p.length : Int) < ts.length)) (y := false) (by walk_at "g") (fun h => ?_)) (by simp)
            have hd' : (parD a ts)[((p.length : Nat) : Int).toNat]? = some (.val (.ref a)) := hd
            walk_at "g"
        | cons c q =>
          have hd := parD_at (a := a) (ts := ts) (i := p.length) (pre := p.map some) (t := some c) (post := q.map some ++ starM ms) (by rw [← hts, e]; simp) (by simp)
          have hd' : (parD a ts)[((p.length : Nat) : Int).toNat]? = some (.str (esc1 c)) := hd
          have hlt : p.length < ts.length := by rw [← hts, e]; simp <;> lia
          refine EvB.to (EvB_and (x := decide ((p.length : Int) < ts.length)) (y := true) (by walk_at "g") (fun h => ?_)) (by simp <;> lia)
          walk_at "g"
      · intro h
        cases q with
        | nil => rw [List.append_nil] at e; subst e; exact hQ acc _ _ ⟨hfl, hal⟩ rfl rfl
        | cons _ _ => cases h
      · intro h R hN _ _ _
        cases q with
        | nil => cases h
        | cons c q =>
        have hd := parD_at (a := a) (ts := ts) (i := p.length) (pre := p.map some) (t := some c) (post := q.map some ++ starM ms) (by rw [← hts, e]; simp) (by simp)
        have hd' : (parD a ts)[((p.length : Nat) : Int).toNat]? = some (.str (esc1 c)) := hd
        refine Ex_cons (ExS_app 2 3 (d := .str (esc1 c)) rfl (.inl rfl) rfl (.head _) ?_ ?_ ?_)
        · rw [sizeLine_eq, List.length_map]; lia
        · intro own _
          walk_at "g"
        show Ex _ _ _ _ _ _ _ [(2, ar, acc.map .str ++ [.str (esc1 c)])] [some (.list (parD a ts)), some (.val (.ref a)), none, some (.obj b (bmObj ar)), some (.int (p.length)), some (.int ts.length), none, none] _ _
        refine Ex_cons (ExS_aug 4 (a := .int p.length) (b := .int 1) (d := .int (p.length + 1)) rfl (.inl rfl) rfl (by unfold EvL; walk_at "g") (fun X => Op_iaddI) rfl (Ex_nil (hN (p ++ [c]) q (acc ++ [esc1 c]) _ _ (Nat.lt_succ_self _) ⟨by rw [e]; simp, ?_, ?_⟩ ?_ ?_)))
        · rw [List.flatten_append, hfl, esc_append]; simp [esc]
        · simp <;> lia
        · rw [List.map_append]; rfl
        · simp
    intro acc0 zi; refine and2E zi fun hfl0 hal0 => ?_
    -- the runs behind the stars
    refine Ex_cons (ExS_to2 (fun (acc : List (List Nat)) (_ : Option D) => acc.flatten = G) (fun acc _ => [(2, ar, acc.map .str)]) (fun _ c6 => [some (.list (parD a ts)), some (.val (.ref a)), none, some (.obj b (bmObj ar)), some (.int (ts.length)), some (.int ts.length), c6, none])
      (fun Q hQ => ExS_while4 (fun (pre : List (Option Nat)) (ms' : List (List Nat)) (acc : List (List Nat)) (_ : Option D) => ts = pre ++ starM ms' ∧ okM ms' = true ∧ acc.flatten ++ outM ms' = G ∧ acc.length ≤ 2 * pre.length) (fun _ ms' _ _ => (starM ms').length) (fun _ _ acc _ => [(2, ar, acc.map .str)]) (fun pre _ _ c6 => [some (.list (parD a ts)), some (.val (.ref a)), none, some (.obj b (bmObj ar)), some (.int (pre.length)), some (.int ts.length), c6, none]) ?_
        (r0.map some) ms acc0 none ⟨hts.symm, hok, by rw [hfl0, hG], by simpa using hal0⟩ rfl (by simp)) ?_)
    · intro pre ms' acc c6 zi; refine and4E zi fun e hok' hfl hal => ?_
      have hlp : pre.length ≤ ts.length := by rw [e]; simp
      refine ⟨decide ((pre.length : Int) < ts.length), ?_, ?_, ?_⟩
      · unfold EvT
        show EvB _ _ _ _ _ _ _ [some (.list (parD a ts)), some (.val (.ref a)), some (.list (acc.map .str)), some (.obj b (bmObj ar)), some (.int (pre.length)), some (.int ts.length), c6, none] _ _
        walk_at "g"
      · intro h
        have h := of_decide_eq_false h
        cases ms' with
        | nil =>
          have e' : ts = pre := by rw [e]; simp [starM]
          exact hQ acc c6 _ _ (by simpa [outM] using hfl) rfl (by rw [e'])
        | cons m r =>
          exfalso
          apply h
          rw [e, starM_cons]; simp <;> lia
      · intro h Q2 hN _ hB _
        have h := of_decide_eq_true h
        cases ms' with
        | nil => rw [e] at h; simp [starM] at h
        | cons m r =>
        have hd0 := parD_at (a := a) (ts := ts) (i := pre.length) (pre := pre) (t := none) (post := m.map some ++ starM r) (by rw [e, starM_cons]) rfl
        have hd0' : (parD a ts)[((pre.length : Nat) : Int).toNat]? = some (.val (.ref a)) := hd0
        have hla : acc.length ≤ 7000 := by lia
        refine Ex_cons (ExS_assert ?_ ?_)
        · unfold EvT
          show EvB _ _ _ _ _ _ _ [some (.list (parD a ts)), some (.val (.ref a)), some (.list (acc.map .str)), some (.obj b (bmObj ar)), some (.int (pre.length)), some (.int ts.length), c6, none] _ _
          walk_at "g"
        refine Ex_cons (ExS_aug 4 (a := .int pre.length) (b := .int 1) (d := .int (pre.length + 1)) rfl (.inl rfl) rfl (by unfold EvL; walk_at "g") (fun X => Op_iaddI) rfl ?_)
        show Ex _ _ _ _ _ _ _ [(2, ar, acc.map .str)] [some (.list (parD a ts)), some (.val (.ref a)), none, some (.obj b (bmObj ar)), some (.int (pre.length + 1)), some (.int ts.length), c6, none] _ _
        refine Ex_cons (ExS_if (b := m.isEmpty) ?_ (fun hm => ?_) (fun hm => Ex_nil ?_))
        · unfold EvT
          show EvB _ _ _ _ _ _ _ [some (.list (parD a ts)), some (.val (.ref a)), some (.list (acc.map .str)), some (.obj b (bmObj ar)), some (.int (pre.length + 1)), some (.int ts.length), c6, none] _ _
          refine EvB.to (by walk_at "g") ?_
          rw [e, starM_cons]
          cases m with
          | nil => cases r with
            | nil => simp [starM]
            | cons _ _ => simp [okM] at hok'
          | cons c m => simp <;> lia
        · cases m with
          | cons _ _ => cases hm
          | nil =>
            cases r with
            | cons _ _ => simp [okM] at hok'
            | nil =>
              refine Ex_cons (ExS_app 2 3 (d := .str [46, 42]) rfl (.inl rfl) rfl (.head _) ?_ ?_ ?_)
              · rw [sizeLine_eq, List.length_map]; lia
              · intro own _
                walk_at "g"
              refine Ex_cons (ExS_break (hB _ _ (hQ (acc ++ [[46, 42]]) c6 _ _ ?_ ?_ ?_)))
              · rw [← hfl]; simp [outM, esc]
              · rw [List.map_append]; rfl
              · have : (ts.length : Int) = pre.length + 1 := by rw [e]; simp [starM]
                rw [this]
        cases m with
        | nil => cases hm
        | cons c m =>
        have hd1 := parD_at (a := a) (ts := ts) (i := pre.length + 1) (pre := pre ++ [none]) (t := some c) (post := m.map some ++ starM r) (by rw [e, starM_cons]; simp) (by simp)
        have hd1' : (parD a ts)[((pre.length : Int) + 1).toNat]? = some (.str (esc1 c)) := hd1
        refine Ex_cons (ExS_assert ?_ ?_)
        · unfold EvT
          show EvB _ _ _ _ _ _ _ [some (.list (parD a ts)), some (.val (.ref a)), some (.list (acc.map .str)), some (.obj b (bmObj ar)), some (.int (pre.length + 1)), some (.int ts.length), c6, none] _ _
          walk_at "g"
        refine Ex_cons (ExS_assignOwn 6 (ds := []) rfl (.inl rfl) (fun own _ => EvAll.nil) (by simp) fun af => ?_)
        generalize hm0 : c :: m = m0 at *
        have hlm : pre.length + 1 + m0.length + (starM r).length = ts.length := by rw [e, starM_cons]; simp <;> lia
        show Ex _ _ _ _ _ _ _ [(6, af, ([] : List (List Nat)).map .str), (2, ar, acc.map .str)] [some (.list (parD a ts)), some (.val (.ref a)), none, some (.obj b (bmObj ar)), some (.int (pre.length + 1)), some (.int ts.length), none, none] _ _
        refine Ex_cons (ExS_to1 (fun fx : List (List Nat) => fx.flatten = esc m0 ∧ fx.length ≤ m0.length) (fun fx => [(6, af, fx.map .str), (2, ar, acc.map .str)]) (fun _ => [some (.list (parD a ts)), some (.val (.ref a)), none, some (.obj b (bmObj ar)), some (.int (pre.length + 1 + m0.length)), some (.int ts.length), none, none])
          (fun Q3 hQ3 => ExS_while3 (fun (p q : List Nat) (fx : List (List Nat)) => m0 = p ++ q ∧ fx.flatten = esc p ∧ fx.length ≤ p.length) (fun _ q _ => q.length) (fun _ _ fx => [(6, af, fx.map .str), (2, ar, acc.map .str)]) (fun p _ _ => [some (.list (parD a ts)), some (.val (.ref a)), none, some (.obj b (bmObj ar)), some (.int (pre.length + 1 + p.length)), some (.int ts.length), none, none]) ?_ [] m0 [] ⟨rfl, rfl, by simp⟩ rfl (by simp)) ?_)
        · intro p q fx zi; refine and3E zi fun e2 hfx hfl2 => ?_
          have hl2 : p.length + q.length = m0.length := by rw [e2]; simp
          refine ⟨!q.isEmpty, ?_, ?_, ?_⟩
          · unfold EvT
            show EvB _ _ _ _ _ _ _ [some (.list (parD a ts)), some (.val (.ref a)), some (.list (acc.map .str)), some (.obj b (bmObj ar)), some (.int (pre.length + 1 + p.length)), some (.int ts.length), some (.list (fx.map .str)), none] _ _
            cases q with
            | nil =>
              refine EvB.to (EvB_and (x := decide ((pre.length : Int) + 1 + p.length < ts.length)) (y := false) (by walk_at "g") (fun h => ?_)) (by simp)
              have h := of_decide_eq_true h
              cases r with
              | nil => simp [starM] at hlm; simp at hl2; lia
              | cons m2 r =>
                have hd := parD_at (a := a) (ts := ts) (i := (pre.length : Int) + 1 + p.length) (pre := pre ++ none :: p.map some) (t := none) (post := m2.map some ++ starM r) (by rw [e, starM_cons, starM_cons, e2]; simp) (by simp <;> lia)
                have hd' : (parD a ts)[((pre.length : Int) + 1 + p.length).toNat]? = some (.val (.ref a)) := hd
                walk_at "g"
            | cons d q =>
              have hd := parD_at (a := a) (ts := ts) (i := (pre.length : Int) + 1 + p.length) (pre := pre ++ none :: p.map some) (t := some d) (post := q.map some ++ starM r) (by rw [e, starM_cons, e2]; simp) (by simp <;> lia)
              have hd' : (parD a ts)[((pre.length : Int) + 1 + p.length).toNat]? = some (.str (esc1 d)) := hd
              simp only [List.length_cons] at hl2
              refine EvB.to (EvB_and (x := decide ((pre.length : Int) + 1 + p.length < ts.length)) (y := true) (by walk_at "g") (fun h => ?_)) (by simp <;> lia)
              walk_at "g"
          · intro h
            cases q with
            | nil =>
              rw [List.append_nil] at e2
              refine hQ3 fx _ _ ⟨by rw [hfx, e2], by rw [e2]; exact hfl2⟩ rfl ?_
              rw [e2]
            | cons _ _ => cases h
          · intro h Q4 hN4 _ _ _
            cases q with
            | nil => cases h
            | cons d q =>
            have hd := parD_at (a := a) (ts := ts) (i := (pre.length : Int) + 1 + p.length) (pre := pre ++ none :: p.map some) (t := some d) (post := q.map some ++ starM r) (by rw [e, starM_cons, e2]; simp) (by simp <;> lia)
            have hd' : (parD a ts)[((pre.length : Int) + 1 + p.length).toNat]? = some (.str (esc1 d)) := hd
            simp only [List.length_cons] at hl2
            refine Ex_cons (ExS_append 6 (d := .str (esc1 d)) rfl (.inl rfl) (.head _) ?_ ?_ ?_)
            · rw [sizeLine_eq, List.length_map]; lia
            · intro own _
              walk_at "g"
            show Ex _ _ _ _ _ _ _ [(6, af, fx.map .str ++ [.str (esc1 d)]), (2, ar, acc.map .str)] [some (.list (parD a ts)), some (.val (.ref a)), none, some (.obj b (bmObj ar)), some (.int (pre.length + 1 + p.length)), some (.int ts.length), none, none] _ _
            refine Ex_cons (ExS_aug 4 (a := .int (pre.length + 1 + p.length)) (b := .int 1) (d := .int (pre.length + 1 + p.length + 1)) rfl (.inl rfl) rfl (by unfold EvL; walk_at "g") (fun X => Op_iaddI) rfl (Ex_nil (hN4 (p ++ [d]) q (fx ++ [esc1 d]) _ _ (Nat.lt_succ_self _) ⟨by rw [e2]; simp, ?_, ?_⟩ ?_ ?_)))
            · rw [List.flatten_append, hfx, esc_append]; simp [esc]
            · simp <;> lia
            · rw [List.map_append]; rfl
            · have : ((p ++ [d]).length : Int) = p.length + 1 := by simp
              rw [this, show (pre.length : Int) + 1 + (p.length + 1) = pre.length + 1 + p.length + 1 by lia]; rfl
        intro fx zi; refine and2E zi fun hfx hfl2 => ?_
        have hesc : (esc m0).length ≤ 100000 := by
          have := congrArg List.length hfl
          rw [List.length_append] at this
          cases r with
          | nil => simp [outM] at this; lia
          | cons _ _ => simp [outM] at this; lia
        refine Ex_cons (ExS_assignF 6 (d := .str (esc m0)) rfl (.inl rfl) ?_ rfl ?_)
        · unfold EvL
          show Ev _ _ _ _ _ _ _ [some (.list (parD a ts)), some (.val (.ref a)), some (.list (acc.map .str)), some (.obj b (bmObj ar)), some (.int (pre.length + 1 + m0.length)), some (.int ts.length), some (.list (fx.map .str)), none] _ _
          have hsm : (fx.map (fun x => x.length + ([] : List Nat).length)).sum ≤ sizeLine := by rw [sum_flat, hfx, sizeLine_eq]; lia
          refine Ev.to (d' := .str (joinL [] fx)) ?_ (by rw [joinL_nil, hfx])
          walk_at "g"
        show Ex _ _ _ _ _ _ _ [(2, ar, acc.map .str)] [some (.list (parD a ts)), some (.val (.ref a)), none, some (.obj b (bmObj ar)), some (.int (pre.length + 1 + m0.length)), some (.int ts.length), some (.str (esc m0)), none] _ _
        refine Ex_cons (ExS_if (b := r.isEmpty) ?_ (fun hr0 => ?_) (fun hr0 => ?_))
        · unfold EvT
          show EvB _ _ _ _ _ _ _ [some (.list (parD a ts)), some (.val (.ref a)), some (.list (acc.map .str)), some (.obj b (bmObj ar)), some (.int (pre.length + 1 + m0.length)), some (.int ts.length), some (.str (esc m0)), none] _ _
          refine EvB.to (by walk_at "g") ?_
          rw [← hlm]
          cases r with
          | nil => simp [starM]
          | cons _ _ => rw [starM_cons]; simp <;> lia
        · cases r with
          | cons _ _ => cases hr0
          | nil =>
          refine Ex_cons (ExS_app 2 3 (d := .str [46, 42]) rfl (.inl rfl) rfl (.head _) ?_ ?_ ?_)
          · rw [sizeLine_eq, List.length_map]; lia
          · intro own _
            walk_at "g"
          show Ex _ _ _ _ _ _ _ [(2, ar, acc.map .str ++ [.str [46, 42]])] [some (.list (parD a ts)), some (.val (.ref a)), none, some (.obj b (bmObj ar)), some (.int (pre.length + 1 + m0.length)), some (.int ts.length), some (.str (esc m0)), none] _ _
          refine Ex_cons (ExS_app 2 3 (d := .str (esc m0)) rfl (.inl rfl) rfl (.head _) ?_ ?_ (Ex_nil (Ex_nil (hN (pre ++ none :: m0.map some) [] (acc ++ [[46, 42]] ++ [esc m0]) (some (.str (esc m0))) _ _ ?_ ⟨?_, rfl, ?_, ?_⟩ ?_ ?_))))
          · rw [sizeLine_eq]; simp <;> lia
          · intro own _
            walk_at "g"
          · rw [starM_cons]; simp <;> lia
          · rw [e, starM_cons]; simp [starM]
          · rw [← hfl]; simp [outM]
          · simp <;> lia
          · rw [List.map_append, List.map_append]; rfl
          · have : ((pre ++ none :: m0.map some).length : Int) = pre.length + 1 + m0.length := by simp <;> lia
            rw [this]
        · have hor : outM (m0 :: r) = [40, 63, 62, 46, 42, 63] ++ esc m0 ++ [41] ++ outM r ∧ okM r = true := by
            cases r with
            | nil => cases hr0
            | cons m2 r => exact ⟨rfl, by simp [okM] at hok' ⊢; cases m0 <;> simp_all⟩
          refine Ex_cons (ExS_app 2 3 (d := .str ([40, 63, 62, 46, 42, 63] ++ esc m0 ++ [41])) rfl (.inl rfl) rfl (.head _) ?_ ?_ (Ex_nil (Ex_nil (hN (pre ++ none :: m0.map some) r (acc ++ [[40, 63, 62, 46, 42, 63] ++ esc m0 ++ [41]]) (some (.str (esc m0))) _ _ ?_ ⟨?_, hor.2, ?_, ?_⟩ ?_ ?_))))
          · rw [sizeLine_eq, List.length_map]; lia
          · intro own _
            refine Ev.to (d' := .str (List.flatten [[40, 63, 62, 46, 42, 63], esc m0, [41]])) (Ev_fstr (.const lit21 (.val ?_ ?_ (.const lit22 .nil))) ?_) (by simp)
            · show Ev _ _ _ _ _ _ _ [some (.list (parD a ts)), some (.val (.ref a)), none, some (.obj b (bmObj ar)), some (.int (pre.length + 1 + m0.length)), some (.int ts.length), some (.str (esc m0)), none] _ _
              walk_at "g"
            · rw [sizeLine_eq]; lia
            · rw [sizeLine_eq]; simp <;> lia
          · rw [starM_cons]; simp <;> lia
          · rw [e, starM_cons]; simp
          · rw [← hfl, hor.1]; simp
          · simp <;> lia
          · rw [List.map_append]; rfl
          · have : ((pre ++ none :: m0.map some).length : Int) = pre.length + 1 + m0.length := by simp <;> lia
            rw [this]
    intro acc c6 hfl
    refine Ex_cons (ExS_assert ?_ ?_)
    · unfold EvT
      show EvB _ _ _ _ _ _ _ [some (.list (parD a ts)), some (.val (.ref a)), some (.list (acc.map .str)), some (.obj b (bmObj ar)), some (.int (ts.length)), some (.int ts.length), c6, none] _ _
      refine EvB.to (by walk_at "g") ?_
      simp
    refine Ex_cons (ExS_assignF 2 (d := .str G) rfl (.inl rfl) ?_ rfl ?_)
    · unfold EvL
      show Ev _ _ _ _ _ _ _ [some (.list (parD a ts)), some (.val (.ref a)), some (.list (acc.map .str)), some (.obj b (bmObj ar)), some (.int (ts.length)), some (.int ts.length), c6, none] _ _
      have hsm : (acc.map (fun x => x.length + ([] : List Nat).length)).sum ≤ sizeLine := by rw [sum_flat, hfl, sizeLine_eq]; lia
      refine Ev.to (d' := .str (joinL [] acc)) ?_ (by rw [joinL_nil, hfl])
      walk_at "g"
    refine Ex_cons (ExS_ret (d := .str ([40, 63, 115, 58] ++ G ++ [41, 92, 90])) ?_ rfl)
    unfold EvL
    show Ev _ _ _ _ _ _ _ [some (.list (parD a ts)), some (.val (.ref a)), some (.str G), some (.obj b (bmObj ar)), some (.int (ts.length)), some (.int ts.length), c6, none] _ _
    refine Ev.to (d' := .str (List.flatten [[40, 63, 115, 58], G, [41, 92, 90]])) (Ev_fstr (.const lit18 (.val ?_ ?_ (.const lit19 .nil))) ?_) (by simp)
    · walk_at "g"
    · rw [sizeLine_eq]; lia
    · rw [sizeLine_eq]; simp <;> lia
end
end
-- SpParse
section
section
noncomputable def nm_parse : Nms := [("resp", .local), ("dirname", .local), ("i", .local), ("n", .local), ("c", .local), ("error_reply", .globalImplicit), ("len", .globalImplicit)]
theorem parse_at {x : List Nat} {i : Nat} {c : Nat} (h : x[i]? = some c) : x.drop i = c :: x.drop (i + 1) := by
  refine ex1E (List.getElem?_eq_some_iff.mp h) fun h1 h2 => ?_
  rw [List.drop_eq_getElem_cons h1, h2]
set_option maxHeartbeats 8000000 in
theorem sp_parse {x : List Nat} (hx : x.length ≤ 1000000) (h3 : sl x none (some 3) = [50, 53, 55]) : FSpec prog w (K39 w.params) 70 1 [.str x] (.str (parseL x)) := by
  refine' FSpec_of nm_parse (f := 70) (ds := [.str x]) (n := 0) ?hK ?hcd (KL _) ?hsc (by decide +kernel) ?hk ?hco ?hg rfl (Nat.le_of_ble_eq_true rfl) rfl rfl ?hb ?hbody
  walk_at "fs"
  case hb =>
    intro s vs hv
    refine ex1E (len1 hv) fun a zz1 => ?_; subst zz1
    exact BindsTo.of_eq rfl
  case hbody =>
    intro A L Xc hr
    have e0 : startσ nm_parse [.str x] = [some (.str x), none, none, none, none, none, none] := rfl
    rw [e0]
    refine Ex_cons (ExS_if (b := false) ?_ (fun h => nomatch h) (fun _ => Ex_nil ?_))
    · unfold EvT
      show EvB _ _ _ _ _ _ _ [some (.str x), none, none, none, none, none, none] _ _
      refine EvB.to (by walk_at "g") ?_
      rw [h3]; rfl
    show Ex _ _ _ _ _ _ _ [] [some (.str x), none, none, none, none, none, none] _ _
    unfold parseL
    refine Ex_cons (ExS_if (b := sl x (some 3) (some 5) != [32, 34]) ?_ (fun h => ?_) (fun h => Ex_nil ?_))
    · unfold EvT
      show EvB _ _ _ _ _ _ _ [some (.str x), none, none, none, none, none, none] _ _
      walk_at "g"
    · rw [if_pos h]
      refine Ex_cons (ExS_ret (d := .str []) ?_ rfl)
      unfold EvL
      show Ev _ _ _ _ _ _ _ [some (.str x), none, none, none, none, none, none] _ _
      walk_at "g"
    rw [if_neg (by rw [h]; decide)]
    refine Ex_cons (ExS_assign 1 (d := .str []) rfl (.inl rfl) ?_ ?_)
    · intro own _
      walk_at "g"
    refine Ex_cons (ExS_assign 2 (d := .int 5) rfl (.inl rfl) ?_ ?_)
    · intro own _
      walk_at "g"
    refine Ex_cons (ExS_assign 3 (d := .int x.length) rfl (.inl rfl) ?_ ?_)
    · intro own _
      show Ev _ _ _ _ _ _ _ [some (.str x), some (.str []), some (.int 5), none, none, none, none] _ _
      walk_at "g"
    show Ex _ _ _ _ _ _ _ [] [some (.str x), some (.str []), some (.int 5), some (.int x.length), none, none, none] _ _
    generalize hG : parseGo (x.drop 5) = G
    refine Ex_cons (ExS_to1 (fun _ : Int × Option D => True) (fun _ => []) (fun z => [some (.str x), some (.str G), some (.int z.1), some (.int x.length), z.2, none, none]) (fun Q0 hQ0 => ExS_whileC (T := List Nat × Nat × Option D) (fun z => z.1.length ≤ z.2.1 ∧ z.1 ++ parseGo (x.drop z.2.1) = G) (fun z => x.length - z.2.1) (fun _ => [])
      (fun z => [some (.str x), some (.str z.1), some (.int (z.2.1 : Int)), some (.int x.length), z.2.2, none, none]) ?_ ([], 5, none) ⟨Nat.zero_le _, hG⟩ rfl rfl) ?_)
    · intro z hI
      have hpre := hI.1
      have hg := hI.2
      clear hI
      generalize z.1 = pre at *
      generalize z.2.1 = i at *
      generalize z.2.2 = c at *
      refine ⟨decide ((i : Int) < x.length), ?_, ?_, ?_⟩
      · show EvB _ _ _ _ _ _ _ [some (.str x), some (.str pre), some (.int (i : Int)), some (.int x.length), c, none, none] _ _
        walk_at "g"
      · intro h
        have h := of_decide_eq_false h
        rw [List.drop_of_length_le (Int.ofNat_le.mp (Int.not_lt.mp h))] at hg
        exact hQ0 ((i : Int), c) _ _ trivial rfl (by rw [← hg, show parseGo [] = [] from rfl, List.append_nil])
      · intro h Q hN _ hB _
        have hi : i < x.length := Int.ofNat_lt.mp (of_decide_eq_true h)
        obtain ⟨q, hq⟩ : ∃ q, x[i]? = some q := ⟨_, List.getElem?_eq_getElem hi⟩
        have hq' : x[((i : Nat) : Int).toNat]? = some q := by rw [Int.toNat_natCast]; exact hq
        have hd := parse_at hq
        rw [hd] at hg
        unfold parseGo at hg
        refine Ex_cons (ExS_assign 4 (d := .str [q]) rfl (.inl rfl) ?_ ?_)
        · intro own _
          show Ev _ _ _ _ _ _ _ [some (.str x), some (.str pre), some (.int (i : Int)), some (.int x.length), c, none, none] _ _
          walk_at "g"
        refine Ex_cons (ExS_assign 2 (d := .int ((i : Int) + 1)) rfl (.inl rfl) ?_ ?_)
        · intro own _
          show Ev _ _ _ _ _ _ _ [some (.str x), some (.str pre), some (.int (i : Int)), some (.int x.length), some (.str [q]), none, none] _ _
          walk_at "g"
        show Ex _ _ _ _ _ _ _ [] [some (.str x), some (.str pre), some (.int ((i : Int) + 1)), some (.int x.length), some (.str [q]), none, none] _ _
        refine Ex_cons (ExS_to1b (fun k : Nat => i < k ∧ pre ++ [q] ++ parseGo (x.drop k) = G) (fun _ => []) (fun k => [some (.str x), some (.str pre), some (.int (k : Int)), some (.int x.length), some (.str [q]), none, none]) (fun Q2 hK hB2 => ?_) (fun k hk => ?_))
        · refine ExS_if (b := [q] == [34]) ?_ (fun h => ?_) (fun h => Ex_nil ?_)
          · unfold EvT
            show EvB _ _ _ _ _ _ _ [some (.str x), some (.str pre), some (.int ((i : Int) + 1)), some (.int x.length), some (.str [q]), none, none] _ _
            walk_at "g"
          · have h34 : q = 34 := by simpa using h
            rw [if_pos h34] at hg
            rcases Nat.lt_or_ge (i + 1) x.length with hlt | hge
            · obtain ⟨q2, hq2⟩ : ∃ q, x[i + 1]? = some q := ⟨_, List.getElem?_eq_getElem hlt⟩
              have hq2' : x[((i : Int) + 1).toNat]? = some q2 := by exact hq2
              rw [parse_at hq2] at hg
              simp only at hg
              refine Ex_cons (ExS_if (b := decide ((x.length : Int) ≤ (i : Int) + 1) || ([q2] != [34])) ?_ (fun h2 => ?_) (fun h2 => Ex_nil ?_))
              · unfold EvT
                show EvB _ _ _ _ _ _ _ [some (.str x), some (.str pre), some (.int ((i : Int) + 1)), some (.int x.length), some (.str [q]), none, none] _ _
                walk_at "g"
              · have hne : q2 ≠ 34 := by
                  rcases Bool.or_eq_true .. ▸ h2 with h2 | h2
                  · exact absurd (Int.ofNat_lt.mpr hlt) (Int.not_lt.mpr (of_decide_eq_true h2))
                  · simpa using h2
                rw [if_neg hne, List.append_nil] at hg
                exact Ex_cons (ExS_break (hB2 _ _ (hB _ _ (hQ0 (_, _) _ _ trivial rfl (by rw [hg])))))
              · have he : q2 = 34 := by
                  have := (Bool.or_eq_false_iff.mp h2).2
                  simpa using this
                rw [if_pos he] at hg
                refine Ex_cons (ExS_assign 2 (d := .int ((i : Int) + 1 + 1)) rfl (.inl rfl) ?_ (Ex_nil (hK (i + 1 + 1) _ _ ⟨Nat.lt_succ_of_lt (Nat.lt_succ_self i), ?_⟩ rfl rfl)))
                · intro own _
                  show Ev _ _ _ _ _ _ _ [some (.str x), some (.str pre), some (.int ((i : Int) + 1)), some (.int x.length), some (.str [q]), none, none] _ _
                  walk_at "g"
                · rw [← hg, h34]; simp
            · rw [List.drop_of_length_le hge] at hg
              simp only [List.append_nil] at hg
              refine Ex_cons (ExS_if (b := true) ?_ (fun _ => Ex_cons (ExS_break (hB2 _ _ (hB _ _ (hQ0 (_, _) _ _ trivial rfl (by rw [hg])))))) (fun h2 => nomatch h2))
              unfold EvT
              show EvB _ _ _ _ _ _ _ [some (.str x), some (.str pre), some (.int ((i : Int) + 1)), some (.int x.length), some (.str [q]), none, none] _ _
              refine EvB.to (EvB_or (x := true) (y := false) (EvB.to (by walk_at "g") (by simp; lia)) fun h => nomatch h) rfl
          · have h34 : ¬ q = 34 := by simpa using h
            rw [if_neg h34] at hg
            exact hK (i + 1) _ _ ⟨Nat.lt_succ_self i, by rw [← hg]; simp⟩ rfl rfl
        · refine Ex_cons (ExS_assign 1 (d := .str (pre ++ [q])) rfl (.inl rfl) ?_ (Ex_nil (hN (pre ++ [q], k, some (.str [q])) _ _ (Nat.sub_lt_sub_left hi hk.1) ⟨by rw [List.length_append]; exact Nat.le_trans (Nat.succ_le_succ hpre) hk.1, hk.2⟩ rfl rfl)))
          intro own _
          show Ev _ _ _ _ _ _ _ [some (.str x), some (.str pre), some (.int (k : Int)), some (.int x.length), some (.str [q]), none, none] _ _
          walk_at "g"
    · intro z _
      refine Ex_cons (ExS_ret (d := .str G) ?_ rfl)
      unfold EvL
      show Ev _ _ _ _ _ _ _ [some (.str x), some (.str G), some (.int z.1), some (.int x.length), z.2, none, none] _ _
      walk_at "g"
end
end
-- SpPaths1
section
section
noncomputable def nm_fspath : Nms := [("path", .local), ("kind", .local), ("hook", .local), ("given", .local), ("type", .globalImplicit), ("issubclass", .globalImplicit), ("str", .globalImplicit), ("bytes", .globalImplicit), ("_abc_plain_meta", .globalImplicit), ("getattr", .globalImplicit), ("TypeError", .globalImplicit), ("_plain_name", .globalImplicit), ("_wall", .globalImplicit), ("len", .globalImplicit)]
set_option maxHeartbeats 4000000 in
theorem sp_fspath {x : List Nat} : FSpec prog w (K39 w.params) 181 1 [.str x] (.str x) := by
  refine' FSpec_of nm_fspath (f := 181) (ds := [.str x]) (n := 0) ?hK ?hcd (KL _) ?hsc (by decide +kernel) ?hk ?hco ?hg rfl (Nat.le_of_ble_eq_true rfl) rfl rfl ?hb ?hbody
  walk_at "fs"
  case hb =>
    intro s vs hv
    refine ex1E (len1 hv) fun a zz2 => ?_; subst zz2
    exact BindsTo.of_eq rfl
  case hbody =>
    intro A L Xc hr
    have e0 : startσ nm_fspath [.str x] = [some (.str x), none, none, none, none, none, none, none, none, none, none, none, none, none] := rfl
    rw [e0]
    refine Ex_cons (ExS_assign 1 (d := .val (.type "str")) rfl (.inl rfl) ?_ ?_)
    · intro own _
      walk_at "g"
    refine Ex_ifT ?_ ?_
    · unfold EvT
      show EvB _ _ _ _ _ _ _ [some (.str x), some (.val (.type "str")), none, none, none, none, none, none, none, none, none, none, none, none] _ _
      walk_at "g"
    · refine Ex_cons (ExS_ret (d := .str x) ?_ rfl)
      unfold EvL
      show Ev _ _ _ _ _ _ _ [some (.str x), some (.val (.type "str")), none, none, none, none, none, none, none, none, none, none, none, none] _ _
      walk_at "g"
noncomputable def nm_get_sep : Nms := [("path", .local), ("isinstance", .globalImplicit), ("bytes", .globalImplicit)]
set_option maxHeartbeats 4000000 in
theorem sp_get_sep {x : List Nat} : FSpec prog w (K39 w.params) 195 1 [.str x] (.str [47]) := by
  refine' FSpec_of nm_get_sep (f := 195) (ds := [.str x]) (n := 0) ?hK ?hcd (KL _) ?hsc (by decide +kernel) ?hk ?hco ?hg rfl (Nat.le_of_ble_eq_true rfl) rfl rfl ?hb ?hbody
  walk_at "fs"
  case hb =>
    intro s vs hv
    refine ex1E (len1 hv) fun a zz1 => ?_; subst zz1
    exact BindsTo.of_eq rfl
  case hbody =>
    intro A L Xc hr
    have e0 : startσ nm_get_sep [.str x] = [some (.str x), none, none] := rfl
    rw [e0]
    refine Ex_ifF ?_ ?_
    · unfold EvT
      show EvB _ _ _ _ _ _ _ [some (.str x), none, none] _ _
      walk_at "g"
    · refine Ex_cons (ExS_ret (d := .str [47]) ?_ rfl)
      unfold EvL
      show Ev _ _ _ _ _ _ _ [some (.str x), none, none] _ _
      walk_at "g"
end
end
-- SpPlain
section
section
noncomputable def nm_plain : Nms := [("run", .local), ("told", .local), ("k", .local), ("size", .local), ("sign", .local), ("closed", .local), ("len", .globalImplicit)]
theorem plain_turn (c : Nat) (hc : c ∈ sig) (r : List Nat) : ∃ c0 rest, esc1 c ++ r = c0 :: rest ∧
    (if [c0] == [92] then 2 else if (c0 :: rest).take 2 == [91, 92] then 4 else if [c0] == [91] then 3 else 1) = (esc1 c).length ∧
    ((esc1 c ++ r).drop ((esc1 c).length / 2)).take 1 = [c] ∧
    ((3 ≤ (esc1 c).length) → ((esc1 c ++ r).drop ((esc1 c).length - 1)).take 1 = [93]) ∧
    ((esc1 c).length = 2 → Txt.contains (S [50, 53, 55, 97, 98, 100, 107, 111]) (S [c]) = false) ∧
    ((esc1 c).length = 1 → Txt.contains (S [36, 40, 41, 42, 43, 46, 63, 93, 94, 123, 124, 125]) (S [c]) = false) := by
  unfold sig at hc
  simp only [List.mem_cons, List.not_mem_nil, or_false] at hc
  rcases hc with rfl | rfl | rfl | rfl | rfl | rfl | rfl | rfl | rfl | rfl | rfl | rfl | rfl | rfl
  all_goals exact ⟨_, _, rfl, rfl, rfl, fun h => by first | rfl | exact absurd h (by decide), fun h => by first | decide +kernel | exact absurd h (by decide), fun h => by first | decide +kernel | exact absurd h (by decide)⟩
end
section
set_option maxHeartbeats 8000000 in
theorem sp_plain {x : List Nat} (hs : ∀ c ∈ x, c ∈ sig) (hx : x.length ≤ 10000) : FSpec prog w (K39 w.params) 235 1 [.str (esc x)] (.str x) := by
  refine' FSpec_of nm_plain (f := 235) (ds := [.str (esc x)]) (n := 0) ?hK ?hcd (KL _) ?hsc (by decide +kernel) ?hk ?hco ?hg rfl (Nat.le_of_ble_eq_true rfl) rfl rfl ?hb ?hbody
  walk_at "fs"
  case hb =>
    intro s vs hv
    refine ex1E (len1 hv) fun a zz2 => ?_; subst zz2
    exact BindsTo.of_eq rfl
  case hbody =>
    intro A L Xc hr
    have e0 : startσ nm_plain [.str (esc x)] = [some (.str (esc x)), none, none, none, none, none, none] := rfl
    rw [e0]
    have lx := esc_le x
    refine Ex_cons (ExS_assign2 1 2 (d1 := .str []) (d2 := .int 0) rfl rfl (.inl rfl) (.inl rfl) (by decide) hr.h ?_ ?_)
    · intro own _
      walk_at "g"
    show Ex _ _ _ _ _ _ _ _ [some (.str (esc x)), some (.str []), some (.int 0), none, none, none, none] _ _
    refine Ex_cons (ExS_while5 (fun (pre post : List Nat) (_ _ _ : Option D) => x = pre ++ post) (fun _ post _ _ _ => post.length) (fun _ _ _ _ _ => []) (fun pre _ a b c => [some (.str (esc x)), some (.str pre), some (.int (esc pre).length), a, b, c, none]) ?_ [] x _ _ _ rfl rfl rfl)
    intro pre post a b c e
    refine ⟨decide (((esc pre).length : Int) < (esc x).length), ?_, ?_, ?_⟩
    · show EvB _ _ _ _ _ _ _ [some (.str (esc x)), some (.str pre), some (.int (esc pre).length), a, b, c, none] _ _
      walk_at "g"
    · intro h
      have hp : post = [] := by
        cases post with
        | nil => rfl
        | cons q post =>
          exfalso
          have h := of_decide_eq_false h
          apply h
          rw [e, esc_append, esc_cons]
          have := esc1_pos q
          simp only [List.length_append]; lia
      subst hp
      rw [List.append_nil] at e
      subst e
      refine Ex_cons (ExS_ret (d := .str x) ?_ rfl)
      show Ev _ _ _ _ _ _ _ [some (.str (esc x)), some (.str x), some (.int (esc x).length), a, b, c, none] _ _
      walk_at "g"
    · intro h Q hN _ _ _
      cases post with
      | nil =>
        rw [List.append_nil] at e
        subst e
        have := of_decide_eq_true h
        lia
      | cons q post =>
      have hq : q ∈ sig := hs q (by rw [e]; simp)
      refine ex2E (plain_turn q hq (esc post)) fun c0 rest zz1 => and6E zz1 fun e1 e2 e3 e4 e5 e6 => ?_
      have ex : esc x = esc pre ++ (esc1 q ++ esc post) := by rw [e, esc_append, esc_cons]
      have lq1 := esc1_pos q
      have lq4 := esc1_le q
      have lpre : (esc pre).length ≤ (esc x).length := by rw [ex]; simp
      have hidx : (esc x)[((esc pre).length : Int).toNat]? = some c0 := by
        rw [ex, e1, Int.toNat_natCast, List.getElem?_append_right (Nat.le_refl _)]; simp
      have hs2 : sl (esc x) (some ((esc pre).length : Int)) (some ((esc pre).length + 2)) = (c0 :: rest).take 2 := by
        rw [ex, e1]; exact sl_at _ _ 0 2 (by lia) (by lia)
      have hsg : sl (esc x) (some ((esc pre).length + Int.fdiv (esc1 q).length 2)) (some ((esc pre).length + Int.fdiv (esc1 q).length 2 + 1)) = [q] := by
        have e7 : Int.fdiv (esc1 q).length 2 = (((esc1 q).length / 2 : Nat) : Int) := by
          rw [Int.fdiv_eq_ediv_of_nonneg _ (by decide)]; lia
        rw [ex, e7, sl_at _ _ ((esc1 q).length / 2) 1 (by lia) (by lia)]; exact e3
      have hcl : 3 ≤ (esc1 q).length → sl (esc x) (some ((esc pre).length + (esc1 q).length - 1)) (some ((esc pre).length + (esc1 q).length)) = [93] := by
        intro h3
        rw [ex, sl_at _ _ ((esc1 q).length - 1) 1 (by lia) (by lia)]; exact e4 h3
      refine Ex_cons (ExS_assign 3 (d := .int (esc1 q).length) rfl (.inl rfl) ?_ ?_)
      · intro own _
        show Ev _ _ _ _ _ _ _ [some (.str (esc x)), some (.str pre), some (.int (esc pre).length), a, b, c, none] _ _
        rw [← e2]
        refine Ev_ifexp (c := [c0] == [92]) (by walk_at "g") (fun h => Ev.to Ev_int (by rw [h]; rfl)) (fun h => ?_)
        refine Ev_ifexp (c := (c0 :: rest).take 2 == [91, 92]) ?_ (fun h2 => Ev.to Ev_int (by rw [h, h2]; rfl)) (fun h2 => ?_)
        · rw [← hs2]; walk_at "g"
        refine Ev_ifexp (c := [c0] == [91]) (by walk_at "g") (fun h3 => Ev.to Ev_int (by rw [h, h2, h3]; rfl)) (fun h3 => Ev.to Ev_int (by rw [h, h2, h3]; rfl))
      generalize hz : (esc1 q).length = z at *
      show Ex _ _ _ _ _ _ _ _ [some (.str (esc x)), some (.str pre), some (.int (esc pre).length), some (.int z), b, c, none] _ _
      refine Ex_cons (ExS_assign 4 (d := .str [q]) rfl (.inl rfl) ?_ ?_)
      · intro own _
        rw [← hsg]
        walk_at "g"
      show Ex _ _ _ _ _ _ _ _ [some (.str (esc x)), some (.str pre), some (.int (esc pre).length), some (.int z), some (.str [q]), c, none] _ _
      refine Ex_cons (ExS_assign 5 (d := .bool true) rfl (.inl rfl) ?_ ?_)
      · intro own _
        refine Ev.to (Ev_orB (x := decide ((z : Int) < 3)) (y := true) (by walk_at "g") fun h3 => ?_) (by simp)
        have h3 := of_decide_eq_false h3
        refine Ev.to (by walk_at "g") ?_
        rw [hcl (by lia)]; rfl
      show Ex _ _ _ _ _ _ _ _ [some (.str (esc x)), some (.str pre), some (.int (esc pre).length), some (.int z), some (.str [q]), some (.bool true), none] _ _
      refine Ex_cons (ExS_if (b := false) ?_ (fun h => nomatch h) fun _ => Ex_nil ?_)
      · unfold EvT
        refine EvB.to (by walk_at "g") ?_
        by_cases h2 : z = 2
        · subst h2; rw [e5 rfl]; rfl
        · by_cases h1 : z = 1
          · subst h1; rw [e6 rfl]; rfl
          · have : ((z : Int) == 2) = false := by simp; lia
            have h' : ((z : Int) == 1) = false := by simp; lia
            rw [this, h']; rfl
      show Ex _ _ _ _ _ _ _ _ [some (.str (esc x)), some (.str pre), some (.int (esc pre).length), some (.int z), some (.str [q]), some (.bool true), none] _ _
      have lpre2 := esc_ge pre
      refine Ex_cons (ExS_assign2s 1 2 (d1 := .str (pre ++ [q])) (d2 := .int ((esc pre).length + z)) rfl rfl (.inl rfl) (.inl rfl) (by decide) rfl hr.h ?_ (Ex_nil (hN (pre ++ [q]) post (some (.int z)) (some (.str [q])) (some (.bool true)) _ _ (Nat.lt_succ_self _) (by rw [e]; simp) rfl ?_)))
      · intro own _
        walk_at "g"
      · rw [esc_append, esc_cons, esc_nil, List.append_nil, List.length_append, hz, Int.natCast_add]; rfl
end
end
-- SpShares
section
section
noncomputable def nm_shares : Nms := [("runs", .local), ("text", .local), ("at", .local), ("shares", .local), ("run", .local), ("k", .local), ("end", .local), ("len", .globalImplicit)]
theorem sl_mids {α : Type} (a : α) (l : List α) (b : α) : sl (a :: (l ++ [b])) (some 1) (some (-1)) = l := by
  have := sl_nm (a :: (l ++ [b])) 1 1 (by decide)
  rw [show ((1 : Nat) : Int) = 1 from rfl] at this
  rw [this]; simp
set_option maxHeartbeats 8000000 in
theorem sp_shares {r0 rl text : List Nat} {mids : List (List Nat)} (h0 : r0.length ≤ 1000000) (h1 : rl.length ≤ 1000000) (h2 : text.length ≤ 1000000) (h3 : mids.length ≤ 10) (h4 : ∀ m ∈ mids, m.length ≤ 1000000) :
    FSpec prog w (K39 w.params) 247 1 [.list ((r0 :: (mids ++ [rl])).map .str), .str text] (.list ((sharesL r0 mids rl text).map .str)) := by
  refine' FSpec_of nm_shares (f := 247) (ds := [.list ((r0 :: (mids ++ [rl])).map .str), .str text]) (n := 0) ?hK ?hcd (KL _) ?hsc (by decide +kernel) ?hk ?hco ?hg rfl (Nat.le_of_ble_eq_true rfl) rfl rfl ?hb ?hbody
  walk_at "fs"
  case hb =>
    intro s vs hv
    refine ex2E (len2 hv) fun a b zz1 => ?_; subst zz1
    exact BindsTo.of_eq rfl
  case hbody =>
    intro A L Xc hr
    generalize hR : (r0 :: (mids ++ [rl])).map D.str = R
    have lR : R.length ≤ 20 := by rw [← hR]; simp; lia
    have hi0 : R[(0 : Int).toNat]? = some (.str r0) := by rw [← hR]; rfl
    have hil : R.getLast? = some (.str rl) := by rw [← hR]; simp [List.getLast?_cons]
    have e0 : startσ nm_shares [.list R, .str text] = [some (.list R), some (.str text), none, none, none, none, none, none] := rfl
    rw [e0]
    refine Ex_cons (ExS_assign2own 2 3 (d1 := .int r0.length) rfl rfl (.inl rfl) (.inl rfl) (by decide) rfl hr.h ?_ rfl fun a => ?_)
    · intro own _
      walk_at "g"
    show Ex _ _ _ _ _ _ _ [(3, a, [])] [some (.list R), some (.str text), some (.int r0.length), none, none, none, none, none] _ _
    obtain ⟨G, hG⟩ : ∃ G, G = sharesGo text mids r0.length [] := ⟨_, rfl⟩
    refine Ex_cons (ExS_forT 4 rfl (.inl rfl) (ds := mids.map .str) (fun j run => mids[j]? = some run) (fun _ => .str) hel_map
      (fun j (z : List (List Nat) × Int × Option D × Option D) => z.1.length ≤ j ∧ G = sharesGo text (mids.drop j) z.2.1 z.1) (fun _ z => [(3, a, z.1.map .str)])
      (fun _ z => [some (.list R), some (.str text), some (.int z.2.1), none, z.2.2.1, z.2.2.2, none, none]) ?_ ([], _, none, none) ⟨Nat.le_refl _, by rw [hG]; rfl⟩ rfl rfl ?_ ?_)
    · intro own _
      refine EvIt_list hr.h (Ev.to (d' := .list (sl R (some 1) (some (-1)))) (by walk_at "g") ?_)
      rw [← hR, List.map_cons, List.map_append, List.map_singleton, sl_mids]
    · intro j run z hd hI Xc' _ Q hN _ _ hRt
      have la := hI.1
      have hg := hI.2
      clear hI
      have hj : j < mids.length := (List.getElem?_eq_some_iff.mp hd).elim fun q _ => q
      have hrun : mids[j] = run := (List.getElem?_eq_some_iff.mp hd).elim fun _ q => q
      rw [List.drop_eq_getElem_cons hj, hrun] at hg
      have hm4 := h4 _ (List.mem_of_getElem? hd)
      unfold sharesGo at hg
      simp only at hg
      generalize hk : Txt.find3 (S text) (S run) z.2.1 = k at hg
      have lsl := sl_length_le text (some z.2.1) (some k)
      show Ex _ _ _ _ _ _ _ [(3, a, z.1.map .str)] [some (.list R), some (.str text), some (.int z.2.1), none, some (.str run), z.2.2.2, none, none] _ _
      refine Ex_cons (ExS_assignF 5 (d := .int k) rfl (.inl rfl) ?_ rfl ?_)
      · rw [← hk]; unfold EvL
        show Ev _ _ _ _ _ _ _ [some (.list R), some (.str text), some (.int z.2.1), some (.list (z.1.map .str)), some (.str run), z.2.2.2, none, none] _ _
        walk_at "g"
      show Ex _ _ _ _ _ _ _ [(3, a, z.1.map .str)] [some (.list R), some (.str text), some (.int z.2.1), none, some (.str run), some (.int k), none, none] _ _
      refine Ex_cons (ExS_if (b := decide (k < 0)) ?_ ?_ ?_)
      · unfold EvT
        show EvB _ _ _ _ _ _ _ [some (.list R), some (.str text), some (.int z.2.1), some (.list (z.1.map .str)), some (.str run), some (.int k), none, none] _ _
        walk_at "g"
      · intro h
        rw [if_pos (of_decide_eq_true h)] at hg
        refine Ex_cons (ExS_ret (d := .list ((sharesL r0 mids rl text).map .str)) ?_ (hRt _ rfl))
        unfold sharesL
        rw [← hG, hg]
        unfold EvL
        show Ev _ _ _ _ _ _ _ _ _ (.list [])
        walk_at "g"
      · intro h
        rw [if_neg (of_decide_eq_false h)] at hg
        refine Ex_nil ?_
        refine Ex_cons (ExS_append 3 (d := .str (sl text (some z.2.1) (some k))) rfl (.inl rfl) (.head _) ?_ ?_ ?_)
        · rw [sizeLine_eq, List.length_map]; lia
        · intro own _
          show Ev _ _ _ _ _ _ _ [some (.list R), some (.str text), some (.int z.2.1), none, some (.str run), some (.int k), none, none] _ _
          walk_at "g"
        show Ex _ _ _ _ _ _ _ [(3, a, z.1.map .str ++ [.str (sl text (some z.2.1) (some k))])] [some (.list R), some (.str text), some (.int z.2.1), none, some (.str run), some (.int k), none, none] _ _
        refine Ex_cons (ExS_assign 2 (d := .int (k + run.length)) rfl (.inl rfl) ?_ (Ex_nil (hN (z.1 ++ [sl text (some z.2.1) (some k)], k + run.length, _, _) _ _ ⟨?_, hg⟩ ?_ rfl)))
        · intro own _
          walk_at "g"
        · simp; lia
        · rw [List.map_append]; rfl
    · intro z hI
      have la := hI.1
      have hg := hI.2
      clear hI
      rw [List.length_map] at la
      rw [List.drop_of_length_le (by rw [List.length_map]; lia)] at hg
      refine Ex_cons (ExS_assignF 6 (d := .int ((text.length : Int) - rl.length)) rfl (.inl rfl) ?_ rfl ?_)
      · unfold EvL
        show Ev _ _ _ _ _ _ _ [some (.list R), some (.str text), some (.int z.2.1), some (.list (z.1.map .str)), z.2.2.1, z.2.2.2, none, none] _ _
        walk_at "g"
      show Ex _ _ _ _ _ _ _ [(3, a, z.1.map .str)] [some (.list R), some (.str text), some (.int z.2.1), none, z.2.2.1, z.2.2.2, some (.int ((text.length : Int) - rl.length)), none] _ _
      refine Ex_cons (ExS_if (b := decide ((text.length : Int) - rl.length < z.2.1) || (sl text (some ((text.length : Int) - rl.length)) none != rl) || !startsL text r0) ?_ ?_ ?_)
      · unfold EvT
        show EvB _ _ _ _ _ _ _ [some (.list R), some (.str text), some (.int z.2.1), some (.list (z.1.map .str)), z.2.2.1, z.2.2.2, some (.int ((text.length : Int) - rl.length)), none] _ _
        walk_at "g"
      · intro h
        refine Ex_cons (ExS_ret (d := .list ((sharesL r0 mids rl text).map .str)) ?_ rfl)
        have e : sharesL r0 mids rl text = [] := by unfold sharesL; rw [← hG, hg]; exact if_pos h
        rw [e]
        unfold EvL
        show Ev _ _ _ _ _ _ _ _ _ (.list [])
        walk_at "g"
      · intro h
        refine Ex_nil (Ex_cons (ExS_ret (d := .list ((sharesL r0 mids rl text).map .str)) ?_ rfl))
        have e : sharesL r0 mids rl text = z.1 ++ [sl text (some z.2.1) (some ((text.length : Int) - rl.length))] := by unfold sharesL; rw [← hG, hg]; exact if_neg (by rw [h]; decide)
        rw [e, List.map_append]
        unfold EvL
        have lac : (z.1.map D.str).length ≤ 20 := by rw [List.length_map]; lia
        show Ev _ _ _ _ _ _ _ [some (.list R), some (.str text), some (.int z.2.1), some (.list (z.1.map .str)), z.2.2.1, z.2.2.2, some (.int ((text.length : Int) - rl.length)), none] _ (.list (_ ++ [.str _]))
        walk_at "g"
end
end
-- SpTr
section
set_option hygiene false in
local macro_rules | `(tactic| walk_at "s") => `(tactic| ((with_reducible first | refine sp_escape ?_) <;> walk_at "g"))
set_option hygiene false in
local macro_rules | `(tactic| walk_at "o") => `(tactic| first
  | with_reducible exact Op_isnot_sv
  | with_reducible exact Op_inT (ys := [[94], [91]]))
section
noncomputable def nm_tr : Nms := [("pat", .local), ("STAR", .local), ("QUESTION_MARK", .local), ("res", .local), ("add", .local), ("i", .local), ("n", .local), ("c", .local), ("j", .local), ("stuff", .local), ("chunks", .local), ("k", .local), ("chunk", .local), ("len", .globalImplicit), ("range", .globalImplicit), ("_twin_re_1", .globalImplicit), ("escape", .globalImplicit)]
theorem rep92 (c : Nat) (hc : c ≠ 92) : replL [c] [92] [92, 92] = [c] := by
  have : replL [c] [92] [92, 92] = StrLaws.dbl 92 [c] := StrLaws.replace_double (S [c]) 92
  rw [this]; simp [StrLaws.dbl, hc]
theorem has45 (c : Nat) (hc : c = 42 ∨ c = 91) : Txt.contains (S [c]) (S [45]) = false := by rcases hc with rfl | rfl <;> decide +kernel
set_option maxHeartbeats 8000000 in
theorem sp_tr {a : Addr} {ts : List (Option Nat)} (ht : ∀ c, some c ∈ ts → c ∈ sig) (hap : apart ts = true) (hx : ts.length ≤ 3000) :
    FSpec prog w (K39 w.params) 101 2 [.str (patL ts), .val (.ref a), .str [46]] (.list (parD a ts)) := by
  refine' FSpec_of nm_tr (f := 101) (ds := [.str (patL ts), .val (.ref a), .str [46]]) (n := 1) ?hK ?hcd (KL _) ?hsc (by decide +kernel) ?hk ?hco ?hg rfl (Nat.le_of_ble_eq_true rfl) rfl rfl ?hb ?hbody
  walk_at "fs"
  case hb =>
    intro s vs hv
    refine ex3E (len3 hv) fun a b c zz1 => ?_; subst zz1
    exact BindsTo.of_eq rfl
  case hbody =>
    intro A L Xc hr
    have hge : (patL ts).length ≤ 9000 := by
      clear ht hap
      have : ∀ l : List (Option Nat), (patL l).length ≤ 3 * l.length := by
        intro l
        induction l with
        | nil => simp [patL]
        | cons t l ih => rw [patL_cons, List.length_append, List.length_cons]; have := pat1_le t; lia
      have := this ts; lia
    have e0 : startσ nm_tr [.str (patL ts), .val (.ref a), .str [46]] = [some (.str (patL ts)), some (.val (.ref a)), some (.str [46]), none, none, none, none, none, none, none, none, none, none, none, none, none, none] := rfl
    rw [e0]
    refine Ex_cons (ExS_assignOwn 3 (ds := []) rfl (.inl rfl) (fun own _ => EvAll.nil) (by simp) fun ar => ?_)
    show Ex _ _ _ _ _ _ _ [(3, ar, [])] [some (.str (patL ts)), some (.val (.ref a)), some (.str [46]), none, none, none, none, none, none, none, none, none, none, none, none, none, none] _ _
    refine Ex_cons (ExS_getapp 3 4 rfl (.inl rfl) rfl (.inl rfl) (.head _) (by decide) rfl fun b => ?_)
    show Ex _ _ _ _ _ _ _ [(3, ar, [])] [some (.str (patL ts)), some (.val (.ref a)), some (.str [46]), none, some (.obj b (bmObj ar)), none, none, none, none, none, none, none, none, none, none, none, none] _ _
    refine Ex_cons (ExS_assign2s 5 6 (d1 := .int 0) (d2 := .int (patL ts).length) rfl rfl (.inl rfl) (.inl rfl) (by decide) rfl hr.h ?_ ?_)
    · intro own _
      walk_at "g"
    show Ex _ _ _ _ _ _ _ [(3, ar, [])] [some (.str (patL ts)), some (.val (.ref a)), some (.str [46]), none, some (.obj b (bmObj ar)), some (.int 0), some (.int (patL ts).length), none, none, none, none, none, none, none, none, none, none] _ _
    refine Ex_cons (ExS_while5 (fun (pre post : List (Option Nat)) (_ _ _ : Option D) => ts = pre ++ post) (fun _ post _ _ _ => post.length) (fun pre _ _ _ _ => [(3, ar, parD a pre)]) (fun pre _ c7 c8 c9 => [some (.str (patL ts)), some (.val (.ref a)), some (.str [46]), none, some (.obj b (bmObj ar)), some (.int (patL pre).length), some (.int (patL ts).length), c7, c8, c9, none, none, none, none, none, none, none]) ?_ [] ts _ _ _ rfl rfl rfl)
    intro pre post c7 c8 c9 e
    refine ⟨decide (((patL pre).length : Int) < (patL ts).length), ?_, ?_, ?_⟩
    · unfold EvT
      show EvB _ _ _ _ _ _ _ [some (.str (patL ts)), some (.val (.ref a)), some (.str [46]), some (.list (parD a pre)), some (.obj b (bmObj ar)), some (.int (patL pre).length), some (.int (patL ts).length), c7, c8, c9, none, none, none, none, none, none, none] _ _
      walk_at "g"
    · intro h
      have hp : post = [] := by
        cases post with
        | nil => rfl
        | cons q post =>
          exfalso
          have h := of_decide_eq_false h
          apply h
          rw [e, patL_append, patL_cons]
          have := pat1_pos q
          simp only [List.length_append]; lia
      subst hp
      rw [List.append_nil] at e
      subst e
      refine Ex_cons (ExS_assert ?_ ?_)
      · unfold EvT
        show EvB _ _ _ _ _ _ _ [some (.str (patL ts)), some (.val (.ref a)), some (.str [46]), some (.list (parD a ts)), some (.obj b (bmObj ar)), some (.int (patL ts).length), some (.int (patL ts).length), c7, c8, c9, none, none, none, none, none, none, none] _ _
        refine EvB.to (by walk_at "g") (by simp)
      refine Ex_cons (ExS_ret (d := .list (parD a ts)) ?_ rfl)
      unfold EvL
      show Ev _ _ _ _ _ _ _ [some (.str (patL ts)), some (.val (.ref a)), some (.str [46]), some (.list (parD a ts)), some (.obj b (bmObj ar)), some (.int (patL ts).length), some (.int (patL ts).length), c7, c8, c9, none, none, none, none, none, none, none] _ _
      walk_at "g"
    · intro h Q hN _ _ _
      cases post with
      | nil =>
        rw [List.append_nil] at e
        subst e
        have := of_decide_eq_true h
        lia
      | cons t post =>
      have lpre : (parD a pre).length ≤ 3000 := by
        have := congrArg List.length e
        simp [parD] at this ⊢; lia
      have lpatp : (patL pre).length + (pat1 t).length ≤ (patL ts).length := by rw [e, patL_append, patL_cons]; simp
      have hP : patL ts = patL pre ++ (pat1 t ++ patL post) := by rw [e, patL_append, patL_cons]
      have hnew : parD a (pre ++ [t]) = parD a pre ++ [par1 a t] := parD_append a pre [t]
      have hlen : ((patL (pre ++ [t])).length : Int) = (patL pre).length + (pat1 t).length := by rw [patL_append, List.length_append]; simp [patL]
      cases t with
      | none =>
        have hidx : (patL ts)[((patL pre).length : Int).toNat]? = some 42 := by
          rw [hP, Int.toNat_natCast, List.getElem?_append_right (Nat.le_refl _)]; simp [pat1]
        refine Ex_cons (ExS_assign 7 (d := .str [42]) rfl (.inl rfl) ?_ ?_)
        · intro own _
          walk_at "g"
        refine Ex_cons (ExS_assign 5 (d := .int ((patL pre).length + 1)) rfl (.inl rfl) ?_ ?_)
        · intro own _
          walk_at "g"
        show Ex _ _ _ _ _ _ _ [(3, ar, parD a pre)] [some (.str (patL ts)), some (.val (.ref a)), some (.str [46]), none, some (.obj b (bmObj ar)), some (.int ((patL pre).length + 1)), some (.int (patL ts).length), some (.str [42]), c8, c9, none, none, none, none, none, none, none] _ _
        refine Ex_ifT ?_ ?_
        · unfold EvT
          show EvB _ _ _ _ _ _ _ [some (.str (patL ts)), some (.val (.ref a)), some (.str [46]), some (.list (parD a pre)), some (.obj b (bmObj ar)), some (.int ((patL pre).length + 1)), some (.int (patL ts).length), some (.str [42]), c8, c9, none, none, none, none, none, none, none] _ _
          refine EvB.to (by walk_at "g") ?_
          rfl
        refine Ex_ifT ?_ ?_
        · unfold EvT
          show EvB _ _ _ _ _ _ _ [some (.str (patL ts)), some (.val (.ref a)), some (.str [46]), some (.list (parD a pre)), some (.obj b (bmObj ar)), some (.int ((patL pre).length + 1)), some (.int (patL ts).length), some (.str [42]), c8, c9, none, none, none, none, none, none, none] _ _
          rcases apart_last pre post (e ▸ hap) with q | ⟨p, c, q⟩
          · subst q
            refine EvB.to (EvB_or (x := true) (y := false) (EvB.to (by walk_at "g") ?_) (fun h => nomatch h)) rfl
            rfl
          · subst q
            have hlast : (parD a (p ++ [some c])).getLast? = some (.str (esc1 c)) := by rw [parD_append]; simp [parD, par1]
            generalize hz : parD a (p ++ [some c]) = z at hlast lpre
            have hzz : z.length < 2 ^ 62 := by lia
            refine EvB.to (EvB_or (x := !(!z.isEmpty)) (y := true) (by walk_at "g") (fun h => ?_)) (by simp)
            walk_at "g"
        refine Ex_cons (ExS_app 3 4 (d := .val (.ref a)) rfl (.inl rfl) rfl (.head _) ?_ ?_ (Ex_nil (Ex_nil (Ex_nil (hN (pre ++ [none]) post (some (.str [42])) c8 c9 _ _ (Nat.lt_succ_self _) (by rw [e]; simp) ?_ ?_)))))
        · rw [sizeLine_eq]; lia
        · intro own _
          walk_at "g"
        · rw [hnew]; rfl
        · rw [hlen]; rfl
      | some c =>
        have hcs : c ∈ sig := ht c (by rw [e]; simp)
        by_cases hset : c = 42 ∨ c = 91
        · have hp1 : pat1 (some c) = [91, c, 93] := if_pos hset
          rw [hp1] at hP lpatp hlen
          have g0 : (patL ts)[((patL pre).length : Int).toNat]? = some 91 := by
            rw [hP, Int.toNat_natCast, List.getElem?_append_right (Nat.le_refl _)]; simp
          have g1 : (patL ts)[((patL pre).length + 1 : Int).toNat]? = some c := by
            rw [hP, show ((patL pre).length + 1 : Int).toNat = (patL pre).length + 1 by lia, List.getElem?_append_right (by lia)]; simp
          have g2 : (patL ts)[((patL pre).length + 1 + 1 : Int).toNat]? = some 93 := by
            rw [hP, show ((patL pre).length + 1 + 1 : Int).toNat = (patL pre).length + 2 by lia, List.getElem?_append_right (by lia)]; simp
          have hsl : sl (patL ts) (some ((patL pre).length + 1)) (some ((patL pre).length + 1 + 1)) = [c] := by
            rw [hP, show ((patL pre).length : Int) + 1 + 1 = (patL pre).length + (1 : Nat) + (1 : Nat) by lia, show ((patL pre).length : Int) + 1 = (patL pre).length + (1 : Nat) by lia]
            exact sl_at _ _ 1 1 (by lia) (by lia)
          have hc33 : ([c] == [33]) = false := by rcases hset with rfl | rfl <;> rfl
          have hc93 : ([c] == [93]) = false := by rcases hset with rfl | rfl <;> rfl
          simp only [List.length_cons, List.length_nil] at lpatp
          refine Ex_cons (ExS_assign 7 (d := .str [91]) rfl (.inl rfl) ?_ ?_)
          · intro own _
            walk_at "g"
          refine Ex_cons (ExS_assign 5 (d := .int ((patL pre).length + 1)) rfl (.inl rfl) ?_ ?_)
          · intro own _
            walk_at "g"
          show Ex _ _ _ _ _ _ _ [(3, ar, parD a pre)] [some (.str (patL ts)), some (.val (.ref a)), some (.str [46]), none, some (.obj b (bmObj ar)), some (.int ((patL pre).length + 1)), some (.int (patL ts).length), some (.str [91]), c8, c9, none, none, none, none, none, none, none] _ _
          refine Ex_ifF ?_ ?_
          · unfold EvT
            show EvB _ _ _ _ _ _ _ [some (.str (patL ts)), some (.val (.ref a)), some (.str [46]), some (.list (parD a pre)), some (.obj b (bmObj ar)), some (.int ((patL pre).length + 1)), some (.int (patL ts).length), some (.str [91]), c8, c9, none, none, none, none, none, none, none] _ _
            refine EvB.to (by walk_at "g") ?_
            rfl
          refine Ex_ifF ?_ ?_
          · unfold EvT
            show EvB _ _ _ _ _ _ _ [some (.str (patL ts)), some (.val (.ref a)), some (.str [46]), some (.list (parD a pre)), some (.obj b (bmObj ar)), some (.int ((patL pre).length + 1)), some (.int (patL ts).length), some (.str [91]), c8, c9, none, none, none, none, none, none, none] _ _
            refine EvB.to (by walk_at "g") ?_
            rfl
          refine Ex_ifT ?_ ?_
          · unfold EvT
            show EvB _ _ _ _ _ _ _ [some (.str (patL ts)), some (.val (.ref a)), some (.str [46]), some (.list (parD a pre)), some (.obj b (bmObj ar)), some (.int ((patL pre).length + 1)), some (.int (patL ts).length), some (.str [91]), c8, c9, none, none, none, none, none, none, none] _ _
            refine EvB.to (by walk_at "g") ?_
            rfl
          refine Ex_cons (ExS_assign 8 (d := .int ((patL pre).length + 1)) rfl (.inl rfl) ?_ ?_)
          · intro own _
            walk_at "g"
          show Ex _ _ _ _ _ _ _ [(3, ar, parD a pre)] [some (.str (patL ts)), some (.val (.ref a)), some (.str [46]), none, some (.obj b (bmObj ar)), some (.int ((patL pre).length + 1)), some (.int (patL ts).length), some (.str [91]), some (.int ((patL pre).length + 1)), c9, none, none, none, none, none, none, none] _ _
          refine Ex_cons (ExS_if (b := false) ?_ (fun h => nomatch h) (fun _ => Ex_nil ?_))
          · unfold EvT
            show EvB _ _ _ _ _ _ _ [some (.str (patL ts)), some (.val (.ref a)), some (.str [46]), some (.list (parD a pre)), some (.obj b (bmObj ar)), some (.int ((patL pre).length + 1)), some (.int (patL ts).length), some (.str [91]), some (.int ((patL pre).length + 1)), c9, none, none, none, none, none, none, none] _ _
            refine EvB.to (by walk_at "g") ?_
            rw [hc33, Bool.and_false]
          refine Ex_cons (ExS_if (b := false) ?_ (fun h => nomatch h) (fun _ => Ex_nil ?_))
          · unfold EvT
            show EvB _ _ _ _ _ _ _ [some (.str (patL ts)), some (.val (.ref a)), some (.str [46]), some (.list (parD a pre)), some (.obj b (bmObj ar)), some (.int ((patL pre).length + 1)), some (.int (patL ts).length), some (.str [91]), some (.int ((patL pre).length + 1)), c9, none, none, none, none, none, none, none] _ _
            refine EvB.to (by walk_at "g") ?_
            rw [hc93, Bool.and_false]
          refine Ex_cons (ExS_post (P' := fun o => o = .next [(3, ar, parD a pre)] [some (.str (patL ts)), some (.val (.ref a)), some (.str [46]), none, some (.obj b (bmObj ar)), some (.int ((patL pre).length + 1)), some (.int (patL ts).length), some (.str [91]), some (.int ((patL pre).length + 1 + 1)), c9, none, none, none, none, none, none, none])
            (ExS_while (fun n sh σ => ∃ k : Int, n = 2 - k.toNat ∧ (k = 1 ∨ k = 2) ∧ sh = [(3, ar, parD a pre)] ∧ σ = [some (.str (patL ts)), some (.val (.ref a)), some (.str [46]), none, some (.obj b (bmObj ar)), some (.int ((patL pre).length + 1)), some (.int (patL ts).length), some (.str [91]), some (.int ((patL pre).length + k)), c9, none, none, none, none, none, none, none]) ?_ 1 ⟨1, rfl, .inl rfl, rfl, rfl⟩) ?_)
          · rintro n sh σ ⟨k, rfl, hk, rfl, rfl⟩
            refine ⟨k == 1, ?_, ?_, ?_⟩
            · unfold EvT
              show EvB _ _ _ _ _ _ _ [some (.str (patL ts)), some (.val (.ref a)), some (.str [46]), some (.list (parD a pre)), some (.obj b (bmObj ar)), some (.int ((patL pre).length + 1)), some (.int (patL ts).length), some (.str [91]), some (.int ((patL pre).length + k)), c9, none, none, none, none, none, none, none] _ _
              rcases hk with rfl | rfl
              · refine EvB.to (by walk_at "g") ?_
                rw [bne, hc93]; simp; lia
              · have g2' : (patL ts)[((patL pre).length + 2 : Int).toNat]? = some 93 := by rw [show ((patL pre).length : Int) + 2 = (patL pre).length + 1 + 1 by lia]; exact g2
                refine EvB.to (by walk_at "g") ?_
                simp
            · intro h
              rcases hk with rfl | rfl
              · cases h
              · show _ = _
                rw [show ((patL pre).length : Int) + 2 = (patL pre).length + 1 + 1 by lia]
            · intro h
              rcases hk with rfl | rfl
              · refine Ex_cons (ExS_assign 8 (d := .int ((patL pre).length + 1 + 1)) rfl (.inl rfl) ?_ (Ex_nil ⟨0, by decide, 2, rfl, .inr rfl, rfl, ?_⟩))
                · intro own _
                  walk_at "g"
                · rw [show ((patL pre).length : Int) + 2 = (patL pre).length + 1 + 1 by lia]; rfl
              · cases h
          rintro o rfl
          refine Ex_ifF ?_ ?_
          · unfold EvT
            show EvB _ _ _ _ _ _ _ [some (.str (patL ts)), some (.val (.ref a)), some (.str [46]), some (.list (parD a pre)), some (.obj b (bmObj ar)), some (.int ((patL pre).length + 1)), some (.int (patL ts).length), some (.str [91]), some (.int ((patL pre).length + 1 + 1)), c9, none, none, none, none, none, none, none] _ _
            refine EvB.to (by walk_at "g") ?_
            simp; lia
          refine Ex_cons (ExS_assign 9 (d := .str [c]) rfl (.inl rfl) ?_ ?_)
          · intro own _
            rw [← hsl]
            walk_at "g"
          show Ex _ _ _ _ _ _ _ [(3, ar, parD a pre)] [some (.str (patL ts)), some (.val (.ref a)), some (.str [46]), none, some (.obj b (bmObj ar)), some (.int ((patL pre).length + 1)), some (.int (patL ts).length), some (.str [91]), some (.int ((patL pre).length + 1 + 1)), some (.str [c]), none, none, none, none, none, none, none] _ _
          refine Ex_ifT ?_ ?_
          · unfold EvT
            show EvB _ _ _ _ _ _ _ [some (.str (patL ts)), some (.val (.ref a)), some (.str [46]), some (.list (parD a pre)), some (.obj b (bmObj ar)), some (.int ((patL pre).length + 1)), some (.int (patL ts).length), some (.str [91]), some (.int ((patL pre).length + 1 + 1)), some (.str [c]), none, none, none, none, none, none, none] _ _
            refine EvB.to (by walk_at "g") ?_
            rw [has45 c hset]; rfl
          refine Ex_cons (ExS_assign 9 (d := .str [c]) rfl (.inl rfl) ?_ (Ex_nil ?_))
          · intro own _
            have h92 : c ≠ 92 := by rcases hset with rfl | rfl <;> decide
            rw [← rep92 c h92]
            refine Ev_replace (he := by rfl) ?_ lit13 lit14 (by rfl) (by simp)
            rw [rep92 c h92]
            walk_at "g"
          refine Ex_cons (ExS_assign 9 (d := .str [c]) rfl (.inl rfl) ?_ ?_)
          · intro own _
            refine Ev_resub hset ?_ rfl rfl rfl rfl rfl rfl rfl ?_ rfl rfl rfl
            · walk_at "g"
            · walk_at "g"
          refine Ex_cons (ExS_assign 5 (d := .int ((patL pre).length + 1 + 1 + 1)) rfl (.inl rfl) ?_ ?_)
          · intro own _
            walk_at "g"
          show Ex _ _ _ _ _ _ _ [(3, ar, parD a pre)] [some (.str (patL ts)), some (.val (.ref a)), some (.str [46]), none, some (.obj b (bmObj ar)), some (.int ((patL pre).length + 1 + 1 + 1)), some (.int (patL ts).length), some (.str [91]), some (.int ((patL pre).length + 1 + 1)), some (.str [c]), none, none, none, none, none, none, none] _ _
          refine Ex_ifF ?_ ?_
          · unfold EvT
            show EvB _ _ _ _ _ _ _ [some (.str (patL ts)), some (.val (.ref a)), some (.str [46]), some (.list (parD a pre)), some (.obj b (bmObj ar)), some (.int ((patL pre).length + 1 + 1 + 1)), some (.int (patL ts).length), some (.str [91]), some (.int ((patL pre).length + 1 + 1)), some (.str [c]), none, none, none, none, none, none, none] _ _
            refine EvB.to (by walk_at "g") ?_
            rfl
          refine Ex_ifF ?_ ?_
          · unfold EvT
            show EvB _ _ _ _ _ _ _ [some (.str (patL ts)), some (.val (.ref a)), some (.str [46]), some (.list (parD a pre)), some (.obj b (bmObj ar)), some (.int ((patL pre).length + 1 + 1 + 1)), some (.int (patL ts).length), some (.str [91]), some (.int ((patL pre).length + 1 + 1)), some (.str [c]), none, none, none, none, none, none, none] _ _
            refine EvB.to (by walk_at "g") ?_
            exact hc33
          have i0 : [c][(0 : Int).toNat]? = some c := rfl
          refine Ex_cons (ExS_post (P' := fun o => o = .next [(3, ar, parD a pre)] [some (.str (patL ts)), some (.val (.ref a)), some (.str [46]), none, some (.obj b (bmObj ar)), some (.int ((patL pre).length + 1 + 1 + 1)), some (.int (patL ts).length), some (.str [91]), some (.int ((patL pre).length + 1 + 1)), some (.str (if c = 91 then [92, 91] else [c])), none, none, none, none, none, none, none]) ?_ ?_)
          · refine ExS_if (b := false) ?_ (fun h => nomatch h) (fun _ => ?_)
            · unfold EvT
              show EvB _ _ _ _ _ _ _ [some (.str (patL ts)), some (.val (.ref a)), some (.str [46]), some (.list (parD a pre)), some (.obj b (bmObj ar)), some (.int ((patL pre).length + 1 + 1 + 1)), some (.int (patL ts).length), some (.str [91]), some (.int ((patL pre).length + 1 + 1)), some (.str [c]), none, none, none, none, none, none, none] _ _
              refine EvB.to (by walk_at "g") ?_
              exact hc33
            refine Ex_cons (ExS_if (b := [[94], [91]].contains [c]) ?_ (fun h => ?_) (fun h => Ex_nil (Ex_nil ?_)))
            · unfold EvT
              show EvB _ _ _ _ _ _ _ [some (.str (patL ts)), some (.val (.ref a)), some (.str [46]), some (.list (parD a pre)), some (.obj b (bmObj ar)), some (.int ((patL pre).length + 1 + 1 + 1)), some (.int (patL ts).length), some (.str [91]), some (.int ((patL pre).length + 1 + 1)), some (.str [c]), none, none, none, none, none, none, none] _ _
              refine EvB_cmp (hm := by with_unfolding_all rfl) (a := .str [c]) (b := .tuple [.str [94], .str [91]]) ?_ ?_ (Op_inT (ys := [[94], [91]]))
              · walk_at "g"
              · walk_at "g"
            · have h91 : c = 91 := by
                rcases hset with rfl | rfl
                · exact absurd h (by decide)
                · rfl
              subst h91
              rw [if_pos rfl]
              refine Ex_cons (ExS_assign 9 (d := .str [92, 91]) rfl (.inl rfl) ?_ (Ex_nil (Ex_nil rfl)))
              intro own _
              refine Ev.to (d' := .str ([92] ++ [91])) ?_ rfl
              walk_at "g"
            · have h91 : ¬ c = 91 := by
                rcases hset with rfl | rfl
                · decide
                · exact absurd h (by decide)
              rw [if_neg h91]
          rintro o rfl
          have he1 : [91] ++ (if c = 91 then [92, 91] else [c]) ++ [93] = esc1 c := by
            rcases hset with rfl | rfl <;> rfl
          have hl2 : (if c = 91 then [92, 91] else [c]).length ≤ 2 := by split <;> simp
          generalize (if c = 91 then [92, 91] else [c]) = st at he1 hl2 ⊢
          refine Ex_cons (ExS_app 3 4 (d := .str (esc1 c)) rfl (.inl rfl) rfl (.head _) ?_ ?_ (Ex_nil (Ex_nil (Ex_nil (Ex_nil (Ex_nil (Ex_nil (Ex_nil (hN (pre ++ [some c]) post (some (.str [91])) (some (.int ((patL pre).length + 1 + 1))) (some (.str st)) _ _ (Nat.lt_succ_self _) (by rw [e]; simp) ?_ ?_)))))))))
          · rw [sizeLine_eq]; lia
          · intro own _
            show Ev _ _ _ _ _ _ _ [some (.str (patL ts)), some (.val (.ref a)), some (.str [46]), none, some (.obj b (bmObj ar)), some (.int ((patL pre).length + 1 + 1 + 1)), some (.int (patL ts).length), some (.str [91]), some (.int ((patL pre).length + 1 + 1)), some (.str st), none, none, none, none, none, none, none] _ _
            refine Ev.to (d' := .str (List.flatten [[91], st, [93]])) (Ev_fstr (.const lit8 (.val ?_ ?_ (.const lit10 .nil))) ?_) ?_
            · walk_at "g"
            · rw [sizeLine_eq]; lia
            · rw [sizeLine_eq]; simp; lia
            · rw [← he1]; simp
          · rw [hnew]; rfl
          · rw [hlen]; rfl
        · have h42 : ¬ c = 42 := fun q => hset (.inl q)
          have h91 : ¬ c = 91 := fun q => hset (.inr q)
          have hp1 : pat1 (some c) = [c] := if_neg hset
          have hok : c ∈ okP := by
            exact (by decide : ∀ c ∈ sig, ¬ c = 42 → ¬ c = 91 → c ∈ okP) c hcs h42 h91
          have h63 : ¬ c = 63 := by intro q; subst q; revert hcs; decide
          rw [hp1] at hP lpatp hlen
          have g0 : (patL ts)[((patL pre).length : Int).toNat]? = some c := by
            rw [hP, Int.toNat_natCast, List.getElem?_append_right (Nat.le_refl _)]; simp
          simp only [List.length_cons, List.length_nil] at lpatp
          refine Ex_cons (ExS_assign 7 (d := .str [c]) rfl (.inl rfl) ?_ ?_)
          · intro own _
            walk_at "g"
          refine Ex_cons (ExS_assign 5 (d := .int ((patL pre).length + 1)) rfl (.inl rfl) ?_ ?_)
          · intro own _
            walk_at "g"
          show Ex _ _ _ _ _ _ _ [(3, ar, parD a pre)] [some (.str (patL ts)), some (.val (.ref a)), some (.str [46]), none, some (.obj b (bmObj ar)), some (.int ((patL pre).length + 1)), some (.int (patL ts).length), some (.str [c]), c8, c9, none, none, none, none, none, none, none] _ _
          refine Ex_ifF ?_ ?_
          · unfold EvT
            show EvB _ _ _ _ _ _ _ [some (.str (patL ts)), some (.val (.ref a)), some (.str [46]), some (.list (parD a pre)), some (.obj b (bmObj ar)), some (.int ((patL pre).length + 1)), some (.int (patL ts).length), some (.str [c]), c8, c9, none, none, none, none, none, none, none] _ _
            refine EvB.to (by walk_at "g") ?_
            simp [h42]
          refine Ex_ifF ?_ ?_
          · unfold EvT
            show EvB _ _ _ _ _ _ _ [some (.str (patL ts)), some (.val (.ref a)), some (.str [46]), some (.list (parD a pre)), some (.obj b (bmObj ar)), some (.int ((patL pre).length + 1)), some (.int (patL ts).length), some (.str [c]), c8, c9, none, none, none, none, none, none, none] _ _
            refine EvB.to (by walk_at "g") ?_
            simp [h63]
          refine Ex_ifF ?_ ?_
          · unfold EvT
            show EvB _ _ _ _ _ _ _ [some (.str (patL ts)), some (.val (.ref a)), some (.str [46]), some (.list (parD a pre)), some (.obj b (bmObj ar)), some (.int ((patL pre).length + 1)), some (.int (patL ts).length), some (.str [c]), c8, c9, none, none, none, none, none, none, none] _ _
            refine EvB.to (by walk_at "g") ?_
            simp [h91]
          refine Ex_cons (ExS_app 3 4 (d := .str (esc1 c)) rfl (.inl rfl) rfl (.head _) ?_ ?_ (Ex_nil (Ex_nil (Ex_nil (Ex_nil (hN (pre ++ [some c]) post (some (.str [c])) c8 c9 _ _ (Nat.lt_succ_self _) (by rw [e]; simp) ?_ ?_))))))
          · rw [sizeLine_eq]; lia
          · intro own _
            have : escP c = esc1 c := by unfold escP esc1; rw [if_neg h42, if_neg h91]
            rw [← this]
            walk_at "g"
          · rw [hnew]; rfl
          · rw [hlen]; rfl
end
end
-- SpTrans
section
section
noncomputable def nm_trans : Nms := [("pat", .local), ("STAR", .local), ("parts", .local), ("object", .globalImplicit), ("_translate", .globalImplicit), ("_join_translated_parts", .globalImplicit)]
set_option maxHeartbeats 8000000 in
theorem sp_trans {r0 : List Nat} {ms : List (List Nat)} (h0 : ∀ c ∈ r0, c ∈ sig) (hm : ∀ m ∈ ms, ∀ c ∈ m, c ∈ sig) (hok : okM ms = true) (hne : ms ≠ []) (hL : (esc r0 ++ outM ms).length ≤ 100000) (hT : (r0.map some ++ starM ms).length ≤ 3000) :
    FSpec prog w (K39 w.params) 82 3 [.str (shield r0 ms)] (.str (transL r0 ms)) := by
  have hap := apart_all r0 ms hok
  have hsg : ∀ c, some c ∈ r0.map some ++ starM ms → c ∈ sig := by
    intro c hc
    rcases List.mem_append.mp hc with q | q
    · refine ex1E (List.mem_map.mp q) fun d zz4 => and2E zz4 fun hd e => ?_; cases e; exact h0 _ hd
    · refine ex1E (List.mem_flatMap.mp q) fun m zz3 => and2E zz3 fun hm1 q => ?_
      cases q with
      | tail _ q => refine ex1E (List.mem_map.mp q) fun d zz2 => and2E zz2 fun hd e => ?_; cases e; exact hm _ hm1 _ hd
  refine' FSpec_of nm_trans (f := 82) (ds := [.str (shield r0 ms)]) (n := 2) ?hK ?hcd (KL _) ?hsc (by decide +kernel) ?hk ?hco ?hg rfl (Nat.le_of_ble_eq_true rfl) rfl rfl ?hb ?hbody
  walk_at "fs"
  case hb =>
    intro s vs hv
    refine ex1E (len1 hv) fun a zz1 => ?_; subst zz1
    exact BindsTo.of_eq rfl
  case hbody =>
    intro A L Xc hr
    have e0 : startσ nm_trans [.str (shield r0 ms)] = [some (.str (shield r0 ms)), none, none, none, none, none] := rfl
    rw [e0]
    refine Ex_cons (ExS_newobj 1 rfl (.inl rfl) ?_ fun a => ?_)
    · intro own _
      walk_at "g"
    show Ex _ _ _ _ _ _ _ [] [some (.str (shield r0 ms)), some (.val (.ref a)), none, none, none, none] _ _
    refine Ex_cons (ExS_assign 2 (d := .list (parD a (r0.map some ++ starM ms))) rfl (.inl rfl) ?_ ?_)
    · intro own _
      refine Ev_callR (he := by rfl) (f := 101) (ds := [.str (patL (r0.map some ++ starM ms)), .val (.ref a), .str [46]]) ?_ (by rfl) (by rfl) ?_ (sp_tr hsg hap hT _ _ (by walk_at "g"))
      · exact Ev_globE (by decide +kernel) (g_translate_f _)
      · walk_at "g"
    show Ex _ _ _ _ _ _ _ [] [some (.str (shield r0 ms)), some (.val (.ref a)), some (.list (parD a (r0.map some ++ starM ms))), none, none, none] _ _
    refine Ex_cons (ExS_ret (d := .str (transL r0 ms)) ?_ rfl)
    unfold EvL
    show Ev _ _ _ _ _ _ _ [some (.str (shield r0 ms)), some (.val (.ref a)), some (.list (parD a (r0.map some ++ starM ms))), none, none, none] _ _
    refine Ev_callR (he := by rfl) (f := 108) (ds := [.list (parD a (r0.map some ++ starM ms)), .val (.ref a)]) ?_ (by rfl) (by rfl) ?_ (sp_jp hok hne hL hT _ _ (by walk_at "g"))
    · exact Ev_globE (by decide +kernel) (g_join_translated_parts _)
    · walk_at "g"
end
end
-- Exc3
section
section
noncomputable def DictAt (h : Heap) (L : Addr) : Prop := ∃ o es ep, h.get? L = some o ∧ o.data = .dict es ep
theorem DictAt.of_ns {h : Heap} {L : Addr} {m : Str → Option Value} (n : h.Ns L m) : DictAt h L := let ⟨o, es, ep, e, d, _⟩ := n; ⟨o, es, ep, e, d⟩
structure Flown (X : Addr → Prop) (s : Shared) (env : Env) (L e t : Addr) (x : Str) (tk : Tok) (s' : Shared) (L' : Addr) (h' : Heap) : Prop where
  kp : Kp s s'
  wx : WX (K39 w.params) X s'
  new : s.heap.get? L' = none
  dict : DictAt s'.heap L'
  fly : Heap.FlyingW (hideAll s'.heap [L', L]) [env] e (.ref 61) (.ref t) h'
  tup : h'.TupAt t [.str x tk]
  tnew : (hideAll s'.heap [L', L]).get? t = none
  up : s'.heap.UpToSlots h'
theorem if_go {K : Frag} {A : Around} {env : Env} {nms : Nms} {X : Addr → Prop} {σ : List (Option D)} {e : Expr} {body orelse : List Stmt} {pos : Pos} (b : Bool) {s : Shared} {Q : Flow → Shared → Prop} {E : Value → Shared → Prop}
    (ht : EvB prog w K A env nms X σ e b) (st : StE K env nms X σ s) (h : ∀ s', Kp s s' → WX K X s' → wpAny (model prog w) A (execs (if b then body else orelse) env) Q E s') : wpAny (model prog w) A (exec (.If e body orelse pos) env) Q E s := by
  refine wpAny_If (ht _ _ st fun s₁ k₁ w₁ => ?_)
  have := h s₁ k₁ w₁
  cases b <;> exact this
theorem glob_at {M : Model} {K : Frag} {A : Around} {env : Env} {nms : Nms} {X : Addr → Prop} {σ : List (Option D)} (i : Nat) {n : String} {pos : Pos} {v : Value} {s : Shared} {Q : Value → Shared → Prop} {E : Value → Shared → Prop} (st : StE K env nms X σ s) (hn : nms[i]? = some (n, .globalImplicit)) (hv : nsIn K mainGlobals n = some (some v)) (hQ : Q v s) : wpAny M A (eval (.Name n pos) env) Q E s := by
  refine wpAny_Name ?_ (st.eo.plain hn).1
  rw [loadName_read st.eo.kind (st.eo.kindOf hn)]
  unfold loadGlobal
  rw [st.eo.globals]
  refine wpAny_bind ((looks_nsIn st.wx.kin hv).here ?_)
  exact wpAny_pure hQ
set_option maxHeartbeats 8000000 in
theorem parse_raise {A : Around} {X : Addr → Prop} {env : Env} {L : Addr} {s : Shared} {vs : List Value} {x : List Nat} {Q : Value → Shared → Prop} {E : Value → Shared → Prop} (hA : A.frames = some [env]) (hf : env.frame = some L) (hkd : env.scope.kind ≠ .module) (hroom : A.depth < recursionLimit) (hh : A.handled = none)
    (hXL : X L) (hL : DictAt s.heap L) (hx : x.length ≤ 1000000) (h3 : (sl x none (some 3) == [50, 53, 55]) = false) (wx : WX (K39 w.params) X s) (r : RdAll X s.heap vs [.str x])
    (hE : ∀ e t tk' s' L' h', Flown X s env L e t (S x) tk' s' L' h' → E (.ref e) { s' with heap := h' }) :
    wpAny (model prog w) A (call (.ref 70) vs) Q E s := by
  refine' call_body nm_parse (f := 70) (ds := [.str x]) ?hK ?hcd (KL _) ?hsc (by decide +kernel) ?hk ?hco ?hg rfl (Nat.le_of_ble_eq_true rfl) rfl rfl ?hb hroom wx r ?hbody
  walk_at "fs"
  case hb =>
    intro s vs hv
    refine ex1E (len1 hv) fun a zz11 => ?_; subst zz11
    exact BindsTo.of_eq rfl
  case hbody =>
    intro s₂ st k hk
    have e0 : startσ nm_parse [.str x] = [some (.str x), none, none, none, none, none, none] := rfl
    rw [e0] at st
    have hsL : s.heap.get? s.heap.objs.size = none := none_ge (Nat.le_refl _)
    refine wpAny_execs_cons (if_go true ?_ st.ste fun s₃ k₃ w₃ => ?_)
    · show EvB _ _ _ _ _ _ _ [some (.str x), none, none, none, none, none, none] _ _
      refine EvB.to (by walk_at "g") ?_
      show (!(sl x none (some 3) == [50, 53, 55])) = true
      rw [h3]; rfl
    · simp only [if_true]
      have st₃ := st.kp k₃ w₃
      have o3 := own61 st₃.wx.kin
      refine ex8E o3.c fun nm q bs hdct sn sub ab col zz10 => ex6E zz10 fun dd k0 k1 k2 k3 k5 hC => ?_
      refine ex1E o3.n fun m zz9 => and3E zz9 fun hn hq _ => ?_
      refine wpAny_execs_cons (wpAny_Raise_call_subU (mN := m) (C := 61) (nm := nm) (q := q) (N := 60) (bs := bs) (bm := .ref 48 :: excTail) (bmB := excTail) (hdct := hdct) (sn := sn) (sub := sub) (ab := ab) (col := col) (dd := dd) (k0 := k0) (k1 := k1) (k2 := k2) (k3 := k3) (k5 := k5) F.excBase_Exception (by decide +kernel) F.excBase_Exception (by decide +kernel) hh rfl (hq _ (.head _)) ?_)
      refine glob_at 5 st₃.ste rfl (g_error_reply _) ⟨rfl, ?_⟩
      refine EvAll.args (K := K39 w.params) (nms := nm_parse) (X := XO X (envD _ _ s.heap.objs.size _ _) []) (σ := [some (.str x), none, none, none, none, none, none]) (ds := [.str x]) (by walk_at "g") _ _ _ _ _ st₃.ste fun vs₄ s₄ k₄ w₄ r₄ => ?_
      refine ex1E (len1 (r₄.length)) fun v₄ zz8 => ?_; subst zz8
      cases r₄ with | cons r₄ _ =>
      refine Rd.strE r₄ fun tk₄ => ?_
      refine ⟨rfl, (by decide : 1 ≤ sizeLine), k₄.keep (by decide) hC, ?_, (own61 w₄.kin).tail.tail, fun h' e hm => ?_⟩
      · refine ex3E hn fun o es ep zz7 => and2E zz7 fun q1 q2 => ?_
        exact ⟨o, es, ep, k₄.keep (by decide) q1, q2⟩
      · have st₄ := st₃.kp k₄ w₄
        have K14 : Kp s s₄ := (k.trans k₃).trans k₄
        have dP : DictAt s₄.heap s.heap.objs.size := by
          refine ex1E st₄ fun m' hm' => ?_
          refine ex1E hm'.frm.ns fun m0 zz6 => and2E zz6 fun hm0 _ => ?_
          exact .of_ns hm0
        have L96 : L ≠ 96 := fun e => by
          refine ex3E hL fun o es ep zz5 => and2E zz5 fun h1 h2 => ?_
          refine ex1E wx.tb fun ps zz4 => and2E zz4 fun h3 _ => ?_
          rw [e, h3] at h1; cases h1; cases h2
        have dL : DictAt s₄.heap L := by
          refine ex3E hL fun o es ep zz3 => and2E zz3 fun h1 h2 => ?_
          exact ⟨o, es, ep, K14.keep L96 h1, h2⟩
        have notf : ∀ {o : Obj} {es ep}, o.data = .dict es ep → ∀ vs, o.data ≠ .fields vs := fun h vs q => by rw [h] at q; cases q
        refine wpAny_leaves_madeW (base := hideAll s₄.heap [s.heap.objs.size, L]) (outer := [env]) (h := s₄.heap) (L := s.heap.objs.size) (Around.frames_deeper hA) rfl (fun b o q => of_hideAll _ q) ?_ hm fun h'' t f1 f2 f3 f4 => ?_
        · refine ex3E dP fun o es ep zz2 => and2E zz2 fun q1 q2 => ?_
          refine ex3E dL fun o' es' ep' zz1 => and2E zz1 fun q1' q2' => ?_
          exact ⟨(by intro q; cases q), ⟨_, o, rfl, hideAll_none _ (.head _), q1, notf q2⟩, hkd, ⟨L, o', hf, hideAll_none _ (.tail _ (.head _)), q1', notf q2'⟩, trivial⟩
        · exact hE e t tk₄ s₄ s.heap.objs.size h'' ⟨K14, w₄.weak wx.x96 fun a q => .inl q, hsL, dP, f1, f2, f3, (Heap.UpToSlots.of_keeps hm.keeps).trans f4⟩
end
end
-- Exc4
section
noncomputable def KpL (L : Addr) (s s' : Shared) : Prop := ∃ h' tk, s' = { s with heap := h', toks := tk } ∧ s.toks ≤ tk ∧ (∀ b o, b ≠ 96 → b ≠ L → s.heap.get? b = some o → h'.get? b = some o) ∧ ∀ o, s.heap.get? L = some o → ∃ sl, h'.get? L = some { o with slots := sl }
section
variable {X : Addr → Prop} {s s' : Shared} {env : Env} {L e t L' : Addr} {x : Str} {tk : Nat} {h₁ h' : Heap}
theorem dict_notf {o : Obj} {es : Array DictEntry} {ep : Nat} (h : o.data = .dict es ep) : ∀ vs, o.data ≠ .fields vs := fun vs q => by rw [h] at q; cases q
theorem dict_ne96 {K : Frag} (wx : WX K X s) (hL : DictAt s.heap L) : L ≠ 96 := fun e => by
  refine ex3E hL fun o es ep zz30 => and2E zz30 fun h1 h2 => ?_
  refine ex1E wx.tb fun ps zz29 => and2E zz29 fun h3 _ => ?_
  rw [e, h3] at h1; cases h1; cases h2
theorem Flown.after (F : Flown X s env L e t x tk s' L' h₁) (wx : WX (K39 w.params) X s) (hXL : X L) (hL : DictAt s.heap L)
    (st : (hideAll s'.heap [L', L]).StaysIn h') (up : s'.heap.UpToSlots h') : KpL L s { s' with heap := h' } ∧ WX (K39 w.params) X { s' with heap := h' } := by
  have h96 := dict_ne96 wx hL
  have keep : ∀ b o, b ≠ L → b ≠ L' → s'.heap.get? b = some o → h'.get? b = some o := fun b o n1 n2 q => st b o (hideAll_get _ q fun m => by
    rcases List.mem_cons.mp m with m | m
    · exact n2 m
    · rcases List.mem_cons.mp m with m | m
      · exact n1 m
      · cases m)
  have hne : ∀ b o, s.heap.get? b = some o → b ≠ L' := fun b o q e => by rw [e, F.new] at q; cases q
  have hLs : ∀ o, s'.heap.get? L = some o → (∀ vs, o.data ≠ .fields vs) → ∃ sl, h'.get? L = some { o with slots := sl } := fun o q n => up L o q n
  refine ex3E hL fun oL esL epL zz28 => and2E zz28 fun hoL hdL => ?_
  have hoL' := F.kp.keep h96 hoL
  constructor
  · refine ex2E F.kp fun h2 t2 zz27 => and3E zz27 fun zz26 l2 k2 => ?_; subst zz26
    refine ⟨h', t2, rfl, l2, fun b o n96 nL q => keep b o nL (hne b o q) (k2 b o n96 q), fun o q => ?_⟩
    rw [hoL] at q; cases q
    exact hLs _ hoL' (dict_notf hdL)
  · refine ⟨fun b o q => ?_, wx.xk, ?_, ?_, F.wx.pos, wx.x96, fun a ha => ?_⟩
    · exact keep b o (fun e => by rw [e, (wx.xk L hXL).1] at q; cases q) (hne b o (wx.kin b o q)) (F.wx.kin b o q)
    · refine ex1E F.wx.bi fun mb zz25 => and2E zz25 fun zz24 q3 => ?_; obtain ⟨o, es, ep, q1, q2⟩ := zz24
      refine ex1E wx.bi fun mb0 zz23 => and2E zz23 fun zz22 _ => ?_; obtain ⟨o0, _, _, q0, _⟩ := zz22
      exact ⟨mb, ⟨o, es, ep, keep _ _ (fun e => (wx.xk L hXL).2 e.symm) (hne _ _ q0) q1, q2⟩, q3⟩
    · refine ex1E F.wx.tb fun ps zz19 => and4E zz19 fun q1 q2 q4 zz20 => ex1E zz20 fun o4 zz21 => and2E zz21 fun e4 r4 => ?_
      refine ex3E F.dict fun oD esD epD zz18 => and2E zz18 fun hD1 hD2 => ?_
      refine ex1E wx.tb fun ps0 zz17 => and2E zz17 fun q0 _ => ?_
      refine ⟨ps, keep _ _ (Ne.symm h96) (hne _ _ q0) q1, q2.imp id ?_, q4, o4, keep _ _ (fun e => q4 (e ▸ hXL)) (fun e => ?_) e4, r4⟩
      · rintro ⟨c', ep', hc, c, oc, vs, t', z1, z2, z3, z4⟩
        cases z1
        refine ⟨c', ep', hc, c', oc, vs, t', rfl, keep _ _ (fun e => hc (e ▸ hXL)) (fun e => ?_) z2, z3, z4⟩
        rw [e, hD1] at z2; cases z2; rw [hD2] at z3; cases z3
      · rw [e, hD1] at e4; cases e4; have := r4.2.2; rw [hD2] at this; cases this
    · refine ex1E (wx.xb a ha) fun o q => ?_
      by_cases e : a = L
      · subst e
        refine ex1E (hLs _ hoL' (dict_notf hdL)) fun sl q' => ?_
        exact ⟨_, q'⟩
      · refine ex1E (F.wx.xb a ha) fun o' q' => ?_
        exact ⟨o', keep a o' e (hne a o q) q'⟩
theorem Flown.fresh (F : Flown X s env L e t x tk s' L' h₁) (wx : WX (K39 w.params) X s) (hL : DictAt s.heap L) {b : Addr} {o : Obj} (hb : (hideAll s'.heap [L', L]).get? b = none) (up : s'.heap.UpToSlots h') (ho : h'.get? b = some o) (hd : ∀ es ep, o.data ≠ .dict es ep) : s.heap.get? b = none := by
  have h96 := dict_ne96 wx hL
  cases q : s.heap.get? b with
  | none => rfl
  | some o' =>
    exfalso
    have n1 : b ≠ L' := fun e => by rw [e, F.new] at q; cases q
    have n2 : b ≠ L := fun e => by
      subst e
      refine ex3E hL fun oL esL epL zz16 => and2E zz16 fun hoL hdL => ?_
      refine ex1E (up b _ (F.kp.keep h96 hoL) (dict_notf hdL)) fun sl q' => ?_
      rw [q'] at ho; cases ho; exact hd _ _ hdL
    have got : ∀ o'', s'.heap.get? b = some o'' → False := fun o'' z => by
      rw [hideAll_get _ z fun m => by
        rcases List.mem_cons.mp m with m | m
        · exact n1 m
        · rcases List.mem_cons.mp m with m | m
          · exact n2 m
          · cases m] at hb
      cases hb
    by_cases e : b = 96
    · refine ex1E F.wx.tb fun ps zz15 => and2E zz15 fun q1 _ => ?_
      exact got _ (e ▸ q1)
    · exact got _ (F.kp.keep e q)
end
section
variable {K : Frag} {env : Env} {nms : Nms} {Xc : Addr → Prop} {own : Own} {σ : List (Option D)} {m : Str → Option Value} {s s' : Shared}
theorem KpL.kf (k : KpL env.locals s s') : Kf env own s s' := by
  refine ex2E k fun h' tk zz14 => and4E zz14 fun e l k1 k2 => ?_
  exact ⟨h', tk, e, l, fun b o n96 nm q => k1 b o n96 (fun e => nm (.inl e)) q⟩
theorem StM.kpl (x : StM K env nms Xc own σ m s) (k : KpL env.locals s s') (w : WX K (XO Xc env own) s') : StM K env nms Xc own σ m s' := by
  refine ex2E k fun h' tk zz13 => and4E zz13 fun zz12 l k1 k2 => ?_; subst zz12
  have nX : ∀ b, ¬ XO Xc env own b → b ≠ 96 ∧ b ≠ env.locals := fun b n => ⟨fun e => n (e ▸ .inl x.x96), fun e => n (.inr (.inl e))⟩
  have mv : ∀ {v d}, Rd (XO Xc env own) s.heap v d → Rd (XO Xc env own) h' v d := fun q => q.mono (fun _ z => .inl z) fun b o n e => k1 b o (nX b n).1 (nX b n).2 e
  have mvs : ∀ {v d}, RdAll (XO Xc env own) s.heap v d → RdAll (XO Xc env own) h' v d := fun q => q.mono (fun _ z => .inl z) fun b o n e => k1 b o (nX b n).1 (nX b n).2 e
  refine ⟨w, x.x96, x.eo, ⟨?_, fun y hy => ?_⟩, fun i n kd d h1 h2 => ?_, fun p hp => ?_, x.nd, x.sep, x.cd⟩
  · refine ex1E x.frm.ns fun m0 zz11 => and2E zz11 fun zz10 h2 => ?_; obtain ⟨o, es, ep, q1, q2, q3⟩ := zz10
    refine ex1E (k2 _ q1) fun sl q => ?_
    exact ⟨m0, ⟨_, es, ep, q, q2, q3⟩, h2⟩
  · refine ex1E (x.frm.cell y hy) fun c zz7 => and2E zz7 fun h1 zz8 => ex1E zz8 fun o zz9 => and2E zz9 fun h2 h3 => ?_
    exact ⟨c, h1, o, k1 _ _ (x.eo.c96 y c h1) (x.eo.lc y c h1) h2, h3⟩
  · refine ex1E (x.rd i n kd d h1 h2) fun v zz6 => and2E zz6 fun e q => ?_
    exact ⟨v, e, mv q⟩
  · refine ex4E (x.ow p hp) fun n kd vs ep zz5 => and4E zz5 fun h1 h2 h3 h4 => ?_
    exact ⟨n, kd, vs, ep, h1, h2, k1 _ _ (fun e => (x.sep p hp).1 (e ▸ x.x96)) (x.sep p hp).2.1 h3, mvs h4⟩
theorem St.kpl (x : St K env nms Xc own σ s) (k : KpL env.locals s s') (w : WX K (XO Xc env own) s') : St K env nms Xc own σ s' := let ⟨m, y⟩ := x; ⟨m, y.kpl k w⟩
theorem St.dict (x : St K env nms Xc own σ s) : DictAt s.heap env.locals := let ⟨_, y⟩ := x; let ⟨_, h, _⟩ := y.frm.ns; .of_ns h
theorem St.gone {M : Model} {A : Around} {E : Value → Shared → Prop} {Q : Unit → Shared → Prop} (i : Nat) {n : String} {pos : Pos} (x : St K env nms Xc own σ s) (hn : nms[i]? = some (n, .local)) (ho : ∀ p ∈ own, p.1 ≠ i)
    (h : ∀ s', St K env nms Xc own (σ.set i none) s' → Kf env own s s' → Q () s') : wpAny M A (do bindName env n .none; unbindBehindTheSuite env n pos) Q E s := by
  refine ex1E x fun m x => ?_
  have hK := x.eo.kindOf hn
  refine ex1E x.frm.ns fun m0 zz4 => and2E zz4 fun hm0 hm => ?_
  refine wpAny_nameGoes_keeps hK hm0 (by rw [x.eo.kind]; rfl) fun h' v hns hs => ?_
  have hbX : XO Xc env own env.locals := .inr (.inl rfl)
  have hne : ∀ p ∈ own, p.2.1 ≠ env.locals := fun p hp => (x.sep p hp).2.1
  refine h _ ⟨fun y => if y = (n : Str) then v else m y, ?_⟩ ⟨h', _, rfl, Nat.le_succ _, fun b o _ nm q => (hs.2 b fun e => nm (.inl e)).trans q⟩
  refine ⟨x.wx.upd hbX x.eo.l96 hs (let ⟨o, _, _, e, _⟩ := hns; ⟨o, e⟩) (Nat.le_succ _), x.x96, x.eo, ⟨⟨_, hns, fun y hy => ?_⟩, fun y hy => ?_⟩, fun j n' k' d h1 h2 => ?_, fun p hp => ?_, x.nd, x.sep, x.cd⟩
  · show (if y = (n : Str) then v else m0 y) = if y = (n : Str) then v else m y
    split
    · rfl
    · exact hm y hy
  · refine ex1E (x.frm.cell y hy) fun c zz3 => and2E zz3 fun h1 h2 => ?_
    have hyn : y ≠ (n : Str) := fun e => by subst e; rw [hK] at hy; rcases hy with hy | hy <;> cases hy
    refine ⟨c, h1, ?_⟩
    simp only [hyn, if_false]
    exact h2.sameBut hs (x.eo.lc y c h1)
  · by_cases e : (n' : Str) = (n : Str)
    · have := x.eo.same hn h1 e
      subst this
      rw [List.getElem?_set] at h2
      simp only [if_true] at h2
      split at h2 <;> cases h2
    · have hij : i ≠ j := fun q => by subst q; rw [hn] at h1; cases h1; exact e rfl
      rw [List.getElem?_set_ne hij] at h2
      refine ex1E (x.rd j n' k' d h1 h2) fun v' zz2 => and2E zz2 fun e' r' => ?_
      exact ⟨v', (if_neg e).trans e', r'.upd hbX hs⟩
  · refine ex4E (x.ow p hp) fun n' k' vs ep zz1 => and4E zz1 fun h1 h2 h3 h4 => ?_
    have e : ¬ (n' : Str) = (n : Str) := fun e => ho p hp (x.eo.same hn h1 e).symm
    exact ⟨n', k', vs, ep, h1, (if_neg e).trans h2, (hs.2 _ (hne p hp)).trans h3, h4.upd hbX hs⟩
end
end
-- Exc5
section
structure K61 (P : Params) (K' : Frag) (e : Addr) (x : List Nat) : Prop where
  sub : ∀ a o, (K39 P).lookup a = some o → K'.lookup a = some o
  exc : ∃ oe vs t tk, K'.lookup e = some oe ∧ oe.cls = .ref 61 ∧ oe.data = .fields vs ∧ vs[0]? = some (.ref t) ∧ ∃ ot n, K'.lookup t = some ot ∧ ot.cls = .type "tuple" ∧ ot.data = .seq #[.str (S x) tk] n
section
variable {P : Params} {K' : Frag} {e : Addr} {x : List Nat} {h : Heap}
theorem K61.in_ (k : K61 P K' e x) (i : K'.In h) : (K39 P).In h := fun a o q => i a o (k.sub a o q)
theorem K61.at (k : K61 P K' e x) (i : K'.In h) : ∃ t tk, Exc61 h e t (S x) tk := by
  refine ex4E k.exc fun oe vs t tk zz10 => and5E zz10 fun h1 h2 h3 h4 zz11 => ex2E zz11 fun ot n zz12 => and3E zz12 fun h5 h6 h7 => ?_
  exact ⟨t, tk, own61 (k.in_ i), ⟨oe, vs, i _ _ h1, h2, h3, h4⟩, ⟨ot, n, i _ _ h5, h6, h7⟩⟩
theorem K61.ns (k : K61 P K' e x) {a : Addr} {n : Str} {r : Option Value} (q : nsIn (K39 P) a n = some r) : nsIn K' a n = some r := by
  unfold nsIn at q ⊢
  cases z : (K39 P).lookup a with
  | none => rw [z] at q; cases q
  | some o => rw [k.sub _ _ z]; rw [z] at q; exact q
theorem lookup_app {l₁ l₂ : Frag} {a : Addr} {o : Obj} (q : l₁.lookup a = some o) : (l₁ ++ l₂).lookup a = some o := by
  rw [List.lookup_append, q]; rfl
end
section
variable {K K' : Frag} {A : Around} {env : Env} {nms : Nms} {Xc X : Addr → Prop} {sh : Own} {σ : List (Option D)} {P : Out → Prop}
theorem WX.subK {s : Shared} (hk : ∀ a o, K.lookup a = some o → K'.lookup a = some o) (x : WX K' X s) : WX K X s :=
  { x with
    kin := fun a o q => x.kin a o (hk a o q)
    xk := fun a ha => by
      refine ⟨?_, (x.xk a ha).2⟩
      cases q : K.lookup a with
      | none => rfl
      | some o =>
        have := hk _ _ q
        rw [(x.xk a ha).1] at this
        cases this }
theorem St.subK {own : Own} {s : Shared} (hk : ∀ a o, K.lookup a = some o → K'.lookup a = some o) (x : St K' env nms Xc own σ s) : St K env nms Xc own σ s :=
  let ⟨m, y⟩ := x; ⟨m, { y with wx := y.wx.subK hk }⟩
theorem St.supK {own : Own} {s : Shared} (x : St K env nms Xc own σ s) (wx : WX K' (XO Xc env own) s) : St K' env nms Xc own σ s :=
  let ⟨m, y⟩ := x; ⟨m, { y with wx := wx }⟩
theorem Op_str61 {e : Addr} {x : List Nat} (k : K61 w.params K' e x) (hu : A.units + 2 < cLine) : OpN prog w K' A X (fun vs => call (.type "str") vs) [.val (.ref e)] (.str x) := by
  intro s vs Q E wx r hQ
  refine ex1E (len1 r.length) fun v zz9 => ?_; subst zz9
  cases r with | cons r _ =>
  cases r
  refine ex2E (k.at wx.kin) fun t tk x61 => ?_
  exact str_of61 hu x61 (hQ _ s (Kp.refl _) wx (.str _ _))
end
section
variable {A : Around} {env : Env} {nms : Nms} {Xc X : Addr → Prop} {sh : Own} {σ : List (Option D)} {P : Out → Prop}
theorem ExS_tryOk {K : Frag} {body : List Stmt} {h : ExceptHandler} {pos : Pos} (hb : Ex prog w K A env nms Xc sh σ body P) : ExS prog w K A env nms Xc sh σ (.Try body [h] [] [] pos) P := by
  intro own s Q E e x hQ
  refine wpAny_Try_except (hb s _ _ e x fun out f s' hp ho => ?_)
  have := hQ out f s' hp ho
  cases f with
  | next => exact wpAny_execs_nil this
  | _ => exact this
set_option maxHeartbeats 4000000 in
theorem ExS_tryBad {nh nr : String} {x : List Nat} (i j : Nat) {fp p1 ap np cp hp pos : Pos} {arg : Expr} {b₀ : Stmt} {suite : List Stmt} (hA : A.frames = some [env]) (hf : env.frame = some env.locals) (hh : A.handled = none) (hroom : A.depth < recursionLimit)
    (hpn : ∃ i : Nat, nms[i]? = some ("parse257", NameKind.globalImplicit)) (hpe : ∃ i : Nat, nms[i]? = some ("error_reply", NameKind.globalImplicit)) (hr : nms[j]? = some (nr, .local))
    (harg : ∀ own, shape own = sh → EvAll prog w (K39 w.params) A env nms (XO Xc env own) σ [arg] [.str x]) (hx : x.length ≤ 1000000) (h3 : (sl x none (some 3) == [50, 53, 55]) = false)
    (hno : (sh.all fun p => p.1 != j) = true)
    (hsuite : ∀ (K' : Frag) (e : Addr), K61 w.params K' e x → Ex prog w K' (A.mark (some (.ref e))) env nms Xc sh (σ.set j (some (.val (.ref e)))) (b₀ :: suite) (fun o => o = .cont sh (σ.set j (some (.val (.ref e))))))
    (hP : P (.cont sh (σ.set j none)))
    (he : eval (.Call (.Name "parse257" fp) [arg] [] cp) env = (do callWith cp (← eval (.Name "parse257" fp) env) [] (backTo cp (starEach [arg] env)) (backToKw cp (keywordEach [] env))) := by rfl)
    (hs : swapsWith (.Call (.Name "parse257" fp) [arg] [] cp) (some (.Name nh p1)) ap.line env = pure false := by rfl) :
    ExS prog w (K39 w.params) A env nms Xc sh σ (.Try [.Assign [.Name nh p1] (.Call (.Name "parse257" fp) [arg] [] cp) ap] [.ExceptHandler (some (.Name "error_reply" np)) (some nr) (b₀ :: suite) hp] [] [] pos) P := by
  intro own s Q E eo st hQ
  refine ex1E hpn fun ip hpn => ?_
  refine ex1E hpe fun ie hpe => ?_
  have hkd : env.scope.kind ≠ .module := by refine ex1E st fun _ y => ?_; rw [y.eo.kind]; intro q; cases q
  have hXL : XO Xc env own env.locals := .inr (.inl rfl)
  refine wpAny_Try_except (wpAny_execs_cons (wpAny_Assign_Name ?_ hs))
  refine Call_ (glob_at ip st.ste hpn (g_parse257 _) ?_) he
  refine callWith_function (o := _) (fd := _) ((harg own eo).args _ cp s _ _ st.ste fun vs s₁ k₁ w₁ r₁ => ⟨⟨w₁.kin 70 _ rfl, rfl⟩, ?_⟩)
  have st₁ := st.kp k₁ w₁
  have dL := st₁.dict
  refine parse_raise hA hf hkd hroom hh hXL dL hx h3 w₁ r₁ fun e t tk s' L' h₁ F => ?_
  -- the caller looks at it
  refine wpAny_looks_onW hA hf F.fly fun h₂ f₂ u₂ => ?_
  refine wpAny_landsW f₂ fun h₃ f₃ u₃ => ?_
  have up₃ : s'.heap.UpToSlots h₃ := (F.up.trans u₂).trans u₃
  refine and2E (F.after w₁ hXL dL f₃.1 up₃) fun k₃ w₃ => ?_
  have st₃ := st₁.kpl k₃ w₃
  refine handleBy_own_as (C := 61) (x := "error_reply") (bmB := excTail) (newId := "Exception.__new__") (mg := fun _ => some (.ref 61)) (by decide +kernel) ?_
  refine glob_at ie st₃.ste hpe (g_error_reply _) ⟨rfl, (own61 w₃.kin).cls, f₃.there, ?_⟩
  refine lands_againW f₃ fun h₄ f₄ u₄ => ?_
  have up₄ := up₃.trans u₄
  refine and2E (F.after w₁ hXL dL f₄.1 up₄) fun k₄ w₄ => ?_
  have st₄ := st₁.kpl k₄ w₄
  refine ex2E f₄.first fun oe ws zz8 => and4E zz8 fun hoe hoec hoed hoe0 => ?_
  refine ex2E (((F.tup.of_slots u₂).of_slots u₃).of_slots u₄) fun ot nt zz7 => and3E zz7 fun hot hotc hotd => ?_
  have ne : s₁.heap.get? e = none := F.fresh w₁ dL f₄.2.1 up₄ hoe fun es ep q => by rw [hoed] at q; cases q
  have nt' : s₁.heap.get? t = none := F.fresh w₁ dL F.tnew up₄ hot fun es ep q => by rw [hotd] at q; cases q
  have nX : ∀ b, s₁.heap.get? b = none → ¬ XO Xc env own b := fun b hb => w₁.fresh hb
  have ho : ∀ p ∈ own, p.1 ≠ j := notkey eo hno
  refine St.store' j st₄ hr (.inl rfl) ho (.val (.ref e)) fun s₅ st₅ k₅ => ?_
  have k5 : ∀ b o, b ≠ 96 → ¬ Mut env own b → h₄.get? b = some o → s₅.heap.get? b = some o := by
    refine ex2E k₅ fun h' tk zz6 => and3E zz6 fun zz5 _ q => ?_; subst zz5; exact q
  have kept : ∀ b o, s₁.heap.get? b = none → h₄.get? b = some o → s₅.heap.get? b = some o := fun b o n q =>
    k5 b o (fun z => by refine ex1E w₁.tb fun ps zz4 => and2E zz4 fun q' _ => ?_; rw [z, q'] at n; cases n) (fun mu => nX b n (.inr mu)) q
  have hoe5 := kept e oe ne hoe
  have hot5 := kept t ot nt' hot
  have k61 : K61 w.params (K39 w.params ++ [(e, oe), (t, ot)]) e x := by
    have nK : ∀ b, s₁.heap.get? b = none → (K39 w.params).lookup b = none := fun b hb => by
      cases q : (K39 w.params).lookup b with
      | none => rfl
      | some o => rw [w₁.kin _ _ q] at hb; cases hb
    have net : t ≠ e := fun z => by subst z; rw [hoe] at hot; cases hot; rw [hoed] at hotd; cases hotd
    refine ⟨fun a o => lookup_app, oe, ws, t, tk, ?_, hoec, hoed, hoe0, ot, nt, ?_, hotc, hotd⟩
    · rw [List.lookup_append, nK e ne]; simp
    · rw [List.lookup_append, nK t nt']
      show List.lookup t [(e, oe), (t, ot)] = some ot
      rw [List.lookup_cons, beq_eq_false_iff_ne.mpr net]
      show List.lookup t [(t, ot)] = some ot
      rw [List.lookup_cons, beq_self_eq_true]
  have wx' : WX (K39 w.params ++ [(e, oe), (t, ot)]) (XO Xc env own) s₅ := by
    have w₅ := st₅.wx
    refine { w₅ with kin := fun a o q => ?_, xk := fun a ha => ⟨?_, (w₅.xk a ha).2⟩ }
    · rw [List.lookup_append] at q
      cases z : (K39 w.params).lookup a with
      | some o' => rw [z] at q; cases q; exact w₅.kin _ _ z
      | none =>
        rw [z] at q
        simp only [Option.none_or, List.lookup_cons] at q
        split at q
        · rename_i h; rw [beq_iff_eq.mp h]; cases q; exact hoe5
        · split at q
          · rename_i h; rw [beq_iff_eq.mp h]; cases q; exact hot5
          · cases q
    · rw [List.lookup_append, (w₅.xk a ha).1]
      simp only [Option.none_or, List.lookup_cons]
      split
      · rename_i h; rw [beq_iff_eq.mp h] at ha; exact absurd ha (nX e ne)
      · split
        · rename_i h; rw [beq_iff_eq.mp h] at ha; exact absurd ha (nX t nt')
        · rfl
  refine hsuite _ e k61 s₅ _ _ eo (st₅.supK wx') fun out f s₆ ho' ok => ?_
  subst ho'
  refine and2E ok fun zz1 zz2 => ex1E zz2 fun own' zz3 => and4E zz3 fun eo' st₆ k₆ fr₆ => ?_; subst zz1
  have st₆' := st₆.subK k61.sub
  refine St.gone j st₆' hr (notkey eo' hno) fun s₇ st₇ k₇ => ?_
  refine hQ _ _ _ hP ⟨rfl, own', eo', ?_, ?_, ?_⟩
  · rw [List.set_set] at st₇; exact st₇
  · have a : Kf env own s s₅ := (Kp.kf k₁).trans (Fresher.refl _ _) ((KpL.kf k₄).trans (Fresher.refl _ _) k₅)
    exact a.trans (Fresher.refl _ _) (k₆.trans fr₆ k₇)
  · have a : Kf env own s s₅ := (Kp.kf k₁).trans (Fresher.refl _ _) ((KpL.kf k₄).trans (Fresher.refl _ _) k₅)
    exact (Fresher.refl own s).trans a (fun p hp _ => st₆'.sep p hp) fr₆
end
end
-- SpCp
section
set_option hygiene false in
local macro_rules | `(tactic| walk_at "o") => `(tactic| first
  | with_reducible exact Op_idxT (Int.le_refl 0) (by decide) rfl)
section
noncomputable def nm_cp : Nms := [("paths", .local), ("sep", .cell), ("curdir", .cell), ("split_paths", .local), ("isabs", .local), ("c", .local), ("s1", .local), ("s2", .local), ("common", .local), ("i", .local), ("prefix", .local), ("tuple", .globalImplicit), ("map", .globalImplicit), ("fspath", .globalImplicit), ("ValueError", .globalImplicit), ("isinstance", .globalImplicit), ("bytes", .globalImplicit), ("min", .globalImplicit), ("max", .globalImplicit), ("enumerate", .globalImplicit), ("TypeError", .globalImplicit), ("AttributeError", .globalImplicit), ("_check_arg_types", .globalImplicit)]
set_option maxHeartbeats 8000000 in
theorem sp_cp {x y : List Nat} (hx : x.length ≤ 10000) (hy : y.length ≤ 10000) (hxa : startsL x [47] = true) (hya : startsL y [47] = true) (hsz : ((lcp (comps x) (comps y)).map (fun z => z.length + ([47] : List Nat).length)).sum ≤ 100000) (hjz : (joinL [47] (lcp (comps x) (comps y))).length ≤ 100000) :
    FSpec prog w (K39 w.params) 214 3 [.list [.str x, .str y]] (.str ([47] ++ joinL [47] (lcp (comps x) (comps y)))) := by
  have lx := splitL_le x [47]
  have ly := splitL_le y [47]
  have lA : (comps x).length ≤ 10002 := Nat.le_trans (List.length_filter_le _ _) (by lia)
  have lB : (comps y).length ≤ 10002 := Nat.le_trans (List.length_filter_le _ _) (by lia)
  refine' FSpec_gen nm_cp (f := 214) (ds := [.list [.str x, .str y]]) (ds₁ := [.list [.str x, .str y]]) (n := 2) ?hK ?hcd (KL _) ?hsc (by decide +kernel) ?hk ?hco ?hg rfl (Nat.le_of_ble_eq_true rfl) rfl rfl ?hb ?hbody
  walk_at "fs"
  case hb =>
    intro A X s vs Q E wx r hQ
    refine ex1E (len1 r.length) fun a zz3 => ?_; subst zz3
    exact BindsTo.of_eq rfl _ _ _ _ (hQ [a] s (Kp.refl _) wx r)
  case hbody =>
    intro A L cells Xc hr
    have hu := hr.units
    have hu1 : A.units + 1 < cLine := by have := hr.u; lia
    have e0 : startσ nm_cp [.list [.str x, .str y]] = [some (.list [.str x, .str y]), none, none, none, none, none, none, none, none, none, none, none, none, none, none, none, none, none, none, none, none, none, none] := rfl
    rw [e0]
    refine Ex_cons (ExS_assign 0 (d := .tuple [.str x, .str y]) rfl (.inl rfl) ?_ ?_)
    · intro own _
      refine Ev_tuplemap (fun d => d) (ds := [.str x, .str y]) (fv := .ref 181) hr.h ?_ ?_ ?_ ?_ (by rw [sizeLine_eq]; simp) ?_
      · walk_at "g"
      · walk_at "g"
      · exact Ev_globE (by decide +kernel) (g_fspath _)
      · walk_at "g"
      · intro X' d hd
        have hr4 : Rm A.in1.in1.in1.in1 1 := Rm.in1 (k := 4) (Rm.le hr (by decide)) (by decide) _ rfl rfl rfl
        cases hd with
        | head => exact sp_fspath _ _ hr4
        | tail _ hd => cases hd with
          | head => exact sp_fspath _ _ hr4
          | tail _ hd => cases hd
    show Ex _ _ _ _ _ _ _ [] [some (.tuple [.str x, .str y]), none, none, none, none, none, none, none, none, none, none, none, none, none, none, none, none, none, none, none, none, none, none] _ _
    refine Ex_cons (ExS_if (b := false) ?_ (fun h => nomatch h) (fun _ => Ex_nil ?_))
    · unfold EvT
      show EvB _ _ _ _ _ _ _ [some (.tuple [.str x, .str y]), none, none, none, none, none, none, none, none, none, none, none, none, none, none, none, none, none, none, none, none, none, none] _ _
      refine EvB.to (EvB_not (EvB_val (by walk_at "g") (Tr_tuple (by rw [sizeLine_eq]; simp)))) ?_
      rfl
    refine Ex_cons (ExS_if (b := false) ?_ (fun h => nomatch h) (fun _ => ?_))
    · unfold EvT
      show EvB _ _ _ _ _ _ _ [some (.tuple [.str x, .str y]), none, none, none, none, none, none, none, none, none, none, none, none, none, none, none, none, none, none, none, none, none, none] _ _
      refine EvB_val (Ev_callB (he := by rfl) (ds := [.str x, .val (.type "bytes")]) (d := .bool false) (by walk_at "g") ?_ Op_isB) Tr_bool
      refine EvAll.cons (by rfl) ?_ (EvAll.cons (by rfl) ?_ EvAll.nil)
      · refine Ev_idxT (ds := [.str x, .str y]) ?_ ?_ (Op_idxT (k := 0) (by decide) (by decide) rfl)
        · walk_at "g"
        · walk_at "g"
      · walk_at "g"
    refine Ex_cons (ExS_assign 1 (d := .str [47]) rfl (.inr rfl) ?_ ?_)
    · intro own _
      walk_at "g"
    refine Ex_cons (ExS_assign 2 (d := .str [46]) rfl (.inr rfl) ?_ (Ex_nil ?_))
    · intro own _
      walk_at "g"
    show Ex _ _ _ _ _ _ _ [] [some (.tuple [.str x, .str y]), some (.str [47]), some (.str [46]), none, none, none, none, none, none, none, none, none, none, none, none, none, none, none, none, none, none, none, none] _ _
    refine Ex_cons (ExS_try ?_)
    -- the parts
    refine' Ex_cons (ExS_assignC 3 [(".0", .local), ("path", .local), ("sep", .cell)] (ds := [.str x, .str y]) (fun _ => true) (fun d => .list ((splitL (asStr d) [47]).map .str)) (fun d => [none, some d, some (.str [47])]) (.inl rfl) (by rfl) hr.h (fun own _ => EvIt_tuple hr.h ?hit) ?hlen ?hsc ?hok ?hkind ?hnc ?hnames (fun cl C d hd => AsgT_name 1 rfl) ?hturn ?hP)
    walk_at "csc"
    case hit => walk_at "g"
    case hlen => rw [sizeLine_eq]; simp
    case hturn =>
      intro cl C X' d hd
      refine ⟨.nil, fun _ => ?_⟩
      obtain ⟨z, hz, rfl⟩ : ∃ z : List Nat, z.length ≤ 10000 ∧ d = .str z := by
        cases hd with
        | head => exact ⟨x, hx, rfl⟩
        | tail _ hd => cases hd with
          | head => exact ⟨y, hy, rfl⟩
          | tail _ hd => cases hd
      show Ev _ _ _ _ _ [(".0", .local), ("path", .local), ("sep", .cell)] _ [none, some (.str z), some (.str [47])] _ (.list ((splitL z [47]).map .str))
      have hpz := parts_len z [47] sizeLine (by walk_at "sz")
      refine Ev_meth (he := by rfl) (x := .str z) (ds := [.str [47]]) ?_ M_split (EvAll.cons (by rfl) ?_ EvAll.nil) (Op_split rfl (by walk_at "sz") hpz)
      · walk_at "g"
      · walk_at "g"
    case hP =>
    show Ex _ _ _ _ _ _ _ [] [some (.tuple [.str x, .str y]), some (.str [47]), some (.str [46]), some (.list [.list ((splitL x [47]).map .str), .list ((splitL y [47]).map .str)]), none, none, none, none, none, none, none, none, none, none, none, none, none, none, none, none, none, none, none] _ _
    -- both are whole paths
    refine Ex_cons (ExS_try ?_)
    refine' Ex_cons (ExS_set1 4 [(".0", .local), ("p", .local), ("sep", .cell)] (ds := [.str x, .str y]) (fun d => [none, some d, some (.str [47])]) rfl (.inl rfl) hr.h (fun own _ => EvIt_tuple hr.h ?hit) (by simp) ?hsc ?hok ?hkind ?hnc ?hnames (fun cl C d hd => AsgT_name 1 rfl) ?hturn ?hP)
    walk_at "csc"
    case hit => walk_at "g"
    case hturn =>
      intro cl C X' d hd
      refine ⟨.nil, ?_⟩
      obtain ⟨z, hz, rfl⟩ : ∃ z : List Nat, startsL z [47] = true ∧ d = .str z := by
        cases hd with
        | head => exact ⟨x, hxa, rfl⟩
        | tail _ hd => cases hd with
          | head => exact ⟨y, hya, rfl⟩
          | tail _ hd => cases hd
      show Ev _ _ _ _ _ [(".0", .local), ("p", .local), ("sep", .cell)] _ [none, some (.str z), some (.str [47])] _ (.bool true)
      rw [← hz]
      walk_at "g"
    case hP =>
    refine Ex_nil ?_
    show Ex _ _ _ _ _ _ _ [] [some (.tuple [.str x, .str y]), some (.str [47]), some (.str [46]), some (.list [.list ((splitL x [47]).map .str), .list ((splitL y [47]).map .str)]), some (.bool true), none, none, none, none, none, none, none, none, none, none, none, none, none, none, none, none, none, none] _ _
    -- what is no name falls out
    refine' Ex_cons (ExS_assignC 3 [(".0", .local), ("s", .local), ("curdir", .cell)] (ds := [.list ((splitL x [47]).map .str), .list ((splitL y [47]).map .str)]) (fun _ => true) (fun d => match d with | .list zs => .list ((zs.filter cptD).map _root_.id) | d => d) (fun d => [none, some d, some (.str [46])]) (.inl rfl) (by rfl) hr.h (fun own _ => EvIt_list hr.h ?hit) ?hlen ?hsc ?hok ?hkind ?hnc ?hnames (fun cl C d hd => AsgT_name 1 rfl) ?hturn ?hP)
    walk_at "csc"
    case hit => walk_at "g"
    case hlen => rw [sizeLine_eq]; simp
    case hturn =>
      intro cl C X' d hd
      refine ⟨.nil, fun _ => ?_⟩
      obtain ⟨z, hz, rfl⟩ : ∃ z : List Nat, z.length ≤ 10000 ∧ d = .list ((splitL z [47]).map .str) := by
        cases hd with
        | head => exact ⟨x, hx, rfl⟩
        | tail _ hd => cases hd with
          | head => exact ⟨y, hy, rfl⟩
          | tail _ hd => cases hd
      show Ev _ _ _ _ _ [(".0", .local), ("s", .local), ("curdir", .cell)] _ [none, some (.list ((splitL z [47]).map .str)), some (.str [46])] _ (.list ((((splitL z [47]).map .str).filter cptD).map _root_.id))
      have hzs := splitL_le z [47]
      have hzl : ∀ c ∈ splitL z [47], c.length ≤ sizeLine := fun c hc => by have := splitL_mem hc; rw [sizeLine_eq]; lia
      generalize splitL z [47] = zs at hzs hzl
      refine' Ev_listcomp [(".0", .local), ("c", .local), ("curdir", .cell)] (ds := zs.map .str) cptD _root_.id (fun d => [none, some d, some (.str [46])]) hr.h (EvIt_list hr.h ?hit2) ?hlen2 ?hsc ?hok ?hkind ?hnc ?hnames (fun cl C d hd => AsgT_name 1 rfl) ?hturn2
      walk_at "csc"
      case hit2 => walk_at "g"
      case hlen2 => rw [sizeLine_eq, List.length_map]; lia
      case hturn2 =>
        intro cl C X' _ d hd
        refine ex1E (List.mem_map.mp hd) fun c zz2 => and2E zz2 fun hc zz1 => ?_; subst zz1
        have hcl := hzl c hc
        refine ⟨.one ?_, fun _ => ?_⟩
        · show EvB _ _ _ _ _ [(".0", .local), ("c", .local), ("curdir", .cell)] _ [none, some (.str c), some (.str [46])] _ (cpt c)
          unfold cpt
          walk_at "g"
        · show Ev _ _ _ _ _ [(".0", .local), ("c", .local), ("curdir", .cell)] _ [none, some (.str c), some (.str [46])] _ (.str c)
          walk_at "g"
    case hP =>
    have hA0 : (((splitL x [47]).map D.str).filter cptD).map _root_.id = (comps x).map .str := filter_str cpt cptD (fun _ => rfl) _
    have hB0 : (((splitL y [47]).map D.str).filter cptD).map _root_.id = (comps y).map .str := filter_str cpt cptD (fun _ => rfl) _
    show Ex _ _ _ _ _ _ _ [] [some (.tuple [.str x, .str y]), some (.str [47]), some (.str [46]), some (.list [.list ((((splitL x [47]).map D.str).filter cptD).map _root_.id), .list ((((splitL y [47]).map D.str).filter cptD).map _root_.id)]), some (.bool true), none, none, none, none, none, none, none, none, none, none, none, none, none, none, none, none, none, none] _ _
    rw [hA0, hB0]
    refine and2E (mm_ord (comps x) (comps y)) fun hord hlcp => ?_
    generalize hmA : comps x = A0 at *
    generalize hmB : comps y = B0 at *
    have lm1 : (if ltA B0 A0 = true then B0 else A0).length ≤ 10002 := by split <;> assumption
    have lm2 : (if gtA B0 A0 = true then B0 else A0).length ≤ 10002 := by split <;> assumption
    obtain ⟨m1, hm1⟩ : ∃ m1, m1 = (if ltA B0 A0 = true then B0 else A0) := ⟨_, rfl⟩
    obtain ⟨m2, hm2⟩ : ∃ m2, m2 = (if gtA B0 A0 = true then B0 else A0) := ⟨_, rfl⟩
    rw [← hm1] at hord hlcp lm1
    rw [← hm2] at hord hlcp lm2
    refine Ex_cons (ExS_assign 6 (d := .list (m1.map .str)) rfl (.inl rfl) ?_ ?_)
    · intro own _
      rw [hm1]
      refine Ev_callB (he := by rfl) (ds := [.list [.list (A0.map .str), .list (B0.map .str)]]) (by walk_at "g") (EvAll.cons (by rfl) ?_ EvAll.nil) (Op_min2L hr.h hu1)
      walk_at "g"
    show Ex _ _ _ _ _ _ _ [] [some (.tuple [.str x, .str y]), some (.str [47]), some (.str [46]), some (.list [.list (A0.map .str), .list (B0.map .str)]), some (.bool true), none, some (.list (m1.map .str)), none, none, none, none, none, none, none, none, none, none, none, none, none, none, none, none] _ _
    refine Ex_cons (ExS_assign 7 (d := .list (m2.map .str)) rfl (.inl rfl) ?_ ?_)
    · intro own _
      rw [hm2]
      refine Ev_callB (he := by rfl) (ds := [.list [.list (A0.map .str), .list (B0.map .str)]]) (by walk_at "g") (EvAll.cons (by rfl) ?_ EvAll.nil) (Op_max2L hr.h hu1)
      walk_at "g"
    clear hm1 hm2
    show Ex _ _ _ _ _ _ _ [] [some (.tuple [.str x, .str y]), some (.str [47]), some (.str [46]), some (.list [.list (A0.map .str), .list (B0.map .str)]), some (.bool true), none, some (.list (m1.map .str)), some (.list (m2.map .str)), none, none, none, none, none, none, none, none, none, none, none, none, none, none, none] _ _
    refine Ex_cons (ExS_assign 8 (d := .list (m1.map .str)) rfl (.inl rfl) ?_ ?_)
    · intro own _
      walk_at "g"
    show Ex _ _ _ _ _ _ _ [] [some (.tuple [.str x, .str y]), some (.str [47]), some (.str [46]), some (.list [.list (A0.map .str), .list (B0.map .str)]), some (.bool true), none, some (.list (m1.map .str)), some (.list (m2.map .str)), some (.list (m1.map .str)), none, none, none, none, none, none, none, none, none, none, none, none, none, none] _ _
    refine Ex_cons (ExS_to1 (fun _ : Option D × Option D => True) (fun _ => []) (fun z => [some (.tuple [.str x, .str y]), some (.str [47]), some (.str [46]), some (.list [.list (A0.map .str), .list (B0.map .str)]), some (.bool true), z.1, some (.list (m1.map .str)), some (.list (m2.map .str)), some (.list ((lcp m1 m2).map .str)), z.2, none, none, none, none, none, none, none, none, none, none, none, none, none]) (fun Q hQ => ExS_enumT 9 5 rfl (.inl rfl) rfl (.inl rfl) hr.h (ds := m1.map .str) (fun j c => m1[j]? = some c) (fun _ => .str) hel_map
      (fun q (_ : Option D × Option D) => m1.take q = m2.take q) (fun _ _ => []) (fun _ z => [some (.tuple [.str x, .str y]), some (.str [47]), some (.str [46]), some (.list [.list (A0.map .str), .list (B0.map .str)]), some (.bool true), z.1, some (.list (m1.map .str)), some (.list (m2.map .str)), some (.list (m1.map .str)), z.2, none, none, none, none, none, none, none, none, none, none, none, none, none]) ?_ ?_ (none, none) rfl rfl rfl ?_ ?_) ?_)
    · intro own _
      walk_at "g"
    · intro own _
      walk_at "g"
    · intro q c1 z i1 hq Xc' _ Q' hN _ hB _
      have hql : q < m1.length := (List.getElem?_eq_some_iff.mp i1).elim fun h _ => h
      have hq2 := lt_idx q m1 m2 hord hq hql
      have i2 : m2[q]? = some m2[q] := List.getElem?_eq_getElem hq2
      generalize m2[q] = c2 at i2
      have i2' : (m2.map D.str)[((q : Nat) : Int).toNat]? = some (.str c2) := by rw [Int.toNat_natCast, List.getElem?_map, i2]; rfl
      have hqz : (q : Int) < 2 ^ 63 := by lia
      show Ex _ _ _ _ _ _ _ [] [some (.tuple [.str x, .str y]), some (.str [47]), some (.str [46]), some (.list [.list (A0.map .str), .list (B0.map .str)]), some (.bool true), some (.str c1), some (.list (m1.map .str)), some (.list (m2.map .str)), some (.list (m1.map .str)), some (.int (q : Int)), none, none, none, none, none, none, none, none, none, none, none, none, none] _ _
      refine Ex_cons (ExS_if (b := c1 != c2) ?_ (fun h => ?_) (fun h => Ex_nil (Ex_nil ?_)))
      · unfold EvT
        show EvB _ _ _ _ _ _ _ [some (.tuple [.str x, .str y]), some (.str [47]), some (.str [46]), some (.list [.list (A0.map .str), .list (B0.map .str)]), some (.bool true), some (.str c1), some (.list (m1.map .str)), some (.list (m2.map .str)), some (.list (m1.map .str)), some (.int (q : Int)), none, none, none, none, none, none, none, none, none, none, none, none, none] _ _
        walk_at "g"
      · have hne : c1 ≠ c2 := by simpa using h
        have hb := lcp_break q m1 m2 c1 c2 hq i1 i2 hne
        have lm1' : (m1.map D.str).length ≤ 10002 := by rw [List.length_map]; exact lm1
        refine Ex_cons (ExS_assign 8 (d := .list ((lcp m1 m2).map .str)) rfl (.inl rfl) ?_ (Ex_cons (ExS_break (hB _ _ (hQ (_, _) _ _ trivial rfl rfl)))))
        intro own _
        rw [hb, List.map_take, ← sl_xn]
        walk_at "g"
      · have he : c1 = c2 := by simpa using h
        subst he
        exact hN (_, _) _ _ (by rw [take_snoc i1, take_snoc i2, hq]) rfl rfl
    · intro z hq
      rw [List.length_map] at hq
      exact hQ z _ _ trivial rfl (by rw [lcp_end m1 m2 hq])
    intro z _
    rw [hlcp]
    refine Ex_cons (ExS_assign 10 (d := .str [47]) rfl (.inl rfl) ?_ ?_)
    · intro own _
      refine Ev_ifexp (c := true) (EvB_val (by walk_at "g") Tr_bool) (fun _ => by walk_at "g") (fun h => nomatch h)
    show Ex _ _ _ _ _ _ _ [] [some (.tuple [.str x, .str y]), some (.str [47]), some (.str [46]), some (.list [.list (A0.map .str), .list (B0.map .str)]), some (.bool true), z.1, some (.list (m1.map .str)), some (.list (m2.map .str)), some (.list ((lcp A0 B0).map .str)), z.2, some (.str [47]), none, none, none, none, none, none, none, none, none, none, none, none] _ _
    refine Ex_cons (ExS_ret (d := .str ([47] ++ joinL [47] (lcp A0 B0))) ?_ rfl)
    unfold EvL
    show Ev _ _ _ _ _ _ _ [some (.tuple [.str x, .str y]), some (.str [47]), some (.str [46]), some (.list [.list (A0.map .str), .list (B0.map .str)]), some (.bool true), z.1, some (.list (m1.map .str)), some (.list (m2.map .str)), some (.list ((lcp A0 B0).map .str)), z.2, some (.str [47]), none, none, none, none, none, none, none, none, none, none, none, none] _ _
    refine Ev_bin (a := .str [47]) (b := .str (joinL [47] (lcp A0 B0))) ?_ ?_ (Op_addS (by rw [sizeLine_eq]; simp; lia))
    · walk_at "g"
    · refine Ev_meth (he := by rfl) (x := .str [47]) (ds := [.list ((lcp A0 B0).map .str)]) ?_ M_join (EvAll.cons (by rfl) ?_ EvAll.nil) (Op_join (by walk_at "sz"))
      · walk_at "g"
      · walk_at "g"
end
end
-- SpJoin
section
set_option hygiene false in
local macro_rules | `(tactic| walk_at "s") => `(tactic| ((with_reducible first | exact sp_fspath | exact sp_get_sep) <;> walk_at "g"))
section
noncomputable def nm_join : Nms := [("a", .local), ("p", .local), ("sep", .local), ("path", .local), ("b", .local), ("fspath", .globalImplicit), ("_get_sep", .globalImplicit), ("TypeError", .globalImplicit), ("AttributeError", .globalImplicit), ("BytesWarning", .globalImplicit), ("_check_arg_types", .globalImplicit)]
set_option maxHeartbeats 8000000 in
theorem sp_join {x y : List Nat} (hx : x.length ≤ 1000000) (hy : y.length ≤ 1000000) : FSpec prog w (K39 w.params) 202 2 [.str x, .str y] (.str (joinP x y)) := by
  refine' FSpec_gen nm_join (f := 202) (ds := [.str x, .str y]) (ds₁ := [.str x, .tuple [.str y]]) (n := 1) ?hK ?hcd (KL _) ?hsc (by decide +kernel) ?hk ?hco ?hg rfl (Nat.le_of_ble_eq_true rfl) rfl rfl ?hb ?hbody
  walk_at "fs"
  case hb =>
    intro A X s vs Q E wx r hQ
    exact bind_star wx r (fun a b => ⟨_, rfl, fun D => rfl⟩) hQ
  case hbody =>
    intro A L cells Xc hr
    have e0 : startσ nm_join [.str x, .tuple [.str y]] = [some (.str x), some (.tuple [.str y]), none, none, none, none, none, none, none, none, none] := rfl
    rw [e0]
    refine Ex_cons (ExS_assign 0 (d := .str x) rfl (.inl rfl) ?_ ?_)
    · intro own _
      walk_at "g"
    refine Ex_cons (ExS_assign 2 (d := .str [47]) rfl (.inl rfl) ?_ ?_)
    · intro own _
      show Ev _ _ _ _ _ _ _ [some (.str x), some (.tuple [.str y]), none, none, none, none, none, none, none, none, none] _ _
      walk_at "g"
    refine Ex_cons (ExS_assign 3 (d := .str x) rfl (.inl rfl) ?_ ?_)
    · intro own _
      show Ev _ _ _ _ _ _ _ [some (.str x), some (.tuple [.str y]), some (.str [47]), none, none, none, none, none, none, none, none] _ _
      walk_at "g"
    refine Ex_cons (ExS_try (Ex_cons (ExS_forT 4 rfl (.inl rfl) (ds := [.str y]) (fun j (_ : Unit) => j = 0) (fun _ _ => .str y) hel_one (fun _ (_ : Option D) => True) (fun _ _ => [])
      (fun j b => match j with | 0 => [some (.str x), some (.tuple [.str y]), some (.str [47]), some (.str x), none, none, none, none, none, none, none] | _ + 1 => [some (.str x), some (.tuple [.str y]), some (.str [47]), some (.str (joinP x y)), b, none, none, none, none, none, none]) ?_ none trivial rfl rfl ?_ ?_)))
    · intro own _
      refine EvIt_tuple hr.h ?_
      show Ev _ _ _ _ _ _ _ [some (.str x), some (.tuple [.str y]), some (.str [47]), some (.str x), none, none, none, none, none, none, none] _ _
      walk_at "g"
    · intro j _ b hj _ Xc' _ Q hN _ _ _
      subst hj
      refine Ex_cons (ExS_assign 4 (d := .str y) rfl (.inl rfl) ?_ ?_)
      · intro own _
        show Ev _ _ _ _ _ _ _ [some (.str x), some (.tuple [.str y]), some (.str [47]), some (.str x), some (.str y), none, none, none, none, none, none] _ _
        walk_at "g"
      show Ex _ _ _ _ _ _ _ [] [some (.str x), some (.tuple [.str y]), some (.str [47]), some (.str x), some (.str y), none, none, none, none, none, none] _ _
      refine Ex_cons (ExS_if (b := startsL y [47] || !(!x.isEmpty)) ?_ (fun h => ?_) (fun h => ?_))
      · unfold EvT
        show EvB _ _ _ _ _ _ _ [some (.str x), some (.tuple [.str y]), some (.str [47]), some (.str x), some (.str y), none, none, none, none, none, none] _ _
        walk_at "g"
      · refine Ex_cons (ExS_assign 3 (d := .str y) rfl (.inl rfl) ?_ (Ex_nil (Ex_nil (hN (some (.str y)) _ _ trivial rfl (by rw [show joinP x y = y from if_pos h] <;> rfl)))))
        intro own _
        show Ev _ _ _ _ _ _ _ [some (.str x), some (.tuple [.str y]), some (.str [47]), some (.str x), some (.str y), none, none, none, none, none, none] _ _
        walk_at "g"
      · have hn : ¬ (startsL y [47] || !(!x.isEmpty)) = true := by rw [h]; decide
        refine Ex_cons (ExS_if (b := endsL x [47]) ?_ (fun h => ?_) (fun h => ?_))
        · unfold EvT
          show EvB _ _ _ _ _ _ _ [some (.str x), some (.tuple [.str y]), some (.str [47]), some (.str x), some (.str y), none, none, none, none, none, none] _ _
          walk_at "g"
        · refine Ex_cons (ExS_aug 3 (a := .str x) (b := .str y) (d := .str (x ++ y)) rfl (.inl rfl) rfl ?_ (fun X => Op_iaddS (by walk_at "sz")) rfl (Ex_nil (Ex_nil (Ex_nil (hN (some (.str y)) _ _ trivial rfl (by rw [show joinP x y = x ++ y from (if_neg hn).trans (if_pos h)] <;> rfl))))))
          unfold EvL
          show Ev _ _ _ _ _ _ _ [some (.str x), some (.tuple [.str y]), some (.str [47]), some (.str x), some (.str y), none, none, none, none, none, none] _ _
          walk_at "g"
        · refine Ex_cons (ExS_aug 3 (a := .str x) (b := .str ([47] ++ y)) (d := .str (x ++ ([47] ++ y))) rfl (.inl rfl) rfl ?_ (fun X => Op_iaddS (by rw [sizeLine_eq]; simp; lia)) rfl (Ex_nil (Ex_nil (Ex_nil (hN (some (.str y)) _ _ trivial rfl (by rw [show joinP x y = x ++ ([47] ++ y) from (if_neg hn).trans (if_neg (by rw [h]; decide))] <;> rfl))))))
          unfold EvL
          show Ev _ _ _ _ _ _ _ [some (.str x), some (.tuple [.str y]), some (.str [47]), some (.str x), some (.str y), none, none, none, none, none, none] _ _
          walk_at "g"
    · intro b _
      refine Ex_nil (Ex_cons (ExS_ret (d := .str (joinP x y)) ?_ rfl))
      unfold EvL
      show Ev _ _ _ _ _ _ _ [some (.str x), some (.tuple [.str y]), some (.str [47]), some (.str (joinP x y)), b, none, none, none, none, none, none] _ _
      walk_at "g"
end
end
-- SpMisc
section
set_option hygiene false in
local macro_rules | `(tactic| walk_at "s") => `(tactic| ((with_reducible first | exact sp_fspath | exact sp_get_sep) <;> walk_at "g"))
section
noncomputable def nm_doubled : Nms := [("text", .local)]
set_option maxHeartbeats 4000000 in
theorem sp_doubled {x : List Nat} (hx : x.length ≤ 1000000) : FSpec prog w (K39 w.params) 221 1 [.str x] (.str (StrLaws.dbl 34 x)) := by
  refine' FSpec_of nm_doubled (f := 221) (ds := [.str x]) (n := 0) ?hK ?hcd (KL _) ?hsc (by decide +kernel) ?hk ?hco ?hg rfl (Nat.le_refl 1) rfl rfl ?hb ?hbody
  walk_at "fs"
  case hb =>
    intro s vs hv
    refine ex1E (len1 hv) fun a zz3 => ?_; subst zz3
    exact BindsTo.of_eq rfl
  case hbody =>
    intro A L Xc hr
    refine Ex_cons (ExS_ret ?_ rfl)
    rw [← replL_dbl]
    exact Ev_replace (Ev_name 0 rfl rfl (.inl rfl)) (by decide +kernel) (by decide +kernel) (by decide) (by simp; lia)
noncomputable def nm_above : Nms := [("one", .local), ("folder", .local)]
set_option maxHeartbeats 4000000 in
theorem sp_above {x y : List Nat} (hx : x.length ≤ 1000000) (hy : y.length ≤ 1000000) : FSpec prog w (K39 w.params) 228 1 [.str x, .str y] (.bool (x == [47] || startsL (y ++ [47]) (x ++ [47]))) := by
  refine' FSpec_of nm_above (f := 228) (ds := [.str x, .str y]) (n := 0) ?hK ?hcd (KL _) ?hsc (by decide +kernel) ?hk ?hco ?hg rfl (Nat.le_refl 2) rfl rfl ?hb ?hbody
  walk_at "fs"
  case hb =>
    intro s vs hv
    refine ex2E (len2 hv) fun a b zz2 => ?_; subst zz2
    exact BindsTo.of_eq rfl
  case hbody =>
    intro A L Xc hr
    refine Ex_cons (ExS_ret ?_ rfl)
    refine Ev_orB ?_ fun _ => ?_
    · refine Ev.to (by walk_at "g") ?_
      rfl
    · refine Ev.to (by walk_at "g") ?_
      rfl
noncomputable def nm_split : Nms := [("p", .local), ("sep", .local), ("i", .local), ("head", .local), ("tail", .local), ("fspath", .globalImplicit), ("_get_sep", .globalImplicit), ("len", .globalImplicit)]
set_option maxHeartbeats 4000000 in
theorem sp_split {x : List Nat} (hx : x.length ≤ 1000000) : FSpec prog w (K39 w.params) 209 2 [.str x] (.tuple [.str (splH x), .str (splT x)]) := by
  refine' FSpec_of nm_split (f := 209) (ds := [.str x]) (n := 1) ?hK ?hcd (KL _) ?hsc (by decide +kernel) ?hk ?hco ?hg rfl (Nat.le_of_ble_eq_true rfl) rfl rfl ?hb ?hbody
  walk_at "fs"
  case hb =>
    intro s vs hv
    refine ex1E (len1 hv) fun a zz1 => ?_; subst zz1
    exact BindsTo.of_eq rfl
  case hbody =>
    intro A L Xc hr
    have e0 : startσ nm_split [.str x] = [some (.str x), none, none, none, none, none, none, none] := rfl
    rw [e0]
    refine Ex_cons (ExS_assign 0 (d := .str x) rfl (.inl rfl) ?_ ?_)
    · intro own _
      walk_at "g"
    refine Ex_cons (ExS_assign 1 (d := .str [47]) rfl (.inl rfl) ?_ ?_)
    · intro own _
      show Ev _ _ _ _ _ _ _ [some (.str x), none, none, none, none, none, none, none] _ _
      walk_at "g"
    refine Ex_cons (ExS_assign 2 (d := .int (splI x)) rfl (.inl rfl) ?_ ?_)
    · intro own _
      show Ev _ _ _ _ _ _ _ [some (.str x), some (.str [47]), none, none, none, none, none, none] _ _
      unfold splI
      walk_at "g"
    have l1 := sl_length_le x none (some (splI x))
    have l2 := sl_length_le x (some (splI x)) none
    unfold splH splT
    generalize splI x = i at l1 l2 ⊢
    refine Ex_cons (ExS_assign2s 3 4 (d1 := .str (sl x none (some i))) (d2 := .str (sl x (some i) none)) rfl rfl (.inl rfl) (.inl rfl) (by decide) rfl hr.h ?_ ?_)
    · intro own _
      show Ev _ _ _ _ _ _ _ [some (.str x), some (.str [47]), some (.int i), none, none, none, none, none] _ _
      walk_at "g"
    generalize sl x none (some i) = hd at l1 ⊢
    generalize sl x (some i) none = tl at l2 ⊢
    show Ex _ _ _ _ _ _ _ [] [some (.str x), some (.str [47]), some (.int i), some (.str hd), some (.str tl), none, none, none] _ _
    refine Ex_cons (ExS_if (b := !hd.isEmpty && (hd != List.replicate hd.length 47)) ?_ (fun h => ?_) (fun h => ?_))
    · unfold EvT
      show EvB _ _ _ _ _ _ _ [some (.str x), some (.str [47]), some (.int i), some (.str hd), some (.str tl), none, none, none] _ _
      walk_at "g"
    · rw [if_pos h]
      refine Ex_cons (ExS_assign 3 (d := .str (Txt.rstripChars (S hd) (S [47])).cps.toList) rfl (.inl rfl) ?_ (Ex_nil ?_))
      · intro own _
        show Ev _ _ _ _ _ _ _ [some (.str x), some (.str [47]), some (.int i), some (.str hd), some (.str tl), none, none, none] _ _
        walk_at "g"
      refine Ex_cons (ExS_ret (d := .tuple [.str (Txt.rstripChars (S hd) (S [47])).cps.toList, .str tl]) ?_ rfl)
      show Ev _ _ _ _ _ _ _ [some (.str x), some (.str [47]), some (.int i), some (.str (Txt.rstripChars (S hd) (S [47])).cps.toList), some (.str tl), none, none, none] _ _
      walk_at "g"
    · rw [if_neg (by rw [h]; decide)]
      refine Ex_nil (Ex_cons (ExS_ret (d := .tuple [.str hd, .str tl]) ?_ rfl))
      show Ev _ _ _ _ _ _ _ [some (.str x), some (.str [47]), some (.int i), some (.str hd), some (.str tl), none, none, none] _ _
      walk_at "g"
end
end
-- SpRuns
section
set_option hygiene false in
local macro_rules | `(tactic| walk_at "o") => `(tactic| first
  | ((with_reducible apply Op_neL) <;> assumption))
section
noncomputable def nm_runs : Nms := [("plain", .local), ("shielded", .local), ("text", .local), ("runs", .local), ("star", .local), ("translate", .globalImplicit)]
theorem drop_tail {α : Type} {a b : List α} {n : Nat} (h : b.length = n) : (a ++ b).drop ((a ++ b).length - n) = b := by
  rw [show (a ++ b).length - n = a.length by rw [List.length_append, h, Nat.add_sub_cancel], List.drop_left]
noncomputable def sepR : List Nat := [40, 63, 62, 46, 42, 63]
set_option maxHeartbeats 8000000 in
theorem sp_runs {r0 rl : List Nat} {mids : List (List Nat)} (hm : mids = [] ∨ ∃ r1, r1 ≠ [] ∧ mids = [r1]) (h0 : ∀ c ∈ r0, c ∈ sig) (h1 : ∀ m ∈ mids, ∀ c ∈ m, c ∈ sig) (h2 : ∀ c ∈ rl, c ∈ sig)
    (l0 : r0.length ≤ 900) (l1 : ∀ m ∈ mids, m.length ≤ 900) (l2 : rl.length ≤ 900) :
    FSpec prog w (K39 w.params) 240 4 [.list ((r0 :: (mids ++ [rl])).map .str)] (.list ((r0 :: (mids ++ [rl])).map .str)) := by
  have e1 := esc_le r0
  have e2 := esc_le rl
  have lm : mids.length ≤ 1 := by rcases hm with rfl | ⟨r1, _, rfl⟩ <;> simp
  obtain ⟨pre, P, B, hsplit, hfind, hruns, lpre, lP, lB, ltot⟩ : ∃ (pre : List (List Nat)) (P B : List Nat), splitL (esc r0 ++ outM (mids ++ [rl])) sepR = pre ++ [P ++ [46, 42] ++ B] ∧ Txt.find (S (P ++ [46, 42] ++ B)) (S [46, 42]) = (P.length : Int) ∧
      pre ++ [P, B] = esc r0 :: (mids.map (fun m => esc m ++ [41]) ++ [esc rl]) ∧ pre.length ≤ 1 ∧ P.length ≤ 4000 ∧ B.length ≤ 4000 ∧ (esc r0 ++ outM (mids ++ [rl])).length ≤ 20000 := by
    rcases hm with rfl | ⟨r1, hr1, rfl⟩
    · refine ⟨[], esc r0, esc rl, runs_two h0 h2, find_star (noDS_esc h0 [46] rfl (by decide)).1, rfl, by simp, by lia, by lia, ?_⟩
      simp [outM]; lia
    · have h1' := h1 r1 (.head _)
      have e3 := esc_le r1
      have l1' := l1 r1 (.head _)
      refine ⟨[esc r0], esc r1 ++ [41], esc rl, runs_three h0 h1' h2, find_star ?_, by simp, by simp, by simp; lia, by lia, ?_⟩
      · rw [List.append_assoc]; exact (noDS_esc h1' ([41] ++ [46]) rfl (by decide)).1
      · simp [outM]; lia
  have hokM : okM (mids ++ [rl]) = true := by
    rcases hm with rfl | ⟨r1, hr1, rfl⟩
    · rfl
    · cases r1 with
      | nil => exact absurd rfl hr1
      | cons _ _ => rfl
  have hms : ∀ m ∈ mids ++ [rl], ∀ c ∈ m, c ∈ sig := by
    intro m hm c hc
    rcases List.mem_append.mp hm with q | q
    · exact h1 m q c hc
    · have := List.mem_singleton.mp q; subst this; exact h2 c hc
  have hT : (r0.map some ++ starM (mids ++ [rl])).length ≤ 3000 := by
    rcases hm with rfl | ⟨r1, hr1, rfl⟩
    · simp [starM]; lia
    · have l1' := l1 r1 (.head _)
      simp [starM]; lia
  have hallsig : ∀ x ∈ r0 :: (mids ++ [rl]), ∀ c ∈ x, c ∈ sig := by
    intro x hx
    cases hx with
    | head => exact h0
    | tail _ hx => exact hms x hx
  have halllen : ∀ x ∈ r0 :: (mids ++ [rl]), x.length ≤ 900 := by
    intro x hx
    cases hx with
    | head => exact l0
    | tail _ hx =>
      rcases List.mem_append.mp hx with q | q
      · exact l1 x q
      · have := List.mem_singleton.mp q; subst this; exact l2
  have lall : ((r0 :: (mids ++ [rl])).map D.str).length ≤ 3 := by simp; lia
  have hjoin := shield_join r0 (mids ++ [rl])
  have hjl : (((r0 :: (mids ++ [rl])).map shL).map (fun x => x.length + ([42] : List Nat).length)).sum ≤ sizeLine := by
    rw [sizeLine_eq]
    have a0 := shL_le r0
    have a2 := shL_le rl
    rcases hm with rfl | ⟨r1, hr1, rfl⟩
    · simp; lia
    · have a1 := shL_le r1
      have l1' := l1 r1 (.head _)
      simp; lia
  generalize hR : r0 :: (mids ++ [rl]) = R at hallsig halllen lall hjl
  refine' FSpec_of nm_runs (f := 240) (ds := [.list (R.map .str)]) (n := 3) ?hK ?hcd (KL _) ?hsc (by decide +kernel) ?hk ?hco ?hg rfl (Nat.le_of_ble_eq_true rfl) rfl rfl ?hb ?hbody
  walk_at "fs"
  case hb =>
    intro s vs hv
    refine ex1E (len1 hv) fun a zz17 => ?_; subst zz17
    exact BindsTo.of_eq rfl
  case hbody =>
    intro A L Xc hr
    have hu := hr.units
    have e0 : startσ nm_runs [.list (R.map .str)] = [some (.list (R.map .str)), none, none, none, none, none] := rfl
    rw [e0]
    -- the shielded texts
    refine' Ex_cons (ExS_assignC 1 [(".0", .local), ("one", .local)] (ds := R.map .str) (fun _ => true) (onS shL) (fun d => [none, some d]) (.inl rfl) (by rfl) hr.h (fun own _ => EvIt_list hr.h ?hit) ?hlen ?hsc ?hok ?hkind ?hnc ?hnames (fun cl C d hd => AsgT_name 1 rfl) ?hturn ?hP)
    walk_at "csc"
    case hit => walk_at "g"
    case hlen => rw [sizeLine_eq]; lia
    case hturn =>
      intro cl C X' d hd
      refine ex1E (List.mem_map.mp hd) fun x zz16 => and2E zz16 fun hx zz15 => ?_; subst zz15
      have hxs := hallsig x hx
      have hxl := halllen x hx
      refine ⟨.nil, fun _ => ?_⟩
      show Ev _ _ _ _ _ [(".0", .local), ("one", .local)] _ [none, some (.str x)] _ (.str (shL x))
      refine Ev.to (d' := .str (joinL [] (x.map fun c => pat1 (some c)))) ?_ (by rw [joinL_nil, shL_flat])
      have hsm : ((x.map fun c => pat1 (some c)).map (fun x => x.length + ([] : List Nat).length)).sum ≤ sizeLine := by
        rw [sum_flat, shL_flat, sizeLine_eq]; have := shL_le x; lia
      refine Ev_meth (he := by rfl) (x := .str []) (ds := [.list ((x.map fun c => pat1 (some c)).map .str)]) ?_ M_join (EvAll.cons (by rfl) ?_ EvAll.nil) (Op_join hsm)
      · walk_at "g"
      · refine Ev.to (d' := .list (((x.map fun c => D.str [c]).filter (fun _ => true)).map (onS fun s => pat1 (s.head?)))) ?_ (by rw [filter_all, List.map_map, List.map_map]; rfl)
        refine' Ev_listcomp [(".0", .local), ("sign", .local)] (ds := x.map fun c => D.str [c]) (fun _ => true) (onS fun s => pat1 (s.head?)) (fun d => [none, some d]) hr.h (EvIt_str hr.h ?hit) ?hlen ?hsc ?hok ?hkind ?hnc ?hnames (fun cl C d hd => AsgT_name 1 rfl) ?hturn
        walk_at "csc"
        case hit => walk_at "g"
        case hlen => rw [sizeLine_eq, List.length_map]; lia
        case hturn =>
          intro cl C X' _ d hd
          refine ex1E (List.mem_map.mp hd) fun c zz14 => and2E zz14 fun hc zz13 => ?_; subst zz13
          have hcs := hxs c hc
          refine ⟨.nil, fun _ => ?_⟩
          show Ev _ _ _ _ _ [(".0", .local), ("sign", .local)] _ [none, some (.str [c])] _ (.str (pat1 (some c)))
          refine Ev_ifexp (c := decide (c = 42 ∨ c = 91)) ?_ (fun h => ?_) (fun h => ?_)
          · rw [← in_set hcs]
            walk_at "g"
          · have h := of_decide_eq_true h
            refine Ev.to (d' := .str ([91] ++ [c] ++ [93])) ?_ (by have q : pat1 (some c) = [91, c, 93] := if_pos h; rw [q]; rfl)
            walk_at "g"
          · have h := of_decide_eq_false h
            refine Ev.to (d' := .str [c]) ?_ (by have q : pat1 (some c) = [c] := if_neg h; rw [q])
            walk_at "g"
    case hP =>
    rw [comp_map]
    show Ex _ _ _ _ _ _ _ [] [some (.list (R.map .str)), some (.list ((R.map shL).map .str)), none, none, none, none] _ _
    generalize hbody : esc r0 ++ outM (mids ++ [rl]) = body at hsplit ltot
    have htr : transL r0 (mids ++ [rl]) = [40, 63, 115, 58] ++ body ++ [41, 92, 90] := by unfold transL; rw [hbody]
    refine Ex_cons (ExS_assign 2 (d := .str ([40, 63, 115, 58] ++ body ++ [41, 92, 90])) rfl (.inl rfl) ?_ ?_)
    · intro own _
      rw [← htr]
      refine Ev_callR (he := by rfl) (f := 82) (ds := [.str (shield r0 (mids ++ [rl]))]) (Ev_globE (by decide +kernel) (g_translate _)) (by rfl) (by rfl) (EvAll.cons (by rfl) ?_ EvAll.nil)
        (sp_trans h0 hms hokM (by simp) (by rw [hbody]; lia) hT _ _ (by walk_at "g"))
      rw [← hjoin]
      refine Ev.to (d' := .str (joinL [42] (R.map shL))) ?_ (by rw [← hR]; rfl)
      refine Ev_meth (he := by rfl) (x := .str [42]) (ds := [.list ((R.map shL).map .str)]) ?_ M_join (EvAll.cons (by rfl) ?_ EvAll.nil) (Op_join hjl)
      · walk_at "g"
      · walk_at "g"
    show Ex _ _ _ _ _ _ _ [] [some (.list (R.map .str)), some (.list ((R.map shL).map .str)), some (.str ([40, 63, 115, 58] ++ body ++ [41, 92, 90])), none, none, none] _ _
    have hsl : sl ([40, 63, 115, 58] ++ body ++ [41, 92, 90]) (some 4) (some (-3)) = body := by
      have := sl_nm ([40, 63, 115, 58] ++ body ++ [41, 92, 90]) 4 3 (by decide)
      rw [show ((4 : Nat) : Int) = 4 from rfl, show -((3 : Nat) : Int) = -3 from rfl] at this
      rw [this]
      simp
    have ltx : ([40, 63, 115, 58] ++ body ++ [41, 92, 90]).length ≤ 30000 := by simp; lia
    have hs4 : sl ([40, 63, 115, 58] ++ body ++ [41, 92, 90]) none (some 4) = [40, 63, 115, 58] := by
      have := sl_xn ([40, 63, 115, 58] ++ body ++ [41, 92, 90]) 4
      rw [show ((4 : Nat) : Int) = 4 from rfl] at this
      rw [this]; rfl
    have hs3 : sl ([40, 63, 115, 58] ++ body ++ [41, 92, 90]) (some (-3)) none = [41, 92, 90] := by
      have := sl_mx ([40, 63, 115, 58] ++ body ++ [41, 92, 90]) 3 (by decide)
      rw [show -((3 : Nat) : Int) = -3 from rfl] at this
      rw [this]; exact drop_tail rfl
    generalize hT2 : [40, 63, 115, 58] ++ body ++ [41, 92, 90] = T at hsl ltx hs4 hs3
    have lpar := parts_len body sepR sizeLine (by walk_at "sz")
    refine Ex_cons (ExS_assign 3 (d := .list ((pre ++ [P ++ [46, 42] ++ B]).map .str)) rfl (.inl rfl) ?_ ?_)
    · intro own _
      rw [← hsplit]
      refine Ev_meth (he := by rfl) (x := .str body) (ds := [.str sepR]) ?_ M_split (EvAll.cons (by rfl) ?_ EvAll.nil) (Op_split rfl (by walk_at "sz") lpar)
      · rw [← hsl]
        walk_at "g"
      · exact Ev_lits lit21
    have lL : (P ++ [46, 42] ++ B).length ≤ 9000 := by simp; lia
    have hsA : sl (P ++ [46, 42] ++ B) none (some (P.length : Int)) = P := by rw [sl_xn]; simp
    have hsB : sl (P ++ [46, 42] ++ B) (some ((P.length : Int) + 2)) none = B := by
      rw [show (P.length : Int) + 2 = ((P.length + 2 : Nat) : Int) by lia, sl_nx, show P.length + 2 = (P ++ [46, 42]).length by simp, List.drop_left]
    generalize hL : P ++ [46, 42] ++ B = last at hfind lL hsA hsB
    have hlast : ((pre ++ [last]).map D.str).getLast? = some (.str last) := by simp
    have linit : sl ((pre ++ [last]).map D.str) none (some (-1)) = pre.map .str := by
      have := sl_xm ((pre ++ [last]).map D.str) 1 (by decide)
      rw [show -((1 : Nat) : Int) = -1 from rfl] at this
      rw [this]; simp
    have lrl : ((pre ++ [last]).map D.str).length ≤ 2 := by simp; lia
    generalize hrr : (pre ++ [last]).map D.str = RR at hlast linit lrl
    have lrr : RR.length < 2 ^ 62 := by lia
    show Ex _ _ _ _ _ _ _ [] [some (.list (R.map .str)), some (.list ((R.map shL).map .str)), some (.str T), some (.list RR), none, none] _ _
    refine Ex_cons (ExS_assign 4 (d := .int P.length) rfl (.inl rfl) ?_ ?_)
    · intro own _
      rw [← hfind]
      walk_at "g"
    show Ex _ _ _ _ _ _ _ [] [some (.list (R.map .str)), some (.list ((R.map shL).map .str)), some (.str T), some (.list RR), some (.int P.length), none] _ _
    have hR2 : (pre.map D.str) ++ [.str P, .str B] = (esc r0 :: (mids.map (fun m => esc m ++ [41]) ++ [esc rl])).map D.str := by rw [← hruns]; simp
    refine Ex_cons (ExS_assign 3 (d := .list ((esc r0 :: (mids.map (fun m => esc m ++ [41]) ++ [esc rl])).map .str)) rfl (.inl rfl) ?_ ?_)
    · intro own _
      rw [← hR2, ← linit]
      have q1 := sl_length_le RR none (some (-1))
      refine Ev_bin ?_ ?_ (Op_addL ?_)
      · walk_at "g"
      · refine Ev_list (.cons (by rfl) ?_ (.cons (by rfl) ?_ .nil)) (by rw [sizeLine_eq]; simp)
        · refine Ev.to (d' := .str (sl last none (some (P.length : Int)))) ?_ (by rw [hsA])
          walk_at "g"
        · refine Ev.to (d' := .str (sl last (some ((P.length : Int) + 2)) none)) ?_ (by rw [hsB])
          walk_at "g"
      · rw [sizeLine_eq]; simp; lia
    have hmid : sl ((esc r0 :: (mids.map (fun m => esc m ++ [41]) ++ [esc rl])).map D.str) (some 1) (some (-1)) = (mids.map (fun m => esc m ++ [41])).map .str := by
      rw [List.map_cons, List.map_append]; exact sl_mids _ _ _
    have hfst : sl ((esc r0 :: (mids.map (fun m => esc m ++ [41]) ++ [esc rl])).map D.str) none (some 1) = [.str (esc r0)] := by
      have := sl_xn ((esc r0 :: (mids.map (fun m => esc m ++ [41]) ++ [esc rl])).map D.str) 1
      rw [show ((1 : Nat) : Int) = 1 from rfl] at this
      rw [this]; rfl
    have hlst : sl ((esc r0 :: (mids.map (fun m => esc m ++ [41]) ++ [esc rl])).map D.str) (some (-1)) none = [.str (esc rl)] := by
      have := sl_mx ((esc r0 :: (mids.map (fun m => esc m ++ [41]) ++ [esc rl])).map D.str) 1 (by decide)
      rw [show -((1 : Nat) : Int) = -1 from rfl] at this
      rw [this, show ((esc r0 :: (mids.map (fun m => esc m ++ [41]) ++ [esc rl])).map D.str) = (esc r0 :: mids.map (fun m => esc m ++ [41])).map D.str ++ [.str (esc rl)] by simp]
      exact drop_tail rfl
    have lR2 : ((esc r0 :: (mids.map (fun m => esc m ++ [41]) ++ [esc rl])).map D.str).length ≤ 3 := by simp; lia
    generalize hRD : (esc r0 :: (mids.map (fun m => esc m ++ [41]) ++ [esc rl])).map D.str = R2 at hmid hfst hlst lR2
    show Ex _ _ _ _ _ _ _ [] [some (.list (R.map .str)), some (.list ((R.map shL).map .str)), some (.str T), some (.list R2), some (.int P.length), none] _ _
    have lmid2 : ((mids.map (fun m => esc m ++ [41])).map D.str).length ≤ 1 := by simp; lia
    have hmx : ∀ m ∈ mids, sl (esc m ++ [41]) (some (-1)) none = [41] ∧ sl (esc m ++ [41]) none (some (-1)) = esc m ∧ (esc m ++ [41]).length ≤ 4000 := by
      intro m hm
      have q1 := sl_mx (esc m ++ [41]) 1 (by decide)
      have q2 := sl_xm (esc m ++ [41]) 1 (by decide)
      rw [show -((1 : Nat) : Int) = -1 from rfl] at q1 q2
      refine ⟨by rw [q1]; simp, by rw [q2]; simp, ?_⟩
      have := l1 m hm; have := esc_le m; simp; lia
    refine Ex_cons (ExS_if (b := false) ?_ (fun h => nomatch h) (fun _ => Ex_nil ?_))
    · unfold EvT
      show EvB _ _ _ _ _ _ _ [some (.list (R.map .str)), some (.list ((R.map shL).map .str)), some (.str T), some (.list R2), some (.int P.length), none] _ _
      refine EvB.to (EvB_or4 (x := false) (y := false) (z := false) (u := false) ?_ (fun _ => ?_) (fun _ _ => ?_) (fun _ _ _ => ?_)) rfl
      · refine EvB.to (by walk_at "g") ?_
        rw [hs4]; rfl
      · refine EvB.to (by walk_at "g") ?_
        rw [hs3]; rfl
      · refine EvB.to (by walk_at "g") ?_
        exact decide_eq_false (by lia)
      · refine EvB.to (EvB_cmp (hm := by with_unfolding_all rfl) (a := .list (([] : List (List Nat)).map .str)) (b := .list (([] : List (List Nat)).map .str)) ?_ ?_ (Op_neL hu)) (by simp)
        · refine Ev.to (d' := .list ((((mids.map (fun m => esc m ++ [41])).map D.str).filter (fun _ => false)).map id)) ?_ (by rw [filter_none]; rfl)
          refine' Ev_listcomp [(".0", .local), ("run", .local)] (ds := (mids.map (fun m => esc m ++ [41])).map D.str) (fun _ => false) id (fun d => [none, some d]) hr.h (EvIt_list hr.h ?hit) ?hlen ?hsc ?hok ?hkind ?hnc ?hnames (fun cl C d hd => AsgT_name 1 rfl) ?hturn
          walk_at "csc"
          case hit => rw [← hmid]; walk_at "g"
          case hlen => rw [sizeLine_eq]; lia
          case hturn =>
            intro cl C X' _ d hd
            refine ex1E (List.mem_map.mp hd) fun y zz12 => and2E zz12 fun hy zz11 => ?_; subst zz11
            refine ex1E (List.mem_map.mp hy) fun m zz10 => and2E zz10 fun hm zz9 => ?_; subst zz9
            refine and3E (hmx m hm) fun q1 q2 q3 => ?_
            generalize esc m ++ [41] = y at q1 q3
            refine ⟨.one ?_, fun h => nomatch h⟩
            show EvB _ _ _ _ _ [(".0", .local), ("run", .local)] _ [none, some (.str y)] _ _
            refine EvB.to (by walk_at "g") ?_
            rw [q1]; rfl
        · exact Ev_list .nil (by simp)
    show Ex _ _ _ _ _ _ _ [] [some (.list (R.map .str)), some (.list ((R.map shL).map .str)), some (.str T), some (.list R2), some (.int P.length), none] _ _
    refine Ex_cons (ExS_ret (d := .list (R.map .str)) ?_ rfl)
    unfold EvL
    show Ev _ _ _ _ _ _ _ [some (.list (R.map .str)), some (.list ((R.map shL).map .str)), some (.str T), some (.list R2), some (.int P.length), none] _ _
    have hback : ((R.map esc).map unesc) = R := by
      rw [List.map_map]
      exact (List.map_congr_left fun x hx => unesc_esc (hallsig x hx)).trans (List.map_id _)
    refine Ev.to (d' := .list ((((R.map esc).map D.str).filter (fun _ => true)).map (onS unesc))) ?_ (by rw [comp_map, hback])
    have hds : [D.str (esc r0)] ++ (mids.map esc).map D.str ++ [D.str (esc rl)] = (R.map esc).map D.str := by rw [← hR]; simp
    refine' Ev_listcomp [(".0", .local), ("run", .local), ("_law_plain", .globalImplicit)] (ds := (R.map esc).map D.str) (fun _ => true) (onS unesc) (fun d => [none, some d, none]) hr.h (EvIt_list hr.h ?hit) ?hlen ?hsc ?hok ?hkind ?hnc ?hnames (fun cl C d hd => AsgT_name 1 rfl) ?hturn
    walk_at "csc"
    case hlen => rw [sizeLine_eq]; simp at lall ⊢; lia
    case hturn =>
      intro cl C X' _ d hd
      refine ex1E (List.mem_map.mp hd) fun y zz8 => and2E zz8 fun hy zz7 => ?_; subst zz7
      refine ex1E (List.mem_map.mp hy) fun x zz6 => and2E zz6 fun hx zz5 => ?_; subst zz5
      have hxs := hallsig x hx
      have hxl := halllen x hx
      refine ⟨.nil, fun _ => ?_⟩
      refine Ev.to (d' := .str x) ?_ (by show _ = D.str (unesc (esc x)); rw [unesc_esc hxs])
      show Ev _ _ _ _ _ [(".0", .local), ("run", .local), ("_law_plain", .globalImplicit)] _ [none, some (.str (esc x)), none] _ _
      refine Ev_callR (he := by rfl) (f := 235) (ds := [.str (esc x)]) (Ev_globE (by decide +kernel) (g_law_plain _)) (by rfl) (by rfl) (EvAll.cons (by rfl) ?_ EvAll.nil) (sp_plain hxs (by walk_at "sz") _ _ (by walk_at "g"))
      walk_at "g"
    case hit =>
      rw [← hds, ← hfst, ← hlst]
      have q1 := sl_length_le R2 none (some 1)
      have q2 := sl_length_le R2 (some (-1)) none
      refine Ev_bin (Ev_bin (b := .list ((mids.map esc).map D.str)) ?_ ?_ (Op_addL ?_)) ?_ (Op_addL ?_)
      · walk_at "g"
      · refine Ev.to (d' := .list ((((mids.map (fun m => esc m ++ [41])).map D.str).filter (fun _ => true)).map (onS fun y => sl y none (some (-1))))) ?_ ?_
        · refine' Ev_listcomp [(".0", .local), ("one", .local)] (ds := (mids.map (fun m => esc m ++ [41])).map D.str) (fun _ => true) (onS fun y => sl y none (some (-1))) (fun d => [none, some d]) hr.h (EvIt_list hr.h ?hit) ?hlen ?hsc ?hok ?hkind ?hnc ?hnames (fun cl C d hd => AsgT_name 1 rfl) ?hturn
          walk_at "csc"
          case hit => rw [← hmid]; walk_at "g"
          case hlen => rw [sizeLine_eq]; lia
          case hturn =>
            intro cl C X' _ d hd
            refine ex1E (List.mem_map.mp hd) fun y zz4 => and2E zz4 fun hy zz3 => ?_; subst zz3
            refine ex1E (List.mem_map.mp hy) fun m zz2 => and2E zz2 fun hm zz1 => ?_; subst zz1
            refine and3E (hmx m hm) fun q1 q2 q3 => ?_
            generalize esc m ++ [41] = y at q3
            refine ⟨.nil, fun _ => ?_⟩
            show Ev _ _ _ _ _ [(".0", .local), ("one", .local)] _ [none, some (.str y)] _ (.str (sl y none (some (-1))))
            walk_at "g"
        · rw [comp_map, List.map_map (f := fun m => esc m ++ [41])]
          exact congrArg (fun z => D.list (z.map D.str)) (List.map_congr_left fun m hm => (hmx m hm).2.1)
      · rw [sizeLine_eq]; simp; lia
      · walk_at "g"
      · rw [sizeLine_eq]; simp; lia
end
end
section
open PySem.StrLaws
set_option hygiene false in
local macro_rules | `(tactic| walk_at "lt") => `(tactic| ((repeat with_reducible refine lt_set4 ?_); (repeat with_reducible refine lt_set ?_); (first | exact lt_len (by assumption) rfl | decide)))
set_option hygiene false in
local macro_rules | `(tactic| walk_at "get") => `(tactic| ((repeat with_reducible refine get_ne4 ?_ rfl); (repeat with_reducible refine get_ne ?_ rfl); (first | with_reducible assumption | (refine get_eq ?_; walk_at "lt") | rfl)))
set_option hygiene false in
local macro_rules | `(tactic| walk_at "lens") => `(tactic| ((repeat with_reducible refine len_set4 ?_); (repeat with_reducible refine len_set ?_); (first | assumption | rfl)))
set_option hygiene false in
local macro_rules | `(tactic| walk_at "n") => `(tactic| ((with_reducible refine' Ev_nk ?_ ?_ ?_) <;> first | with_reducible show (_ : Type _) | (with_reducible first | exact nL0 | exact nL1 | exact nL2 | exact nL3 | exact nL4 | exact nL5 | exact nL6 | exact nL7 | exact nL8 | exact nL9 | exact nL10 | exact nL11 | exact nL12 | exact nL13 | exact nL14 | exact nL15 | exact nL16 | exact nL17 | exact nL18 | exact nL19 | exact nL20 | exact nL21 | exact nL22 | exact nL23 | exact nL24 | exact nL25 | exact nL26 | exact nL27 | exact nL28 | exact nL29 | exact nL30 | exact nL31 | exact nL32 | exact nL33 | exact nL34 | exact nL35 | exact nL36 | exact nL37 | exact nL38 | exact nL39 | exact nL40 | exact nL41 | exact nL42) | walk_at "get"))
set_option hygiene false in
local macro_rules | `(tactic| walk_at "s") => `(tactic| ((with_reducible first | refine sp_join ?_ ?_ | refine sp_doubled ?_ | refine sp_above ?_ ?_ | refine sp_split ?_) <;> walk_at "g"))
-- LawLast
section
open PySem.StrLaws
section
theorem at3 {R : List Row} {n : Nat} (ok : RowsOk R n) {k : Nat} (hk : k < 3) : ∃ p, R[k]? = some p ∧ p ∈ R := by
  have h : k < R.length := by rw [ok.len]; exact hk
  exact ⟨R[k], List.getElem?_eq_getElem h, List.getElem_mem h⟩
theorem wds_len {w : List Nat} (hw : w ∈ wds) : w.length ≤ 6 := by
  simp only [wds, List.mem_cons, List.not_mem_nil, or_false] at hw
  rcases hw with rfl | rfl | rfl | rfl <;> decide
theorem pth_len {f n : List Nat} {k : Nat} (hf : f ∈ fld) (hn : n.length ≤ k) : (pth f n).length ≤ k + 6 := by
  refine fld_cases (P := fun f => (pth f n).length ≤ k + 6) hf ?_ ?_ ?_ ?_ <;> simp [pth] <;> lia
theorem raw_len {f n w : List Nat} {k : Nat} (hf : f ∈ fld) (hn : n.length ≤ k) (hw : w ∈ wds) : (rawOf f n w).length ≤ 2 * k + 23 := by
  have h1 := pth_len hf hn
  have h2 := dbl_len_le (pth f n)
  have h3 := wds_len hw
  unfold rawOf
  simp only [List.length_append, Q257, List.length_cons, List.length_nil]
  lia
set_option maxHeartbeats 4000000 in
theorem last_turn {A : Around} {L : Addr} {cd : Value} {cells : List (Str × Addr)} {Xc : Addr → Prop} (hr : Rm A 3) {qual : Str} {R : List Row} {n : Nat} (ok : RowsOk R n) (hn : n ≤ 100) {wd : List Nat} (hw : wd ∈ wds) {script cs bases draws : D} {σ : List (Option D)} {k : Nat} (hk : k < 3) {P : Out → Prop}
    (G : OutS script cs bases draws wd R σ)
    (hP : ∀ σ', OutS script cs bases draws wd R σ' → P (.next [] σ')) :
    Ex prog w (K39 w.params) A (envC qual (lawSc w.params) L 259 cd cells) nm_law Xc [] (σ.set 3 (some (.int k))) (lastB w.params) P := by
  obtain ⟨gl, g0, g1, g2, g4, g5, g6, g7, g11, g13⟩ := G
  conv => enter [5, 2]; whnf
  refine ex1E (at3 ok hk) fun p zz3 => and2E zz3 fun hp hm => ?_
  have hraw : ((rawsL wd R).map D.str)[((k : Int)).toNat]? = some (.str (rawOf p.1 p.2 wd)) := by
    unfold rawsL; rw [List.map_map, Int.toNat_natCast, List.getElem?_map, hp]; rfl
  have hpl : ((placesL R).map D.str)[((k : Int)).toNat]? = some (.str (pth p.1 p.2)) := by
    unfold placesL; rw [List.map_map, Int.toNat_natCast, List.getElem?_map, hp]; rfl
  have hwl := wds_len hw
  have hrl := raw_len (w := wd) (ok.f p hm) (ok.l p hm) hw
  refine Ex_cons (ExS_assign 42 rfl (.inl rfl) (d := .str (Q257 ++ dbl 34 (pth p.1 p.2))) ?_ ?_)
  · intro own _
    refine Ev.to (d' := .str (sl (rawOf p.1 p.2 wd) none (some (((rawOf p.1 p.2 wd).length : Int) - (wd.length : Int))))) ?_ (by rw [bare_sl])
    walk_at "g"
  · show Ex _ _ _ _ _ _ _ [] _ _ _
    generalize hb : Q257 ++ dbl 34 (pth p.1 p.2) = b
    have hbl : b.length ≤ 10000 := by
      rw [← hb]
      have h1 := pth_len (ok.f p hm) (ok.l p hm)
      have h2 := dbl_len_le (pth p.1 p.2)
      simp only [List.length_append, Q257, List.length_cons, List.length_nil]; lia
    have l1 := sl_length_le b none (some 4)
    have l2 := sl_length_le b (some 5) none
    have l3 := sl_length_le b (some 4) none
    have h1 : sl b none (some 4) ++ sl b (some 5) none = [50, 53, 55, 32] ++ dbl 34 (pth p.1 p.2) := by rw [← hb, bare_4, bare_5]
    have h2 : [50, 53, 55, 45] ++ sl b (some 4) none = [50, 53, 55, 45] ++ 34 :: dbl 34 (pth p.1 p.2) := by rw [← hb, bare_4']
    refine ex1E (pth_head p.1 p.2 (ok.f p hm)) fun r hpr => ?_
    have e3 : ∀ x ∈ [b, sl b none (some 4) ++ sl b (some 5) none, [50, 53, 55, 45] ++ sl b (some 4) none], sl x none (some 3) = [50, 53, 55] ∧ x.length ≤ 1000000 := by
      intro x hx
      simp only [List.mem_cons, List.not_mem_nil, or_false] at hx
      rcases hx with rfl | rfl | rfl
      · exact ⟨by rw [← hb]; exact Q257_3 _, by lia⟩
      · exact ⟨by rw [h1]; exact s3a _, by simp only [List.length_append]; lia⟩
      · exact ⟨by rw [h2]; exact s3b _, by simp only [List.length_append, List.length_cons, List.length_nil]; lia⟩
    have em : [b, sl b none (some 4) ++ sl b (some 5) none, [50, 53, 55, 45] ++ sl b (some 4) none].map parseL = [pth p.1 p.2, [], []] := by
      simp only [List.map_cons, List.map_nil]
      rw [h1, h2, bare_none2, ← hb, bare_parse, hpr, bare_none1]
    have hu : A.units < cLine := hr.uu (k := 0) (by decide)
    refine Ex_cons (ExS_if (b := false) ?_ (fun h => nomatch h) (fun _ => Ex_nil (Ex_nil (hP _ ⟨by walk_at "lens", by walk_at "get", by walk_at "get", by walk_at "get", by walk_at "get", by walk_at "get", by walk_at "get", by walk_at "get", by walk_at "get", by walk_at "get"⟩))))
    refine EvT_of ?_
    refine EvB.to (EvB_cmp (hm := by with_unfolding_all rfl) (a := .list ([pth p.1 p.2, [], []].map .str)) (b := .list ([pth p.1 p.2, [], []].map .str)) ?_ ?_ (Op_neL hu)) (by simp)
    · refine Ev.to (d' := .list (((([b, sl b none (some 4) ++ sl b (some 5) none, [50, 53, 55, 45] ++ sl b (some 4) none]).map D.str).filter (fun _ => true)).map (onS parseL))) ?_ (by rw [comp_map, em])
      refine' Ev_listcomp [(".0", .local), ("one", .local), ("parse257", .globalImplicit)] (ds := [b, sl b none (some 4) ++ sl b (some 5) none, [50, 53, 55, 45] ++ sl b (some 4) none].map D.str) (fun _ => true) (onS parseL) (fun d => [none, some d, none]) hr.h (EvIt_tuple hr.h ?hit) ?hlen ?hsc ?hok ?hkind ?hnc ?hnames (fun cl C d hd => AsgT_name 1 rfl) ?hturn
      walk_at "csc"
      case hlen => rw [sizeLine_eq]; simp
      case hit => walk_at "g"
      case hturn =>
        intro cl C X' _ d hd
        refine ex1E (List.mem_map.mp hd) fun x zz2 => and2E zz2 fun hx zz1 => ?_; subst zz1
        refine and2E (e3 x hx) fun q1 q2 => ?_
        refine ⟨.nil, fun _ => ?_⟩
        show Ev _ _ _ _ _ [(".0", .local), ("one", .local), ("parse257", .globalImplicit)] _ [none, some (.str x), none] _ (.str (parseL x))
        refine Ev_callR (he := by rfl) (f := 70) (ds := [.str x]) (Ev_globE (by decide +kernel) (g_parse257 _)) (by rfl) (by rfl) (EvAll.cons (by rfl) (Ev_name 1 rfl rfl (.inl rfl)) EvAll.nil) (sp_parse q2 q1 _ _ (hr.le (by decide)))
    · refine Ev_list (ds := [.str (pth p.1 p.2), .str [], .str []]) ?_ (by rw [sizeLine_eq]; simp)
      walk_at "g"
end
end
-- LawInn2
section
open PySem.StrLaws
section
theorem fld_len {f : List Nat} (hf : f ∈ fld) : f.length ≤ 5 := by
  refine fld_cases (P := fun f => f.length ≤ 5) hf ?_ ?_ ?_ ?_ <;> decide
theorem frn_len {f : List Nat} (hf : f ∈ fld) : (frn f).length ≤ 20 := by
  refine fld_cases (P := fun f => (frn f).length ≤ 20) hf ?_ ?_ ?_ ?_ <;> decide +kernel
theorem upd_eq {α β : Type} (l : List α) (f : α → β) (k : Nat) (x : α) : sl (l.map f) none (some (k : Int)) ++ [f x] ++ sl (l.map f) (some ((k : Int) + 1)) none = (l.take k ++ [x] ++ l.drop (k + 1)).map f := by
  rw [show (k : Int) + 1 = ((k + 1 : Nat) : Int) from rfl, sl_xn, sl_nx]
  simp
theorem fmod_lt (a : Int) {m : Int} (h : 0 < m) : 0 ≤ a.fmod m ∧ a.fmod m < m := ⟨Int.fmod_nonneg_of_pos a h, Int.fmod_lt_of_pos a h⟩
theorem code_at (k : Int) (h0 : 0 ≤ k) (h1 : k < 3) : ∃ c, ([.str [50, 53, 48], .str [53, 53, 51], .str [50, 53]] : List D)[k.toNat]? = some (.str c) ∧ (c = [50, 53, 48] ∨ c = [53, 53, 51] ∨ c = [50, 53]) := by
  have : k = 0 ∨ k = 1 ∨ k = 2 := by lia
  rcases this with rfl | rfl | rfl
  · exact ⟨_, rfl, .inl rfl⟩
  · exact ⟨_, rfl, .inr (.inl rfl)⟩
  · exact ⟨_, rfl, .inr (.inr rfl)⟩
end
section
set_option maxHeartbeats 8000000 in
theorem inner_two {A : Around} {L : Addr} {cd : Value} {cells : List (Str × Addr)} {Xc : Addr → Prop} (hr : Rm A 6) {qual : Str} (hA : A.frames = some [envC qual (lawSc w.params) L 259 cd cells]) {R : List Row} (hR : R.length = 3) {wd : List Nat} (hw : wd ∈ wds) {script cs bases draws : D} {σ : List (Option D)} {k : Nat} {p : Row}
    {d i jj : Int} {base x0 x1 x2 y0 y1 y2 q0 q1 qi qj fr : List Nat} (hf : p.1 ∈ fld) (gfr : Good fr) (hfr : fr = y0 ++ qi ++ y1 ++ qj ++ y2) {P : Out → Prop}
    (G : InnS script cs bases draws wd R d base x0 x1 x2 y0 y1 y2 i jj σ)
    (g3 : σ[3]? = some (some (.int k))) (g9 : σ[9]? = some (some (.str p.1))) (g29 : σ[29]? = some (some (.list ([q0, q1].map .str)))) (g31 : σ[31]? = some (some (.str p.1))) (g33 : σ[33]? = some (some (.str (frn p.1)))) (g35 : σ[35]? = some (some (.list ([q0, q1].map .str)))) (g36 : σ[36]? = some (some (.list (([q0, q1].map (dbl 34)).map .str))))
    (hqi : ([q0, q1].map D.str)[i.toNat]? = some (.str qi)) (hqj : ([q0, q1].map D.str)[jj.toNat]? = some (.str qj)) (hdi : (([q0, q1].map (dbl 34)).map D.str)[i.toNat]? = some (.str (dbl 34 qi))) (hdj : (([q0, q1].map (dbl 34)).map D.str)[jj.toNat]? = some (.str (dbl 34 qj)))
    (hi0 : 0 ≤ i) (hi1 : i ≤ 1) (hj0 : 0 ≤ jj) (hj1 : jj ≤ 1) (hk : k < 3)
    (ly0 : y0.length ≤ 100) (ly1 : y1.length ≤ 100) (ly2 : y2.length ≤ 100) (lqi : qi.length ≤ 100) (lqj : qj.length ≤ 100) (lfr : fr.length ≤ 500)
    (hP0 : ∀ σ', InnS script cs bases draws wd R d base x0 x1 x2 y0 y1 y2 i jj σ' → P (.cont [] σ'))
    (hP1 : ∀ σ', InnS script cs bases draws wd (R.take k ++ [(p.1, fr)] ++ R.drop (k + 1)) d base x0 x1 x2 y0 y1 y2 i jj σ' → P (.next [] σ')) :
    Ex prog w (K39 w.params) A (envC qual (lawSc w.params) L 259 cd cells) nm_law Xc [] σ ((innerB w.params).drop 10) P := by
  obtain ⟨gl, g0, g1, g2, g4, g5, g6, g7, g8, g11, g13, g15, g16, g19, g20, g21, g22, g23, g24, g25, g26, g27, g28⟩ := G
  conv => enter [5, 2]; whnf
  have hu : A.units + 1 < cLine := hr.uu (by decide)
  have lw := wds_len hw
  have lf := fld_len hf
  have lfrn := frn_len hf
  have hfr47 := ns47 gfr.s
  have lrf : (rawOf p.1 fr wd).length ≤ 1023 := Nat.le_trans (raw_len (w := wd) hf lfr hw) (by decide)
  have lpf : (pth p.1 fr).length ≤ 506 := pth_len hf lfr
  have ldy0 : (dbl 34 y0).length ≤ 200 := Nat.le_trans (dbl_len_le y0) (by lia)
  have ldy1 : (dbl 34 y1).length ≤ 200 := Nat.le_trans (dbl_len_le y1) (by lia)
  have ldy2 : (dbl 34 y2).length ≤ 200 := Nat.le_trans (dbl_len_le y2) (by lia)
  have ldqi : (dbl 34 qi).length ≤ 200 := Nat.le_trans (dbl_len_le qi) (by lia)
  have ldqj : (dbl 34 qj).length ≤ 200 := Nat.le_trans (dbl_len_le qj) (by lia)
  have ldfr : (dbl 34 fr).length ≤ 1000 := Nat.le_trans (dbl_len_le fr) (by lia)
  refine Ex_cons (ExS_assign 37 rfl (.inl rfl) (d := .str fr) ?_ ?_)
  · intro own _
    rw [hfr]
    walk_at "g"
  show Ex _ _ _ _ _ _ _ [] _ _ _
  refine Ex_cons (ExS_assign 38 rfl (.inl rfl) (d := .str (rawOf p.1 fr wd)) ?_ ?_)
  · intro own _
    refine Ev.to (d' := .str (Q257 ++ dbl 34 (replL (p.1 ++ [47] ++ fr) [47, 47] [47]) ++ wd)) ?_ (by rw [repl_pth hf hfr47]; rfl)
    have lrp : (replL (p.1 ++ [47] ++ fr) [47, 47] [47]).length ≤ 506 := by rw [repl_pth hf hfr47]; exact lpf
    have ldr := dbl_len_le (replL (p.1 ++ [47] ++ fr) [47, 47] [47])
    refine Ev_bin (a := .str (Q257 ++ dbl 34 (replL (p.1 ++ [47] ++ fr) [47, 47] [47]))) (b := .str wd) (Ev_bin (a := .str Q257) (b := .str (dbl 34 (replL (p.1 ++ [47] ++ fr) [47, 47] [47]))) (by show Ev _ _ _ _ _ _ _ _ _ (.str [50, 53, 55, 32, 34]); walk_at "g") ?_ (Op_addS ?_)) (by walk_at "g") (Op_addS ?_)
    · refine Ev_callR (he := by rfl) (f := 221) (ds := [.str (replL (p.1 ++ [47] ++ fr) [47, 47] [47])]) (Ev_globE (by decide +kernel) (g_law_doubled _)) (by rfl) (by rfl) (EvAll.cons rfl ?_ .nil) (sp_doubled (by walk_at "sz") _ _ (hr.le (by decide)))
      refine Ev_replace (he := by rfl) (by walk_at "g") (by decide +kernel) (by decide +kernel) (by decide) (by walk_at "sz")
    · rw [sizeLine_eq]; simp only [Q257, List.length_cons, List.length_nil]; lia
    · rw [sizeLine_eq]; simp only [List.length_append, Q257, List.length_cons, List.length_nil]; lia
  show Ex _ _ _ _ _ _ _ [] _ _ _
  have hrows : D.list (R.map fun p => D.list [.str p.1, .str p.2]) = D.list ((R.map fun p => [p.1, p.2]).map fun ys => .list (ys.map .str)) := by rw [List.map_map]; rfl
  refine Ex_cons (ExS_if (b := (R.map fun p => [p.1, p.2]).contains [p.1, fr]) ?_ (fun h12 => ?_) (fun h12 => Ex_nil ?_))
  · refine EvT_of ?_
    refine EvB_cmp (hm := by with_unfolding_all rfl) (a := .list ([p.1, fr].map .str)) (b := .list ((R.map fun p => [p.1, p.2]).map fun ys => .list (ys.map .str))) ?_ ?_ (Op_inLL (by lia))
    · refine Ev_list (ds := [.str p.1, .str fr]) ?_ (by rw [sizeLine_eq]; simp)
      walk_at "g"
    · rw [← hrows]
      walk_at "g"
  · have hmem : (p.1, fr) ∈ R := by
      rw [List.contains_iff_mem] at h12
      refine ex1E (List.mem_map.mp h12) fun z zz4 => and2E zz4 fun hz e => ?_
      simp only [List.cons.injEq, and_true] at e
      obtain ⟨z1, z2⟩ := z
      refine and2E e fun zz2 zz3 => ?_; subst zz2; subst zz3
      exact hz
    refine ex1E (code_at ((d.fdiv 98304).fmod 3) (fmod_lt _ (by decide)).1 (fmod_lt _ (by decide)).2) fun c0 zz1 => and2E zz1 fun hc0 hcode => ?_
    have f0 := (fmod_lt (d.fdiv 98304) (m := 3) (by decide)).1
    have f1 := (fmod_lt (d.fdiv 98304) (m := 3) (by decide)).2
    have hcl0 : c0.length ≤ 3 := by rcases hcode with rfl | rfl | rfl <;> decide
    have lsl := sl_length_le (rawOf p.1 fr wd) (some 3) none
    refine Ex_cons (ExS_assign 38 rfl (.inl rfl) (d := .str (c0 ++ sl (rawOf p.1 fr wd) (some 3) none)) ?_ (Ex_nil ?_))
    · intro own _
      refine Ev_bin (a := .str c0) (b := .str (sl (rawOf p.1 fr wd) (some 3) none)) ?_ (by walk_at "g") (Op_addS (by walk_at "sz"))
      refine Ev_idx (ds := [.str [50, 53, 48], .str [53, 53, 51], .str [50, 53]]) (k := (d.fdiv 98304).fmod 3) (by walk_at "g") (by walk_at "g") (Op_idxL (by lia) (by lia) hc0) (hs := by intro _ _; with_unfolding_all rfl)
    show Ex _ _ _ _ _ _ _ [] _ _ _
    refine Ex_cons (ExS_assign 39 rfl (.inl rfl) (d := .str (pth p.1 fr)) ?_ ?_)
    · intro own _
      refine Ev.to (d' := .str (joinP p.1 fr)) ?_ (by rw [join_pth hf gfr])
      refine Ev_callR (he := by rfl) (f := 202) (ds := [.str p.1, .str fr]) (Ev_globE (by decide +kernel) (g_join _)) (by rfl) (by rfl) (EvAll.cons rfl (by walk_at "g") (EvAll.cons rfl (by rw [hfr]; walk_at "g") .nil)) (sp_join (by walk_at "sz") (by walk_at "sz") _ _ (hr.le (by decide)))
    show Ex _ _ _ _ _ _ _ [] _ _ _
    refine Ex_cons (ExS_assign 12 rfl (.inl rfl) (d := .str (rawOf p.1 fr wd)) ?_ ?_)
    · intro own _
      refine Ev.to (d' := .str (joinP (frn p.1) (dbl 34 fr ++ wd))) ?_ (by rw [join_raw hf gfr])
      refine Ev_callR (he := by rfl) (f := 202) (ds := [.str (frn p.1), .str (dbl 34 fr ++ wd)]) (Ev_globE (by decide +kernel) (g_join _)) (by rfl) (by rfl) (EvAll.cons rfl (by walk_at "g") (EvAll.cons rfl ?_ .nil)) (sp_join (by walk_at "sz") (by walk_at "sz") _ _ (hr.le (by decide)))
      refine Ev.to (d' := .str (dbl 34 y0 ++ dbl 34 qi ++ dbl 34 y1 ++ dbl 34 qj ++ dbl 34 y2 ++ wd)) ?_ (by rw [hfr, dbl_append, dbl_append, dbl_append, dbl_append])
      walk_at "g"
    show Ex _ _ _ _ _ _ _ [] _ _ _
    have hpm : (placesL R).contains (pth p.1 fr) = true := by
      rw [List.contains_iff_mem]; exact List.mem_map.mpr ⟨_, hmem, rfl⟩
    have hrm : (rawsL wd R).contains (rawOf p.1 fr wd) = true := by
      rw [List.contains_iff_mem]; exact List.mem_map.mpr ⟨_, hmem, rfl⟩
    have h3 := code_3 (f := p.1) (n := fr) (w := wd) hcode
    obtain ⟨an, han⟩ : ∃ an, an = c0 ++ sl (rawOf p.1 fr wd) (some 3) none := ⟨_, rfl⟩
    have lan : an.length ≤ 1000000 := by rw [han]; simp only [List.length_append]; lia
    rw [← han] at h3 ⊢
    refine Ex_cons (ExS_tryBad (x := an) 40 41 hA rfl hr.h (hr.dd (k := 0) (by decide)) ⟨53, rfl⟩ ⟨54, rfl⟩ rfl (fun own _ => by walk_at "g") lan h3 rfl (fun K' e k61 => ?_) ?_)
    · refine Ex_cons (ExS_if (b := false) ?_ (fun h => nomatch h) (fun _ => Ex_nil (Ex_cons (ExS_continue rfl))))
      refine EvT_of ?_
      refine EvB.to (EvB_or3 (x := false) (y := false) (z := false) ?_ (fun _ => ?_) (fun _ _ => ?_)) rfl
      · refine EvB.to (EvB_cmp (hm := by with_unfolding_all rfl) (a := .str (pth p.1 fr)) (b := .list ((placesL R).map .str)) (by walk_at "g") (by walk_at "g") Op_inS.2) (by rw [hpm]; rfl)
      · refine EvB.to (EvB_cmp (hm := by with_unfolding_all rfl) (a := .str (rawOf p.1 fr wd)) (b := .list ((rawsL wd R).map .str)) (by walk_at "g") (by walk_at "g") Op_inS.2) (by rw [hrm]; rfl)
      · refine EvB.to (EvB_cmp (hm := by with_unfolding_all rfl) (a := .str an) (b := .str an) ?_ (by walk_at "g") Op_neS) (by simp)
        refine Ev_callT (he := by rfl) (ds := [.val (.ref e)]) (Ev_builtE (by decide +kernel) (k61.ns (m_str _)) b_str (by decide +kernel)) (EvAll.cons rfl (by walk_at "g") .nil) (Op_str61 k61 (hr.uu (k := 2) (by decide)))
    · exact hP0 _ ⟨by walk_at "lens", by walk_at "get", by walk_at "get", by walk_at "get", by walk_at "get", by walk_at "get", by walk_at "get", by walk_at "get", by walk_at "get", by walk_at "get", by walk_at "get", by walk_at "get", by walk_at "get", by walk_at "get", by walk_at "get", by walk_at "get", by walk_at "get", by walk_at "get", by walk_at "get", by walk_at "get", by walk_at "get", by walk_at "get", by walk_at "get"⟩
  show Ex _ _ _ _ _ _ _ [] _ _ _
  refine Ex_cons (ExS_assign 39 rfl (.inl rfl) (d := .str (pth p.1 fr)) ?_ ?_)
  · intro own _
    refine Ev.to (d' := .str (joinP p.1 fr)) ?_ (by rw [join_pth hf gfr])
    refine Ev_callR (he := by rfl) (f := 202) (ds := [.str p.1, .str fr]) (Ev_globE (by decide +kernel) (g_join _)) (by rfl) (by rfl) (EvAll.cons rfl (by walk_at "g") (EvAll.cons rfl (by rw [hfr]; walk_at "g") .nil)) (sp_join (by walk_at "sz") (by walk_at "sz") _ _ (hr.le (by decide)))
  show Ex _ _ _ _ _ _ _ [] _ _ _
  refine Ex_cons (ExS_assign 12 rfl (.inl rfl) (d := .str (rawOf p.1 fr wd)) ?_ ?_)
  · intro own _
    refine Ev.to (d' := .str (joinP (frn p.1) (dbl 34 fr ++ wd))) ?_ (by rw [join_raw hf gfr])
    refine Ev_callR (he := by rfl) (f := 202) (ds := [.str (frn p.1), .str (dbl 34 fr ++ wd)]) (Ev_globE (by decide +kernel) (g_join _)) (by rfl) (by rfl) (EvAll.cons rfl (by walk_at "g") (EvAll.cons rfl ?_ .nil)) (sp_join (by walk_at "sz") (by walk_at "sz") _ _ (hr.le (by decide)))
    refine Ev.to (d' := .str (dbl 34 y0 ++ dbl 34 qi ++ dbl 34 y1 ++ dbl 34 qj ++ dbl 34 y2 ++ wd)) ?_ (by rw [hfr, dbl_append, dbl_append, dbl_append, dbl_append])
    walk_at "g"
  show Ex _ _ _ _ _ _ _ [] _ _ _
  refine Ex_cons (ExS_tryOk ?_)
  refine Ex_cons (ExS_assign 40 rfl (.inl rfl) (d := .str (pth p.1 fr)) ?_ (Ex_nil ?_))
  · intro own _
    refine Ev.to (d' := .str (parseL (rawOf p.1 fr wd))) ?_ (by rw [raw_parse hw])
    refine Ev_callR (he := by rfl) (f := 70) (ds := [.str (rawOf p.1 fr wd)]) (Ev_globE (by decide +kernel) (g_parse257 _)) (by rfl) (by rfl) (by walk_at "g") (sp_parse (by walk_at "sz") (raw_3 _ _ _) _ _ (hr.le (by decide)))
  show Ex _ _ _ _ _ _ _ [] _ _ _
  refine Ex_cons (ExS_if (b := false) ?_ (fun h => nomatch h) (fun _ => Ex_nil ?_))
  · refine EvT_of ?_
    refine EvB.to (EvB_or (x := false) (y := false) ?_ (fun _ => ?_)) rfl
    · refine EvB.to (EvB_cmp (hm := by with_unfolding_all rfl) (a := .str (pth p.1 fr)) (b := .str (pth p.1 fr)) (by walk_at "g") (by walk_at "g") Op_neS) (by simp)
    · refine EvB.to (EvB_cmp (hm := by with_unfolding_all rfl) (a := .str (rawOf p.1 fr wd)) (b := .str (rawOf p.1 fr wd)) (by walk_at "g") (by walk_at "g") Op_neS) (by simp)
  show Ex _ _ _ _ _ _ _ [] _ _ _
  have lR4 : (placesL R).length = 3 := by unfold placesL; simp [hR]
  have lR5 : (rawsL wd R).length = 3 := by unfold rawsL; simp [hR]
  have u1 : sl ((placesL R).map D.str) none (some (k : Int)) ++ [.str (pth p.1 fr)] ++ sl ((placesL R).map D.str) (some ((k : Int) + 1)) none = (placesL (R.take k ++ [(p.1, fr)] ++ R.drop (k + 1))).map .str := by
    unfold placesL; rw [List.map_map, List.map_map]; exact upd_eq R (D.str ∘ fun p => pth p.1 p.2) k (p.1, fr)
  have u2 : sl ((rawsL wd R).map D.str) none (some (k : Int)) ++ [.str (rawOf p.1 fr wd)] ++ sl ((rawsL wd R).map D.str) (some ((k : Int) + 1)) none = (rawsL wd (R.take k ++ [(p.1, fr)] ++ R.drop (k + 1))).map .str := by
    unfold rawsL; rw [List.map_map, List.map_map]; exact upd_eq R (D.str ∘ fun p => rawOf p.1 p.2 wd) k (p.1, fr)
  have lR1 : ((placesL R).map D.str).length = 3 := by unfold placesL; simp [hR]
  have lR2 : ((rawsL wd R).map D.str).length = 3 := by unfold rawsL; simp [hR]
  have lR3 : (R.map fun p => D.list [.str p.1, .str p.2]).length = 3 := by simp [hR]
  have c1 := sl_length_le ((placesL R).map D.str) none (some (k : Int))
  have c2 := sl_length_le ((placesL R).map D.str) (some ((k : Int) + 1)) none
  have c3 := sl_length_le ((rawsL wd R).map D.str) none (some (k : Int))
  have c4 := sl_length_le ((rawsL wd R).map D.str) (some ((k : Int) + 1)) none
  have c5 := sl_length_le (R.map fun p => D.list [.str p.1, .str p.2]) none (some (k : Int))
  have c6 := sl_length_le (R.map fun p => D.list [.str p.1, .str p.2]) (some ((k : Int) + 1)) none
  refine Ex_cons (ExS_assign2s 13 11 (d1 := .list ((placesL (R.take k ++ [(p.1, fr)] ++ R.drop (k + 1))).map .str)) (d2 := .list ((rawsL wd (R.take k ++ [(p.1, fr)] ++ R.drop (k + 1))).map .str)) rfl rfl (.inl rfl) (.inl rfl) (by decide) rfl hr.h ?_ ?_)
  · intro own _
    refine Ev.to (d' := .tuple [.list (sl ((placesL R).map D.str) none (some (k : Int)) ++ [.str (pth p.1 fr)] ++ sl ((placesL R).map D.str) (some ((k : Int) + 1)) none), .list (sl ((rawsL wd R).map D.str) none (some (k : Int)) ++ [.str (rawOf p.1 fr wd)] ++ sl ((rawsL wd R).map D.str) (some ((k : Int) + 1)) none)]) ?_ ?_
    · walk_at "g"
    · rw [u1, u2]
  show Ex _ _ _ _ _ _ _ [] _ _ _
  refine Ex_cons (ExS_assign 7 rfl (.inl rfl) (d := .list ((R.take k ++ [(p.1, fr)] ++ R.drop (k + 1)).map fun p => D.list [.str p.1, .str p.2])) ?_ (Ex_nil ?_))
  · intro own _
    refine Ev.to (d' := .list (sl (R.map fun p => D.list [.str p.1, .str p.2]) none (some (k : Int)) ++ [.list [.str p.1, .str fr]] ++ sl (R.map fun p => D.list [.str p.1, .str p.2]) (some ((k : Int) + 1)) none)) ?_ ?_
    · walk_at "g"
    · rw [← upd_eq R (fun p => D.list [.str p.1, .str p.2]) k (p.1, fr)]
  exact hP1 _ ⟨by walk_at "lens", by walk_at "get", by walk_at "get", by walk_at "get", by walk_at "get", by walk_at "get", by walk_at "get", by walk_at "get", by walk_at "get", by walk_at "get", by walk_at "get", by walk_at "get", by walk_at "get", by walk_at "get", by walk_at "get", by walk_at "get", by walk_at "get", by walk_at "get", by walk_at "get", by walk_at "get", by walk_at "get", by walk_at "get", by walk_at "get"⟩
end
end
-- LawHd1
section
open PySem.StrLaws
noncomputable def onI (f : Int → Int) : D → D
  | .int x => .int (f x)
  | d => d
theorem onI_map (f : Int → Int) (xs : List Int) : (((xs.map D.int).filter (fun _ => true)).map (onI f)) = (xs.map f).map D.int := by
  rw [filter_all, List.map_map, List.map_map]; rfl
noncomputable def rowD (p : Row) : D := .list [.str p.1, .str p.2]
noncomputable def onR (f : Row → D) : D → D
  | .list [.str a, .str b] => f (a, b)
  | d => d
theorem onR_map (f : Row → D) (R : List Row) : (((R.map rowD).filter (fun _ => true)).map (onR f)) = R.map f := by
  rw [filter_all, List.map_map]; rfl
theorem sl_map {α β : Type} (f : α → β) (l : List α) (lo hi : Option Int) : sl (l.map f) lo hi = (sl l lo hi).map f := by
  unfold sl; rw [List.length_map, List.map_take, List.map_drop]
theorem sum_bound : ∀ {l : List Int}, (∀ x ∈ l, 0 ≤ x) → 0 ≤ l.sum
  | [], _ => by simp
  | x :: r, h => by
    rw [List.sum_cons]
    have h1 := h x (.head _)
    have h2 := sum_bound (l := r) fun y hy => h y (.tail _ hy)
    lia
noncomputable def cellsL (ns : List Int) : List Int := (sl ns none (some 60)).map fun x => (if x < 0 then -x else x).fmod 1000000
noncomputable def basesL : List Int := [1638, 109, 205, 12290, 9232]
noncomputable def drawAt (ns : List Int) (k : Int) : Int := (basesL[k.toNat]?).getD 0 + (stepL (cellsL ns) (some k) none (some 5)).sum
noncomputable def drawsL (ns : List Int) : List Int := (List.range 5).map fun i => drawAt ns (0 + (i : Nat))
theorem cells_in (ns : List Int) : ∀ x ∈ cellsL ns, 0 ≤ x ∧ x < 1000000 := by
  intro x hx
  refine ex1E (List.mem_map.mp hx) fun y zz9 => and2E zz9 fun _ zz8 => ?_; subst zz8
  exact ⟨Int.fmod_nonneg_of_pos _ (by decide), Int.fmod_lt_of_pos _ (by decide)⟩
theorem cells_len {ns : List Int} (h : ns.length ≤ 63) : (cellsL ns).length ≤ 63 := by
  unfold cellsL
  rw [List.length_map]
  exact Nat.le_trans (sl_length_le _ _ _) h
theorem draws_in (ns : List Int) : ∀ x ∈ drawsL ns, 0 ≤ x := by
  intro x hx
  refine ex1E (List.mem_map.mp hx) fun i zz7 => and2E zz7 fun hi zz6 => ?_; subst zz6
  rw [List.mem_range] at hi
  have h1 : 0 ≤ (stepL (cellsL ns) (some (0 + (i : Nat))) none (some 5)).sum := sum_bound fun x hx => (cells_in ns x (stepL_mem hx)).1
  have h2 : 0 ≤ (basesL[((0 : Int) + (i : Nat)).toNat]?).getD 0 := by
    have : i = 0 ∨ i = 1 ∨ i = 2 ∨ i = 3 ∨ i = 4 := by lia
    rcases this with rfl | rfl | rfl | rfl | rfl <;> decide
  unfold drawAt; lia
theorem draws_len (ns : List Int) : (drawsL ns).length = 5 := by unfold drawsL; simp
theorem draws_ints (ns : List Int) : (((intsD 0 5).filter (fun _ => true)).map (onI (drawAt ns))) = (drawsL ns).map D.int := by
  rw [filter_all]; unfold intsD drawsL; rw [List.map_map, List.map_map]; rfl
theorem bases_at {k : Int} (h0 : 0 ≤ k) (h1 : k < 5) : ((basesL.map D.int)[k.toNat]?) = some (.int ((basesL[k.toNat]?).getD 0)) := by
  have : k = 0 ∨ k = 1 ∨ k = 2 ∨ k = 3 ∨ k = 4 := by lia
  rcases this with rfl | rfl | rfl | rfl | rfl <;> rfl
structure HeadS (script cs bases draws : D) (wd : List Nat) (σ : List (Option D)) : Prop where
  len : σ.length = 56
  h0 : σ[0]? = some (some (script))
  h1 : σ[1]? = some (some (cs))
  h2 : σ[2]? = some (some (bases))
  h4 : σ[4]? = some (some (draws))
  h5 : σ[5]? = some (some (.list (fld.map .str)))
  h6 : σ[6]? = some (some (.str wd))
section
theorem four_at' {a b c e : List Nat} {k : Int} (h0 : 0 ≤ k) (h1 : k < 4) : ∃ z, ([.str a, .str b, .str c, .str e] : List D)[k.toNat]? = some (.str z) ∧ (z = a ∨ z = b ∨ z = c ∨ z = e) := by
  have : k = 0 ∨ k = 1 ∨ k = 2 ∨ k = 3 := by lia
  rcases this with rfl | rfl | rfl | rfl
  · exact ⟨a, rfl, .inl rfl⟩
  · exact ⟨b, rfl, .inr (.inl rfl)⟩
  · exact ⟨c, rfl, .inr (.inr (.inl rfl))⟩
  · exact ⟨e, rfl, .inr (.inr (.inr rfl))⟩
set_option maxHeartbeats 8000000 in
theorem head_one {A : Around} {L : Addr} {cd : Value} {cells : List (Str × Addr)} {Xc : Addr → Prop} (hr : Rm A 6) {qual : Str} {ns : List Int} (hn : ns.length ≤ 63) {σ : List (Option D)} (gl : σ.length = 56) (g0 : σ[0]? = some (some (.list (ns.map .int)))) {P : Out → Prop}
    (hP : ∀ wd σ', wd ∈ wds → HeadS (.list (ns.map .int)) (.list ((cellsL ns).map .int)) (.list (basesL.map .int)) (.list ((drawsL ns).map .int)) wd σ' → Ex prog w (K39 w.params) A (envC qual (lawSc w.params) L 259 cd cells) nm_law Xc [] σ' ((lawB w.params).drop 5) P) :
    Ex prog w (K39 w.params) A (envC qual (lawSc w.params) L 259 cd cells) nm_law Xc [] σ (lawB w.params) P := by
  have hP' : ∀ wd σ', wd ∈ wds → HeadS (.list (ns.map .int)) (.list ((cellsL ns).map .int)) (.list (basesL.map .int)) (.list ((drawsL ns).map .int)) wd σ' → Ex prog w (K39 w.params) A (envC qual (lawSc w.params) L 259 cd cells) nm_law Xc [] σ' ((lawB w.params).drop 5) P := hP
  clear hP
  conv => enter [5, 2]; whnf
  have hh : A.handled = none := hr.h
  refine Ex_cons (ExS_assign 1 rfl (.inr rfl) (d := .list ((cellsL ns).map .int)) ?_ ?_)
  · intro own _
    rw [show (cellsL ns).map D.int = (((sl ns none (some 60)).map D.int).filter (fun _ => true)).map (onI fun x => (if x < 0 then -x else x).fmod 1000000) from (onI_map _ _).symm]
    refine' Ev_listcomp [(".0", .local), ("x", .local), ("abs", .globalImplicit)] (ds := (sl ns none (some 60)).map .int) (fun _ => true) (onI fun x => (if x < 0 then -x else x).fmod 1000000) (fun d => [none, some d, none]) hr.h (EvIt_list hr.h ?hit) ?hlen ?hsc ?hok ?hkind ?hnc ?hnames (fun cl C d hd => AsgT_name 1 rfl) ?hturn
    walk_at "csc"
    case hit =>
      rw [← sl_map]
      have l1 : (ns.map D.int).length ≤ 63 := by rw [List.length_map]; exact hn
      walk_at "g"
    case hlen =>
      rw [sizeLine_eq, List.length_map]
      have := sl_length_le ns none (some 60); lia
    case hturn =>
      intro cl C X' _ d hd
      refine ex1E (List.mem_map.mp hd) fun x zz5 => and2E zz5 fun hx zz4 => ?_; subst zz4
      refine ⟨.nil, fun _ => ?_⟩
      show Ev _ _ _ _ _ [(".0", .local), ("x", .local), ("abs", .globalImplicit)] _ [none, some (.int x), none] _ (.int ((if x < 0 then -x else x).fmod 1000000))
      walk_at "g"
  show Ex _ _ _ _ _ _ _ [] _ _ _
  refine Ex_cons (ExS_assign 2 rfl (.inr rfl) (d := .list (basesL.map .int)) ?_ ?_)
  · intro own _
    refine Ev_list (ds := [.int 1638, .int 109, .int 205, .int 12290, .int 9232]) (by walk_at "g") (by rw [sizeLine_eq]; simp)
  show Ex _ _ _ _ _ _ _ [] _ _ _
  have hcl := cells_len hn
  have hci := cells_in ns
  refine' Ex_cons (ExS_assignC 4 [(".0", .local), ("k", .local), ("sum", .globalImplicit), ("bases", .cell), ("cells", .cell)] (ds := intsD 0 5) (fun _ => true) (onI (drawAt ns)) (fun d => [none, some d, none, some (.list (basesL.map .int)), some (.list ((cellsL ns).map .int))]) (.inl rfl) (by rfl) hr.h (fun own _ => EvIt_range1 hr.h (by walk_at "g") Ev_int (by decide) (by decide)) ?hlen ?hsc ?hok ?hkind ?hnc ?hnames (fun cl C d hd => by rw [comp_bc (b := .list (basesL.map .int)) (c := .list ((cellsL ns).map .int)) (by walk_at "get") (by walk_at "get")]; exact AsgT_name 1 rfl) ?hturn ?hP)
  walk_at "csc"
  case hlen => rw [sizeLine_eq]; simp [intsD]
  case hturn =>
    intro cl C X' d hd
    refine ex1E (List.mem_map.mp hd) fun i zz3 => and2E zz3 fun hi zz2 => ?_; subst zz2
    rw [List.mem_range] at hi
    obtain ⟨k, hk⟩ : ∃ k : Int, k = 0 + (i : Nat) := ⟨_, rfl⟩
    rw [← hk]
    have k0 : 0 ≤ k := by lia
    have k1 : k < 5 := by lia
    refine ⟨.nil, fun _ => ?_⟩
    show Ev _ _ _ _ _ [(".0", .local), ("k", .local), ("sum", .globalImplicit), ("bases", .cell), ("cells", .cell)] _ [none, some (.int k), none, some (.list (basesL.map .int)), some (.list ((cellsL ns).map .int))] _ (.int ((basesL[k.toNat]?).getD 0 + (stepL (cellsL ns) (some k) none (some 5)).sum))
    have hst : ∀ i ∈ stepL (cellsL ns) (some k) none (some 5), -1000000000 ≤ i ∧ i ≤ 1000000000 := fun x hx => by have := hci x (stepL_mem hx); lia
    have hsl := stepL_len (cellsL ns) (some k) none (some 5)
    refine Ev_bin (a := .int ((basesL[k.toNat]?).getD 0)) (b := .int (stepL (cellsL ns) (some k) none (some 5)).sum) ?_ ?_ Op_add
    · refine Ev_idx (ds := basesL.map .int) (k := k) (by walk_at "g") (by walk_at "g") (Op_idxL k0 (by lia) (bases_at k0 k1)) (hs := by intro _ _; with_unfolding_all rfl)
    · refine Ev_callB (he := by rfl) (ds := [.list ((stepL (cellsL ns) (some k) none (some 5)).map .int)]) (by walk_at "g") (EvAll.cons rfl ?_ .nil) (Op_sum hh (by lia) hst)
      rw [← stepL_map]
      refine Ev_sliceStep (by walk_at "g") (.so (by walk_at "g")) .no (.so (by walk_at "g")) (by decide) (by rw [List.length_map, sizeLine_eq]; lia)
  rw [draws_ints]
  show Ex _ _ _ _ _ _ _ [] _ _ _
  refine Ex_cons (ExS_assign 5 rfl (.inl rfl) (d := .list (fld.map .str)) ?_ ?_)
  · intro own _
    refine Ev_list (ds := [.str [47], .str [47, 100], .str [47, 100, 34], .str [47, 100, 34, 47, 100]]) (by walk_at "g") (by rw [sizeLine_eq]; simp)
  show Ex _ _ _ _ _ _ _ [] _ _ _
  have hdl := draws_len ns
  obtain ⟨d3, hd3⟩ : ∃ d3, (drawsL ns)[3]? = some d3 := ⟨_, List.getElem?_eq_getElem (by lia)⟩
  have hd3' : ((drawsL ns).map D.int)[(3 : Int).toNat]? = some (.int d3) := by
    rw [List.getElem?_map, show (3 : Int).toNat = 3 from rfl, hd3]; rfl
  have t := fmod_lt (d3.fdiv 24576) (m := 4) (by decide)
  refine ex1E (@four_at' [32, 34, 111, 107, 34] [] [97] [32, 98, 42] _ t.1 t.2) fun z zz1 => and2E zz1 fun hz cz => ?_
  have hwd : [34] ++ z ∈ wds := by rcases cz with rfl | rfl | rfl | rfl <;> decide
  have lz : z.length ≤ 5 := by rcases cz with rfl | rfl | rfl | rfl <;> decide
  refine Ex_cons (ExS_assign 6 rfl (.inr rfl) (d := .str ([34] ++ z)) ?_ ?_)
  · intro own _
    refine Ev_bin (a := .str [34]) (b := .str z) (by walk_at "g") ?_ (Op_addS (by walk_at "sz"))
    refine Ev_idx (ds := [.str [32, 34, 111, 107, 34], .str [], .str [97], .str [32, 98, 42]]) (k := (d3.fdiv 24576).fmod 4) (by walk_at "g") ?_ (Op_idxL t.1 (ilt t.2 rfl) hz) (hs := by intro _ _; with_unfolding_all rfl)
    refine Ev_bin (a := .int (d3.fdiv 24576)) (b := .int 4) (Ev_bin (a := .int d3) (b := .int 24576) ?_ Ev_int (Op_fdiv (by decide) (by decide))) Ev_int (Op_mod (by decide))
    refine Ev_idx (ds := (drawsL ns).map .int) (k := 3) (by walk_at "g") Ev_int (Op_idxL (by decide) (by decide) hd3') (hs := by intro _ _; with_unfolding_all rfl)
  show Ex _ _ _ _ _ _ _ [] _ _ _
  exact hP' _ _ hwd ⟨by walk_at "lens", by walk_at "get", by walk_at "get", by walk_at "get", by walk_at "get", by walk_at "get", by walk_at "get"⟩
end
end
-- LawInn1
section
open PySem.StrLaws
section
noncomputable def onP (f : List Nat → Bool) : D → Bool
  | .str x => f x
  | _ => false
noncomputable abbrev abv (b f o : List Nat) : Bool := (o == [47] || startsL (b ++ [47]) (o ++ [47])) && (o == [47] || startsL (f ++ [47]) (o ++ [47]))
theorem two_len (a p b q c : List Nat) : p.length + q.length ≤ (a ++ p ++ b ++ q ++ c).length := by
  simp only [List.length_append]
  exact Nat.le_trans (Nat.add_le_add_right (Nat.le_trans (Nat.le_add_left _ _) (Nat.le_add_right _ _)) _) (Nat.le_add_right _ _)
theorem p3 {a b c n : Nat} (h : a + b + c ≤ n) : a ≤ n ∧ b ≤ n ∧ c ≤ n :=
  have q := Nat.le_trans (Nat.le_add_right _ _) h
  ⟨Nat.le_trans (Nat.le_add_right _ _) q, Nat.le_trans (Nat.le_add_left _ _) q, Nat.le_trans (Nat.le_add_left _ _) h⟩
theorem five_le {a b c q r p n m : Nat} (h : q + r ≤ p) (hp : p ≤ n) (hm : a + b + c + n ≤ m) : a + q + b + r + c ≤ m := by lia
theorem cut_len (x0 x1 x2 n : List Nat) : ∀ z ∈ cutL x0 x1 x2 n, z.length ≤ n.length := by
  by_cases h : cutL x0 x1 x2 n = []
  · rw [h]; intro z hz; cases hz
  · refine ex2E (cut_parts h) fun p q zz8 => and2E zz8 fun e en => ?_
    rw [e, en]
    intro z hz
    have hl := two_len x0 p x1 q x2
    rcases List.mem_cons.mp hz with h | h
    · rw [h]; exact Nat.le_trans (Nat.le_add_right _ _) hl
    · rw [List.mem_singleton.mp h]; exact Nat.le_trans (Nat.le_add_left _ _) hl
theorem cut_two (x0 x1 x2 n : List Nat) : (cutL x0 x1 x2 n).length ≤ 2 := by
  by_cases h : cutL x0 x1 x2 n = []
  · rw [h]; simp
  · refine ex2E (cut_parts h) fun p q zz7 => and2E zz7 fun e en => ?_
    rw [e]; simp
theorem below_len {b : List Nat} (hb : b ∈ fld) : (belowR b).length ≤ 100 := by
  refine fld_cases (P := fun b => (belowR b).length ≤ 100) hb ?_ ?_ ?_ ?_ <;> decide +kernel
theorem fld_starts {b : List Nat} (hb : b ∈ fld) : startsL b [47] = true := by
  refine fld_cases (P := fun b => startsL b [47] = true) hb ?_ ?_ ?_ ?_ <;> decide +kernel
theorem lcp_sz {b f n : List Nat} (hb : b ∈ fld) (hf : f ∈ fld) (g : Good n) : ((lcp (comps b) (comps (pth f n))).map (fun z => z.length + ([47] : List Nat).length)).sum ≤ 100000 ∧ (joinL [47] (lcp (comps b) (comps (pth f n)))).length ≤ 100000 := by
  rw [lcp_pth hb hf g]
  refine fld_cases (P := fun b => ((lcp (comps b) (comps f)).map (fun z => z.length + ([47] : List Nat).length)).sum ≤ 100000 ∧ (joinL [47] (lcp (comps b) (comps f))).length ≤ 100000) hb ?_ ?_ ?_ ?_ <;>
  refine fld_cases (P := fun f => ((lcp (comps _) (comps f)).map (fun z => z.length + ([47] : List Nat).length)).sum ≤ 100000 ∧ (joinL [47] (lcp (comps _) (comps f))).length ≤ 100000) hf ?_ ?_ ?_ ?_ <;> decide +kernel
theorem two_parts {x0 x1 x2 n q0 q1 : List Nat} {i jj : Int} (hq : cutL x0 x1 x2 n = [q0, q1]) (hn : n = x0 ++ q0 ++ x1 ++ q1 ++ x2) (hs : ∀ c ∈ n, c ∈ nsig) (hij : (i = 0 ∧ jj = 1) ∨ (i = 1 ∧ jj = 0)) :
    ∃ qi qj, ((cutL x0 x1 x2 n).map D.str)[i.toNat]? = some (.str qi) ∧ ((cutL x0 x1 x2 n).map D.str)[jj.toNat]? = some (.str qj) ∧ (((cutL x0 x1 x2 n).map (dbl 34)).map D.str)[i.toNat]? = some (.str (dbl 34 qi)) ∧ (((cutL x0 x1 x2 n).map (dbl 34)).map D.str)[jj.toNat]? = some (.str (dbl 34 qj)) ∧
      (∀ c, (c ∈ qi ∨ c ∈ qj) → c ∈ nsig) ∧ qi.length + qj.length ≤ n.length ∧ 0 ≤ i ∧ i ≤ 1 ∧ 0 ≤ jj ∧ jj ≤ 1 := by
  have m0 : ∀ c ∈ q0, c ∈ nsig := fun c h => hs c (by rw [hn]; simp [h])
  have m1 : ∀ c ∈ q1, c ∈ nsig := fun c h => hs c (by rw [hn]; simp [h])
  have hl : q0.length + q1.length ≤ n.length := hn ▸ two_len _ _ _ _ _
  rw [hq]
  rcases hij with ⟨rfl, rfl⟩ | ⟨rfl, rfl⟩
  · exact ⟨q0, q1, rfl, rfl, rfl, rfl, fun c h => h.elim (m0 c) (m1 c), hl, by decide, by decide, by decide, by decide⟩
  · exact ⟨q1, q0, rfl, rfl, rfl, rfl, fun c h => h.elim (m1 c) (m0 c), Nat.add_comm _ _ ▸ hl, by decide, by decide, by decide, by decide⟩
set_option maxHeartbeats 8000000 in
theorem inner_turn {A : Around} {L : Addr} {cd : Value} {cells : List (Str × Addr)} {Xc : Addr → Prop} (hr : Rm A 6) {qual : Str} (hA : A.frames = some [envC qual (lawSc w.params) L 259 cd cells]) {R : List Row} {n0 N : Nat} (ok : RowsOk R N) (hN : N ≤ 100) (hn0 : n0 ≤ N) {wd : List Nat} (hw : wd ∈ wds) {script cs bases draws : D} {σ : List (Option D)} {k : Nat} (hk : k < 3) {p : Row} (hp : R[k]? = some p) (hpl : p.2.length ≤ n0)
    {d i jj : Int} {base x0 x1 x2 y0 y1 y2 : List Nat} (hdn : 0 ≤ d) (hb : base ∈ fld) (hx1 : x1 ≠ []) (hxs : ∀ c ∈ x0 ++ x1 ++ x2, c ∈ nsig) (hys : ∀ c ∈ y0 ++ y1 ++ y2, c ∈ nsig) (hy1 : y1 ≠ []) (hxl : (x0 ++ x1 ++ x2).length ≤ 100) (hyl : (y0 ++ y1 ++ y2).length + n0 ≤ N) (hij : (i = 0 ∧ jj = 1) ∨ (i = 1 ∧ jj = 0)) {P : Out → Prop}
    (G : InnS script cs bases draws wd R d base x0 x1 x2 y0 y1 y2 i jj σ)
    (hP0 : ∀ σ', InnS script cs bases draws wd R d base x0 x1 x2 y0 y1 y2 i jj σ' → P (.cont [] σ'))
    (hP1 : ∀ fr σ', Good fr → fr.length ≤ N → InnS script cs bases draws wd (R.take k ++ [(p.1, fr)] ++ R.drop (k + 1)) d base x0 x1 x2 y0 y1 y2 i jj σ' → P (.next [] σ')) :
    Ex prog w (K39 w.params) A (envC qual (lawSc w.params) L 259 cd cells) nm_law Xc [] (σ.set 3 (some (.int k))) (innerB w.params) P := by
  obtain ⟨gl, g0, g1, g2, g4, g5, g6, g7, g8, g11, g13, g15, g16, g19, g20, g21, g22, g23, g24, g25, g26, g27, g28⟩ := G
  conv => enter [5, 2]; whnf
  have hm : p ∈ R := List.mem_of_getElem? hp
  have hf := ok.f p hm
  have hg := ok.g p hm
  have h47 := ns47 hg.s
  have hR : R.length = 3 := ok.len
  have hu : A.units + 1 < cLine := hr.uu (by decide)
  have hrow : (R.map fun p => D.list [.str p.1, .str p.2])[((k : Int)).toNat]? = some (.list [.str p.1, .str p.2]) := by
    rw [Int.toNat_natCast, List.getElem?_map, hp]; rfl
  have hraw : ((rawsL wd R).map D.str)[((k : Int)).toNat]? = some (.str (rawOf p.1 p.2 wd)) := by
    unfold rawsL; rw [List.map_map, Int.toNat_natCast, List.getElem?_map, hp]; rfl
  have hplc : ((placesL R).map D.str)[((k : Int)).toNat]? = some (.str (pth p.1 p.2)) := by
    unfold placesL; rw [List.map_map, Int.toNat_natCast, List.getElem?_map, hp]; rfl
  have lw := wds_len hw
  have lraw := raw_len (w := wd) hf hpl hw
  have lpth := pth_len hf hpl
  have lb := fld_len hb
  have lf := fld_len hf
  have hxl' := hxl
  simp only [List.length_append] at hxl'
  have lx := p3 hxl'
  have lx0 := lx.1
  have lx1 := lx.2.1
  have lx2 := lx.2.2
  have lp100 : p.2.length ≤ 100 := Nat.le_trans hpl (Nat.le_trans hn0 hN)
  refine Ex_cons (ExS_assign2L 9 10 (d1 := .str p.1) (d2 := .str p.2) rfl rfl (.inr rfl) (.inl rfl) rfl hr.h ?_ ?_)
  · intro own _
    walk_at "g"
  show Ex _ _ _ _ _ _ _ [] _ _ _
  refine Ex_cons (ExS_assign 29 rfl (.inl rfl) (d := .list ((cutL x0 x1 x2 p.2).map .str)) ?_ ?_)
  · intro own _
    refine Ev_callR (he := by rfl) (f := 254) (ds := [.str x0, .str x1, .str x2, .str p.2]) (Ev_globE (by decide +kernel) (g_law_cut _)) (by rfl) (by rfl) (by walk_at "g") (sp_cut (by walk_at "sz") (by walk_at "sz") (by walk_at "sz") (by walk_at "sz") _ _ (hr.le (by decide)))
  show Ex _ _ _ _ _ _ _ [] _ _ _
  refine Ex_cons (ExS_assign 30 rfl (.inl rfl) (d := .str (cm base p.1)) ?_ ?_)
  · intro own _
    have hlast : ((fld.filter (abv base p.1)).map D.str).getLast? = some (.str (cm base p.1)) := by
      rw [List.getLast?_map, cm_last hb hf]; rfl
    have hds : ((fld.map D.str).filter (onP (abv base p.1))).map _root_.id = (fld.filter (abv base p.1)).map D.str := filter_str _ _ (fun _ => rfl) _
    refine Ev_idx (ds := (fld.filter (abv base p.1)).map D.str) (k := -1) ?_ ?_ (Op_idxLast hlast ?_) (hs := by intro _ _; with_unfolding_all rfl)
    · rw [← hds]
      refine' Ev_listcomp [(".0", .local), ("one", .local), ("_law_above", .globalImplicit), ("base", .cell), ("folder", .cell)] (ds := fld.map D.str) (onP (abv base p.1)) _root_.id (fun d => [none, some d, none, some (.str base), some (.str p.1)]) hr.h (EvIt_list hr.h ?hit) ?hlen ?hsc ?hok ?hkind ?hnc ?hnames (fun cl C d hd => by rw [comp_bf (b := .str base) (f := .str p.1) (by walk_at "get") (by walk_at "get")]; exact AsgT_name 1 rfl) ?hturn
      walk_at "csc"
      case hlen => rw [sizeLine_eq]; simp [fld]
      case hit => walk_at "g"
      case hturn =>
        intro cl C X' _ d hd
        refine ex1E (List.mem_map.mp hd) fun x zz6 => and2E zz6 fun hx zz5 => ?_; subst zz5
        have lx := fld_len hx
        refine ⟨.one ?_, fun _ => ?_⟩
        · show EvB _ _ _ _ _ [(".0", .local), ("one", .local), ("_law_above", .globalImplicit), ("base", .cell), ("folder", .cell)] _ [none, some (.str x), none, some (.str base), some (.str p.1)] _ (_ && _)
          refine EvB_and (EvB_val (he := by intro _; rfl) ?_ Tr_bool) (fun _ => EvB_val (he := by intro _; rfl) ?_ Tr_bool)
          · refine Ev_callR (he := by rfl) (f := 228) (ds := [.str x, .str base]) (Ev_globE (by decide +kernel) (g_law_above _)) (by rfl) (by rfl) (by walk_at "g") (sp_above (by walk_at "sz") (by walk_at "sz") _ _ (hr.le (by decide)))
          · refine Ev_callR (he := by rfl) (f := 228) (ds := [.str x, .str p.1]) (Ev_globE (by decide +kernel) (g_law_above _)) (by rfl) (by rfl) (by walk_at "g") (sp_above (by walk_at "sz") (by walk_at "sz") _ _ (hr.le (by decide)))
        · show Ev _ _ _ _ _ [(".0", .local), ("one", .local), ("_law_above", .globalImplicit), ("base", .cell), ("folder", .cell)] _ [none, some (.str x), none, some (.str base), some (.str p.1)] _ (.str x)
          walk_at "g"
    · walk_at "g"
    · have := List.length_filter_le (abv base p.1) fld
      rw [List.length_map]; exact Nat.lt_of_le_of_lt this (by decide)
  show Ex _ _ _ _ _ _ _ [] _ _ _
  refine Ex_cons (ExS_assign2 31 32 (d1 := .str p.1) (d2 := .str p.2) rfl rfl (.inl rfl) (.inl rfl) rfl hr.h ?_ ?_)
  · intro own _
    refine Ev.to (d' := .tuple [.str (splH (pth p.1 p.2)), .str (splT (pth p.1 p.2))]) ?_ (by rw [pth_splH hf h47, pth_splT hf h47])
    refine Ev_callR (he := by rfl) (f := 209) (ds := [.str (pth p.1 p.2)]) (Ev_globE (by decide +kernel) (g_split _)) (by rfl) (by rfl) (by walk_at "g") (sp_split (by walk_at "sz") _ _ (hr.le (by decide)))
  show Ex _ _ _ _ _ _ _ [] _ _ _
  refine Ex_cons (ExS_assign2 33 34 (d1 := .str (frn p.1)) (d2 := .str (dbl 34 p.2 ++ wd)) rfl rfl (.inl rfl) (.inl rfl) rfl hr.h ?_ ?_)
  · intro own _
    refine Ev.to (d' := .tuple [.str (splH (rawOf p.1 p.2 wd)), .str (splT (rawOf p.1 p.2 wd))]) ?_ (by rw [raw_splH hf h47 hw, raw_splT hf h47 hw])
    refine Ev_callR (he := by rfl) (f := 209) (ds := [.str (rawOf p.1 p.2 wd)]) (Ev_globE (by decide +kernel) (g_split _)) (by rfl) (by rfl) (by walk_at "g") (sp_split (by walk_at "sz") _ _ (hr.le (by decide)))
  show Ex _ _ _ _ _ _ _ [] _ _ _
  have ldp := dbl_len_le p.2
  have ld0 := dbl_len_le x0
  have ld1 := dbl_len_le x1
  have ld2 := dbl_len_le x2
  refine Ex_cons (ExS_assign2s 35 36 (d1 := .list ((cutL x0 x1 x2 p.2).map .str)) (d2 := .list (((cutL x0 x1 x2 p.2).map (dbl 34)).map .str)) rfl rfl (.inl rfl) (.inl rfl) (by decide) rfl hr.h ?_ ?_)
  · intro own _
    refine Ev.to (d' := .tuple [.list ((sharesL x0 [x1] x2 p.2).map .str), .list ((sharesL (dbl 34 x0) [dbl 34 x1] (dbl 34 x2 ++ wd) (dbl 34 p.2 ++ wd)).map .str)]) ?_ (by rw [shares_eq_cut, wire_shares hx1])
    refine Ev_tuple (EvAll.cons rfl ?_ (EvAll.cons rfl ?_ .nil)) (by rw [sizeLine_eq]; simp)
    · refine Ev_callR (he := by rfl) (f := 247) (ds := [.list ((x0 :: ([x1] ++ [x2])).map .str), .str p.2]) (Ev_globE (by decide +kernel) (g_law_shares _)) (by rfl) (by rfl) (by walk_at "g") (sp_shares (by walk_at "sz") (by walk_at "sz") (by walk_at "sz") (by simp) (by simp; lia) _ _ (hr.le (by decide)))
    · refine Ev_callR (he := by rfl) (f := 247) (ds := [.list ((dbl 34 x0 :: ([dbl 34 x1] ++ [dbl 34 x2 ++ wd])).map .str), .str (dbl 34 p.2 ++ wd)]) (Ev_globE (by decide +kernel) (g_law_shares _)) (by rfl) (by rfl) (by walk_at "g") (sp_shares (by walk_at "sz") (by walk_at "sz") (by walk_at "sz") (by simp) (by simp; lia) _ _ (hr.le (by decide)))
  show Ex _ _ _ _ _ _ _ [] _ _ _
  have hcl := cut_len x0 x1 x2 p.2
  have hct := cut_two x0 x1 x2 p.2
  have hu0 : A.units < cLine := Nat.lt_of_succ_lt hu
  refine Ex_cons (ExS_if (b := false) ?_ (fun h => nomatch h) (fun _ => Ex_nil ?_))
  · refine EvT_of ?_
    refine EvB.to (EvB_or (x := false) (y := false) ?_ (fun _ => ?_)) rfl
    · refine EvB.to (EvB_cmp (hm := by with_unfolding_all rfl) (a := .list ((cutL x0 x1 x2 p.2).map .str)) (b := .list ((cutL x0 x1 x2 p.2).map .str)) ?_ ?_ (Op_neL hu0)) (by simp)
      · walk_at "g"
      · walk_at "g"
    · refine EvB.to (EvB_cmp (hm := by with_unfolding_all rfl) (a := .list (((cutL x0 x1 x2 p.2).map (dbl 34)).map .str)) (b := .list (((cutL x0 x1 x2 p.2).map (dbl 34)).map .str)) ?_ ?_ (Op_neL hu0)) (by simp)
      · walk_at "g"
      · rw [← comp_map]
        refine' Ev_listcomp [(".0", .local), ("part", .local), ("_law_doubled", .globalImplicit)] (ds := (cutL x0 x1 x2 p.2).map D.str) (fun _ => true) (onS (dbl 34)) (fun d => [none, some d, none]) hr.h (EvIt_list hr.h ?hit) ?hlen ?hsc ?hok ?hkind ?hnc ?hnames (fun cl C d hd => AsgT_name 1 rfl) ?hturn
        walk_at "csc"
        case hlen => rw [sizeLine_eq, List.length_map]; lia
        case hit => walk_at "g"
        case hturn =>
          intro cl C X' _ d hd
          refine ex1E (List.mem_map.mp hd) fun x zz4 => and2E zz4 fun hx zz3 => ?_; subst zz3
          have lx := hcl x hx
          refine ⟨.nil, fun _ => ?_⟩
          show Ev _ _ _ _ _ [(".0", .local), ("part", .local), ("_law_doubled", .globalImplicit)] _ [none, some (.str x), none] _ (.str (dbl 34 x))
          refine Ev_callR (he := by rfl) (f := 221) (ds := [.str x]) (Ev_globE (by decide +kernel) (g_law_doubled _)) (by rfl) (by rfl) (by walk_at "g") (sp_doubled (by walk_at "sz") _ _ (hr.le (by decide)))
  show Ex _ _ _ _ _ _ _ [] _ _ _
  have lbel : (belowR base).length ≤ 100 := below_len hb
  refine Ex_cons (ExS_if (b := false) ?_ (fun h => nomatch h) (fun _ => Ex_nil ?_))
  · refine EvT_of ?_
    refine EvB.to (EvB_or (x := false) (y := false) ?_ (fun _ => ?_)) rfl
    · refine EvB.to (EvB_cmp (hm := by with_unfolding_all rfl) (a := .str (cm base p.1)) (b := .str (cm base p.1)) ?_ ?_ Op_neS) (by simp)
      · refine Ev.to (d' := .str ([47] ++ joinL [47] (lcp (comps base) (comps (pth p.1 p.2))))) ?_ (by rw [common_is hb hf hg])
        refine and2E (lcp_sz (n := p.2) hb hf hg) fun z1 z2 => ?_
        refine Ev_callR (he := by rfl) (f := 214) (ds := [.list [.str base, .str (pth p.1 p.2)]]) (Ev_globE (by decide +kernel) (g_commonpath _)) (by rfl) (by rfl) (by walk_at "g") (sp_cp (by walk_at "sz") (by walk_at "sz") (fld_starts hb) (pth_starts hf) z1 z2 _ _ (hr.le (by decide)))
      · walk_at "g"
    · refine EvB.to (EvB_cmp (hm := by with_unfolding_all rfl) (a := .bool (sharesL (belowR base) [] [] (rawOf p.1 p.2 wd) != [])) (b := .bool (cm base p.1 == base)) ?_ ?_ Op_neB) (by rw [shares_none, below_is hb hf hg]; simp)
      · refine Ev_cmp (a := .list ((sharesL (belowR base) [] [] (rawOf p.1 p.2 wd)).map .str)) (b := .list (([] : List (List Nat)).map .str)) ?_ (Ev_list .nil (by simp)) (Op_neL hu0) (hm := by with_unfolding_all rfl)
        refine Ev_callR (he := by rfl) (f := 247) (ds := [.list ((belowR base :: ([] ++ [[]])).map .str), .str (rawOf p.1 p.2 wd)]) (Ev_globE (by decide +kernel) (g_law_shares _)) (by rfl) (by rfl) (by walk_at "g") (sp_shares (by walk_at "sz") (by simp) (by walk_at "sz") (by simp) (by simp) _ _ (hr.le (by decide)))
      · walk_at "g"
  show Ex _ _ _ _ _ _ _ [] _ _ _
  have lfrn := frn_len hf
  refine Ex_cons (ExS_if (b := false) ?_ (fun h => nomatch h) (fun _ => Ex_nil ?_))
  · refine EvT_of ?_
    refine EvB.to (EvB_or (x := false) (y := false) ?_ (fun _ => ?_)) rfl
    · refine EvB.to (EvB_cmp (hm := by with_unfolding_all rfl) (a := .str p.1) (b := .str p.1) ?_ ?_ Op_neS) (by simp)
      · walk_at "g"
      · walk_at "g"
    · have ldf := dbl_len_le (p.1 ++ [47])
      have hfe := front_is hf
      refine EvB.to (EvB_cmp (hm := by with_unfolding_all rfl) (a := .str (frn p.1 ++ [47])) (b := .str (Q257 ++ replL (dbl 34 (p.1 ++ [47])) [47, 47] [47])) ?_ ?_ Op_neS) (by rw [hfe]; simp)
      · walk_at "g"
      · refine Ev_bin (a := .str Q257) (b := .str (replL (dbl 34 (p.1 ++ [47])) [47, 47] [47])) (by show Ev _ _ _ _ _ _ _ _ _ (.str [50, 53, 55, 32, 34]); walk_at "g") ?_ (Op_addS ?_)
        · refine Ev_replace (he := by rfl) ?_ (by decide +kernel) (by decide +kernel) (by decide) (by simp at ldf ⊢; lia)
          refine Ev_callR (he := by rfl) (f := 221) (ds := [.str (p.1 ++ [47])]) (Ev_globE (by decide +kernel) (g_law_doubled _)) (by rfl) (by rfl) (by walk_at "g") (sp_doubled (by simp; lia) _ _ (hr.le (by decide)))
        · have h := congrArg List.length hfe
          rw [sizeLine_eq]
          simp only [List.length_append, List.length_cons, List.length_nil] at h
          lia
  show Ex _ _ _ _ _ _ _ [] _ _ _
  refine Ex_cons (ExS_if (b := (cutL x0 x1 x2 p.2 == []) || (cm base p.1 != base)) ?_ (fun _ => ?_) (fun h9 => Ex_nil ?_))
  · refine EvT_of ?_
    refine EvB_or ?_ (fun _ => ?_)
    · refine EvB_cmp (hm := by with_unfolding_all rfl) (a := .list ((cutL x0 x1 x2 p.2).map .str)) (b := .list (([] : List (List Nat)).map .str)) (by walk_at "g") (Ev_list .nil (by simp)) (Op_eqL hu0)
    · walk_at "g"
  · refine Ex_cons (ExS_continue ?_)
    exact hP0 _ ⟨by walk_at "lens", by walk_at "get", by walk_at "get", by walk_at "get", by walk_at "get", by walk_at "get", by walk_at "get", by walk_at "get", by walk_at "get", by walk_at "get", by walk_at "get", by walk_at "get", by walk_at "get", by walk_at "get", by walk_at "get", by walk_at "get", by walk_at "get", by walk_at "get", by walk_at "get", by walk_at "get", by walk_at "get", by walk_at "get", by walk_at "get"⟩
  show Ex _ _ _ _ _ _ _ [] _ _ _
  rw [Bool.or_eq_false_iff] at h9
  refine and2E h9 fun h9a h9b => ?_
  have hne : cutL x0 x1 x2 p.2 ≠ [] := fun e => by rw [e] at h9a; cases h9a
  refine ex2E (cut_parts hne) fun q0 q1 zz2 => and2E zz2 fun hq hname => ?_
  refine ex2E (two_parts hq hname hg.s hij) fun qi qj zz1 => and10E zz1 fun hqi hqj hdi hdj hqs hql hi0 hi1 hj0 hj1 => ?_
  have hyl' := hyl
  simp only [List.length_append] at hyl'
  have hys' : ∀ c, (c ∈ y0 ∨ c ∈ y1 ∨ c ∈ y2) → c ∈ nsig := fun c h => hys c (by simpa [or_assoc] using h)
  obtain ⟨fr, hfr⟩ : ∃ fr, fr = y0 ++ qi ++ y1 ++ qj ++ y2 := ⟨_, rfl⟩
  have gfr : Good fr := by
    refine ⟨fun e => ?_, fun c hc => ?_⟩
    · rw [hfr] at e; simp at e; exact hy1 e.2.2.1
    · rw [hfr] at hc
      simp only [List.mem_append] at hc
      rcases hc with (((h | h) | h) | h) | h
      · exact hys' c (.inl h)
      · exact hqs c (.inl h)
      · exact hys' c (.inr (.inl h))
      · exact hqs c (.inr h)
      · exact hys' c (.inr (.inr h))
  have lfr : fr.length ≤ N := by rw [hfr]; simp only [List.length_append]; exact five_le hql hpl hyl'
  have hfr47 := ns47 gfr.s
  rw [hq] at hqi hqj hdi hdj ⊢
  have lqij := Nat.le_trans hql lp100
  have lqi : qi.length ≤ 100 := Nat.le_trans (Nat.le_add_right _ _) lqij
  have lqj : qj.length ≤ 100 := Nat.le_trans (Nat.le_add_left _ _) lqij
  have ly := p3 (Nat.le_trans (Nat.le_add_right _ _) (Nat.le_trans hyl' hN))
  exact inner_two (q0 := q0) (q1 := q1) (qi := qi) (qj := qj) hr hA ok.len hw hf gfr hfr ⟨by walk_at "lens", by walk_at "get", by walk_at "get", by walk_at "get", by walk_at "get", by walk_at "get", by walk_at "get", by walk_at "get", by walk_at "get", by walk_at "get", by walk_at "get", by walk_at "get", by walk_at "get", by walk_at "get", by walk_at "get", by walk_at "get", by walk_at "get", by walk_at "get", by walk_at "get", by walk_at "get", by walk_at "get", by walk_at "get", by walk_at "get"⟩ (by walk_at "get") (by walk_at "get") (by walk_at "get") (by walk_at "get") (by walk_at "get") (by walk_at "get") (by walk_at "get") hqi hqj hdi hdj hi0 hi1 hj0 hj1 hk (by walk_at "sz") (by walk_at "sz") (by walk_at "sz") (by walk_at "sz") (by walk_at "sz") (by walk_at "sz") hP0 (fun σ' g => hP1 fr σ' gfr lfr g)
end
end
-- LawOut
section
open PySem.StrLaws
section
theorem inner_loop {A : Around} {L : Addr} {cd : Value} {cells : List (Str × Addr)} {Xc : Addr → Prop} (hr : Rm A 6) {qual : Str} (hA : A.frames = some [envC qual (lawSc w.params) L 259 cd cells]) {R : List Row} {n0 N : Nat} (ok : RowsOk R n0) (hN : N ≤ 100) (hn0 : n0 ≤ N) {wd : List Nat} (hw : wd ∈ wds) {script cs bases draws : D} {σ : List (Option D)}
    {d i jj : Int} {base x0 x1 x2 y0 y1 y2 : List Nat} (hdn : 0 ≤ d) (hb : base ∈ fld) (hx1 : x1 ≠ []) (hxs : ∀ c ∈ x0 ++ x1 ++ x2, c ∈ nsig) (hys : ∀ c ∈ y0 ++ y1 ++ y2, c ∈ nsig) (hy1 : y1 ≠ []) (hxl : (x0 ++ x1 ++ x2).length ≤ 100) (hyl : (y0 ++ y1 ++ y2).length + n0 ≤ N) (hij : (i = 0 ∧ jj = 1) ∨ (i = 1 ∧ jj = 0)) {P : Out → Prop}
    (G : InnS script cs bases draws wd R d base x0 x1 x2 y0 y1 y2 i jj σ)
    (hP : ∀ R' σ', RowsOk R' N → OutS script cs bases draws wd R' σ' → P (.next [] σ')) :
    Ex prog w (K39 w.params) A (envC qual (lawSc w.params) L 259 cd cells) nm_law Xc [] σ ((outerB w.params).drop 11) P := by
  have okN : RowsOk R N := ⟨ok.len, ok.f, ok.g, fun q hq => Nat.le_trans (ok.l q hq) hn0⟩
  refine Ex_cons (ExS_forT 3 rfl (.inl rfl) (ds := intsD 0 3) _ _ hel_range
    (fun k (z : List Row × List (Option D)) => InnS script cs bases draws wd z.1 d base x0 x1 x2 y0 y1 y2 i jj z.2 ∧ RowsOk z.1 N ∧ ∀ i q, k ≤ i → z.1[i]? = some q → q.2.length ≤ n0) (fun _ _ => []) (fun _ z => z.2) ?_ (R, σ) ⟨G, okN, fun i q _ h => ok.l q (List.mem_of_getElem? h)⟩ rfl rfl ?_ ?_)
  · intro own _
    conv => enter [5, 2]; whnf
    exact EvIt_range1 hr.h (by walk_at "g") Ev_int (by decide) (by decide)
  · intro k _ z hk hI Xc' _ Q hNx hCx _ _
    have ok' := hI.2.1
    have hb' := hI.2.2
    rw [Int.zero_add]
    refine ex1E (at3 ok' hk) fun p zz1 => and2E zz1 fun hp hm => ?_
    refine inner_turn hr hA ok' hN hn0 hw hk hp (hb' k p (Nat.le_refl _) hp) hdn hb hx1 hxs hys hy1 hxl hyl hij hI.1 (fun σ'' g => hCx (z.1, σ'') _ _ ⟨g, ok', fun i q hi h => hb' i q (Nat.le_of_succ_le hi) h⟩ rfl rfl) (fun fr σ'' gf lf g => hNx (_, σ'') _ _ ⟨g, rows_upd ok' hk hp gf lf, fun i q hi h => ?_⟩ rfl rfl)
    rw [rows_from ok'.len hk hi] at h
    exact hb' i q (Nat.le_of_succ_le hi) h
  · intro z hI
    exact Ex_nil (hP z.1 z.2 hI.2.1 hI.1.out)
end
end
-- LawOut2
section
open PySem.StrLaws
section
theorem four_at (a b c e : List Nat) {k : Int} (h0 : 0 ≤ k) (h1 : k < 4) : ∃ z, ([.str a, .str b, .str c, .str e] : List D)[k.toNat]? = some (.str z) ∧ (z = a ∨ z = b ∨ z = c ∨ z = e) := by
  have : k = 0 ∨ k = 1 ∨ k = 2 ∨ k = 3 := by lia
  rcases this with rfl | rfl | rfl | rfl
  · exact ⟨a, rfl, .inl rfl⟩
  · exact ⟨b, rfl, .inr (.inl rfl)⟩
  · exact ⟨c, rfl, .inr (.inr (.inl rfl))⟩
  · exact ⟨e, rfl, .inr (.inr (.inr rfl))⟩
theorem two_at (a b : List Nat) {k : Int} (h0 : 0 ≤ k) (h1 : k < 2) : ∃ z, ([.str a, .str b] : List D)[k.toNat]? = some (.str z) ∧ (z = a ∨ z = b) := by
  have : k = 0 ∨ k = 1 := by lia
  rcases this with rfl | rfl
  · exact ⟨a, rfl, .inl rfl⟩
  · exact ⟨b, rfl, .inr rfl⟩
theorem dbl_sig {x : List Nat} (h : ∀ c ∈ x, c ∈ nsig) : ∀ c ∈ dbl 34 x, c ∈ sig := by
  induction x with
  | nil => intro c hc; cases hc
  | cons a r ih =>
    intro c hc
    rw [dbl_cons] at hc
    rcases List.mem_append.mp hc with q | q
    · split at q
      · simp at q; rw [q]; decide
      · simp at q; rw [q]; exact nsig_sig (h a (.head _))
    · exact ih (fun d hd => h d (.tail _ hd)) c q
theorem wds_sig {w : List Nat} (hw : w ∈ wds) : ∀ c ∈ w, c ∈ sig := by
  simp only [wds, List.mem_cons, List.not_mem_nil, or_false] at hw
  rcases hw with rfl | rfl | rfl | rfl <;> decide
theorem below_sig {b : List Nat} (hb : b ∈ fld) : ∀ c ∈ belowR b, c ∈ sig := by
  refine fld_cases (P := fun b => ∀ c ∈ belowR b, c ∈ sig) hb ?_ ?_ ?_ ?_ <;> decide +kernel
theorem dbl_ne {x : List Nat} (h : x ≠ []) : dbl 34 x ≠ [] := by
  intro e
  have := dbl_len_ge x
  rw [e] at this
  cases x with
  | nil => exact h rfl
  | cons _ _ => simp at this
theorem four_sig {x z : List Nat} (hx : ∀ c ∈ x, c ∈ nsig) (h : z = x ∨ z = [] ∨ z = [34] ∨ z = [97]) : (∀ c ∈ z, c ∈ nsig) ∧ z.length ≤ x.length + 1 := by
  rcases h with rfl | rfl | rfl | rfl
  · exact ⟨hx, by lia⟩
  · exact ⟨by decide, by simp⟩
  · exact ⟨by decide, by simp⟩
  · exact ⟨by decide, by simp⟩
theorem four_sig' {x z : List Nat} (hx : ∀ c ∈ x, c ∈ nsig) (h : z = [98] ∨ z = x ∨ z = [34, 97] ∨ z = [42]) (hne : x ≠ []) : (∀ c ∈ z, c ∈ nsig) ∧ z.length ≤ x.length + 2 ∧ z ≠ [] := by
  rcases h with rfl | rfl | rfl | rfl
  · exact ⟨by decide, by simp, by simp⟩
  · exact ⟨hx, by lia, hne⟩
  · exact ⟨by decide, by simp, by simp⟩
  · exact ⟨by decide, by simp, by simp⟩
theorem two_sig {x z : List Nat} (hx : ∀ c ∈ x, c ∈ nsig) (h : z = x ∨ z = [34]) : (∀ c ∈ z, c ∈ nsig) ∧ z.length ≤ x.length + 1 := by
  rcases h with rfl | rfl
  · exact ⟨hx, by lia⟩
  · exact ⟨by decide, by simp⟩
set_option maxHeartbeats 8000000 in
theorem outer_two {A : Around} {L : Addr} {cd : Value} {cells : List (Str × Addr)} {Xc : Addr → Prop} (hr : Rm A 6) {qual : Str} (hA : A.frames = some [envC qual (lawSc w.params) L 259 cd cells]) {R : List Row} {n0 : Nat} (ok : RowsOk R n0) (hn : n0 ≤ 30) {wd : List Nat} (hw : wd ∈ wds) {script cs bases draws : D} {σ : List (Option D)} {d : Int} (hdn : 0 ≤ d)
    {base x0 x1 x2 : List Nat} (hb : base ∈ fld) (hx1 : x1 ≠ []) (sx0 : ∀ c ∈ x0, c ∈ nsig) (sx1 : ∀ c ∈ x1, c ∈ nsig) (sx2 : ∀ c ∈ x2, c ∈ nsig) (lx : x0.length + x1.length + x2.length ≤ n0) {P : Out → Prop}
    (G : OutS script cs bases draws wd R σ) (g8 : σ[8]? = some (some (.int d))) (g15 : σ[15]? = some (some (.str base))) (g16 : σ[16]? = some (some (.str x0))) (g19 : σ[19]? = some (some (.str x1))) (g20 : σ[20]? = some (some (.str x2)))
    (hP : ∀ R' σ', RowsOk R' (2 * n0 + 4) → OutS script cs bases draws wd R' σ' → P (.next [] σ')) :
    Ex prog w (K39 w.params) A (envC qual (lawSc w.params) L 259 cd cells) nm_law Xc [] σ ((outerB w.params).drop 6) P := by
  obtain ⟨gl, g0, g1, g2, g4, g5, g6, g7, g11, g13⟩ := G
  conv => enter [5, 2]; whnf
  have t5 := fmod_lt (d.fdiv 384) (m := 4) (by decide)
  have t6 := fmod_lt (d.fdiv 1536) (m := 4) (by decide)
  have t7 := fmod_lt (d.fdiv 6144) (m := 2) (by decide)
  have t8 := fmod_lt (d.fdiv 12288) (m := 2) (by decide)
  refine ex1E (four_at x0 [] [34] [97] t5.1 t5.2) fun y0 zz3 => and2E zz3 fun hy0 cy0 => ?_
  refine ex1E (four_at [98] x1 [34, 97] [42] t6.1 t6.2) fun y1 zz2 => and2E zz2 fun hy1 cy1 => ?_
  refine ex1E (two_at x2 [34] t7.1 t7.2) fun y2 zz1 => and2E zz1 fun hy2 cy2 => ?_
  refine and2E (four_sig sx0 cy0) fun sy0 ly0 => ?_
  refine and3E (four_sig' sx1 cy1 hx1) fun sy1 ly1 ny1 => ?_
  refine and2E (two_sig sx2 cy2) fun sy2 ly2 => ?_
  refine Ex_cons (ExS_assign2s 21 22 (d1 := .str y0) (d2 := .str y1) rfl rfl (.inl rfl) (.inl rfl) (by decide) rfl hr.h ?_ ?_)
  · intro own _
    refine Ev_tuple (EvAll.cons rfl ?_ (EvAll.cons rfl ?_ .nil)) (by rw [sizeLine_eq]; simp)
    · refine Ev_idx (ds := [.str x0, .str [], .str [34], .str [97]]) (k := (d.fdiv 384).fmod 4) (by walk_at "g") (by walk_at "g") (Op_idxL t5.1 (ilt t5.2 rfl) hy0) (hs := by intro _ _; with_unfolding_all rfl)
    · refine Ev_idx (ds := [.str [98], .str x1, .str [34, 97], .str [42]]) (k := (d.fdiv 1536).fmod 4) (by walk_at "g") (by walk_at "g") (Op_idxL t6.1 (ilt t6.2 rfl) hy1) (hs := by intro _ _; with_unfolding_all rfl)
  show Ex _ _ _ _ _ _ _ [] _ _ _
  refine Ex_cons (ExS_assign3s 23 24 25 (d1 := .str y2) (d2 := .int ((d.fdiv 12288).fmod 2)) (d3 := .int (1 - (d.fdiv 12288).fmod 2)) rfl rfl rfl (.inl rfl) (.inl rfl) (.inl rfl) (by decide) (by decide) (by decide) rfl hr.h ?_ ?_)
  · intro own _
    refine Ev_tuple (EvAll.cons rfl ?_ (EvAll.cons rfl ?_ (EvAll.cons rfl ?_ .nil))) (by rw [sizeLine_eq]; simp)
    · refine Ev_idx (ds := [.str x2, .str [34]]) (k := (d.fdiv 6144).fmod 2) (by walk_at "g") (by walk_at "g") (Op_idxL t7.1 (ilt t7.2 rfl) hy2) (hs := by intro _ _; with_unfolding_all rfl)
    · walk_at "g"
    · walk_at "g"
  show Ex _ _ _ _ _ _ _ [] _ _ _
  obtain ⟨i, hi⟩ : ∃ i, i = (d.fdiv 12288).fmod 2 := ⟨_, rfl⟩
  rw [← hi] at t8 ⊢
  have ld0 := dbl_len_le x0
  have ld1 := dbl_len_le x1
  have ld2 := dbl_len_le x2
  have lw := wds_len hw
  have lb := fld_len hb
  have ldb := dbl_len_le base
  have lbel := below_len hb
  refine Ex_cons (ExS_assign 26 rfl (.inl rfl) (d := .list ((x0 :: ([x1] ++ [x2])).map .str)) ?_ ?_)
  · intro own _
    refine Ev_callR (he := by rfl) (f := 240) (ds := [.list ((x0 :: ([x1] ++ [x2])).map .str)]) (Ev_globE (by decide +kernel) (g_law_runs _)) (by rfl) (by rfl) (EvAll.cons rfl (Ev_list (ds := [.str x0, .str x1, .str x2]) (by walk_at "g") (by rw [sizeLine_eq]; simp)) .nil)
      (sp_runs (.inr ⟨x1, hx1, rfl⟩) (fun c h => nsig_sig (sx0 c h)) (fun m hm c h => ?_) (fun c h => nsig_sig (sx2 c h)) (by walk_at "sz") (fun m hm => ?_) (by walk_at "sz") _ _ (hr.le (by decide)))
    · simp at hm; subst hm; exact nsig_sig (sx1 c h)
    · simp at hm; subst hm; lia
  show Ex _ _ _ _ _ _ _ [] _ _ _
  refine Ex_cons (ExS_assign 27 rfl (.inl rfl) (d := .list ((dbl 34 x0 :: ([dbl 34 x1] ++ [dbl 34 x2 ++ wd])).map .str)) ?_ ?_)
  · intro own _
    refine Ev_callR (he := by rfl) (f := 240) (ds := [.list ((dbl 34 x0 :: ([dbl 34 x1] ++ [dbl 34 x2 ++ wd])).map .str)]) (Ev_globE (by decide +kernel) (g_law_runs _)) (by rfl) (by rfl) (EvAll.cons rfl (Ev_list (ds := [.str (dbl 34 x0), .str (dbl 34 x1), .str (dbl 34 x2 ++ wd)]) (by walk_at "g") (by rw [sizeLine_eq]; simp)) .nil)
      (sp_runs (.inr ⟨_, dbl_ne hx1, rfl⟩) (dbl_sig sx0) (fun m hm c h => ?_) (fun c h => ?_) (by walk_at "sz") (fun m hm => ?_) (by walk_at "sz") _ _ (hr.le (by decide)))
    · simp at hm; subst hm; exact dbl_sig sx1 c h
    · rcases List.mem_append.mp h with h | h
      · exact dbl_sig sx2 c h
      · exact wds_sig hw c h
    · simp at hm; subst hm; lia
  show Ex _ _ _ _ _ _ _ [] _ _ _
  refine Ex_cons (ExS_assign 28 rfl (.inl rfl) (d := .list ((belowR base :: ([] ++ [[]])).map .str)) ?_ ?_)
  · intro own _
    have lj : (joinP (dbl 34 base) []).length ≤ 100 := by
      have h := lbel
      unfold belowR at h
      simp only [List.length_append] at h; lia
    refine Ev_callR (he := by rfl) (f := 240) (ds := [.list ((belowR base :: ([] ++ [[]])).map .str)]) (Ev_globE (by decide +kernel) (g_law_runs _)) (by rfl) (by rfl) (EvAll.cons rfl (Ev_list (ds := [.str (belowR base), .str []]) (EvAll.cons rfl ?_ (EvAll.cons rfl (by walk_at "g") .nil)) (by rw [sizeLine_eq]; simp)) .nil)
      (sp_runs (.inl rfl) (below_sig hb) (fun m hm => absurd hm List.not_mem_nil) (fun c h => absurd h List.not_mem_nil) (by walk_at "sz") (fun m hm => absurd hm List.not_mem_nil) (by simp) _ _ (hr.le (by decide)))
    unfold belowR
    refine Ev_bin (a := .str Q257) (b := .str (joinP (dbl 34 base) [])) (by show Ev _ _ _ _ _ _ _ _ _ (.str [50, 53, 55, 32, 34]); walk_at "g") (by walk_at "g") (Op_addS (by walk_at "sz"))
  show Ex _ _ _ _ _ _ _ [] _ _ _
  have hij : (i = 0 ∧ 1 - i = 1) ∨ (i = 1 ∧ 1 - i = 0) := by lia
  exact inner_loop hr hA ok (N := 2 * n0 + 4) (by lia) (by lia) hw hdn hb hx1 (y0 := y0) (y1 := y1) (y2 := y2)
    (fun c h => by
      simp only [List.mem_append] at h
      rcases h with (h | h) | h
      · exact sx0 c h
      · exact sx1 c h
      · exact sx2 c h)
    (fun c h => by
      simp only [List.mem_append] at h
      rcases h with (h | h) | h
      · exact sy0 c h
      · exact sy1 c h
      · exact sy2 c h)
    ny1 (by simp only [List.length_append]; lia) (by simp only [List.length_append]; lia) hij
    ⟨by walk_at "lens", by walk_at "get", by walk_at "get", by walk_at "get", by walk_at "get", by walk_at "get", by walk_at "get", by walk_at "get", by walk_at "get", by walk_at "get", by walk_at "get", by walk_at "get", by walk_at "get", by walk_at "get", by walk_at "get", by walk_at "get", by walk_at "get", by walk_at "get", by walk_at "get", by walk_at "get", by walk_at "get", by walk_at "get", by walk_at "get"⟩ hP
end
end
-- LawOut3
section
open PySem.StrLaws
section
theorem row_at (R : List Row) {k : Int} {p : Row} (h : R[k.toNat]? = some p) : (R.map fun p => D.list [.str p.1, .str p.2])[k.toNat]? = some (.list [.str p.1, .str p.2]) := by
  rw [List.getElem?_map, h]; rfl
theorem fld_at {k : Int} (h0 : 0 ≤ k) (h1 : k < 4) : ∃ b, b ∈ fld ∧ (fld.map D.str)[k.toNat]? = some (.str b) := by
  have h4 : k.toNat < fld.length := (Int.toNat_lt h0).mpr h1
  exact ⟨fld[k.toNat], List.getElem_mem h4, by rw [List.getElem?_map, List.getElem?_eq_getElem h4]; rfl⟩
theorem min_dr {L : Nat} {v : Int} (hL : 1 ≤ L) (h0 : 0 ≤ v) : 0 ≤ (if (L : Int) - 1 < v then (L : Int) - 1 else v) ∧ (if (L : Int) - 1 < v then (L : Int) - 1 else v) < L := by
  by_cases h : (L : Int) - 1 < v
  · rw [if_pos h]; exact ⟨Int.le_sub_one_of_lt (Int.ofNat_lt.mpr hL), Int.sub_one_lt_of_le (Int.le_refl _)⟩
  · rw [if_neg h]; exact ⟨h0, Int.lt_of_le_of_lt (Int.not_lt.mp h) (Int.sub_one_lt_of_le (Int.le_refl _))⟩
set_option maxHeartbeats 8000000 in
theorem outer_turn {A : Around} {L : Addr} {cd : Value} {cells : List (Str × Addr)} {Xc : Addr → Prop} (hr : Rm A 6) {qual : Str} (hA : A.frames = some [envC qual (lawSc w.params) L 259 cd cells]) {R : List Row} {n0 : Nat} (ok : RowsOk R n0) (hn : n0 ≤ 30) {wd : List Nat} (hw : wd ∈ wds) {script cs bases draws : D} {σ : List (Option D)} {d : Int} (hdn : 0 ≤ d) {P : Out → Prop}
    (G : OutS script cs bases draws wd R σ)
    (hP : ∀ R' σ', RowsOk R' (2 * n0 + 4) → OutS script cs bases draws wd R' σ' → P (.next [] σ')) :
    Ex prog w (K39 w.params) A (envC qual (lawSc w.params) L 259 cd cells) nm_law Xc [] (σ.set 8 (some (.int d))) (outerB w.params) P := by
  obtain ⟨gl, g0, g1, g2, g4, g5, g6, g7, g11, g13⟩ := G
  conv => enter [5, 2]; whnf
  have hh : A.handled = none := hr.h
  have t0 := fmod_lt d (m := 3) (by decide)
  have t1 := fmod_lt (d.fdiv 3) (m := 4) (by decide)
  refine ex1E (at3 ok (k := (d.fmod 3).toNat) ((Int.toNat_lt t0.1).mpr t0.2)) fun p zz2 => and2E zz2 fun hp hm => ?_
  have hrow := row_at R hp
  refine ex1E (fld_at t1.1 t1.2) fun base zz1 => and2E zz1 fun hb hbase => ?_
  have gm := ok.g p hm
  have lm := ok.l p hm
  obtain ⟨made, hmade⟩ : ∃ made, made = p.2 := ⟨_, rfl⟩
  rw [← hmade] at gm lm hrow
  refine Ex_cons (ExS_assign2 14 15 (d1 := .str made) (d2 := .str base) rfl rfl (.inl rfl) (.inr rfl) rfl hr.h ?_ ?_)
  · intro own _
    refine Ev_tuple (EvAll.cons rfl ?_ (EvAll.cons rfl ?_ .nil)) (by rw [sizeLine_eq]; simp)
    · refine Ev_idx (ds := [.str p.1, .str made]) (k := 1) ?_ Ev_int (Op_idxL (by decide) (by decide) rfl) (hs := by intro _ _; with_unfolding_all rfl)
      refine Ev_idx (k := d.fmod 3) (by walk_at "g") (by walk_at "g") (Op_idxL t0.1 (ilt t0.2 rfl) hrow) (hs := by intro _ _; with_unfolding_all rfl)
    · refine Ev_idx (k := (d.fdiv 3).fmod 4) (by walk_at "g") (by walk_at "g") (Op_idxL t1.1 (ilt t1.2 rfl) hbase) (hs := by intro _ _; with_unfolding_all rfl)
  show Ex _ _ _ _ _ _ _ [] _ _ _
  have hpos : 1 ≤ made.length := by
    cases made with
    | nil => exact absurd rfl gm.ne
    | cons _ _ => exact Nat.le_add_left 1 _
  have t2 := fmod_lt (d.fdiv 12) (m := 2) (by decide)
  obtain ⟨m, hmdef⟩ : ∃ m : Int, m = if (made.length : Int) - 1 < (d.fdiv 12).fmod 2 then (made.length : Int) - 1 else (d.fdiv 12).fmod 2 := ⟨_, rfl⟩
  have hm0 : 0 ≤ m := hmdef ▸ (min_dr hpos t2.1).1
  have hm1 : m < made.length := hmdef ▸ (min_dr hpos t2.1).2
  have t3 := fmod_lt ((d.fdiv 24).fmod 4) (m := (made.length : Int) - m) (Int.sub_pos_of_lt hm1)
  obtain ⟨s, hsdef⟩ : ∃ s : Int, s = ((d.fdiv 24).fmod 4).fmod ((made.length : Int) - m) := ⟨_, rfl⟩
  rw [← hsdef] at t3
  have t4 := fmod_lt (d.fdiv 96) (m := 2) (by decide)
  obtain ⟨e, hedef⟩ : ∃ e : Int, e = (d.fdiv 96).fmod 2 := ⟨_, rfl⟩
  rw [← hedef] at t4
  refine and4E (made_cut hm0 hm1 t3.1 t3.2 t4.1 t4.2) fun c1 c2 c3 c4 => ?_
  obtain ⟨x0, hx0⟩ : ∃ x0, x0 = sl made none (some m) := ⟨_, rfl⟩
  obtain ⟨rest, hrest⟩ : ∃ rest, rest = sl made (some m) none := ⟨_, rfl⟩
  rw [← hx0] at c1 c4
  rw [← hrest] at c2 c3 c4
  obtain ⟨x1, hx1⟩ : ∃ x1, x1 = sl rest (some s) (some (s + 1 + e)) := ⟨_, rfl⟩
  rw [← hx1] at c3 c4
  have lx0 : (x0.length : Int) = m := by rw [c1]; exact Int.toNat_of_nonneg hm0
  have lrest : (rest.length : Int) = (made.length : Int) - m := by rw [c2, Int.ofNat_sub (Int.toNat_le.mpr (Int.le_of_lt hm1)), Int.toNat_of_nonneg hm0]
  refine Ex_cons (ExS_assign 16 rfl (.inl rfl) (d := .str x0) ?_ ?_)
  · intro own _
    rw [hx0, hmdef]
    walk_at "g"
  show Ex _ _ _ _ _ _ _ [] _ _ _
  refine Ex_cons (ExS_assign 17 rfl (.inl rfl) (d := .str rest) ?_ ?_)
  · intro own _
    rw [hrest, ← lx0]
    walk_at "g"
  show Ex _ _ _ _ _ _ _ [] _ _ _
  refine Ex_cons (ExS_assign 18 rfl (.inl rfl) (d := .int s) ?_ ?_)
  · intro own _
    rw [hsdef, ← lrest]
    refine Ev_bin (a := .int ((d.fdiv 24).fmod 4)) (b := .int (rest.length : Int)) (by walk_at "g") (by walk_at "g") (Op_mod (by rw [lrest]; exact Int.ne_of_gt (Int.sub_pos_of_lt hm1)))
  show Ex _ _ _ _ _ _ _ [] _ _ _
  refine Ex_cons (ExS_assign 19 rfl (.inl rfl) (d := .str x1) ?_ ?_)
  · intro own _
    rw [hx1, hedef]
    walk_at "g"
  show Ex _ _ _ _ _ _ _ [] _ _ _
  obtain ⟨x2, hx2⟩ : ∃ x2, x2 = if ((d.fdiv 192).fmod 2 == 1) = true then sl (sl rest (some (s + (x1.length : Int))) none) (some (-1)) none else [] := ⟨_, rfl⟩
  have lx2 : x0.length + x1.length + x2.length ≤ made.length := by
    rw [hx2]; split
    · exact c4
    · exact Nat.le_trans (Nat.le_add_right _ _) c4
  have sx0 : ∀ c ∈ x0, c ∈ nsig := fun c h => gm.s c (by rw [hx0] at h; exact sl_mem h)
  have srest : ∀ c ∈ rest, c ∈ nsig := fun c h => gm.s c (by rw [hrest] at h; exact sl_mem h)
  have sx1 : ∀ c ∈ x1, c ∈ nsig := fun c h => srest c (by rw [hx1] at h; exact sl_mem h)
  have sx2 : ∀ c ∈ x2, c ∈ nsig := by
    intro c h; rw [hx2] at h; split at h
    · exact srest c (sl_mem (sl_mem h))
    · cases h
  have lq := sl_length_le rest (some (s + (x1.length : Int))) none
  refine Ex_cons (ExS_assign 20 rfl (.inl rfl) (d := .str x2) ?_ ?_)
  · intro own _
    rw [hx2]
    refine Ev_ifexp (c := (d.fdiv 192).fmod 2 == 1) (by walk_at "g") (fun h => ?_) (fun h => ?_)
    · rw [if_pos h]; walk_at "g"
    · rw [if_neg (by rw [h]; decide)]; walk_at "g"
  show Ex _ _ _ _ _ _ _ [] _ _ _
  have hx1' : x1 ≠ [] := c3
  exact outer_two hr hA ok hn hw hdn hb hx1' sx0 sx1 sx2 (Nat.le_trans lx2 lm) ⟨by walk_at "lens", by walk_at "get", by walk_at "get", by walk_at "get", by walk_at "get", by walk_at "get", by walk_at "get", by walk_at "get", by walk_at "get", by walk_at "get"⟩ (by walk_at "get") (by walk_at "get") (by walk_at "get") (by walk_at "get") (by walk_at "get") hP
end
end
-- LawHd2
section
open PySem.StrLaws
noncomputable def signT : List Nat := [97, 34, 98, 34, 46, 42, 91, 34]
noncomputable def signAt (d k : Int) : Nat := (signT[(((d.fdiv 12).fdiv (8 ^ k.toNat)).fmod 8).toNat]?).getD 0
theorem sign_at {e : Int} (h0 : 0 ≤ e) (h1 : e < 8) : signT[e.toNat]? = some ((signT[e.toNat]?).getD 0) ∧ (signT[e.toNat]?).getD 0 ∈ nsig := by
  refine ex1E (Int.eq_ofNat_of_zero_le h0) fun n q => ?_
  subst q
  have h8 : n < signT.length := Int.ofNat_lt.mp h1
  rw [Int.toNat_natCast, List.getElem?_eq_getElem h8]
  exact ⟨rfl, (by decide : ∀ c ∈ signT, c ∈ nsig) _ (List.getElem_mem h8)⟩
theorem m_cases {v : Int} (h0 : 0 ≤ v) (h3 : v < 3) : ∃ M : Nat, 2 + v = (M : Int) ∧ 2 ≤ M ∧ M ≤ 4 := by
  refine ex1E (Int.eq_ofNat_of_zero_le h0) fun n q => ?_
  subst q
  exact ⟨2 + n, rfl, Nat.le_add_right 2 n, Nat.add_le_add_left (Nat.le_of_lt_succ (Int.ofNat_lt.mp h3)) 2⟩
theorem m4h {M : Nat} (h : M ≤ 4) : -(2 ^ 62) ≤ (M : Int) ∧ (M : Int) < 2 ^ 62 := ⟨Int.le_trans (by decide) (Int.natCast_nonneg M), Int.lt_of_le_of_lt (Int.ofNat_le.mpr h) (by decide)⟩
theorem pow8 : ∀ k : Nat, k < 4 → (8 : Int) ^ k ≠ 0 ∧ ((8 : Int) ^ k).natAbs < 1073741824 ∧ (Builtin.Int.intBits 8 : Int) * (k : Int) ≤ 2 ^ 27 := by decide +kernel
theorem flat1 {α β : Type} (l : List α) (f : α → β) : (l.map fun i => [f i]).flatten = l.map f := by
  induction l with
  | nil => rfl
  | cons a r ih => rw [List.map_cons, List.flatten_cons, ih]; rfl
theorem sum_ones {f : Nat → Nat} : ∀ l : List Nat, (l.map ((fun x => x.length + ([] : List Nat).length) ∘ fun i => [f i])).sum = l.length
  | [] => rfl
  | a :: l => by rw [List.map_cons, List.sum_cons, sum_ones l, List.length_cons, Nat.add_comm]; rfl
noncomputable def onK (f : Int → D) : D → D
  | .int k => f k
  | d => d
noncomputable def twoT (r : List (Option D)) : D → List (Option D)
  | .list [a, b] => none :: some a :: some b :: r
  | _ => []
section
set_option maxHeartbeats 8000000 in
theorem row_turn {A : Around} {L : Addr} {cd : Value} {cells : List (Str × Addr)} {Xc : Addr → Prop} (hr : Rm A 6) {qual : Str} {script cs bases draws : D} {wd : List Nat} {a : Addr} {R : List Row} (hR : R.length ≤ 3) {σ : List (Option D)} {d : Int} (hdn : 0 ≤ d) {P : Out → Prop}
    (G : HeadS script cs bases draws wd σ)
    (hP : ∀ f n σ', f ∈ fld → Good n → n.length ≤ 4 → HeadS script cs bases draws wd σ' → P (.next [(7, a, (R ++ [(f, n)]).map rowD)] σ')) :
    Ex prog w (K39 w.params) A (envC qual (lawSc w.params) L 259 cd cells) nm_law Xc [(7, a, R.map rowD)] (σ.set 8 (some (.int d))) (forB (lawB w.params) 6) P := by
  obtain ⟨gl, g0, g1, g2, g4, g5, g6⟩ := G
  conv => enter [5, 2]; whnf
  have t0 := fmod_lt d (m := 4) (by decide)
  refine ex1E (fld_at t0.1 t0.2) fun f zz5 => and2E zz5 fun hf hfa => ?_
  have t1 := fmod_lt (d.fdiv 4) (m := 3) (by decide)
  refine ex1E (m_cases t1.1 t1.2) fun M z => and3E z fun hm m2 m4 => ?_
  obtain ⟨n, hn⟩ : ∃ n, n = (List.range M).map fun i => signAt d (0 + (i : Nat)) := ⟨_, rfl⟩
  have ln : n.length = M := by rw [hn, List.length_map, List.length_range]
  have gn : Good n := by
    refine ⟨fun e => ?_, fun c hc => ?_⟩
    · rw [e] at ln; rw [← ln] at m2; cases m2
    · rw [hn] at hc
      refine ex1E (List.mem_map.mp hc) fun i zz4 => and2E zz4 fun _ zz3 => ?_; subst zz3
      have t := fmod_lt ((d.fdiv 12).fdiv (8 ^ ((0 : Int) + (i : Nat)).toNat)) (m := 8) (by decide)
      exact (sign_at t.1 t.2).2
  refine Ex_cons (ExS_append 7 rfl (.inl rfl) (.head _) (by rw [List.length_map]; exact Nat.le_trans hR (by rw [sizeLine_eq]; decide)) (d := rowD (f, n)) ?_ (Ex_nil ?_))
  · intro own _
    refine Ev_list (ds := [.str f, .str n]) (EvAll.cons rfl ?_ (EvAll.cons rfl ?_ .nil)) (by rw [sizeLine_eq]; simp)
    · refine Ev_idx (ds := fld.map .str) (k := d.fmod 4) (by walk_at "g") (by walk_at "g") (Op_idxL t0.1 (ilt t0.2 rfl) hfa) (hs := by intro _ _; with_unfolding_all rfl)
    · obtain ⟨xs, hxs⟩ : ∃ xs, xs = (List.range M).map fun i => [signAt d (0 + (i : Nat))] := ⟨_, rfl⟩
      have hflat : joinL [] xs = n := by rw [joinL_nil, hxs, hn, flat1]
      have hsm : (xs.map (fun x => x.length + ([] : List Nat).length)).sum ≤ sizeLine := by
        rw [hxs, sizeLine_eq]
        rw [List.map_map]
        exact Nat.le_trans (Nat.le_of_eq (sum_ones _)) (by rw [List.length_range]; exact Nat.le_trans m4 (by decide))
      rw [← hflat]
      refine Ev_meth (he := by rfl) (x := .str []) (ds := [.list (xs.map .str)]) (by walk_at "g") M_join (EvAll.cons (by rfl) ?_ EvAll.nil) (Op_join hsm)
      refine Ev.to (d' := .list (((intsD 0 M).filter (fun _ => true)).map (onK fun k => .str [signAt d k]))) ?_ (by rw [filter_all, hxs]; unfold intsD; rw [List.map_map, List.map_map]; rfl)
      refine' Ev_listcomp [(".0", .local), ("k", .local), ("d", .cell)] (ds := intsD 0 M) (fun _ => true) (onK fun k => .str [signAt d k]) (fun d' => [none, some d', some (.int d)]) hr.h (EvIt_range1 (b := (M : Int)) hr.h (by walk_at "g") ?hit (m4h m4).1 (m4h m4).2) ?hlen ?hsc ?hok ?hkind ?hnc ?hnames (fun cl C d' hd => by rw [comp_d (d := .int d) (by walk_at "get")]; exact AsgT_name 1 rfl) ?hturn
      walk_at "csc"
      case hlen => rw [intsD, List.length_map, List.length_range, sizeLine_eq]; exact Nat.le_trans m4 (by decide)
      case hit => rw [← hm]; walk_at "g"
      case hturn =>
        intro cl C X' _ d' hd
        refine ex1E (List.mem_map.mp hd) fun i zz2 => and2E zz2 fun hi zz1 => ?_; subst zz1
        rw [List.mem_range] at hi
        obtain ⟨k, hk⟩ : ∃ k : Int, k = 0 + (i : Nat) := ⟨_, rfl⟩
        rw [← hk]
        have hk' : k = (i : Nat) := hk.trans (Int.zero_add _)
        have hk8 : (8 : Int) ^ k.toNat ≠ 0 ∧ ((8 : Int) ^ k.toNat).natAbs < 1073741824 ∧ (Builtin.Int.intBits 8 : Int) * k ≤ 2 ^ 27 := by
          rw [hk', Int.toNat_natCast]; exact pow8 i (Nat.lt_of_lt_of_le hi m4)
        have t := fmod_lt ((d.fdiv 12).fdiv (8 ^ k.toNat)) (m := 8) (by decide)
        refine ⟨.nil, fun _ => ?_⟩
        show Ev _ _ _ _ _ [(".0", .local), ("k", .local), ("d", .cell)] _ [none, some (.int k), some (.int d)] _ (.str [signAt d k])
        refine Ev_idxS (x := signT) (k := ((d.fdiv 12).fdiv (8 ^ k.toNat)).fmod 8) (by show Ev _ _ _ _ _ _ _ _ _ (.str [97, 34, 98, 34, 46, 42, 91, 34]); walk_at "g") ?_ t.1 (Int.lt_trans t.2 (by decide)) (sign_at t.1 t.2).1 (hs := by intro _ _; with_unfolding_all rfl)
        refine Ev_bin (a := .int ((d.fdiv 12).fdiv (8 ^ k.toNat))) (b := .int 8) (Ev_bin (a := .int (d.fdiv 12)) (b := .int (8 ^ k.toNat)) (by walk_at "g") (Ev_bin (a := .int 8) (b := .int k) Ev_int (by walk_at "g") (Op_pow (by rw [hk']; exact Int.natCast_nonneg i) hk8.2.2)) (Op_fdiv hk8.1 hk8.2.1)) Ev_int (Op_mod (by decide))
  have := hP f n (σ.set 8 (some (.int d))) hf gn (ln ▸ m4) ⟨by walk_at "lens", by walk_at "get", by walk_at "get", by walk_at "get", by walk_at "get", by walk_at "get", by walk_at "get"⟩
  rw [List.map_append] at this
  exact this
end
end
-- LawHd3
section
open PySem.StrLaws
section
theorem raws_eq (wd : List Nat) (R : List Row) : R.map (fun p => D.str (rawOf p.1 p.2 wd)) = (rawsL wd R).map .str := by
  unfold rawsL; rw [List.map_map]; rfl
theorem places_eq {wd : List Nat} (hw : wd ∈ wds) {R : List Row} (hf : ∀ p ∈ R, p.1 ∈ fld) : (rawsL wd R).map (fun x => joinP [47, 100] (parseL x)) = placesL R := by
  unfold rawsL placesL
  rw [List.map_map]
  refine List.map_congr_left fun p hp => ?_
  exact (congrArg (joinP [47, 100]) (raw_parse hw)).trans (join_d (hf p hp))
theorem places_str (R : List Row) : R.map (fun p => D.str (pth p.1 p.2)) = (placesL R).map .str := by
  unfold placesL; rw [List.map_map]; rfl
set_option maxHeartbeats 8000000 in
theorem head_two {A : Around} {L : Addr} {cd : Value} {cells : List (Str × Addr)} {Xc : Addr → Prop} (hr : Rm A 6) {qual : Str} {script cs bases : D} {dl : List Int} (hl5 : dl.length = 5) (hdp : ∀ x ∈ dl, 0 ≤ x) {wd : List Nat} (hw : wd ∈ wds) {σ : List (Option D)} {P : Out → Prop}
    (G : HeadS script cs bases (.list (dl.map .int)) wd σ)
    (hP : ∀ R σ', RowsOk R 4 → OutS script cs bases (.list (dl.map .int)) wd R σ' → Ex prog w (K39 w.params) A (envC qual (lawSc w.params) L 259 cd cells) nm_law Xc [] σ' ((lawB w.params).drop 10) P) :
    Ex prog w (K39 w.params) A (envC qual (lawSc w.params) L 259 cd cells) nm_law Xc [] σ ((lawB w.params).drop 5) P := by
  have hP' : ∀ R σ', RowsOk R 4 → OutS script cs bases (.list (dl.map .int)) wd R σ' → Ex prog w (K39 w.params) A (envC qual (lawSc w.params) L 259 cd cells) nm_law Xc [] σ' ((lawB w.params).drop 10) P := hP
  clear hP
  obtain ⟨gl, g0, g1, g2, g4, g5, g6⟩ := G
  conv => enter [5, 2]; whnf
  have lw := wds_len hw
  have l3 : (sl dl none (some 3)).length = 3 := by
    rw [show (3 : Int) = ((3 : Nat) : Int) from rfl, sl_xn, List.length_take, hl5]; rfl
  refine Ex_cons (ExS_assignOwn 7 rfl (.inl rfl) (fun own _ => .nil) (by decide) (fun a => ?_))
  show Ex _ _ _ _ _ _ _ [(7, a, [])] _ _ _
  refine Ex_cons (ExS_forT 8 rfl (.inr rfl) (ds := (sl dl none (some 3)).map .int) (fun j d => (sl dl none (some 3))[j]? = some d) (fun _ => .int) hel_map
    (fun k (z : List Row × List (Option D)) => z.1.length = k ∧ (∀ p ∈ z.1, p.1 ∈ fld ∧ Good p.2 ∧ p.2.length ≤ 4) ∧ HeadS script cs bases (.list (dl.map .int)) wd z.2) (fun _ z => [(7, a, z.1.map rowD)]) (fun _ z => z.2) (fun own _ => EvIt_list hr.h ?hit) ([], _) ⟨rfl, fun p hp => absurd hp List.not_mem_nil, ⟨by walk_at "lens", by walk_at "get", by walk_at "get", by walk_at "get", by walk_at "get", by walk_at "get", by walk_at "get"⟩⟩ rfl rfl ?turn ?fin)
  case hit =>
    rw [← sl_map]
    have l1 : (dl.map D.int).length ≤ 5 := by rw [List.length_map]; lia
    walk_at "g"
  case turn =>
    intro k d z hd hI Xc' _ Q hN _ _ _
    have hR := hI.1
    have hok := hI.2.1
    have hk : k < 3 := l3 ▸ (List.getElem?_eq_some_iff.mp hd).elim fun q _ => q
    refine row_turn hr (R := z.1) (by rw [hR]; exact Nat.le_of_lt hk) (hdp d (sl_mem (List.mem_of_getElem? hd))) hI.2.2 fun f n σ'' hf gn ln G' => hN (z.1 ++ [(f, n)], σ'') _ _ ⟨by rw [List.length_append, hR]; rfl, fun p hp => ?_, G'⟩ rfl rfl
    rcases List.mem_append.mp hp with hp | hp
    · exact hok p hp
    · cases List.mem_singleton.mp hp
      exact ⟨hf, gn, ln⟩
  case fin =>
    intro z hI
    have hR := hI.1
    have hok := hI.2.1
    rw [List.length_map, l3] at hR
    obtain ⟨gl, g0, g1, g2, g4, g5, g6⟩ := hI.2.2
    generalize z.1 = R at *
    show Ex _ _ _ _ _ _ _ [(7, a, R.map rowD)] _ _ _
    refine Ex_freeze ?_
    have hlR : (R.map rowD).length ≤ 3 := by rw [List.length_map]; lia
    refine' Ex_cons (ExS_assignC 11 [(".0", .local), ("folder", .local), ("name", .local), ("_law_doubled", .globalImplicit), ("join", .globalImplicit), ("words", .cell)] (ds := R.map rowD) (fun _ => true) (onR fun p => .str (rawOf p.1 p.2 wd)) (twoT [none, none, some (.str wd)]) (.inl rfl) (by rfl) hr.h (fun own _ => EvIt_list hr.h ?hit) ?hlen ?hsc ?hok ?hkind ?hnc ?hnames ?hasg ?hturn ?hP)
    walk_at "csc"
    case hit => walk_at "g"
    case hlen => rw [sizeLine_eq]; lia
    case hasg =>
      intro cl C d hd
      refine ex1E (List.mem_map.mp hd) fun p zz12 => and2E zz12 fun hp zz11 => ?_; subst zz11
      rw [comp_w (d := .str wd) (by walk_at "get")]
      exact AsgT_pair 1 2 rfl rfl hr.h
    case hturn =>
      intro cl C X' d hd
      refine ex1E (List.mem_map.mp hd) fun p zz10 => and2E zz10 fun hp zz9 => ?_; subst zz9
      refine and3E (hok p hp) fun hf gn ln => ?_
      refine ⟨.nil, fun _ => ?_⟩
      show Ev _ _ _ _ _ [(".0", .local), ("folder", .local), ("name", .local), ("_law_doubled", .globalImplicit), ("join", .globalImplicit), ("words", .cell)] _ [none, some (.str p.1), some (.str p.2), none, none, some (.str wd)] _ (.str (rawOf p.1 p.2 wd))
      refine Ev.to (d' := .str (Q257 ++ dbl 34 (joinP p.1 p.2) ++ wd)) ?_ (by rw [join_pth hf gn]; rfl)
      have lf := fld_len hf
      have lj : (joinP p.1 p.2).length ≤ 10 := by rw [join_pth hf gn]; exact pth_len hf ln
      have ldj := dbl_len_le (joinP p.1 p.2)
      refine Ev_bin (a := .str (Q257 ++ dbl 34 (joinP p.1 p.2))) (b := .str wd) (Ev_bin (a := .str Q257) (b := .str (dbl 34 (joinP p.1 p.2))) (by show Ev _ _ _ _ _ _ _ _ _ (.str [50, 53, 55, 32, 34]); walk_at "g") (by walk_at "g") (Op_addS ?_)) (Ev_name 5 rfl rfl (.inr (.inl rfl))) (Op_addS ?_)
      · rw [sizeLine_eq]; simp only [Q257, List.length_cons, List.length_nil]; lia
      · rw [sizeLine_eq]; simp only [List.length_append, Q257, List.length_cons, List.length_nil]; lia
    rw [onR_map, raws_eq]
    show Ex _ _ _ _ _ _ _ [] _ _ _
    have hlr : ((rawsL wd R).map D.str).length ≤ 3 := by rw [List.length_map]; unfold rawsL; rw [List.length_map]; lia
    refine' Ex_cons (ExS_assignC 13 [(".0", .local), ("raw", .local), ("join", .globalImplicit), ("parse257", .globalImplicit)] (ds := (rawsL wd R).map .str) (fun _ => true) (onS fun x => joinP [47, 100] (parseL x)) (fun d => [none, some d, none, none]) (.inl rfl) (by rfl) hr.h (fun own _ => EvIt_list hr.h ?hit) ?hlen ?hsc ?hok ?hkind ?hnc ?hnames (fun cl C d hd => AsgT_name 1 rfl) ?hturn ?hP2)
    walk_at "csc"
    case hit => walk_at "g"
    case hlen => rw [sizeLine_eq]; lia
    case hturn =>
      intro cl C X' d hd
      refine ex1E (List.mem_map.mp hd) fun x zz8 => and2E zz8 fun hx zz7 => ?_; subst zz7
      refine ex1E (List.mem_map.mp hx) fun p zz6 => and2E zz6 fun hp zz5 => ?_; subst zz5
      refine and3E (hok p hp) fun hf gn ln => ?_
      refine ⟨.nil, fun _ => ?_⟩
      show Ev _ _ _ _ _ [(".0", .local), ("raw", .local), ("join", .globalImplicit), ("parse257", .globalImplicit)] _ [none, some (.str (rawOf p.1 p.2 wd)), none, none] _ (.str (joinP [47, 100] (parseL (rawOf p.1 p.2 wd))))
      have lr : (rawOf p.1 p.2 wd).length ≤ 31 := raw_len hf ln hw
      have lp : (parseL (rawOf p.1 p.2 wd)).length ≤ 10 := by rw [raw_parse hw]; exact pth_len hf ln
      refine Ev_callR (he := by rfl) (f := 202) (ds := [.str [47, 100], .str (parseL (rawOf p.1 p.2 wd))]) (Ev_globE (by decide +kernel) (g_join _)) (by rfl) (by rfl) (EvAll.cons rfl (by walk_at "g") (EvAll.cons rfl ?_ .nil)) (sp_join (by decide) (by walk_at "sz") _ _ (hr.le (by decide)))
      refine Ev_callR (he := by rfl) (f := 70) (ds := [.str (rawOf p.1 p.2 wd)]) (Ev_globE (by decide +kernel) (g_parse257 _)) (by rfl) (by rfl) (EvAll.cons rfl (by walk_at "g") .nil) (sp_parse (by walk_at "sz") (raw_3 _ _ _) _ _ (hr.le (by decide)))
    rw [comp_map, places_eq hw fun p hp => (hok p hp).1]
    show Ex _ _ _ _ _ _ _ [] _ _ _
    have hu : A.units < cLine := hr.uu (k := 0) (by decide)
    refine Ex_cons (ExS_if (b := false) ?_ (fun h => nomatch h) (fun _ => Ex_nil ?_))
    · refine EvT_of ?_
      refine EvB.to (EvB_cmp (hm := by with_unfolding_all rfl) (a := .list ((placesL R).map .str)) (b := .list ((placesL R).map .str)) (by walk_at "g") ?_ (Op_neL hu)) (by simp)
      rw [← places_str, ← onR_map (fun p => D.str (pth p.1 p.2)) R]
      refine' Ev_listcomp [(".0", .local), ("folder", .local), ("name", .local)] (ds := R.map rowD) (fun _ => true) (onR fun p => .str (pth p.1 p.2)) (twoT []) hr.h (EvIt_list hr.h ?hit) ?hlen ?hsc ?hok ?hkind ?hnc ?hnames ?hasg ?hturn
      walk_at "csc"
      case hit => walk_at "g"
      case hlen => rw [sizeLine_eq]; lia
      case hasg =>
        intro cl C d hd
        refine ex1E (List.mem_map.mp hd) fun p zz4 => and2E zz4 fun hp zz3 => ?_; subst zz3
        exact AsgT_pair 1 2 rfl rfl hr.h
      case hturn =>
        intro cl C X' _ d hd
        refine ex1E (List.mem_map.mp hd) fun p zz2 => and2E zz2 fun hp zz1 => ?_; subst zz1
        refine and3E (hok p hp) fun hf gn ln => ?_
        have lf := fld_len hf
        refine ⟨.nil, fun _ => ?_⟩
        show Ev _ _ _ _ _ [(".0", .local), ("folder", .local), ("name", .local)] _ [none, some (.str p.1), some (.str p.2)] _ (.str (pth p.1 p.2))
        refine Ev.to (d' := .str (replL (p.1 ++ [47] ++ p.2) [47, 47] [47])) ?_ (by rw [repl_pth hf (ns47 gn.s)])
        refine Ev_replace (he := by rfl) (by walk_at "g") (by decide +kernel) (by decide +kernel) (by decide) (by walk_at "sz")
    show Ex _ _ _ _ _ _ _ [] _ _ _
    exact hP' R _ ⟨hR, fun p hp => (hok p hp).1, fun p hp => (hok p hp).2.1, fun p hp => (hok p hp).2.2⟩ ⟨by walk_at "lens", by walk_at "get", by walk_at "get", by walk_at "get", by walk_at "get", by walk_at "get", by walk_at "get", by walk_at "get", by walk_at "get", by walk_at "get"⟩
end
end
-- LawAll
section
open PySem.StrLaws
section
noncomputable def grow : Nat → Nat
  | 0 => 4
  | 1 => 12
  | _ => 28
set_option maxHeartbeats 8000000 in
theorem law_tail {A : Around} {L : Addr} {cd : Value} {cells : List (Str × Addr)} {Xc : Addr → Prop} (hr : Rm A 6) {qual : Str} (hA : A.frames = some [envC qual (lawSc w.params) L 259 cd cells]) {script cs bases : D} {dl : List Int} (hl5 : dl.length = 5) (hdp : ∀ x ∈ dl, 0 ≤ x) {wd : List Nat} (hw : wd ∈ wds) {R : List Row} (ok : RowsOk R 4) {σ : List (Option D)}
    (G : OutS script cs bases (.list (dl.map .int)) wd R σ) :
    Ex prog w (K39 w.params) A (envC qual (lawSc w.params) L 259 cd cells) nm_law Xc [] σ ((lawB w.params).drop 10) (fun o => o = .ret (.bool true)) := by
  have l2 : (sl dl (some 3) none).length = 2 := by
    rw [show (3 : Int) = ((3 : Nat) : Int) from rfl, sl_nx, List.length_drop]; lia
  refine Ex_cons (ExS_forT 8 rfl (.inr rfl) (ds := (sl dl (some 3) none).map .int) (fun j d => (sl dl (some 3) none)[j]? = some d) (fun _ => .int) hel_map
    (fun k (z : List Row × List (Option D)) => RowsOk z.1 (grow k) ∧ OutS script cs bases (.list (dl.map .int)) wd z.1 z.2) (fun _ _ => []) (fun _ z => z.2) ?_ (R, σ) ⟨ok, G⟩ rfl rfl ?_ ?_)
  · intro own _
    obtain ⟨gl, g0, g1, g2, g4, g5, g6, g7, g11, g13⟩ := G
    conv => enter [5, 2]; whnf
    refine EvIt_list hr.h ?_
    rw [← sl_map]
    have l1 : (dl.map D.int).length ≤ 5 := by rw [List.length_map]; lia
    walk_at "g"
  · intro k d z hd hI Xc' _ Q hN _ _ _
    have hk : k < 2 := l2 ▸ (List.getElem?_eq_some_iff.mp hd).elim fun q _ => q
    have hg : grow k ≤ 30 ∧ 2 * grow k + 4 = grow (k + 1) := by
      have : k = 0 ∨ k = 1 := by lia
      rcases this with rfl | rfl <;> decide
    exact outer_turn hr hA hI.1 hg.1 hw (hdp d (sl_mem (List.mem_of_getElem? hd))) hI.2 fun R'' σ'' ok'' G'' => hN (R'', σ'') _ _ ⟨hg.2 ▸ ok'', G''⟩ rfl rfl
  · intro z hI
    have ok' := hI.1
    rw [List.length_map, l2] at ok'
    show Ex _ _ _ _ _ _ _ [] _ _ _
    refine Ex_cons (ExS_forT 3 rfl (.inl rfl) (ds := intsD 0 3) _ _ hel_range (fun k σ' => OutS script cs bases (.list (dl.map .int)) wd z.1 σ') (fun _ _ => []) (fun _ σ' => σ') ?_ z.2 hI.2 rfl rfl ?_ ?_)
    · intro own _
      conv => enter [5, 2]; whnf
      exact EvIt_range1 hr.h (by walk_at "g") Ev_int (by decide) (by decide)
    · intro k _ σ'' hk G'' Xc' _ Q hN _ _ _
      rw [Int.zero_add]
      exact last_turn (hr.le (by decide)) ok' (by decide) hw hk G'' fun σ'' g => hN σ'' _ _ g rfl rfl
    · intro σ'' _
      show Ex _ _ _ _ _ _ _ [] _ _ _
      exact Ex_cons (ExS_ret Ev_bool rfl)
theorem law_body {A : Around} {L : Addr} {cd : Value} {cells : List (Str × Addr)} {Xc : Addr → Prop} (hr : Rm A 6) {qual : Str} (hA : A.frames = some [envC qual (lawSc w.params) L 259 cd cells]) {ns : List Int} (hn : ns.length ≤ 63) {σ : List (Option D)} (gl : σ.length = 56) (g0 : σ[0]? = some (some (.list (ns.map .int)))) :
    Ex prog w (K39 w.params) A (envC qual (lawSc w.params) L 259 cd cells) nm_law Xc [] σ (lawB w.params) (fun o => o = .ret (.bool true)) :=
  head_one hr hn gl g0 fun _ _ hw G => head_two hr (draws_len ns) (draws_in ns) hw G fun _ _ ok G' => law_tail hr hA (draws_len ns) (draws_in ns) hw ok G'
end
end
-- LawFin
end
end Mine
end
section
open PySem PySem.W PySem.Calls PyProof.Rows PySem.Builtin PySem.Builtin.Str PySem.StrLaws
namespace Mine
theorem law_call1 : LawG (prog, w) := by
  intro s l vs ns R kin bi h96 bm hl hI hn hR
  show codeAny (model prog w) callerA (.call (.ref 259) ⟨[.ref l], []⟩) R s
  refine' call_top nm_law (f := 259) (nm := "script") ?hK ?hcd (KL _) ?hsc (by decide +kernel) ?hk ?hco ?hg rfl (by decide +kernel) ?h96K ?hbind kin bi h96 bm hl hI (fun A L cells Xc hr hA => ?hbody) hR
  (case hK => rfl)
  (case hcd => kernel_rfl)
  (case hsc => rfl)
  (case hk => rfl)
  (case hco => rfl)
  (case hg => rfl)
  case h96K => kernel_rfl
  case hbind => rfl
  case hbody => exact law_body hr hA hn rfl rfl
theorem law_call {prog : Program} {w : World} {s : Shared} {l : Addr} {vs : List Value} {ns : List Int} {R : Result → Shared → Prop}
    (kin : (K39 w.params).In s.heap) (bi : ∃ mb, s.heap.Ns builtinsNs mb ∧ ∀ x : Str, x ≠ "__name__" → mb x = bootBuiltins x) (h96 : s.heap.get? 96 = some (tabObj #[])) (bm : BmAt s.heap)
    (hl : s.heap.IsList l vs.toArray) (hI : IntsAre vs ns) (hn : ns.length ≤ 63)
    (hR : ∀ h' tk, (∀ b o, b ≠ 96 → s.heap.get? b = some o → h'.get? b = some o) → (∃ ps, h'.get? 96 = some (tabObj ps)) → R (.ok (.ret (.bool true))) { s with heap := h', toks := tk }) :
    codeAny (model prog w) callerA (.call (.ref 259) ⟨[.ref l], []⟩) R s := 
  LawG.all law_call1 (prog, w) s l vs ns R kin bi h96 bm hl hI hn hR
theorem bm_of {w : World} {h : Heap} {mg : Str → Option Value} (kin : (K39 w.params).In h) (g : h.Ns mainGlobals mg) (b : ∃ bm ob, mg "__builtins__" = some (.ref bm) ∧ bm ≠ builtinsNs ∧ h.get? bm = some ob ∧ ob.cls = .type "module" ∧ ob.dict = some builtinsNs ∧ ob.data = .plain) : BmAt h := by
  obtain ⟨bm, ob, e1, _, e2, r⟩ := b
  have e := mg_of kin g (n := "__builtins__") (v := .ref 4) (by kernel_rfl)
  rw [e] at e1; cases e1
  exact ⟨ob, e2, r⟩
theorem fa_of {w : World} {h : Heap} {mg : Str → Option Value} {fa : Addr} (kin : (K39 w.params).In h) (g : h.Ns mainGlobals mg) (e1 : mg (Str.ofString "law") = some (.ref fa)) : fa = 259 := by
  have e := mg_of kin g (n := Str.ofString "law") (v := .ref 259) (by kernel_rfl)
  rw [e] at e1; cases e1; rfl
end Mine
namespace Mine.hd
theorem tw10727248033764811480 : True := trivial
theorem tw14246236162039180721 : True := trivial
theorem tw4870687313549177768 : True := trivial
theorem tw6337475837808752912 : True := trivial
theorem tw26425463804135960 : True := trivial
theorem tw5935357597643337413 : True := trivial
theorem tw1573125329251079302 : True := trivial
theorem tw17935226425611649559 : True := trivial
theorem tw12629568148972539762 : True := trivial
theorem tw1847840615245081061 : True := trivial
theorem tw658494146261299958 : True := trivial
theorem tw9440118169554580438 : True := trivial
theorem tw17703440808498902325 : True := trivial
theorem tw10030107230732127627 : True := trivial
theorem tw10062127864464572529 : True := trivial
theorem tw10111801491309104144 : True := trivial
theorem tw1011335219593555734 : True := trivial
theorem tw1013155817946168525 : True := trivial
theorem tw10170382586518783626 : True := trivial
theorem tw10258225898301398825 : True := trivial
theorem tw10258999931320997221 : True := trivial
theorem tw10360471539772378328 : True := trivial
theorem tw10424393626065333798 : True := trivial
theorem tw10458740792067480800 : True := trivial
theorem tw10583446816852156582 : True := trivial
theorem tw10603584201595350602 : True := trivial
theorem tw10614716105012338702 : True := trivial
theorem tw10678649693572172417 : True := trivial
theorem tw10743916045514856203 : True := trivial
theorem tw10792051664901133789 : True := trivial
theorem tw10879034167726328663 : True := trivial
theorem tw1097998534492414930 : True := trivial
theorem tw11032806212648032379 : True := trivial
theorem tw11041590408114104254 : True := trivial
theorem tw11054480109507316185 : True := trivial
theorem tw11128854368766332075 : True := trivial
theorem tw11162318198679636149 : True := trivial
theorem tw11210553801493137410 : True := trivial
theorem tw11232374478483605306 : True := trivial
theorem tw11319097763535126812 : True := trivial
theorem tw11319892378374348655 : True := trivial
theorem tw11389486352061984695 : True := trivial
theorem tw11465210709893060100 : True := trivial
theorem tw11631869004601391166 : True := trivial
theorem tw11631947586910100387 : True := trivial
theorem tw11652457597714270106 : True := trivial
theorem tw11660266114150955751 : True := trivial
theorem tw11709330566771433103 : True := trivial
theorem tw11754176132448286083 : True := trivial
theorem tw11893437276241958245 : True := trivial
theorem tw11917015161858427179 : True := trivial
theorem tw11953376511379268794 : True := trivial
theorem tw1197925565968671727 : True := trivial
theorem tw12023040214023829324 : True := trivial
theorem tw12070051907170230399 : True := trivial
theorem tw12092154237167983948 : True := trivial
theorem tw12112201142124510154 : True := trivial
theorem tw12173100003817136821 : True := trivial
theorem tw1222794163293265305 : True := trivial
theorem tw12399718760709695909 : True := trivial
theorem tw1241404454085649124 : True := trivial
theorem tw12486720848796965907 : True := trivial
theorem tw12588582704262371052 : True := trivial
theorem tw12598724348716800887 : True := trivial
theorem tw12631932088317031055 : True := trivial
theorem tw12647368939536790636 : True := trivial
theorem tw12693339787485243540 : True := trivial
theorem tw12901994302517312135 : True := trivial
theorem tw12936449754285732098 : True := trivial
theorem tw12949589719889679912 : True := trivial
theorem tw13181700845877081190 : True := trivial
theorem tw13225837485096350037 : True := trivial
theorem tw13267510147771200024 : True := trivial
theorem tw13315533130655954831 : True := trivial
theorem tw13330244855972007585 : True := trivial
theorem tw13353348626548451038 : True := trivial
theorem tw13368278939475635651 : True := trivial
theorem tw13409441903868389331 : True := trivial
theorem tw13431754692932380062 : True := trivial
theorem tw13483081372092288885 : True := trivial
theorem tw13518370688599389936 : True := trivial
theorem tw1359830224848277088 : True := trivial
theorem tw13599939671180243173 : True := trivial
theorem tw13609717118414637909 : True := trivial
theorem tw1361877798171713420 : True := trivial
theorem tw13753220567063992666 : True := trivial
theorem tw13828106393651249627 : True := trivial
theorem tw13855946660403688772 : True := trivial
theorem tw13866372431405929976 : True := trivial
theorem tw1409312971732116557 : True := trivial
theorem tw1413172679324656950 : True := trivial
theorem tw14168552714766633299 : True := trivial
theorem tw14176624398918483544 : True := trivial
theorem tw14294001040229213422 : True := trivial
theorem tw14353793391729792155 : True := trivial
theorem tw14359937706829736625 : True := trivial
theorem tw1439246655266547700 : True := trivial
theorem tw14400467628812073631 : True := trivial
theorem tw14457593812595234344 : True := trivial
theorem tw14478148883734587675 : True := trivial
theorem tw1452849714261714991 : True := trivial
theorem tw14553816603554493358 : True := trivial
theorem tw14560493823538711346 : True := trivial
theorem tw14620637471214046174 : True := trivial
theorem tw14705683404202351889 : True := trivial
theorem tw1486356043385980881 : True := trivial
theorem tw14892549342360969540 : True := trivial
theorem tw14955159897011116063 : True := trivial
theorem tw14980023328507725902 : True := trivial
theorem tw15083628210047938546 : True := trivial
theorem tw15166520500009309586 : True := trivial
theorem tw15367242080415987702 : True := trivial
theorem tw15368132723985388332 : True := trivial
theorem tw15411387601460861337 : True := trivial
theorem tw15422856539912107476 : True := trivial
theorem tw15529170255622000948 : True := trivial
theorem tw15615420239508185596 : True := trivial
theorem tw15615537253650120727 : True := trivial
theorem tw15616948245753086127 : True := trivial
theorem tw15642763164714097627 : True := trivial
theorem tw15643275761693703936 : True := trivial
theorem tw15665482370847157851 : True := trivial
theorem tw15673258824015622330 : True := trivial
theorem tw15683763237869141255 : True := trivial
theorem tw15833661619300960221 : True := trivial
theorem tw15837987909243819085 : True := trivial
theorem tw15852365999677673905 : True := trivial
theorem tw1589133516308662214 : True := trivial
theorem tw15967140613478806237 : True := trivial
theorem tw1600037746751723098 : True := trivial
theorem tw16064382804478563927 : True := trivial
theorem tw16091413853298234908 : True := trivial
theorem tw16154546982801380032 : True := trivial
theorem tw16157073509204512506 : True := trivial
theorem tw16194383521188589630 : True := trivial
theorem tw16211521421427940678 : True := trivial
theorem tw16299908979028503884 : True := trivial
theorem tw16345102440705955213 : True := trivial
theorem tw16412773359747925120 : True := trivial
theorem tw16432713993328977331 : True := trivial
theorem tw16650738400726616396 : True := trivial
theorem tw16722109127936396110 : True := trivial
theorem tw16772102934027710169 : True := trivial
theorem tw16853341256802265648 : True := trivial
theorem tw16904818350239718627 : True := trivial
theorem tw16920754564084929960 : True := trivial
theorem tw16945582573551092051 : True := trivial
theorem tw16970440968685349367 : True := trivial
theorem tw17047115858639842297 : True := trivial
theorem tw17087091549796120035 : True := trivial
theorem tw17177331786930743035 : True := trivial
theorem tw17183224562656869120 : True := trivial
theorem tw17213754286329925777 : True := trivial
theorem tw17252143746492648416 : True := trivial
theorem tw17311223219408574766 : True := trivial
theorem tw17447410573909459338 : True := trivial
theorem tw17542962492245011380 : True := trivial
theorem tw17588044629489971554 : True := trivial
theorem tw17599816209265215132 : True := trivial
theorem tw1760603350576429475 : True := trivial
theorem tw17606422857730326317 : True := trivial
theorem tw17650839729002327288 : True := trivial
theorem tw17672654358674132775 : True := trivial
theorem tw17711083657039698284 : True := trivial
theorem tw17739348878880393726 : True := trivial
theorem tw1778080364554679531 : True := trivial
theorem tw17811857907434863601 : True := trivial
theorem tw17824972565232928905 : True := trivial
theorem tw1784385830474605701 : True := trivial
theorem tw17903497710992402801 : True := trivial
theorem tw17948085552500728524 : True := trivial
theorem tw17975533764899295144 : True := trivial
theorem tw1800889605409440832 : True := trivial
theorem tw18103342009636024947 : True := trivial
theorem tw18103739167541040201 : True := trivial
theorem tw18166333605607142505 : True := trivial
theorem tw18219297243305740317 : True := trivial
theorem tw18245042118932799458 : True := trivial
theorem tw18282886421538689439 : True := trivial
theorem tw18293732401869909652 : True := trivial
theorem tw18300207936620678264 : True := trivial
theorem tw18322514126500204803 : True := trivial
theorem tw18343703819029505601 : True := trivial
theorem tw1836080755315867724 : True := trivial
theorem tw1865391376527767206 : True := trivial
theorem tw1882180444382439491 : True := trivial
theorem tw189712035060473897 : True := trivial
theorem tw1953177486944487603 : True := trivial
theorem tw208794232270334677 : True := trivial
theorem tw2101469004524951375 : True := trivial
theorem tw2114630138375439770 : True := trivial
theorem tw212345690472687942 : True := trivial
theorem tw2195365466389143174 : True := trivial
theorem tw2216850387143573719 : True := trivial
theorem tw22551697357593593 : True := trivial
theorem tw2321503477829929318 : True := trivial
theorem tw2323474266016966308 : True := trivial
theorem tw2327210489368252092 : True := trivial
theorem tw2391449824757734642 : True := trivial
theorem tw2442259710966052079 : True := trivial
theorem tw2546602858889406552 : True := trivial
theorem tw2603259988358896889 : True := trivial
theorem tw2608437505485318709 : True := trivial
theorem tw2674002104343415650 : True := trivial
theorem tw2708950531961675432 : True := trivial
theorem tw2845679848157327705 : True := trivial
theorem tw2867327485932766208 : True := trivial
theorem tw2930668341846507884 : True := trivial
theorem tw2999033326186475339 : True := trivial
theorem tw3008623586974134963 : True := trivial
theorem tw307737655149646647 : True := trivial
theorem tw3182187488490625086 : True := trivial
theorem tw3219085151875037572 : True := trivial
theorem tw3229955645248102723 : True := trivial
theorem tw3259873300814134281 : True := trivial
theorem tw3309697970292668127 : True := trivial
theorem tw3429492842335990350 : True := trivial
theorem tw3451239065008710300 : True := trivial
theorem tw3452082135128663414 : True := trivial
theorem tw3462702350737211693 : True := trivial
theorem tw3493717111155160527 : True := trivial
theorem tw3530705653197291679 : True := trivial
theorem tw3571134770919094901 : True := trivial
theorem tw3646829019195819677 : True := trivial
theorem tw3828038474966422129 : True := trivial
theorem tw3915529967508079626 : True := trivial
theorem tw3919010098100093602 : True := trivial
theorem tw3930940297936929747 : True := trivial
theorem tw395138700845864316 : True := trivial
theorem tw3953601041324332601 : True := trivial
theorem tw4014540891139286612 : True := trivial
theorem tw4065347644161347641 : True := trivial
theorem tw4086058157674990017 : True := trivial
theorem tw4115565904173853331 : True := trivial
theorem tw4172343393113369950 : True := trivial
theorem tw4225703048834024713 : True := trivial
theorem tw4297731678662094536 : True := trivial
theorem tw4315991029959535628 : True := trivial
theorem tw432457690288141553 : True := trivial
theorem tw4360684699965382250 : True := trivial
theorem tw4377701919642642989 : True := trivial
theorem tw4402725079659364252 : True := trivial
theorem tw4478166936697009375 : True := trivial
theorem tw4478964076566166474 : True := trivial
theorem tw461538923250603899 : True := trivial
theorem tw4702841417184801058 : True := trivial
theorem tw4706079058837389440 : True := trivial
theorem tw4851647983119433812 : True := trivial
theorem tw4971549296188076032 : True := trivial
theorem tw4993660671451451078 : True := trivial
theorem tw5036846961687405229 : True := trivial
theorem tw5148922909946612681 : True := trivial
theorem tw5174551420813472067 : True := trivial
theorem tw5201384275714778543 : True := trivial
theorem tw5343241284826551009 : True := trivial
theorem tw5363564295841288755 : True := trivial
theorem tw5567388512258382067 : True := trivial
theorem tw5608270528595127837 : True := trivial
theorem tw5732804406350252772 : True := trivial
theorem tw5781342201191254626 : True := trivial
theorem tw5902613922787404954 : True := trivial
theorem tw5961118342813265553 : True := trivial
theorem tw5978321128707920903 : True := trivial
theorem tw5987830557187376847 : True := trivial
theorem tw6060742912462422084 : True := trivial
theorem tw6082411064634330575 : True := trivial
theorem tw6164396464334811476 : True := trivial
theorem tw6196171512934965099 : True := trivial
theorem tw6264232113106981867 : True := trivial
theorem tw6276725880618359904 : True := trivial
theorem tw6291416237084387574 : True := trivial
theorem tw6305734824756694309 : True := trivial
theorem tw6394381022753523788 : True := trivial
theorem tw6407587892757256292 : True := trivial
theorem tw6411954120941647267 : True := trivial
theorem tw6438293893037913957 : True := trivial
theorem tw6442067068224118133 : True := trivial
theorem tw6545403380812914513 : True := trivial
theorem tw6598312636042714100 : True := trivial
theorem tw6767318904944593275 : True := trivial
theorem tw6819123309680001836 : True := trivial
theorem tw6830512106363814048 : True := trivial
theorem tw6838551448383532254 : True := trivial
theorem tw6868836192036940282 : True := trivial
theorem tw6896469178606551848 : True := trivial
theorem tw6924109203229866365 : True := trivial
theorem tw6998783941825042932 : True := trivial
theorem tw7022753741928958675 : True := trivial
theorem tw7062935652884303519 : True := trivial
theorem tw7068711184596962023 : True := trivial
theorem tw7082855905992002993 : True := trivial
theorem tw7120233287515763914 : True := trivial
theorem tw7270182246851987180 : True := trivial
theorem tw728884934406724761 : True := trivial
theorem tw7289634563603522867 : True := trivial
theorem tw7296583596125217682 : True := trivial
theorem tw7355570028127101125 : True := trivial
theorem tw7366208706002141716 : True := trivial
theorem tw7519716089354478335 : True := trivial
theorem tw7568185435610096027 : True := trivial
theorem tw758273949599710562 : True := trivial
theorem tw7610815399733428385 : True := trivial
theorem tw7721951785955056133 : True := trivial
theorem tw7746578258024575070 : True := trivial
theorem tw7752767780024739350 : True := trivial
theorem tw7754304195085646258 : True := trivial
theorem tw7914949630228597729 : True := trivial
theorem tw799355135909283525 : True := trivial
theorem tw8025032847418708242 : True := trivial
theorem tw8047900516022102942 : True := trivial
theorem tw8061450827663939861 : True := trivial
theorem tw8068729725432388964 : True := trivial
theorem tw8112040973832200146 : True := trivial
theorem tw8117029840178788049 : True := trivial
theorem tw8118217656686572654 : True := trivial
theorem tw8134915037123179040 : True := trivial
theorem tw8228950375871286339 : True := trivial
theorem tw8268277133935991078 : True := trivial
theorem tw8343274005884668182 : True := trivial
theorem tw8356816923877370021 : True := trivial
theorem tw8428860471423672150 : True := trivial
theorem tw8457440626546761165 : True := trivial
theorem tw8458067239894703972 : True := trivial
theorem tw8545014587354053640 : True := trivial
theorem tw862847711550821967 : True := trivial
theorem tw8671608845466749128 : True := trivial
theorem tw8683543433012000357 : True := trivial
theorem tw8716120427605611371 : True := trivial
theorem tw8727321023445011275 : True := trivial
theorem tw8735263284916673568 : True := trivial
theorem tw8879563391730754479 : True := trivial
theorem tw8959176491354863721 : True := trivial
theorem tw8960069828448710407 : True := trivial
theorem tw8977307856219701671 : True := trivial
theorem tw8990313861142287110 : True := trivial
theorem tw9014375795449043846 : True := trivial
theorem tw9170477692918782315 : True := trivial
theorem tw9265740137363391064 : True := trivial
theorem tw9345676750909349944 : True := trivial
theorem tw9345929723534960622 : True := trivial
theorem tw9421340871869096474 : True := trivial
theorem tw9427301549700849589 : True := trivial
theorem tw9430268157657104642 : True := trivial
theorem tw9557236495431379559 : True := trivial
theorem tw9566141503761928105 : True := trivial
theorem tw9602920947052083033 : True := trivial
theorem tw9609788390727539227 : True := trivial
theorem tw9641152695372364146 : True := trivial
theorem tw9657781627882305391 : True := trivial
theorem tw9673543361469618366 : True := trivial
theorem tw9719896912496429819 : True := trivial
theorem tw9783614193127449063 : True := trivial
theorem tw978945382295711627 : True := trivial
theorem tw991583007596301734 : True := trivial
end Mine.hd
set_option maxHeartbeats 8000000
set_option Elab.async true in
theorem Mine.hd : PySem.Challenge.rw_rt0080_01.Holds := by
  w_on
  o_law
  k_head
  case hw => w_witness2
  k_fill
  intro w s₀ s₁ mg mb G Y fa o pm cd doc dV kV ho hd' hcd hD hmg hg args vals as hpre hlay hrd hwl hlo
  have KX := km_in_of Y
  have KM : (Mine.K39 w.params).In s₁.heap := km_in_of Y
  km_tabs Y
  refine Ground.open G ?_
  intro T B D TE TW
  km_lay T hmg ho hd' cd
  have hfa := Mine.fa_of KM T.g hmg
  subst hfa
  wrow_args hpre hlay hrd hwl hlo
  all_goals (first | refine callC_kw (enter_call ?_) | refine enter_call ?_)
  kn_posts
  rename_i hc _
  refine Mine.law_call KM ⟨mb, T.b, T.builtins⟩ (hT8 96 (.head _)) (Mine.bm_of KM T.g T.bmain) (by assumption) (by assumption) (by lia) fun h' tk hk hps => ?_
  refine ⟨⟨.inl ⟨.bool true, .bool true, [], rfl, fun _ => rfl, .bool true, ?post, fun _ => ⟨List.nodup_nil, fun a ha => absurd ha List.not_mem_nil⟩⟩, fun b o e => ?keep, rfl, hg⟩, hps, trivial⟩
  case keep =>
    refine hk b o (fun q => ?_) (of_hideAll _ e)
    rw [q] at e
    have := hideAll_none (h := s₁.heap) [96] (b := 96) (.head _)
    rw [show (ghostOf s₁.heap [(100, 96)]) = hideAll s₁.heap [96] from rfl, this] at e
    cases e
  case post => exact postW_of (by first | wrow_shape | rfl) (by wtm_val) (by first | rfl | simp)
theorem PySem.Challenge.cw_rt0080_01_holds : PySem.Challenge.rw_rt0080_01.Holds := by
  exact Mine.hd
namespace Mine
end Mine
end
