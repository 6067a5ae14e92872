import PyProof.Rows.All
import Wide.All
import OpenK.AllK
import Wide.FinOn
import PySem.Challenge.RW_in0073_01
open PySem PySem.Calls PySem.W PyProof.Rows
set_option Elab.async false
set_option linter.unusedVariables false
set_option maxRecDepth 100000
set_option maxHeartbeats 8000000
namespace Mine
noncomputable def kSt (i : Nat) : Stmt := PySem.Challenge.rw_in0073_01.row.prog.main.body.getD i default
noncomputable def kMeth (i j : Nat) : Stmt := match kSt i with
  | .ClassDef _ _ _ b _ _ _ _ _ _ _ => b.getD j default
  | _ => default
noncomputable def kFn (s : Stmt) (q : Str) (md : Value) (cd : Addr) : Obj := match s with
  | .FunctionDef n a b _ _ _ sc _ _ _ => { cls := .type "function", data := .func { name := n, qualname := q, params := a, body := .stmts b, scope := sc, globals := 3, closure := [], defaults := .none, kwdefaults := .none, pyModule := md, code := .ref cd } }
  | _ => default
noncomputable def kView : Program := { PySem.Challenge.rw_in0073_01.row.prog with main := { PySem.Challenge.rw_in0073_01.row.prog.main with body := [0, 1, 3, 4, 5, 6, 8, 9, 11, 12, 14, 15, 17, 19, 21, 22, 24, 26, 28, 29, 30, 31, 33, 34, 35, 36].map kSt } }
noncomputable def kFrag : Params → Frag := fun P =>
  (nat_lit 2, { cls := Value.none, data := Data.dict #[{ hash := PyData.keyHash P (Str.ofString "\x69mport.loaded._sre"), key := Value.str (Str.ofString "\x69mport.loaded._sre") 183, val := Value.bool true }, { hash := PyData.keyHash P (Str.ofString "class._frozen_importlib.BuiltinImporter"), key := Value.str (Str.ofString "class._frozen_importlib.BuiltinImporter") 185, val := Value.ref 14 }, { hash := PyData.keyHash P (Str.ofString "watched.\x69mport"), key := Value.str (Str.ofString "watched.\x69mport") 206, val := Value.ref 18 }, { hash := PyData.keyHash P (Str.ofString "class._frozen_importlib.ModuleSpec"), key := Value.str (Str.ofString "class._frozen_importlib.ModuleSpec") 216, val := Value.ref 22 }, { hash := PyData.keyHash P (Str.ofString "sys.modules.booked-epoch"), key := Value.str (Str.ofString "sys.modules.booked-epoch") 245, val := Value.int 3 0 }, { hash := PyData.keyHash P (Str.ofString "\x69mport.later-laid._sre"), key := Value.str (Str.ofString "\x69mport.later-laid._sre") 270, val := Value.bool true }, { hash := PyData.keyHash P (Str.ofString "watched.library"), key := Value.str (Str.ofString "watched.library") 272, val := Value.ref 27 }, { hash := PyData.keyHash P (Str.ofString "watched.library-objects"), key := Value.str (Str.ofString "watched.library-objects") 0, val := Value.str (Str.ofString "\x0c") 0 }, { hash := PyData.keyHash P (Str.ofString "watched.library-deep._sre"), key := Value.str (Str.ofString "watched.library-deep._sre") 273, val := Value.str (Str.ofString "\x04\x00\x00\x0b\x04\x00\x00\x0b\x04\x00\x00\x03\x04\x00\x00\x0b\x08\x04dict\x02") 0 }] 9 }) ::
   (nat_lit 3, { cls := Value.type "dict", data := Data.dict #[{ hash := PyData.keyHash P (Str.ofString "__name__"), key := Value.str (Str.ofString "__name__") 165, val := Value.str (Str.ofString "law_in0073_01") 752 }, { hash := PyData.keyHash P (Str.ofString "__doc__"), key := Value.str (Str.ofString "__doc__") 166, val := Value.none }, { hash := PyData.keyHash P (Str.ofString "__package__"), key := Value.str (Str.ofString "__package__") 167, val := Value.none }, { hash := PyData.keyHash P (Str.ofString "__loader__"), key := Value.str (Str.ofString "__loader__") 168, val := Value.builtin "__main__.__loader__#opaque" }, { hash := PyData.keyHash P (Str.ofString "__spec__"), key := Value.str (Str.ofString "__spec__") 169, val := Value.none }, { hash := PyData.keyHash P (Str.ofString "__annotations__"), key := Value.str (Str.ofString "__annotations__") 170, val := Value.ref 6 }, { hash := PyData.keyHash P (Str.ofString "__builtins__"), key := Value.str (Str.ofString "__builtins__") 171, val := Value.ref 4 }, { hash := PyData.keyHash P (Str.ofString "__file__"), key := Value.str (Str.ofString "__file__") 173, val := Value.str (Str.ofString "/claim/cut.py") 172 }, { hash := PyData.keyHash P (Str.ofString "__cached__"), key := Value.str (Str.ofString "__cached__") 174, val := Value.none }, { hash := PyData.keyHash P (Str.ofString "_sre"), key := Value.str (Str.ofString "_sre") 275, val := Value.ref 12 }, { hash := PyData.keyHash P (Str.ofString "_wall"), key := Value.str (Str.ofString "_wall") 288, val := Value.ref 38 }, { hash := PyData.keyHash P (Str.ofString "twin_re_1_smtplib"), key := Value.str (Str.ofString "twin_re_1_smtplib") 306, val := Value.ref 43 }, { hash := PyData.keyHash P (Str.ofString "_twin_re_2"), key := Value.str (Str.ofString "_twin_re_2") 348, val := Value.ref 48 }, { hash := PyData.keyHash P (Str.ofString "CRLF"), key := Value.str (Str.ofString "CRLF") 350, val := Value.str (Str.ofString "\x0d\n") 349 }, { hash := PyData.keyHash P (Str.ofString "quotedata"), key := Value.str (Str.ofString "quotedata") 357, val := Value.ref 55 }, { hash := PyData.keyHash P (Str.ofString "twin_re_1_fnmatch"), key := Value.str (Str.ofString "twin_re_1_fnmatch") 397, val := Value.ref 60 }, { hash := PyData.keyHash P (Str.ofString "translate"), key := Value.str (Str.ofString "translate") 406, val := Value.ref 67 }, { hash := PyData.keyHash P (Str.ofString "_special_chars_map"), key := Value.str (Str.ofString "_special_chars_map") 554, val := Value.ref 69 }, { hash := PyData.keyHash P (Str.ofString "escape"), key := Value.str (Str.ofString "escape") 561, val := Value.ref 79 }, { hash := PyData.keyHash P (Str.ofString "_translate"), key := Value.str (Str.ofString "_translate") 582, val := Value.ref 86 }, { hash := PyData.keyHash P (Str.ofString "_join_translated_parts"), key := Value.str (Str.ofString "_join_translated_parts") 595, val := Value.ref 93 }, { hash := PyData.keyHash P (Str.ofString "_plain_name"), key := Value.str (Str.ofString "_plain_name") 606, val := Value.ref 100 }, { hash := PyData.keyHash P (Str.ofString "ABCMeta"), key := Value.str (Str.ofString "ABCMeta") 632, val := Value.ref 117 }, { hash := PyData.keyHash P (Str.ofString "_ABCLike"), key := Value.str (Str.ofString "_ABCLike") 675, val := Value.ref 150 }, { hash := PyData.keyHash P (Str.ofString "_abc_plain_meta"), key := Value.str (Str.ofString "_abc_plain_meta") 682, val := Value.ref 159 }, { hash := PyData.keyHash P (Str.ofString "fspath"), key := Value.str (Str.ofString "fspath") 694, val := Value.ref 166 }, { hash := PyData.keyHash P (Str.ofString "_check_arg_types"), key := Value.str (Str.ofString "_check_arg_types") 707, val := Value.ref 173 }, { hash := PyData.keyHash P (Str.ofString "_get_sep"), key := Value.str (Str.ofString "_get_sep") 716, val := Value.ref 180 }, { hash := PyData.keyHash P (Str.ofString "join"), key := Value.str (Str.ofString "join") 727, val := Value.ref 187 }, { hash := PyData.keyHash P (Str.ofString "splitroot"), key := Value.str (Str.ofString "splitroot") 736, val := Value.ref 194 }, { hash := PyData.keyHash P (Str.ofString "normpath"), key := Value.str (Str.ofString "normpath") 751, val := Value.ref 201 }, { hash := PyData.keyHash P (Str.ofString "_law_row"), key := Value.str (Str.ofString "_law_row") 759, val := Value.ref 206 }, { hash := PyData.keyHash P (Str.ofString "_law_place"), key := Value.str (Str.ofString "_law_place") 770, val := Value.ref 213 }, { hash := PyData.keyHash P (Str.ofString "_law_fits"), key := Value.str (Str.ofString "_law_fits") 781, val := Value.ref 220 }, { hash := PyData.keyHash P (Str.ofString "law"), key := Value.str (Str.ofString "law") 787, val := Value.ref 225 }] 35 }) ::
   (nat_lit 32, { cls := Value.type "tuple", data := Data.seq #[] }) ::
   (nat_lit 34, { cls := Value.type "tuple", data := Data.seq #[Value.str (Str.ofString "k") 285] }) ::
   (nat_lit 35, { cls := Value.type "tuple", data := Data.seq #[] }) ::
   (nat_lit 37, { cls := Value.type "code", data := Data.fields #[Value.str (Str.ofString "_wall") 282, Value.str (Str.ofString "_wall") 283, Value.str (Str.ofString "/claim/cut.py") 284, Value.int 2 0, Value.int 1 0, Value.int 0 0, Value.int 0 0, Value.int 3 0, Value.ref 32, Value.bool true, Value.int 276 0, Value.ref 33, Value.none, Value.ref 34, Value.ref 35, Value.ref 36, Value.int 286 0, Value.int 2 0, Value.str (Str.ofString "/claim/cut.py") 287] }) ::
   (nat_lit 38, (⟨_, by conv => (rhs; whnf)⟩ : {o : Obj // o = kFn (kSt 1) (Str.ofString "_wall") (Value.str (Str.ofString "__main__") 164) 37}).1) ::
   (nat_lit 42, { cls := Value.type "tuple", data := Data.seq #[Value.int 14 0, Value.int 4 0, Value.int 0 0, Value.int 1 0, Value.int 1 0, Value.int 6 0, Value.int 1 0, Value.int 16 0, Value.int 46 0, Value.int 1 0] }) ::
   (nat_lit 43, { cls := Value.type "re.Pattern", data := Data.fields #[Value.str (Str.ofString "(?m)^\\.") 292, Value.int 40 305, Value.int 0 0, Value.none, Value.none, Value.ref 42, Value.int 0 0] }) ::
   (nat_lit 47, { cls := Value.type "tuple", data := Data.seq #[Value.int 14 0, Value.int 9 0, Value.int 4 0, Value.int 1 0, Value.int 2 0, Value.int 16 0, Value.int 10 0, Value.int 16 0, Value.int 13 0, Value.int 0 0, Value.int 7 0, Value.int 7 0, Value.int 16 0, Value.int 13 0, Value.int 16 0, Value.int 10 0, Value.int 15 0, Value.int 18 0, Value.int 5 0, Value.int 16 0, Value.int 10 0, Value.int 15 0, Value.int 13 0, Value.int 11 0, Value.int 16 0, Value.int 13 0, Value.int 5 0, Value.int 5 0, Value.int 0 0, Value.int 16 0, Value.int 10 0, Value.int 1 0, Value.int 15 0, Value.int 2 0, Value.int 0 0, Value.int 1 0] }) ::
   (nat_lit 48, { cls := Value.type "re.Pattern", data := Data.fields #[Value.str (Str.ofString "(?:\\r\\n|\\n|\\r(?!\\n))") 308, Value.int 32 347, Value.int 0 0, Value.none, Value.none, Value.ref 47, Value.int 0 0] }) ::
   (nat_lit 49, { cls := Value.type "tuple", data := Data.seq #[] }) ::
   (nat_lit 51, { cls := Value.type "tuple", data := Data.seq #[Value.str (Str.ofString "data") 354] }) ::
   (nat_lit 52, { cls := Value.type "tuple", data := Data.seq #[] }) ::
   (nat_lit 54, { cls := Value.type "code", data := Data.fields #[Value.str (Str.ofString "quotedata") 351, Value.str (Str.ofString "quotedata") 352, Value.str (Str.ofString "/claim/cut.py") 353, Value.int 9 0, Value.int 1 0, Value.int 0 0, Value.int 0 0, Value.int 3 0, Value.ref 49, Value.bool true, Value.int 276 0, Value.ref 50, Value.none, Value.ref 51, Value.ref 52, Value.ref 53, Value.int 355 0, Value.int 9 0, Value.str (Str.ofString "/claim/cut.py") 356] }) ::
   (nat_lit 55, (⟨_, by conv => (rhs; whnf)⟩ : {o : Obj // o = kFn (kSt 6) (Str.ofString "quotedata") (Value.str (Str.ofString "cpy313.smtplib") 289) 54}).1) ::
   (nat_lit 59, { cls := Value.type "tuple", data := Data.seq #[Value.int 14 0, Value.int 14 0, Value.int 4 0, Value.int 1 0, Value.int 1 0, Value.int 9 0, Value.int 0 0, Value.int 64 0, Value.int 0 0, Value.int 1342177280 0, Value.int 0 0, Value.int 0 0, Value.int 0 0, Value.int 0 0, Value.int 0 0, Value.int 17 0, Value.int 0 0, Value.int 13 0, Value.int 11 0, Value.int 9 0, Value.int 0 0, Value.int 64 0, Value.int 0 0, Value.int 1342177280 0, Value.int 0 0, Value.int 0 0, Value.int 0 0, Value.int 0 0, Value.int 0 0, Value.int 17 0, Value.int 1 0, Value.int 1 0] }) ::
   (nat_lit 60, { cls := Value.type "re.Pattern", data := Data.fields #[Value.str (Str.ofString "([&~|])") 361, Value.int 32 396, Value.int 1 0, Value.none, Value.none, Value.ref 59, Value.int 0 0] }) ::
   (nat_lit 61, { cls := Value.type "tuple", data := Data.seq #[] }) ::
   (nat_lit 63, { cls := Value.type "tuple", data := Data.seq #[Value.str (Str.ofString "pat") 401, Value.str (Str.ofString "STAR") 402, Value.str (Str.ofString "parts") 403] }) ::
   (nat_lit 64, { cls := Value.type "tuple", data := Data.seq #[] }) ::
   (nat_lit 66, { cls := Value.type "code", data := Data.fields #[Value.str (Str.ofString "translate") 398, Value.str (Str.ofString "translate") 399, Value.str (Str.ofString "/claim/cut.py") 400, Value.int 13 0, Value.int 1 0, Value.int 0 0, Value.int 0 0, Value.int 3 0, Value.ref 61, Value.bool true, Value.int 276 0, Value.ref 62, Value.none, Value.ref 63, Value.ref 64, Value.ref 65, Value.int 404 0, Value.int 13 0, Value.str (Str.ofString "/claim/cut.py") 405] }) ::
   (nat_lit 67, (⟨_, by conv => (rhs; whnf)⟩ : {o : Obj // o = kFn (kSt 9) (Str.ofString "translate") (Value.str (Str.ofString "cpy313.fnmatch") 358) 66}).1) ::
   (nat_lit 69, { cls := Value.type "dict", data := Data.dict #[{ hash := 40, key := Value.int 40 410, val := Value.str (Str.ofString "\\(") 414 }, { hash := 41, key := Value.int 41 416, val := Value.str (Str.ofString "\\)") 420 }, { hash := 91, key := Value.int 91 422, val := Value.str (Str.ofString "\\[") 426 }, { hash := 93, key := Value.int 93 428, val := Value.str (Str.ofString "\\]") 432 }, { hash := 123, key := Value.int 123 434, val := Value.str (Str.ofString "\\{") 438 }, { hash := 125, key := Value.int 125 440, val := Value.str (Str.ofString "\\}") 444 }, { hash := 63, key := Value.int 63 446, val := Value.str (Str.ofString "\\?") 450 }, { hash := 42, key := Value.int 42 452, val := Value.str (Str.ofString "\\*") 456 }, { hash := 43, key := Value.int 43 458, val := Value.str (Str.ofString "\\+") 462 }, { hash := 45, key := Value.int 45 464, val := Value.str (Str.ofString "\\-") 468 }, { hash := 124, key := Value.int 124 470, val := Value.str (Str.ofString "\\|") 474 }, { hash := 94, key := Value.int 94 476, val := Value.str (Str.ofString "\\^") 480 }, { hash := 36, key := Value.int 36 482, val := Value.str (Str.ofString "\\$") 486 }, { hash := 92, key := Value.int 92 488, val := Value.str (Str.ofString "\\\\") 492 }, { hash := 46, key := Value.int 46 494, val := Value.str (Str.ofString "\\.") 498 }, { hash := 38, key := Value.int 38 500, val := Value.str (Str.ofString "\\&") 504 }, { hash := 126, key := Value.int 126 506, val := Value.str (Str.ofString "\\~") 510 }, { hash := 35, key := Value.int 35 512, val := Value.str (Str.ofString "\\#") 516 }, { hash := 32, key := Value.int 32 518, val := Value.str (Str.ofString "\\ ") 522 }, { hash := 9, key := Value.int 9 524, val := Value.str (Str.ofString "\\\t") 528 }, { hash := 10, key := Value.int 10 530, val := Value.str (Str.ofString "\\\n") 534 }, { hash := 13, key := Value.int 13 536, val := Value.str (Str.ofString "\\\x0d") 540 }, { hash := 11, key := Value.int 11 542, val := Value.str (Str.ofString "\\\x0b") 546 }, { hash := 12, key := Value.int 12 548, val := Value.str (Str.ofString "\\\x0c") 552 }] 24 }) ::
   (nat_lit 73, { cls := Value.type "tuple", data := Data.seq #[] }) ::
   (nat_lit 75, { cls := Value.type "tuple", data := Data.seq #[Value.str (Str.ofString "pattern") 558] }) ::
   (nat_lit 76, { cls := Value.type "tuple", data := Data.seq #[] }) ::
   (nat_lit 78, { cls := Value.type "code", data := Data.fields #[Value.str (Str.ofString "escape") 555, Value.str (Str.ofString "escape") 556, Value.str (Str.ofString "/claim/cut.py") 557, Value.int 19 0, Value.int 1 0, Value.int 0 0, Value.int 0 0, Value.int 3 0, Value.ref 73, Value.bool true, Value.int 276 0, Value.ref 74, Value.none, Value.ref 75, Value.ref 76, Value.ref 77, Value.int 559 0, Value.int 19 0, Value.str (Str.ofString "/claim/cut.py") 560] }) ::
   (nat_lit 79, (⟨_, by conv => (rhs; whnf)⟩ : {o : Obj // o = kFn (kSt 12) (Str.ofString "escape") (Value.str (Str.ofString "re") 407) 78}).1) ::
   (nat_lit 80, { cls := Value.type "tuple", data := Data.seq #[] }) ::
   (nat_lit 82, { cls := Value.type "tuple", data := Data.seq #[Value.str (Str.ofString "pat") 567, Value.str (Str.ofString "STAR") 568, Value.str (Str.ofString "QUESTION_MARK") 569, Value.str (Str.ofString "res") 570, Value.str (Str.ofString "add") 571, Value.str (Str.ofString "i") 572, Value.str (Str.ofString "n") 573, Value.str (Str.ofString "c") 574, Value.str (Str.ofString "j") 575, Value.str (Str.ofString "stuff") 576, Value.str (Str.ofString "chunks") 577, Value.str (Str.ofString "k") 578, Value.str (Str.ofString "chunk") 579] }) ::
   (nat_lit 83, { cls := Value.type "tuple", data := Data.seq #[] }) ::
   (nat_lit 85, { cls := Value.type "code", data := Data.fields #[Value.str (Str.ofString "_translate") 564, Value.str (Str.ofString "_translate") 565, Value.str (Str.ofString "/claim/cut.py") 566, Value.int 26 0, Value.int 3 0, Value.int 0 0, Value.int 0 0, Value.int 3 0, Value.ref 80, Value.bool true, Value.int 276 0, Value.ref 81, Value.none, Value.ref 82, Value.ref 83, Value.ref 84, Value.int 580 0, Value.int 26 0, Value.str (Str.ofString "/claim/cut.py") 581] }) ::
   (nat_lit 86, (⟨_, by conv => (rhs; whnf)⟩ : {o : Obj // o = kFn (kSt 14) (Str.ofString "_translate") (Value.str (Str.ofString "cpy313.fnmatch") 562) 85}).1) ::
   (nat_lit 87, { cls := Value.type "tuple", data := Data.seq #[] }) ::
   (nat_lit 89, { cls := Value.type "tuple", data := Data.seq #[Value.str (Str.ofString "inp") 586, Value.str (Str.ofString "STAR") 587, Value.str (Str.ofString "res") 588, Value.str (Str.ofString "add") 589, Value.str (Str.ofString "i") 590, Value.str (Str.ofString "n") 591, Value.str (Str.ofString "fixed") 592] }) ::
   (nat_lit 90, { cls := Value.type "tuple", data := Data.seq #[] }) ::
   (nat_lit 92, { cls := Value.type "code", data := Data.fields #[Value.str (Str.ofString "_join_translated_parts") 583, Value.str (Str.ofString "_join_translated_parts") 584, Value.str (Str.ofString "/claim/cut.py") 585, Value.int 88 0, Value.int 2 0, Value.int 0 0, Value.int 0 0, Value.int 3 0, Value.ref 87, Value.bool true, Value.int 276 0, Value.ref 88, Value.none, Value.ref 89, Value.ref 90, Value.ref 91, Value.int 593 0, Value.int 88 0, Value.str (Str.ofString "/claim/cut.py") 594] }) ::
   (nat_lit 93, (⟨_, by conv => (rhs; whnf)⟩ : {o : Obj // o = kFn (kSt 15) (Str.ofString "_join_translated_parts") (Value.str (Str.ofString "cpy313.fnmatch") 562) 92}).1) ::
   (nat_lit 94, { cls := Value.type "tuple", data := Data.seq #[] }) ::
   (nat_lit 96, { cls := Value.type "tuple", data := Data.seq #[Value.str (Str.ofString "x") 601, Value.str (Str.ofString "what") 602, Value.str (Str.ofString "kind") 603] }) ::
   (nat_lit 97, { cls := Value.type "tuple", data := Data.seq #[] }) ::
   (nat_lit 99, { cls := Value.type "code", data := Data.fields #[Value.str (Str.ofString "_plain_name") 598, Value.str (Str.ofString "_plain_name") 599, Value.str (Str.ofString "/claim/cut.py") 600, Value.int 116 0, Value.int 2 0, Value.int 0 0, Value.int 0 0, Value.int 3 0, Value.ref 94, Value.bool true, Value.int 276 0, Value.ref 95, Value.none, Value.ref 96, Value.ref 97, Value.ref 98, Value.int 604 0, Value.int 116 0, Value.str (Str.ofString "/claim/cut.py") 605] }) ::
   (nat_lit 100, (⟨_, by conv => (rhs; whnf)⟩ : {o : Obj // o = kFn (kSt 17) (Str.ofString "_plain_name") (Value.str (Str.ofString "os") 596) 99}).1) ::
   (nat_lit 101, { cls := Value.type "tuple", data := Data.seq #[Value.type "type"] }) ::
   (nat_lit 108, { cls := Value.type "tuple", data := Data.seq #[] }) ::
   (nat_lit 110, { cls := Value.type "tuple", data := Data.seq #[Value.str (Str.ofString "cls") 624, Value.str (Str.ofString "subclass") 625] }) ::
   (nat_lit 111, { cls := Value.type "tuple", data := Data.seq #[] }) ::
   (nat_lit 113, { cls := Value.type "code", data := Data.fields #[Value.str (Str.ofString "register") 621, Value.str (Str.ofString "ABCMeta.register") 622, Value.str (Str.ofString "/claim/cut.py") 623, Value.int 124 0, Value.int 2 0, Value.int 0 0, Value.int 0 0, Value.int 3 0, Value.ref 108, Value.bool true, Value.int 276 0, Value.ref 109, Value.none, Value.ref 110, Value.ref 111, Value.ref 112, Value.int 626 0, Value.int 124 0, Value.str (Str.ofString "/claim/cut.py") 627] }) ::
   (nat_lit 114, (⟨_, by conv => (rhs; whnf)⟩ : {o : Obj // o = kFn (kMeth 19 0) (Str.ofString "ABCMeta.register") (Value.str (Str.ofString "abc") 607) 113}).1) ::
   (nat_lit 115, { cls := Value.type "tuple", data := Data.seq #[] }) ::
   (nat_lit 116, { cls := Value.type "dict", data := Data.dict #[{ hash := PyData.keyHash P (Str.ofString "__module__"), key := Value.str (Str.ofString "__module__") 616, val := Value.str (Str.ofString "abc") 607 }, { hash := PyData.keyHash P (Str.ofString "__firstlineno__"), key := Value.str (Str.ofString "__firstlineno__") 620, val := Value.int 122 619 }, { hash := PyData.keyHash P (Str.ofString "register"), key := Value.str (Str.ofString "register") 628, val := Value.ref 114 }, { hash := PyData.keyHash P (Str.ofString "__static_attributes__"), key := Value.str (Str.ofString "__static_attributes__") 629, val := Value.ref 115 }, { hash := PyData.keyHash P (Str.ofString "__doc__"), key := Value.str (Str.ofString "__doc__") 630, val := Value.none }] 2 }) ::
   (nat_lit 117, { cls := Value.type "type", data := Data.cls { name := Str.ofString "ABCMeta", bases := [Value.type "type"], mro := [Value.ref 117, Value.type "type", Value.type "object"], ns := 116, qualname := Str.ofString "ABCMeta", subclasses := [Value.ref 150] }, slots := #[some (Value.ref 101), none, some (Value.str (Str.ofString "ABCMeta") 609), some (Value.str (Str.ofString "ABCMeta") 617), some (Value.builtin "type.__new__"), some (Value.bool true)] }) ::
   (nat_lit 120, { cls := Value.type "tuple", data := Data.seq #[Value.ref 117] }) ::
   (nat_lit 127, { cls := Value.type "tuple", data := Data.seq #[] }) ::
   (nat_lit 129, { cls := Value.type "tuple", data := Data.seq #[Value.str (Str.ofString "cls") 650, Value.str (Str.ofString "instance") 651, Value.str (Str.ofString "C") 652] }) ::
   (nat_lit 130, { cls := Value.type "tuple", data := Data.seq #[] }) ::
   (nat_lit 132, { cls := Value.type "code", data := Data.fields #[Value.str (Str.ofString "__instancecheck__") 647, Value.str (Str.ofString "_ABCLike.__instancecheck__") 648, Value.str (Str.ofString "/claim/cut.py") 649, Value.int 129 0, Value.int 2 0, Value.int 0 0, Value.int 0 0, Value.int 3 0, Value.ref 127, Value.bool true, Value.int 276 0, Value.ref 128, Value.none, Value.ref 129, Value.ref 130, Value.ref 131, Value.int 653 0, Value.int 129 0, Value.str (Str.ofString "/claim/cut.py") 654] }) ::
   (nat_lit 133, (⟨_, by conv => (rhs; whnf)⟩ : {o : Obj // o = kFn (kMeth 21 0) (Str.ofString "_ABCLike.__instancecheck__") (Value.str (Str.ofString "collections.abc") 633) 132}).1) ::
   (nat_lit 134, { cls := Value.type "tuple", data := Data.seq #[] }) ::
   (nat_lit 136, { cls := Value.type "tuple", data := Data.seq #[Value.str (Str.ofString "cls") 659, Value.str (Str.ofString "C") 660] }) ::
   (nat_lit 137, { cls := Value.type "tuple", data := Data.seq #[] }) ::
   (nat_lit 139, { cls := Value.type "code", data := Data.fields #[Value.str (Str.ofString "__subclasscheck__") 656, Value.str (Str.ofString "_ABCLike.__subclasscheck__") 657, Value.str (Str.ofString "/claim/cut.py") 658, Value.int 135 0, Value.int 2 0, Value.int 0 0, Value.int 0 0, Value.int 3 0, Value.ref 134, Value.bool true, Value.int 276 0, Value.ref 135, Value.none, Value.ref 136, Value.ref 137, Value.ref 138, Value.int 661 0, Value.int 135 0, Value.str (Str.ofString "/claim/cut.py") 662] }) ::
   (nat_lit 140, (⟨_, by conv => (rhs; whnf)⟩ : {o : Obj // o = kFn (kMeth 21 1) (Str.ofString "_ABCLike.__subclasscheck__") (Value.str (Str.ofString "collections.abc") 633) 139}).1) ::
   (nat_lit 141, { cls := Value.type "tuple", data := Data.seq #[] }) ::
   (nat_lit 143, { cls := Value.type "tuple", data := Data.seq #[Value.str (Str.ofString "cls") 667, Value.str (Str.ofString "subclass") 668] }) ::
   (nat_lit 144, { cls := Value.type "tuple", data := Data.seq #[] }) ::
   (nat_lit 146, { cls := Value.type "code", data := Data.fields #[Value.str (Str.ofString "register") 664, Value.str (Str.ofString "_ABCLike.register") 665, Value.str (Str.ofString "/claim/cut.py") 666, Value.int 140 0, Value.int 2 0, Value.int 0 0, Value.int 0 0, Value.int 3 0, Value.ref 141, Value.bool true, Value.int 276 0, Value.ref 142, Value.none, Value.ref 143, Value.ref 144, Value.ref 145, Value.int 669 0, Value.int 140 0, Value.str (Str.ofString "/claim/cut.py") 670] }) ::
   (nat_lit 147, (⟨_, by conv => (rhs; whnf)⟩ : {o : Obj // o = kFn (kMeth 21 2) (Str.ofString "_ABCLike.register") (Value.str (Str.ofString "collections.abc") 633) 146}).1) ::
   (nat_lit 148, { cls := Value.type "tuple", data := Data.seq #[] }) ::
   (nat_lit 149, { cls := Value.type "dict", data := Data.dict #[{ hash := PyData.keyHash P (Str.ofString "__module__"), key := Value.str (Str.ofString "__module__") 642, val := Value.str (Str.ofString "collections.abc") 633 }, { hash := PyData.keyHash P (Str.ofString "__firstlineno__"), key := Value.str (Str.ofString "__firstlineno__") 646, val := Value.int 127 645 }, { hash := PyData.keyHash P (Str.ofString "__instancecheck__"), key := Value.str (Str.ofString "__instancecheck__") 655, val := Value.ref 133 }, { hash := PyData.keyHash P (Str.ofString "__subclasscheck__"), key := Value.str (Str.ofString "__subclasscheck__") 663, val := Value.ref 140 }, { hash := PyData.keyHash P (Str.ofString "register"), key := Value.str (Str.ofString "register") 671, val := Value.ref 147 }, { hash := PyData.keyHash P (Str.ofString "__static_attributes__"), key := Value.str (Str.ofString "__static_attributes__") 672, val := Value.ref 148 }, { hash := PyData.keyHash P (Str.ofString "__doc__"), key := Value.str (Str.ofString "__doc__") 673, val := Value.none }] 2 }) ::
   (nat_lit 150, { cls := Value.type "type", data := Data.cls { name := Str.ofString "_ABCLike", bases := [Value.ref 117], mro := [Value.ref 150, Value.ref 117, Value.type "type", Value.type "object"], ns := 149, qualname := Str.ofString "_ABCLike" }, slots := #[some (Value.ref 120), none, some (Value.str (Str.ofString "_ABCLike") 635), some (Value.str (Str.ofString "_ABCLike") 643), some (Value.builtin "type.__new__"), some (Value.bool true)] }) ::
   (nat_lit 153, { cls := Value.type "tuple", data := Data.seq #[] }) ::
   (nat_lit 155, { cls := Value.type "tuple", data := Data.seq #[Value.str (Str.ofString "C") 679] }) ::
   (nat_lit 156, { cls := Value.type "tuple", data := Data.seq #[] }) ::
   (nat_lit 158, { cls := Value.type "code", data := Data.fields #[Value.str (Str.ofString "_abc_plain_meta") 676, Value.str (Str.ofString "_abc_plain_meta") 677, Value.str (Str.ofString "/claim/cut.py") 678, Value.int 142 0, Value.int 1 0, Value.int 0 0, Value.int 0 0, Value.int 3 0, Value.ref 153, Value.bool true, Value.int 276 0, Value.ref 154, Value.none, Value.ref 155, Value.ref 156, Value.ref 157, Value.int 680 0, Value.int 142 0, Value.str (Str.ofString "/claim/cut.py") 681] }) ::
   (nat_lit 159, (⟨_, by conv => (rhs; whnf)⟩ : {o : Obj // o = kFn (kSt 22) (Str.ofString "_abc_plain_meta") (Value.str (Str.ofString "collections.abc") 633) 158}).1) ::
   (nat_lit 160, { cls := Value.type "tuple", data := Data.seq #[] }) ::
   (nat_lit 162, { cls := Value.type "tuple", data := Data.seq #[Value.str (Str.ofString "path") 688, Value.str (Str.ofString "kind") 689, Value.str (Str.ofString "hook") 690, Value.str (Str.ofString "given") 691] }) ::
   (nat_lit 163, { cls := Value.type "tuple", data := Data.seq #[] }) ::
   (nat_lit 165, { cls := Value.type "code", data := Data.fields #[Value.str (Str.ofString "fspath") 685, Value.str (Str.ofString "fspath") 686, Value.str (Str.ofString "/claim/cut.py") 687, Value.int 146 0, Value.int 1 0, Value.int 0 0, Value.int 0 0, Value.int 3 0, Value.ref 160, Value.bool true, Value.int 276 0, Value.ref 161, Value.none, Value.ref 162, Value.ref 163, Value.ref 164, Value.int 692 0, Value.int 146 0, Value.str (Str.ofString "/claim/cut.py") 693] }) ::
   (nat_lit 166, (⟨_, by conv => (rhs; whnf)⟩ : {o : Obj // o = kFn (kSt 24) (Str.ofString "fspath") (Value.str (Str.ofString "os") 683) 165}).1) ::
   (nat_lit 167, { cls := Value.type "tuple", data := Data.seq #[] }) ::
   (nat_lit 169, { cls := Value.type "tuple", data := Data.seq #[Value.str (Str.ofString "funcname") 700, Value.str (Str.ofString "args") 701, Value.str (Str.ofString "hasstr") 702, Value.str (Str.ofString "hasbytes") 703, Value.str (Str.ofString "s") 704] }) ::
   (nat_lit 170, { cls := Value.type "tuple", data := Data.seq #[] }) ::
   (nat_lit 172, { cls := Value.type "code", data := Data.fields #[Value.str (Str.ofString "_check_arg_types") 697, Value.str (Str.ofString "_check_arg_types") 698, Value.str (Str.ofString "/claim/cut.py") 699, Value.int 163 0, Value.int 1 0, Value.int 0 0, Value.int 0 0, Value.int 7 0, Value.ref 167, Value.bool true, Value.int 276 0, Value.ref 168, Value.none, Value.ref 169, Value.ref 170, Value.ref 171, Value.int 705 0, Value.int 163 0, Value.str (Str.ofString "/claim/cut.py") 706] }) ::
   (nat_lit 173, (⟨_, by conv => (rhs; whnf)⟩ : {o : Obj // o = kFn (kSt 26) (Str.ofString "_check_arg_types") (Value.str (Str.ofString "cpy313.genericpath") 695) 172}).1) ::
   (nat_lit 174, { cls := Value.type "tuple", data := Data.seq #[] }) ::
   (nat_lit 176, { cls := Value.type "tuple", data := Data.seq #[Value.str (Str.ofString "path") 713] }) ::
   (nat_lit 177, { cls := Value.type "tuple", data := Data.seq #[] }) ::
   (nat_lit 179, { cls := Value.type "code", data := Data.fields #[Value.str (Str.ofString "_get_sep") 710, Value.str (Str.ofString "_get_sep") 711, Value.str (Str.ofString "/claim/cut.py") 712, Value.int 175 0, Value.int 1 0, Value.int 0 0, Value.int 0 0, Value.int 3 0, Value.ref 174, Value.bool true, Value.int 276 0, Value.ref 175, Value.none, Value.ref 176, Value.ref 177, Value.ref 178, Value.int 714 0, Value.int 175 0, Value.str (Str.ofString "/claim/cut.py") 715] }) ::
   (nat_lit 180, (⟨_, by conv => (rhs; whnf)⟩ : {o : Obj // o = kFn (kSt 28) (Str.ofString "_get_sep") (Value.str (Str.ofString "cpy313.posixpath") 708) 179}).1) ::
   (nat_lit 181, { cls := Value.type "tuple", data := Data.seq #[] }) ::
   (nat_lit 183, { cls := Value.type "tuple", data := Data.seq #[Value.str (Str.ofString "a") 720, Value.str (Str.ofString "p") 721, Value.str (Str.ofString "sep") 722, Value.str (Str.ofString "path") 723, Value.str (Str.ofString "b") 724] }) ::
   (nat_lit 184, { cls := Value.type "tuple", data := Data.seq #[] }) ::
   (nat_lit 186, { cls := Value.type "code", data := Data.fields #[Value.str (Str.ofString "join") 717, Value.str (Str.ofString "join") 718, Value.str (Str.ofString "/claim/cut.py") 719, Value.int 180 0, Value.int 1 0, Value.int 0 0, Value.int 0 0, Value.int 7 0, Value.ref 181, Value.bool true, Value.int 276 0, Value.ref 182, Value.none, Value.ref 183, Value.ref 184, Value.ref 185, Value.int 725 0, Value.int 180 0, Value.str (Str.ofString "/claim/cut.py") 726] }) ::
   (nat_lit 187, (⟨_, by conv => (rhs; whnf)⟩ : {o : Obj // o = kFn (kSt 29) (Str.ofString "join") (Value.str (Str.ofString "cpy313.posixpath") 708) 186}).1) ::
   (nat_lit 188, { cls := Value.type "tuple", data := Data.seq #[] }) ::
   (nat_lit 190, { cls := Value.type "tuple", data := Data.seq #[Value.str (Str.ofString "p") 731, Value.str (Str.ofString "sep") 732, Value.str (Str.ofString "empty") 733] }) ::
   (nat_lit 191, { cls := Value.type "tuple", data := Data.seq #[] }) ::
   (nat_lit 193, { cls := Value.type "code", data := Data.fields #[Value.str (Str.ofString "splitroot") 728, Value.str (Str.ofString "splitroot") 729, Value.str (Str.ofString "/claim/cut.py") 730, Value.int 197 0, Value.int 1 0, Value.int 0 0, Value.int 0 0, Value.int 3 0, Value.ref 188, Value.bool true, Value.int 276 0, Value.ref 189, Value.none, Value.ref 190, Value.ref 191, Value.ref 192, Value.int 734 0, Value.int 197 0, Value.str (Str.ofString "/claim/cut.py") 735] }) ::
   (nat_lit 194, (⟨_, by conv => (rhs; whnf)⟩ : {o : Obj // o = kFn (kSt 30) (Str.ofString "splitroot") (Value.str (Str.ofString "cpy313.posixpath") 708) 193}).1) ::
   (nat_lit 195, { cls := Value.type "tuple", data := Data.seq #[] }) ::
   (nat_lit 197, { cls := Value.type "tuple", data := Data.seq #[Value.str (Str.ofString "path") 740, Value.str (Str.ofString "sep") 741, Value.str (Str.ofString "dot") 742, Value.str (Str.ofString "dotdot") 743, Value.str (Str.ofString "_") 744, Value.str (Str.ofString "initial_slashes") 745, Value.str (Str.ofString "comps") 746, Value.str (Str.ofString "new_comps") 747, Value.str (Str.ofString "comp") 748] }) ::
   (nat_lit 198, { cls := Value.type "tuple", data := Data.seq #[] }) ::
   (nat_lit 200, { cls := Value.type "code", data := Data.fields #[Value.str (Str.ofString "normpath") 737, Value.str (Str.ofString "normpath") 738, Value.str (Str.ofString "/claim/cut.py") 739, Value.int 211 0, Value.int 1 0, Value.int 0 0, Value.int 0 0, Value.int 3 0, Value.ref 195, Value.bool true, Value.int 276 0, Value.ref 196, Value.none, Value.ref 197, Value.ref 198, Value.ref 199, Value.int 749 0, Value.int 211 0, Value.str (Str.ofString "/claim/cut.py") 750] }) ::
   (nat_lit 201, (⟨_, by conv => (rhs; whnf)⟩ : {o : Obj // o = kFn (kSt 31) (Str.ofString "normpath") (Value.str (Str.ofString "cpy313.posixpath") 708) 200}).1) ::
   (nat_lit 202, { cls := Value.type "tuple", data := Data.seq #[] }) ::
   (nat_lit 205, { cls := Value.type "code", data := Data.fields #[Value.str (Str.ofString "_law_row") 754, Value.str (Str.ofString "_law_row") 755, Value.str (Str.ofString "/claim/cut.py") 756, Value.int 237 0, Value.int 1 0, Value.int 0 0, Value.int 0 0, Value.int 3 0, Value.ref 202, Value.bool true, Value.int 276 0, Value.ref 203, Value.none, Value.none, Value.none, Value.ref 204, Value.int 757 0, Value.int 237 0, Value.str (Str.ofString "/claim/cut.py") 758] }) ::
   (nat_lit 206, (⟨_, by conv => (rhs; whnf)⟩ : {o : Obj // o = kFn (kSt 33) (Str.ofString "_law_row") (Value.str (Str.ofString "law_in0073_01") 752) 205}).1) ::
   (nat_lit 207, { cls := Value.type "tuple", data := Data.seq #[] }) ::
   (nat_lit 209, { cls := Value.type "tuple", data := Data.seq #[Value.str (Str.ofString "row") 763, Value.str (Str.ofString "rest") 764, Value.str (Str.ofString "root") 765, Value.str (Str.ofString "stack") 766, Value.str (Str.ofString "piece") 767] }) ::
   (nat_lit 210, { cls := Value.type "tuple", data := Data.seq #[] }) ::
   (nat_lit 212, { cls := Value.type "code", data := Data.fields #[Value.str (Str.ofString "_law_place") 760, Value.str (Str.ofString "_law_place") 761, Value.str (Str.ofString "/claim/cut.py") 762, Value.int 240 0, Value.int 1 0, Value.int 0 0, Value.int 0 0, Value.int 3 0, Value.ref 207, Value.bool true, Value.int 276 0, Value.ref 208, Value.none, Value.ref 209, Value.ref 210, Value.ref 211, Value.int 768 0, Value.int 240 0, Value.str (Str.ofString "/claim/cut.py") 769] }) ::
   (nat_lit 213, (⟨_, by conv => (rhs; whnf)⟩ : {o : Obj // o = kFn (kSt 34) (Str.ofString "_law_place") (Value.str (Str.ofString "law_in0073_01") 752) 212}).1) ::
   (nat_lit 214, { cls := Value.type "tuple", data := Data.seq #[] }) ::
   (nat_lit 216, { cls := Value.type "tuple", data := Data.seq #[Value.str (Str.ofString "made") 774, Value.str (Str.ofString "row") 775, Value.str (Str.ofString "text") 776, Value.str (Str.ofString "place") 777, Value.str (Str.ofString "sign") 778] }) ::
   (nat_lit 217, { cls := Value.type "tuple", data := Data.seq #[] }) ::
   (nat_lit 219, { cls := Value.type "code", data := Data.fields #[Value.str (Str.ofString "_law_fits") 771, Value.str (Str.ofString "_law_fits") 772, Value.str (Str.ofString "/claim/cut.py") 773, Value.int 251 0, Value.int 2 0, Value.int 0 0, Value.int 0 0, Value.int 3 0, Value.ref 214, Value.bool true, Value.int 276 0, Value.ref 215, Value.none, Value.ref 216, Value.ref 217, Value.ref 218, Value.int 779 0, Value.int 251 0, Value.str (Str.ofString "/claim/cut.py") 780] }) ::
   (nat_lit 220, (⟨_, by conv => (rhs; whnf)⟩ : {o : Obj // o = kFn (kSt 35) (Str.ofString "_law_fits") (Value.str (Str.ofString "law_in0073_01") 752) 219}).1) ::
   (nat_lit 221, { cls := Value.type "tuple", data := Data.seq #[] }) ::
   (nat_lit 224, { cls := Value.type "code", data := Data.fields #[Value.str (Str.ofString "law") 782, Value.str (Str.ofString "law") 783, Value.str (Str.ofString "/claim/cut.py") 784, Value.int 266 0, Value.int 1 0, Value.int 0 0, Value.int 0 0, Value.int 3 0, Value.ref 221, Value.bool true, Value.int 276 0, Value.ref 222, Value.none, Value.none, Value.none, Value.ref 223, Value.int 785 0, Value.int 266 0, Value.str (Str.ofString "/claim/cut.py") 786] }) ::
   (nat_lit 225, (⟨_, by conv => (rhs; whnf)⟩ : {o : Obj // o = kFn (kSt 36) (Str.ofString "law") (Value.str (Str.ofString "law_in0073_01") 752) 224}).1) :: []
noncomputable abbrev looseL : List Str := looseW Mine.kView [Str.ofString "twin_re_1_smtplib", Str.ofString "_twin_re_2", Str.ofString "twin_re_1_fnmatch", Str.ofString "_special_chars_map"] ++ List.map (fun x => x.name) (recsOf Mine.kView) ++ List.map (fun x => x.fst) (litsOf Mine.kView) ++
  List.map (fun x => x.name) (clssOf Mine.kView (looseW Mine.kView [Str.ofString "twin_re_1_smtplib", Str.ofString "_twin_re_2", Str.ofString "twin_re_1_fnmatch", Str.ofString "_special_chars_map"]))
/-- what a call of the def at f gives back, whatever the frame and the ledger -/
abbrev TellsG (w : World) (mean : ExcName → Option Value) (mg mb : Str → Option Value) (d : Nat) (f : Addr) (vs : List Value) (Ret : Heap → Addr → (Str → Option Value) → List (Addr × Obj) → Shared → (Value → Shared → Prop) → Prop) : Prop :=
  ∀ (dp un : Nat) (gd : Option (List Code)) (cn : Str) (nms : List (Str × NameKind)) (ig ic : Bool) (mo : List (Str × Const)) (a : Addr) (ccd : Value) (cl : List (Str × Addr)) (outer : List Env) (A₀ : Around) (base h₀ : Heap) (L : Addr) (m : Str → Option Value) (news : List (Addr × Obj)) (s : Shared) (Q E : Value → Shared → Prop),
    Below A₀ base outer h₀ → Fr h₀ L s.heap m → (Mine.kFrag w.params).In h₀ → News h₀ L s.heap news → Top topProg looseL mean mg mb h₀ →
    dp + d < recursionLimit → un + 10 * d < cLine → Ret h₀ L m news s Q →
    wpAny (model PySem.Challenge.rw_in0073_01.row.prog w) (ktrTop dp un gd cn ⟨.function, nms, ig, ic, mo⟩ L a ccd cl outer) (call (.ref f) vs) Q E s
abbrev Tells (w : World) (mean : ExcName → Option Value) (mg mb : Str → Option Value) (d : Nat) (f : Addr) (vs : List Value) (R : Tok → Value) : Prop :=
  TellsG w mean mg mb d f vs fun h₀ L m news s Q => CbRet h₀ L m news s Q R
def tupO (vs : List Value) : Obj := { cls := .type "tuple", data := .seq vs.toArray }
theorem tells_use {w : World} {mean : ExcName → Option Value} {mg mb : Str → Option Value} {d : Nat} {f : Addr} {vs : List Value} {Ret : Heap → Addr → (Str → Option Value) → List (Addr × Obj) → Shared → (Value → Shared → Prop) → Prop} (C : TellsG w mean mg mb d f vs Ret)
    {dp un : Nat} {gd : Option (List Code)} {cn : Str} {nms : List (Str × NameKind)} {ig ic : Bool} {mo : List (Str × Const)} {a : Addr} {ccd : Value} {cl : List (Str × Addr)} {outer : List Env} {A₀ : Around} {base h₀ : Heap} {L : Addr} {m : Str → Option Value} {news : List (Addr × Obj)} {s : Shared} {Q E : Value → Shared → Prop}
    (B : Below A₀ base outer h₀) (F : Fr h₀ L s.heap m) (X : (Mine.kFrag w.params).In h₀) (N : News h₀ L s.heap news) (T : Top topProg looseL mean mg mb h₀)
    (hd : dp + d < recursionLimit) (hu : un + 10 * d < cLine) (ret : Ret h₀ L m news s Q) :
    wpAny (model PySem.Challenge.rw_in0073_01.row.prog w) (ktrTop dp un gd cn ⟨.function, nms, ig, ic, mo⟩ L a ccd cl outer) (call (.ref f) vs) Q E s := C dp un gd cn nms ig ic mo a ccd cl outer A₀ base h₀ L m news s Q E B F X N T hd hu ret
theorem retS {h₀ h : Heap} {L : Addr} {m : Str → Option Value} {news news' : List (Addr × Obj)} {s : Shared} {Q : Value → Shared → Prop} {x y : Str} {t : Tok} {tk : Nat}
    (hret : CbRet h₀ L m news s Q (fun t => .str x t)) (F : Fr h₀ L h m) (N : News h₀ L h news') (hs : ∀ p ∈ news, p ∈ news') (e : y = x) : Q (.str y t) { s with heap := h, toks := tk } := by
  subst e
  exact hret t h tk F (cb_drop N hs)
theorem retB {h₀ h : Heap} {L : Addr} {m : Str → Option Value} {news news' : List (Addr × Obj)} {s : Shared} {Q : Value → Shared → Prop} {x y : Bool} {tk : Nat}
    (hret : CbRet h₀ L m news s Q (fun _ => .bool x)) (F : Fr h₀ L h m) (N : News h₀ L h news') (hs : ∀ p ∈ news, p ∈ news') (e : y = x) : Q (.bool y) { s with heap := h, toks := tk } := by
  subst e
  exact hret 0 h tk F (cb_drop N hs)
local macro_rules | `(tactic| k_room) => `(tactic| first | exact Nat.le_of_ble_eq_true rfl | ((have hd9 := (by assumption : _ + _ < recursionLimit)); simp only [depth_under_make, depth_under_kw, depth_in1, depth_deeper, depth_caller, recursionLimit] at hd9 ⊢; omega))
local macro_rules | `(tactic| k_units) => `(tactic| first | exact Nat.le_of_ble_eq_true rfl | ((have hcL9 := cLine_is); (have hu9 := (by assumption : _ + 10 * _ < cLine)); simp only [units_in1, units_deeper, Around.mark_units, units_caller] at hu9 ⊢; omega))
section
open PySem PySem.Calls PyProof.Rows PySem.W
section
variable {prog : Program} {w : World} {A : Around} {E : Value → Shared → Prop} {s : Shared}
theorem args_isn3 (a b c : Value) : argsOk "issubclass.nested" ⟨[a, b, c], []⟩ := by unfold argsOk; kernel_rfl
theorem kind_isn : builtinKind "issubclass.nested" = none := by decide +kernel
theorem plain_isn : plainId "issubclass.nested" = true := by decide +kernel
theorem isn_str {k : Int} {tk : Tok} {Q : Fin → Shared → Prop} (hq : Q (.done (.ret (.bool true))) s) :
    wpAny (model prog w) A (Builtin.«issubclass.nested» ⟨[.type "str", .type "str", .int k tk], []⟩) Q E s := by
  have f1 := F.isi_meta_str
  have f2 := F.sub_str_str
  repeat (any_goals (first | assumption | (rw [f2]) | (first | (with_reducible (first | refine PySem.wpAny_pure ?_ | refine PySem.wpAny_bind ?_ | refine PySem.wpAny_holding ?_ | refine PySem.wpAny_standAt ?_ | refine PySem.wpAny_point ?_ | refine PySem.wpAny_rule ?_ | refine PySem.wpAny_letGo ?_ | refine PySem.wpAny_mkInt' ?_ | ((show PySem.wpAny _ _ (PySem.mkStr _) _ _ _); refine PySem.wpAny_mkStr' ?_) | refine PySem.wpAny_fresh' ?_ | refine PySem.wpAny_alloc' ?_ | refine PySem.wpAny_attempt ?_ | refine PySem.wpAny_throw ?_ | refine PySem.wpAny_of_eq (by assumption) ?_ | refine PySem.wpAny_typeOf (by assumption) ?_ | refine PySem.wpAny_specialOf_val (by assumption) (by assumption) ?_ | refine PySem.wpAny_specialOf (by assumption) (by assumption) ?_ | refine PySem.wpAny_isInstance_val (by assumption) (by assumption) ?_ | refine PySem.wpAny_isInstance (by assumption) (by assumption) ?_ | refine PySem.wpAny_call ?_ | refine PySem.wpAny_runValue ?_ | refine PySem.wpAny_run ?_)) | ((with_reducible refine' PySem.wpAny_load' ?qh ?_); case qh => (heap_get; done)) | ((with_reducible refine' PySem.wpAny_update' ?qh ?_); case qh => (heap_get; done)) | ((with_reducible refine' PySem.wpAny_loadPart' ?qh ?_); case qh => (heap_get; done)) | ((with_reducible refine' PySem.wpAny_updatePart' ?qh ?_); case qh => (heap_get; done)) | ((with_reducible refine PySem.wpAny_handled_none ?qh ?_); case qh => (assumption; done)) | ((with_reducible refine PySem.wpAny_ite_false ?qh ?_); case qh => (rfl; done)) | ((with_reducible refine PySem.wpAny_ite_true ?qh ?_); case qh => (rfl; done)) | ((with_reducible refine PySem.wpAny_ite_false ?qh ?_); case qh => (simp [*]; done)) | ((with_reducible refine PySem.wpAny_ite_true ?qh ?_); case qh => (simp [*]; done)) | wp_delta | with_reducible_and_instances refine PySem.wpAny_pure ?_ | with_reducible_and_instances refine PySem.wpAny_bind ?_)))
theorem isn_strs {tp : Addr} {tk : Tok} {s : Shared} {Q : Fin → Shared → Prop}
    (htp : s.heap.get? tp = some { cls := .type "tuple", data := .seq #[.type "str", .type "bytes"] }) 
    (hq : ∀ tk', Q (.done (.ret (.bool true))) { s with toks := tk' }) : wpAny (model prog w) A (Builtin.«issubclass.nested» ⟨[.type "str", .ref tp, .int 0 tk], []⟩) Q E s := by
  obtain ⟨h, g, d, t, os⟩ := s
  have hT2 : (⟨h, g, d, t, os⟩ : Shared).TypeIs (.ref tp) "tuple" := ⟨_, htp, rfl⟩
  have f1 := F.isi_sub_tuple
  repeat (any_goals (first | with_reducible assumption | (with_reducible refine call_function_entry kind_isn plain_isn F.entry_issubclass_nested (args_isn3 _ _ _) (isn_str ?_); refine ⟨_, rfl, ?_⟩) | (with_reducible exact hq _) | (first | (with_reducible (first | refine PySem.wpAny_pure ?_ | refine PySem.wpAny_bind ?_ | refine PySem.wpAny_holding ?_ | refine PySem.wpAny_standAt ?_ | refine PySem.wpAny_point ?_ | refine PySem.wpAny_rule ?_ | refine PySem.wpAny_letGo ?_ | refine PySem.wpAny_mkInt' ?_ | ((show PySem.wpAny _ _ (PySem.mkStr _) _ _ _); refine PySem.wpAny_mkStr' ?_) | refine PySem.wpAny_fresh' ?_ | refine PySem.wpAny_alloc' ?_ | refine PySem.wpAny_attempt ?_ | refine PySem.wpAny_throw ?_ | refine PySem.wpAny_of_eq (by assumption) ?_ | refine PySem.wpAny_typeOf (by assumption) ?_ | refine PySem.wpAny_specialOf_val (by assumption) (by assumption) ?_ | refine PySem.wpAny_specialOf (by assumption) (by assumption) ?_ | refine PySem.wpAny_isInstance_val (by assumption) (by assumption) ?_ | refine PySem.wpAny_isInstance (by assumption) (by assumption) ?_ | refine PySem.wpAny_call ?_ | refine PySem.wpAny_runValue ?_ | refine PySem.wpAny_run ?_)) | ((with_reducible refine' PySem.wpAny_load' ?qh ?_); case qh => (heap_get; done)) | ((with_reducible refine' PySem.wpAny_update' ?qh ?_); case qh => (heap_get; done)) | ((with_reducible refine' PySem.wpAny_loadPart' ?qh ?_); case qh => (heap_get; done)) | ((with_reducible refine' PySem.wpAny_updatePart' ?qh ?_); case qh => (heap_get; done)) | ((with_reducible refine PySem.wpAny_handled_none ?qh ?_); case qh => (assumption; done)) | ((with_reducible refine PySem.wpAny_ite_false ?qh ?_); case qh => (rfl; done)) | ((with_reducible refine PySem.wpAny_ite_true ?qh ?_); case qh => (rfl; done)) | ((with_reducible refine PySem.wpAny_ite_false ?qh ?_); case qh => (simp [*]; done)) | ((with_reducible refine PySem.wpAny_ite_true ?qh ?_); case qh => (simp [*]; done)) | wp_delta | with_reducible_and_instances refine PySem.wpAny_pure ?_ | with_reducible_and_instances refine PySem.wpAny_bind ?_) | assumption))
theorem call_issub {tp : Addr} {Q : Value → Shared → Prop} (htp : s.heap.get? tp = some { cls := .type "tuple", data := .seq #[.type "str", .type "bytes"] }) 
    (hq : ∀ tk', Q (.bool true) { s with toks := tk' }) :
    wpAny (model prog w) A (call (.builtin "issubclass") [.type "str", .ref tp]) Q E s :=
  call_issubclass (S := fun _ R s => s.heap.get? tp = some { cls := .type "tuple", data := .seq #[.type "str", .type "bytes"] } ∧ ∀ tk', R (.ok (.ret (.bool true))) { s with toks := tk' })
    (fun _ _ _ _ _ hs => issubclass_outer (isn_strs hs.1 hs.2)) ⟨htp, hq⟩
end
end
section
local macro_rules | `(tactic| walk_at $s:str) => `(tactic| k_extra $s)
theorem tells_sep {w : World} {mean : ExcName → Option Value} {mg mb : Str → Option Value} (x : Str) (tx : Tok) :
    Tells w mean mg mb 3 180 [.str x tx] (fun t => .str (Str.ofString "/") t) := by
  k_with_none
  k_with "call builtin:issubclass" => (k_here; (with_reducible show wpAny _ _ (call (Value.builtin "issubclass") [Value.type "str", Value.ref _]) _ _ _); (refine call_issub (News.get (by k_asm) (by k_mem)) ?_); intro _)
  dsimp only [Tells, TellsG]
  k_fill
  intros
  rename_i hret
  refine wpAny_call ?_
  k_dflt k_enter
  k_steps
  exact retS hret (by assumption) (by assumption) (by first | (intro p9 hp9; (repeat (first | (with_reducible exact hp9) | refine List.mem_cons_of_mem _ ?_)); done) | kcj_all) (by rfl)
theorem tells_fspath {w : World} {mean : ExcName → Option Value} {mg mb : Str → Option Value} (x : Str) (tx : Tok) :
    Tells w mean mg mb 3 166 [.str x tx] (fun t => .str x t) := by
  k_with_none
  k_with "call builtin:issubclass" => (k_here; (with_reducible show wpAny _ _ (call (Value.builtin "issubclass") [Value.type "str", Value.ref _]) _ _ _); (refine call_issub (News.get (by k_asm) (by k_mem)) ?_); intro _)
  dsimp only [Tells, TellsG]
  k_fill
  intros
  rename_i hret
  refine wpAny_call ?_
  k_dflt k_enter
  k_steps
  exact retS hret (by assumption) (by assumption) (by first | (intro p9 hp9; (repeat (first | (with_reducible exact hp9) | refine List.mem_cons_of_mem _ ?_)); done) | kcj_all) (by rfl)
def joinOf (y : Str) : Str := if Txt.startswith y (Str.ofString "/") = true then y else Str.ofString "/h/i" ++ (Str.ofString "/" ++ y)
theorem tells_join {w : World} {mean : ExcName → Option Value} {mg mb : Str → Option Value} (tx : Tok) (y : Str) (ty : Tok) (hy : y.length ≤ 1000) :
    Tells w mean mg mb 6 187 [.str (Str.ofString "/h/i") tx, .str y ty] (fun t => .str (joinOf y) t) := by
  k_with_none
  k_with "call builtin:issubclass" => (k_here; (with_reducible show wpAny _ _ (call (Value.builtin "issubclass") [Value.type "str", Value.ref _]) _ _ _); (refine call_issub (News.get (by k_asm) (by k_mem)) ?_); intro _)
  k_with "call ref" => (k_here; (with_reducible show wpAny _ _ (call (Value.ref 166) [Value.str _ _]) _ _ _); k_dflt (refine' tells_use (tells_fspath _ _) ?k1 ?k2 ?k3 ?k4 ?k5 ?kd ?ku ?_; (case k1 => k_asm); (case k2 => k_asm); (case k3 => k_asm); (case k4 => k_asm); (case k5 => k_asm); (case kd => k_room); (case ku => k_units)); intro t9Kw h9Kw tk9Kw F9Kw N9Kw; (try dsimp only); (try k_fold))
  k_with "call ref" => (k_here; (with_reducible show wpAny _ _ (call (Value.ref 180) [Value.str _ _]) _ _ _); k_dflt (refine' tells_use (tells_sep _ _) ?k1 ?k2 ?k3 ?k4 ?k5 ?kd ?ku ?_; (case k1 => k_asm); (case k2 => k_asm); (case k3 => k_asm); (case k4 => k_asm); (case k5 => k_asm); (case kd => k_room); (case ku => k_units)); intro t9Kw h9Kw tk9Kw F9Kw N9Kw; (try dsimp only); (try k_fold))
  dsimp only [Tells, TellsG]
  k_fill
  intros
  rename_i hret
  refine wpAny_call ?_
  k_dflt k_enter
  k_steps
  refine wpAny_mono (E := fun _ _ => False) ?_ (fun _ _ h => h) (fun _ _ h => h.elim)
  (rename Fr _ _ _ _ => lF')
  with_unfolding_all refine' For_turns lF' ?_
  k_steps
  rename News _ _ _ _ => lN'
  refine iter_tupTurns (vs := [.str y ty]) (n := 0) rfl lF' lN' (.head _) rfl rfl ?_
  intro I hI
  refine ItemsRest.val ?_
  intro h1 tk1 F1
  refine AllObj.cons ?_
  intro o1 ho1
  refine AllObj.nil ?_
  intro N1
  simp only [List.cons_append, List.nil_append] at N1
  clear lF' lN'
  k_steps
  all_goals
    rename Fr _ _ _ _ => F2
    rename News _ _ _ _ => N2
    refine ⟨_, _, _, _, rfl, F2, N2, ?_, ⟨.head _, trivial⟩, ItemsRest.zero ?_⟩
    · intro p hp q hq e
      rw [List.mem_singleton.mp hq] at e
      exact absurd (hI p hp) (e ▸ Nat.lt_irrefl _)
    · intro h5 tk5 F5 N5
      clear F1 N1 F2 N2
      k_steps
      rename Txt.startswith _ _ = _ => hs
      exact retS hret (by assumption) (by assumption) (by first | (intro p9 hp9; (repeat (first | (with_reducible exact hp9) | refine List.mem_cons_of_mem _ ?_)); done) | kcj_all) (by rw [joinOf, hs]; rfl)

def rootOf (x : Str) : Str := if (Txt.slice x none (some 1) != Str.ofString "/") = true then Str.ofString "" else if (Txt.slice x (some 1) (some 2) != Str.ofString "/") = true then Str.ofString "/" else if (Txt.slice x (some 2) (some 3) == Str.ofString "/") = true then Str.ofString "/" else Txt.slice x none (some 2)
def restOf (x : Str) : Str := if (Txt.slice x none (some 1) != Str.ofString "/") = true then x else if (Txt.slice x (some 1) (some 2) != Str.ofString "/") = true then Txt.slice x (some 1) none else if (Txt.slice x (some 2) (some 3) == Str.ofString "/") = true then Txt.slice x (some 1) none else Txt.slice x (some 2) none
theorem retT {h₀ h : Heap} {L D : Addr} {m : Str → Option Value} {news : List (Addr × Obj)} {s : Shared} {Q : Value → Shared → Prop} {a b c a' b' c' : Str} {ta tb tc : Tok} {tk : Nat}
    (hret : ∀ (D : Addr) (h' : Heap) (tk' : Nat) (ta tb tc : Tok), Fr h₀ L h' m → News h₀ L h' ((D, { cls := .type "tuple", data := .seq #[.str a ta, .str b tb, .str c tc] }) :: news) → (∀ p ∈ news, p.1 < D) → Q (.ref D) { s with heap := h', toks := tk' })
    (F : Fr h₀ L h m) (N : News h₀ L h ((D, { cls := .type "tuple", data := .seq #[.str a' ta, .str b' tb, .str c' tc] }) :: news)) (l : ∀ p ∈ news, p.1 < D) (ea : a' = a) (eb : b' = b) (ec : c' = c) : Q (.ref D) { s with heap := h, toks := tk } := by
  subst ea eb ec
  exact hret D h tk ta tb tc F N l
theorem restOf_len (x : Str) : (restOf x).length ≤ x.length := by
  unfold restOf
  (repeat' split) <;> first | exact Nat.le_refl _ | exact Txt.slice_le _ _ _
theorem rootOf_len (x : Str) : (rootOf x).length ≤ x.length + 1 := by
  unfold rootOf
  (repeat' split) <;> first | (exact Nat.le_succ_of_le (Txt.slice_le _ _ _)) | (exact Nat.le_trans (by decide : (_ : Nat) ≤ 1) (Nat.le_add_left 1 _)) | exact Nat.zero_le _
theorem tells_splitroot {w : World} {mean : ExcName → Option Value} {mg mb : Str → Option Value} (x : Str) (tx : Tok) (hx : x.length ≤ 2000) :
    TellsG w mean mg mb 6 194 [.str x tx] fun h₀ L m news s Q => ∀ (D : Addr) (h' : Heap) (tk' : Nat) (ta tb tc : Tok), (rootOf x).length ≤ x.length + 1 → (restOf x).length ≤ x.length → Fr h₀ L h' m →
      News h₀ L h' ((D, { cls := .type "tuple", data := .seq #[.str (Str.ofString "") ta, .str (rootOf x) tb, .str (restOf x) tc] }) :: news) → (∀ p ∈ news, p.1 < D) → Q (.ref D) { s with heap := h', toks := tk' } := by
  k_with_none
  k_with "call builtin:issubclass" => (k_here; (with_reducible show wpAny _ _ (call (Value.builtin "issubclass") [Value.type "str", Value.ref _]) _ _ _); (refine call_issub (News.get (by k_asm) (by k_mem)) ?_); intro _)
  k_with "call ref" => (k_here; (with_reducible show wpAny _ _ (call (Value.ref 166) [Value.str _ _]) _ _ _); k_dflt (refine' tells_use (tells_fspath _ _) ?k1 ?k2 ?k3 ?k4 ?k5 ?kd ?ku ?_; (case k1 => k_asm); (case k2 => k_asm); (case k3 => k_asm); (case k4 => k_asm); (case k5 => k_asm); (case kd => k_room); (case ku => k_units)); intro t9Kw h9Kw tk9Kw F9Kw N9Kw; (try dsimp only); (try k_fold))
  k_with "call ref" => (k_here; (with_reducible show wpAny _ _ (call (Value.ref 180) [Value.str _ _]) _ _ _); k_dflt (refine' tells_use (tells_sep _ _) ?k1 ?k2 ?k3 ?k4 ?k5 ?kd ?ku ?_; (case k1 => k_asm); (case k2 => k_asm); (case k3 => k_asm); (case k4 => k_asm); (case k5 => k_asm); (case kd => k_room); (case ku => k_units)); intro t9Kw h9Kw tk9Kw F9Kw N9Kw; (try dsimp only); (try k_fold))
  dsimp only [Tells, TellsG]
  k_fill
  intros
  rename_i hret
  refine wpAny_call ?_
  k_dflt k_enter
  k_steps
  all_goals exact retT (fun D h' tk' ta tb tc => hret D h' tk' ta tb tc (rootOf_len x) (restOf_len x)) (by assumption) (by assumption) (by assumption) rfl (by simp only [rootOf, *, if_true, if_false, Bool.false_eq_true]) (by simp only [restOf, *, if_true, if_false, Bool.false_eq_true])
end
section
section
variable {prog : Program} {w : World} {A : Around} {E : Value → Shared → Prop} {s : Shared} {env : Env} {h₀ : Heap} {x : Str} {body : List Stmt} {Q : Flow → Shared → Prop}
abbrev LoopRest (h₀ : Heap) (L : Addr) (J : (Str → Option Value) → List (Addr × Obj) → Prop) (l : Addr) (lo : Obj) (I : Addr) (oI : Obj) (s₁ : Shared) (s₂ : Shared) : Prop :=
  ∃ h' tk m' nx, s₂ = { s₁ with heap := h', toks := tk } ∧ Fr h₀ L h' m' ∧ News h₀ L h' ((I, oI) :: nx) ∧ (∀ p ∈ nx, p.1 ≠ I) ∧ (l, lo) ∈ nx ∧ J m' nx
def LoopPost (h₀ : Heap) (L : Addr) (J : (Str → Option Value) → List (Addr × Obj) → Prop) (l : Addr) (lo : Obj) (I : Addr) (oI : Obj) (s₁ : Shared) (Q : Flow → Shared → Prop) (f : Flow) (s₂ : Shared) : Prop :=
  match f with
  | .ret v => Q (.ret v) s₂
  | .brk => Q .next s₂
  | _ => LoopRest h₀ L J l lo I oI s₁ s₂
theorem iter_strsG {l : Addr} {vs : List Value} {ws : List Str} {nn : Nat} {m₀ : Str → Option Value} {news : List (Addr × Obj)} (J : Nat → (Str → Option Value) → List (Addr × Obj) → Prop)
    (hh : A.handled = none) (hl : (l, listOf vs.toArray nn) ∈ news) (hi : StrsAre vs ws) (F : Fr h₀ env.locals s.heap m₀) (N : News h₀ env.locals s.heap news) (hj : J 0 m₀ news)
    (turn : ∀ i c t m₁ news₁ h tk I oI, ws[i]? = some c → (∀ p ∈ news₁, p.1 ≠ I) → (l, listOf vs.toArray nn) ∈ news₁ → J i m₁ news₁ → Fr h₀ env.locals h (fun y => if y = x then some (.str c t) else m₁ y) → News h₀ env.locals h ((I, oI) :: news₁) →
      wpAny (model prog w) A (execs body env) (LoopPost h₀ env.locals (J (i + 1)) l (listOf vs.toArray nn) I oI { s with heap := h, toks := tk } Q) E { s with heap := h, toks := tk })
    (done : ∀ m₁ news₁ h tk, (l, listOf vs.toArray nn) ∈ news₁ → J ws.length m₁ news₁ → Fr h₀ env.locals h m₁ → News h₀ env.locals h news₁ → Q .next { s with heap := h, toks := tk }) :
    wpAny (model prog w) A (pyIter (.ref l)) (fun it s₂ => LoopAtV prog w A h₀ env x body Q E it s₂) E s := by
  have hol : s.heap.get? l = some (listOf vs.toArray nn) := (N _ hl).1
  have hls : s.heap.IsList l vs.toArray := ⟨_, hol, rfl, nn, rfl⟩
  have hne : l ≠ s.heap.objs.size := Nat.ne_of_lt (Heap.lt_size hol)
  refine wpAny_pyIter_list hls ?_
  have W := Walks.list (prog := prog) (w := w) hh s.heap.objs.size l hne vs.toArray
  have hlen : vs.toArray.size = ws.length := by simp [hi.length]
  rw [hlen] at W
  refine ⟨_, _, _, ws.length, _, _, m₀, news, (fun i m nx => (l, listOf vs.toArray nn) ∈ nx ∧ J i m nx), rfl, W, ?_, ?_, ?_, ⟨⟨_, Heap.get?_push_size _ rfl, rfl, rfl⟩, hls.at fun o e => Heap.get?_push_of_some _ e⟩, F.push _, (fun p hp => ⟨Heap.get?_push_of_some _ (N p hp).1, (N p hp).2⟩), ⟨hl, hj⟩, ?_, ?_⟩
  · intro hm
    rcases List.mem_cons.mp hm with e | hm
    · exact absurd F.ns.lt (e ▸ Nat.lt_irrefl _)
    · exact (N _ hl).2.1 ((List.mem_singleton.mp hm).symm)
  · intro b hb
    rw [List.mem_singleton.mp hb]
    exact next_is_new F
  · intro p hp hI
    exact absurd (Heap.lt_size (N p hp).1) ((List.mem_singleton.mp hI) ▸ Nat.lt_irrefl _)
  · rintro i v m₁ news₁ s₁ own ⟨hh', tk', rfl⟩ hin hP ⟨hl₁, hJ⟩ hoff hown hget hfp hst F₁ N₁
    have hlt' : i < ws.length := hin
    obtain ⟨t, hx⟩ := hi.get i ws[i] (by simp [hlt'])
    have hv : v = .str ws[i] t := by
      have hP' : vs[i]? = some v := by simpa using hP
      rw [hx] at hP'; exact (Option.some.inj hP').symm
    subst hv
    obtain ⟨oI, hoI, _⟩ := hst.1
    have hInew : h₀.get? s.heap.objs.size = none := next_is_new F
    have hIown : (s.heap.objs.size, oI) ∈ own := hfp _ (.head _) hInew oI hoI
    have hlo : hh'.get? l = some (listOf vs.toArray nn) := (N₁ _ (List.mem_append.mpr (.inr hl₁))).1
    have N₂ : News h₀ env.locals hh' ((s.heap.objs.size, oI) :: news₁) := fun p hp => by
      rcases List.mem_cons.mp hp with rfl | hp
      · exact N₁ _ (List.mem_append.mpr (.inl hIown))
      · exact N₁ _ (List.mem_append.mpr (.inr hp))
    refine wpAny_mono (turn i ws[i] t m₁ news₁ hh' tk' s.heap.objs.size oI (by simp [hlt']) (fun p hp e => hoff p hp (by rw [e]; exact .head _)) hl₁ hJ F₁ N₂) (fun f s₂ p => ?_) fun _ _ e => e
    have fin : LoopRest h₀ env.locals (J (i + 1)) l (listOf vs.toArray nn) s.heap.objs.size oI { s with heap := hh', toks := tk' } s₂ →
        LoopStepU h₀ env.locals [s.heap.objs.size] own (fun m nx => (l, listOf vs.toArray nn) ∈ nx ∧ J (i + 1) m nx) { s with heap := hh', toks := tk' } .next s₂ := by
      rintro ⟨h', tk, m', nx, e, F', N', hn, hl', hm⟩
      refine ⟨rfl, h', tk, m', nx, e, F', fun p hp => ?_, fun p hp hI => hn p hp (List.mem_singleton.mp hI), hl', hm⟩
      rcases List.mem_append.mp hp with h | h
      · rcases List.mem_cons.mp (hown p h) with h2 | h2
        · have h3 : hh'.get? p.1 = some p.2 := hget p h
          rw [h2, hoI] at h3
          have h4 : p = (s.heap.objs.size, oI) := Prod.ext h2 (Option.some.inj h3).symm
          rw [h4]
          exact N' _ (.head _)
        · have h3 : hh'.get? p.1 = some p.2 := hget p h
          rw [List.mem_singleton.mp h2, hlo] at h3
          have h4 : p = (l, listOf vs.toArray nn) := Prod.ext (List.mem_singleton.mp h2) (Option.some.inj h3).symm
          rw [h4]
          exact N' _ (.tail _ hl')
      · exact N' _ (.tail _ h)
    cases f with
    | ret v => exact .ret p
    | brk => exact .brk p
    | next => exact .next (fin p)
    | cont => exact .cont (fin p)
  · rintro h' tk m' news' F' N' _ ⟨hl', hJ⟩
    exact done m' news' h' tk hl' hJ F' N'
end
section
variable {prog : Program} {w : World} {A : Around} {E : Value → Shared → Prop} {s : Shared} {env : Env} {h₀ : Heap} {x : Str} {body : List Stmt} {Q : Flow → Shared → Prop}
/-- a turn's end: the list at D holds the texts cur' -/
def FoldPost (h₀ : Heap) (L : Addr) (x : Str) (m₀ : Str → Option Value) (D : Addr) (rest : List (Addr × Obj)) (cur' : List Str) (I : Addr) (oI : Obj) (s₁ : Shared) (Q : Flow → Shared → Prop) (f : Flow) (s₂ : Shared) : Prop :=
  match f with
  | .ret v => Q (.ret v) s₂
  | .brk => Q .next s₂
  | _ => ∃ h' tk m' us k, s₂ = { s₁ with heap := h', toks := tk } ∧ Fr h₀ L h' m' ∧ (∀ y, y ≠ x → m' y = m₀ y) ∧ News h₀ L h' ((I, oI) :: (D, listOf us.toArray k) :: rest) ∧ StrsAre us cur'
theorem foldPost_next {L : Addr} {m₀ m' : Str → Option Value} {D : Addr} {rest all : List (Addr × Obj)} {cur' : List Str} {I : Addr} {oI : Obj} {s₁ : Shared} {f : Flow} {h' : Heap} {tk : Nat} {us : List Value} {k : Nat} (hf : f = .next ∨ f = .cont)
    (F : Fr h₀ L h' m') (hm : ∀ y, y ≠ x → m' y = m₀ y) (N : News h₀ L h' all) (hs : ∀ p ∈ (I, oI) :: (D, listOf us.toArray k) :: rest, p ∈ all) (hu : StrsAre us cur') :
    FoldPost h₀ L x m₀ D rest cur' I oI s₁ Q f { s₁ with heap := h', toks := tk } := by
  rcases hf with rfl | rfl <;> exact ⟨h', tk, m', us, k, rfl, F, hm, fun p hp => N p (hs p hp), hu⟩
theorem iter_foldD {l D : Addr} {vs us₀ : List Value} {ws cur₀ : List Str} {nn k₀ : Nat} {m₀ : Str → Option Value} {rest : List (Addr × Obj)} (f : List Str → Str → List Str)
    (hh : A.handled = none) (hi : StrsAre vs ws) (hc : StrsAre us₀ cur₀) (hDr : ∀ p ∈ (l, listOf vs.toArray nn) :: rest, p.1 ≠ D) (F : Fr h₀ env.locals s.heap m₀) (N : News h₀ env.locals s.heap ((D, listOf us₀.toArray k₀) :: (l, listOf vs.toArray nn) :: rest))
    (turn : ∀ i c t us k h tk I oI, ws[i]? = some c → StrsAre us ((ws.take i).foldl f cur₀) → (∀ p ∈ (l, listOf vs.toArray nn) :: rest, p.1 ≠ D) → (∀ p ∈ [(I, oI)], p.1 ≠ D) →
      Fr h₀ env.locals h (fun y => if y = x then some (.str c t) else m₀ y) → News h₀ env.locals h ((I, oI) :: (D, listOf us.toArray k) :: (l, listOf vs.toArray nn) :: rest) →
      wpAny (model prog w) A (execs body env) (FoldPost h₀ env.locals x m₀ D ((l, listOf vs.toArray nn) :: rest) (f ((ws.take i).foldl f cur₀) c) I oI { s with heap := h, toks := tk } Q) E { s with heap := h, toks := tk })
    (done : ∀ us k u h tk, StrsAre us (ws.foldl f cur₀) → Fr h₀ env.locals h (fun y => if y = x then u else m₀ y) → News h₀ env.locals h ((D, listOf us.toArray k) :: (l, listOf vs.toArray nn) :: rest) → Q .next { s with heap := h, toks := tk }) :
    wpAny (model prog w) A (pyIter (.ref l)) (fun it s₂ => LoopAtV prog w A h₀ env x body Q E it s₂) E s := by
  have hmx : ∀ (m₁ : Str → Option Value) (v : Option Value), (∀ y, y ≠ x → m₁ y = m₀ y) → (fun y => if y = x then v else m₁ y) = fun y => if y = x then v else m₀ y := by
    intro m₁ v h
    funext y
    by_cases e : y = x
    · simp [e]
    · simp only [if_neg e]; exact h y e
  refine iter_strsG (vs := vs) (ws := ws) (nn := nn) (fun i m nx => (∀ y, y ≠ x → m y = m₀ y) ∧ ∃ us k, nx = (D, listOf us.toArray k) :: (l, listOf vs.toArray nn) :: rest ∧ StrsAre us ((ws.take i).foldl f cur₀)) hh (.tail _ (.head _)) hi F N ⟨fun _ _ => rfl, us₀, k₀, rfl, by simpa using hc⟩ ?_ ?_
  · rintro i c t m₁ news₁ h tk I oI hw hI hl ⟨hm, us, k, rfl, hu⟩ F₁ N₁
    rw [hmx m₁ _ hm] at F₁
    refine wpAny_mono (turn i c t us k h tk I oI hw hu hDr (List.forall_mem_singleton.2 (Ne.symm (hI _ (.head _)))) F₁ N₁) (fun fl s₂ p => ?_) fun _ _ e => e
    have up : (∃ h' tk' m' us k, s₂ = { ({ s with heap := h, toks := tk } : Shared) with heap := h', toks := tk' } ∧ Fr h₀ env.locals h' m' ∧ (∀ y, y ≠ x → m' y = m₀ y) ∧ News h₀ env.locals h' ((I, oI) :: (D, listOf us.toArray k) :: (l, listOf vs.toArray nn) :: rest) ∧ StrsAre us (f ((ws.take i).foldl f cur₀) c)) →
        LoopRest h₀ env.locals (fun m nx => (∀ y, y ≠ x → m y = m₀ y) ∧ ∃ us k, nx = (D, listOf us.toArray k) :: (l, listOf vs.toArray nn) :: rest ∧ StrsAre us ((ws.take (i + 1)).foldl f cur₀)) l (listOf vs.toArray nn) I oI { s with heap := h, toks := tk } s₂ := by
      rintro ⟨h', tk', m', us', k', e, F', hm', N', hu'⟩
      refine ⟨h', tk', m', _, e, F', N', fun p hp => ?_, .tail _ (.head _), hm', us', k', rfl, ?_⟩
      · rcases List.mem_cons.mp hp with rfl | hp
        · exact (show D ≠ I from hI (D, listOf us.toArray k) (.head _))
        · exact hI p (.tail _ hp)
      · rw [List.take_add_one, hw, List.foldl_append]; exact hu'
    cases fl with
    | ret v => exact p
    | brk => exact p
    | next => exact up p
    | cont => exact up p
  · rintro m₁ news₁ h tk hl ⟨hm, us, k, rfl, hu⟩ F₁ N₁
    rw [List.take_length] at hu
    refine done us k (m₁ x) h tk hu ?_ N₁
    have e : (fun y => if y = x then m₁ x else m₀ y) = m₁ := by
      funext y
      by_cases e : y = x
      · simp [e]
      · simp only [if_neg e]; exact (hm y e).symm
    rw [e]; exact F₁
end
section
variable {prog : Program} {w : World} {A : Around} {E : Value → Shared → Prop} {s : Shared} {h₀ : Heap} {L I D : Addr} {oI : Obj} {m : Str → Option Value} {rest : List (Addr × Obj)} {us : List Value} {k : Nat}
theorem sa_snoc {c : Str} {t : Tok} {us : List Value} {ws : List Str} (h : StrsAre us ws) : StrsAre (us ++ [.str c t]) (ws ++ [c]) := h.append' (.cons _ _ .nil)
theorem append_at {pre : List (Addr × Obj)} {v : Value} {Q : Value → Shared → Prop} (F : Fr h₀ L s.heap m) (N : News h₀ L s.heap (pre ++ (D, listOf us.toArray k) :: rest)) (hp : ∀ p ∈ pre, p.1 ≠ D) (hr : ∀ p ∈ rest, p.1 ≠ D) (hz : us.length ≤ sizeLine)
    (h : ∀ h' k', Fr h₀ L h' m → News h₀ L h' (pre ++ (D, listOf (us ++ [v]).toArray k') :: rest) → Q .none { s with heap := h' }) :
    wpAny (model prog w) A (call (.builtin "list.append") [.ref D, v]) Q E s := by
  have z := N (D, listOf us.toArray k) (List.mem_append.mpr (.inr (.head _)))
  refine call_meets PySem.F.slot_list_append ⟨_, z.1, rfl⟩ PySem.F.entry_list_append (PySem.F.args_list_append_2 _ _) (PySem.AutoListH.list_append_list_val_0 D us.toArray k v (by simpa using hz)) ⟨z.1, h _ (k + 1) (F.change (Heap.SameBut.update ..) z.2.1 z.2.2) (kl_turn _ N hp hr ?_ ?_)⟩
  · simp
  · simp
theorem pop_strs {pre : List (Addr × Obj)} {ws : List Str} {Q : Value → Shared → Prop} (F : Fr h₀ L s.heap m) (N : News h₀ L s.heap (pre ++ (D, listOf us.toArray k) :: rest)) (hp : ∀ p ∈ pre, p.1 ≠ D) (hr : ∀ p ∈ rest, p.1 ≠ D) (hz : us.length ≤ sizeLine) (hu : StrsAre us ws) (hne' : ws.isEmpty = false)
    (h : ∀ h' us' k' v, Fr h₀ L h' m → News h₀ L h' (pre ++ (D, listOf us'.toArray k') :: rest) → StrsAre us' ws.dropLast → Q v { s with heap := h' }) :
    wpAny (model prog w) A (call (.builtin "list.pop") [.ref D]) Q E s := by
  have hne : ws ≠ [] := fun e => by rw [e] at hne'; cases hne'
  have hs : ∃ us' c t, us = us' ++ [.str c t] ∧ StrsAre us' ws.dropLast := by
    clear N h hz hne'
    induction hu with
    | nil => exact absurd rfl hne
    | cons y t r ih =>
      rename_i vs ys
      cases r with
      | nil => exact ⟨[], y, t, rfl, .nil⟩
      | cons y2 t2 r2 =>
        obtain ⟨us', c, t', e, hu'⟩ := ih (by simp)
        exact ⟨.str y t :: us', c, t', by rw [e]; rfl, .cons y t hu'⟩
  obtain ⟨us', c, t, rfl, hu'⟩ := hs
  have z := N (D, listOf (us' ++ [Value.str c t]).toArray k) (List.mem_append.mpr (.inr (.head _)))
  have hk : (us' ++ [Value.str c t]).toArray.size - 1 = us'.length := by rw [List.size_toArray, List.length_append]; rfl
  have hy : (us' ++ [Value.str c t]).toArray[(us' ++ [Value.str c t]).toArray.size - 1]? = some (.str c t) := by rw [hk]; simp
  refine call_meets PySem.F.slot_list_pop ⟨_, z.1, rfl⟩ PySem.F.entry_list_pop (PySem.F.args_list_pop_1 _) (PySem.MeetsSeq.list_pop_last D _ k _ hy (by simpa using hz)) ⟨z.1, h _ us' (k + 1) _ (F.change (Heap.SameBut.update ..) z.2.1 z.2.2) (kl_turn _ N hp hr ?_ ?_) hu'⟩
  · show (us' ++ [Value.str c t]).toArray.eraseIdxIfInBounds ((us' ++ [Value.str c t]).toArray.size - 1) = us'.toArray
    rw [hk, kl_erase, List.append_nil]
  · rw [List.size_toArray, List.size_toArray, List.length_append]
    simp
theorem truthy_strs {news : List (Addr × Obj)} {ws : List Str} {Q : Bool → Shared → Prop} (N : News h₀ L s.heap news) (hm : (D, listOf us.toArray k) ∈ news) (hu : StrsAre us ws) (hz : ws.length ≤ sizeLine)
    (h : Q (!ws.isEmpty) { s with toks := s.toks + 1 + 1 }) : wpAny (model prog w) A (truthy (.ref D)) Q E s := by
  have e : us.toArray.isEmpty = ws.isEmpty := by cases hu <;> rfl
  have hl := hu.length
  refine wpAny_truthy_list ⟨_, (N _ hm).1, rfl, _, rfl⟩ ?_ ?_
  · rw [List.size_toArray, hl]
    have := Nat.le_trans hz (Nat.le_of_eq PySem.sizeLine_eq)
    omega
  · rw [e]; exact h
end
section
variable {prog : Program} {w : World} {A : Around} {E : Value → Shared → Prop} {s : Shared} {h₀ : Heap} {L D : Addr} {us : List Value} {k : Nat}
theorem last_str : ∀ {us : List Value} {ws : List Str}, StrsAre us ws → ws ≠ [] → ∃ v t, us[us.length - 1]? = some (.str v t) ∧ v ∈ ws
  | _, _, .nil, h => absurd rfl h
  | _, _, .cons y t .nil, _ => ⟨y, t, rfl, .head _⟩
  | _, _, .cons y t (.cons y2 t2 r), _ => by
    obtain ⟨v, tv, e, hv⟩ := last_str (.cons y2 t2 r) (by simp)
    exact ⟨v, tv, by simpa using e, .tail _ hv⟩
theorem item_last {value slice : Expr} {news : List (Addr × Obj)} {ws : List Str} {u : Tok} {Q : Value → Shared → Prop} (N : News h₀ L s.heap news) (hm : (D, listOf us.toArray k) ∈ news) (hu : StrsAre us ws) (hne' : ws.isEmpty = false)
    (h : ∀ v t, v ∈ ws → Q (.str v t) s)
    (hs : subscripted slice false (.ref D) (.int (-1) u) = operate [.ref D, .int (-1) u] (getItem (.ref D) (.int (-1) u)) := by with_unfolding_all rfl) :
    wpAny (model prog w) A (subscriptTail value slice (.ref D) (.int (-1) u)) Q E s := by
  have hl : s.heap.IsList D us.toArray := ⟨_, (N _ hm).1, rfl, _, rfl⟩
  have hne : ws ≠ [] := fun e => by rw [e] at hne'; cases hne'
  obtain ⟨v, t, e, hv⟩ := last_str hu hne
  have hpos : 0 < us.length := by rw [hu.length]; exact List.length_pos_iff.mpr hne
  refine tail_any hl.typeIs slot_list_getitem.lookup (wpAny_getItem_list_neg hl (by decide) ?_ (by decide) ?_ (h v t hv)) hs
  · rw [List.size_toArray]; omega
  · rw [List.size_toArray, List.getElem?_toArray]
    rw [show ((-1 : Int) + (us.length : Int)).toNat = us.length - 1 by omega]
    exact e
end
section
variable {prog : Program} {w : World} {A : Around} {E : Value → Shared → Prop} {s : Shared} {h₀ : Heap} {L D : Addr} {us : List Value} {k : Nat}
theorem join_at {x : Str} {t : Tok} {news : List (Addr × Obj)} {ws : List Str} {Q : Value → Shared → Prop} (N : News h₀ L s.heap news) (hm : (D, listOf us.toArray k) ∈ news) (hu : StrsAre us ws) (hok : (ws.map (·.length)).sum + ws.length * x.length ≤ 16777216)
    (h : ∀ t' k, (Str.join x ws).length ≤ (ws.map (·.length)).sum + ws.length * x.length → Q (.str (Str.join x ws) t') { s with toks := k }) : wpAny (model prog w) A (call (.builtin "str.join") [.str x t, .ref D]) Q E s :=
  join_list (items := us.toArray) ⟨_, (N _ hm).1, rfl, _, rfl⟩ hu hok fun t' k => by
    rw [show Txt.join x ws = Str.join x ws from StrLaws.glued_eq_join x ws]
    exact h t' k (StrLaws.join_length_le x ws)
theorem join_slash {t : Tok} {news : List (Addr × Obj)} {ws : List Str} {Q : Value → Shared → Prop} (N : News h₀ L s.heap news) (hm : (D, listOf us.toArray k) ∈ news) (hu : StrsAre us ws) (hok : (ws.map (·.length)).sum + ws.length ≤ 16777216)
    (h : ∀ t' k, (Str.join (Str.ofString "/") ws).length ≤ (ws.map (·.length)).sum + ws.length → Q (.str (Str.join (Str.ofString "/") ws) t') { s with toks := k }) : wpAny (model prog w) A (call (.builtin "str.join") [.str (Str.ofString "/") t, .ref D]) Q E s := by
  have e : (Str.ofString "/").length = 1 := by decide
  refine join_at N hm hu (by rw [e]; omega) fun t' k hl => h t' k ?_
  rw [e, Nat.mul_one] at hl
  exact hl
end
end
section
local macro_rules | `(tactic| walk_at "call ref") => `(tactic| (k_here; (with_reducible show wpAny _ _ (call (Value.ref 166) [Value.str _ _]) _ _ _); k_dflt (refine' tells_use (tells_fspath _ _) ?k1 ?k2 ?k3 ?k4 ?k5 ?kd ?ku ?_; (case k1 => k_asm); (case k2 => k_asm); (case k3 => k_asm); (case k4 => k_asm); (case k5 => k_asm); (case kd => k_room); (case ku => k_units)); intro t9 h9 tk9 F9 N9; (try dsimp only); (try k_fold)))
local macro_rules | `(tactic| walk_at "call ref") => `(tactic| (k_here; (with_reducible show wpAny _ _ (call (Value.ref 194) [Value.str _ _]) _ _ _); k_dflt (refine' tells_use (tells_splitroot _ _ ?kx) ?k1 ?k2 ?k3 ?k4 ?k5 ?kd ?ku ?_; (case k1 => k_asm); (case k2 => k_asm); (case k3 => k_asm); (case k4 => k_asm); (case k5 => k_asm); (case kd => k_room); (case ku => k_units); (case kx => first | assumption | omega)); intro D9 h9 tk9 ta9 tb9 tc9 z9 y9 F9 N9 l9; (try k_lt l9); (try dsimp only); (try k_fold)))
local macro_rules | `(tactic| walk_at "call builtin:list.append") => `(tactic| (k_here; (with_reducible show wpAny _ _ (call (Value.builtin _) [Value.ref _, Value.str _ _]) _ _ _); k_dflt (refine' append_at (pre := [_]) ?F ?N ?p ?r ?z ?_; (case F => k_asm); (case N => k_asm); (case p => assumption); (case r => assumption); (case z => (rw [PySem.sizeLine_eq]; omega)); k_whole); intro h' k' F' N'; (try dsimp only [List.nil_append, List.cons_append] at N')))
local macro_rules | `(tactic| walk_at "call builtin:list.pop") => `(tactic| (k_here; (with_reducible show wpAny _ _ (call (Value.builtin _) [Value.ref _]) _ _ _); k_dflt (refine' pop_strs (pre := [_]) ?F ?N ?p ?r ?z ?u ?e ?_; (case F => k_asm); (case N => k_asm); (case p => assumption); (case r => assumption); (case z => (rw [PySem.sizeLine_eq]; omega)); (case u => with_reducible assumption); (case e => assumption)); intro h' us' k' v' F' N' hu'; (try dsimp only [List.nil_append, List.cons_append] at N')))
local macro_rules | `(tactic| walk_at "truthy ref") => `(tactic| (k_here; (with_reducible show wpAny _ _ (truthy (Value.ref _)) _ _ _); k_dflt (refine' truthy_strs ?N ?m ?u ?z ?_; (case N => k_asm); (case m => k_mem); (case u => with_reducible assumption); (case z => (rw [PySem.sizeLine_eq]; omega)))))
local macro_rules | `(tactic| walk_at "subscriptTail") => `(tactic| (k_here; (with_reducible show wpAny _ _ (subscriptTail _ _ (Value.ref _) (Value.int _ _)) _ _ _); k_dflt (refine' item_last ?N ?m ?u ?e ?_ ?s; (case N => k_asm); (case m => k_mem); (case u => with_reducible assumption); (case e => assumption); (case s => with_unfolding_all rfl)); intro v9 t9 hv9))
local macro_rules | `(tactic| walk_at "call builtin:str.join") => `(tactic| (k_here; (with_reducible show wpAny _ _ (call (Value.builtin _) [Value.str _ _, Value.ref _]) _ _ _); k_dflt (refine' join_slash ?N ?m ?u ?z ?_; (case N => k_asm); (case m => k_mem); (case u => with_reducible assumption); (case z => (first | assumption | omega)); k_whole); intro t8 k8 z8))
def normStep (ws : List Str) (c : Str) : List Str :=
  if (c.length : Int) = 0 then ws else if (c == Str.ofString ".") = true then ws else if (c != Str.ofString "..") = true then ws ++ [c] else ws.dropLast
def wt (ws : List Str) : Nat := (ws.map (·.length)).sum + ws.length
theorem wt_snoc (ws : List Str) (c : Str) : wt (ws ++ [c]) = wt ws + (c.length + 1) := by
  simp [wt]; omega
theorem wt_dropLast (ws : List Str) : wt ws.dropLast ≤ wt ws := by
  rcases List.eq_nil_or_concat ws with rfl | ⟨r, c, rfl⟩
  · simp
  · rw [List.concat_eq_append, List.dropLast_concat, wt_snoc]; omega
theorem norm_wt1 (ws : List Str) (c : Str) : wt (normStep ws c) ≤ wt ws + (c.length + 1) := by
  unfold normStep
  (repeat' split)
  · omega
  · omega
  · rw [wt_snoc]; omega
  · have := wt_dropLast ws; omega
theorem norm_wt : ∀ (cs ws : List Str), wt (cs.foldl normStep ws) ≤ wt ws + wt cs
  | [], ws => by simp [wt]
  | c :: r, ws => by
    rw [List.foldl_cons]
    have h1 := norm_wt r (normStep ws c)
    have h2 := norm_wt1 ws c
    have h3 : wt (c :: r) = c.length + 1 + wt r := by simp [wt]; omega
    omega
theorem wt_append (a b : List Str) : wt (a ++ b) = wt a + wt b := by
  simp [wt]; omega
theorem wt_take (cs : List Str) (i : Nat) : wt (cs.take i) ≤ wt cs := by
  have h := wt_append (cs.take i) (cs.drop i)
  rw [List.take_append_drop] at h
  omega
theorem norm_dd1 {ws : List Str} {c : Str} (h : ∀ v ∈ ws, (v == Str.ofString "..") = false) : ∀ v ∈ normStep ws c, (v == Str.ofString "..") = false := by
  unfold normStep
  (repeat' split)
  · exact h
  · exact h
  · rename_i hc
    intro v hv
    rcases List.mem_append.mp hv with hv | hv
    · exact h v hv
    · rw [List.mem_singleton.mp hv]
      simpa using hc
  · exact fun v hv => h v (List.dropLast_subset _ hv)
theorem norm_dd : ∀ (cs : List Str) {ws : List Str}, (∀ v ∈ ws, (v == Str.ofString "..") = false) → ∀ v ∈ cs.foldl normStep ws, (v == Str.ofString "..") = false
  | [], _, h => h
  | c :: r, _, h => by rw [List.foldl_cons]; exact norm_dd r (norm_dd1 h)
theorem norm_a {ws : List Str} {c : Str} (h : (c.length : Int) = 0) : normStep ws c = ws := by rw [normStep, if_pos h]
theorem norm_b {ws : List Str} {c : Str} (h : (c.length : Int) ≠ 0) (h2 : (c == Str.ofString ".") = true) : normStep ws c = ws := by rw [normStep, if_neg h, if_pos h2]
theorem norm_c {ws : List Str} {c : Str} (h : (c.length : Int) ≠ 0) (h2 : (c == Str.ofString ".") = false) (h3 : (c != Str.ofString "..") = true) : normStep ws c = ws ++ [c] := by rw [normStep, if_neg h, h2, if_neg (by decide), if_pos h3]
theorem norm_d {ws : List Str} {c : Str} (h : (c.length : Int) ≠ 0) (h2 : (c == Str.ofString ".") = false) (h3 : (c != Str.ofString "..") = false) : normStep ws c = ws.dropLast := by rw [normStep, if_neg h, h2, if_neg (by decide), h3, if_neg (by decide)]
theorem norm_e {ws : List Str} {c : Str} (h : (c.length : Int) ≠ 0) (h2 : (c == Str.ofString ".") = false) (h3 : (c != Str.ofString "..") = false) (h4 : ws.isEmpty = true) : normStep ws c = ws := by
  rw [norm_d h h2 h3, List.isEmpty_iff.1 h4]
  rfl
def normOf (x : Str) : Str := rootOf x ++ Str.join (Str.ofString "/") ((Txt.split (restOf x) (Str.ofString "/")).foldl normStep [])
theorem norm_facts (x : Str) (i : Nat) : ((((Txt.split x (Str.ofString "/")).take i).foldl normStep []).map (·.length)).sum + (((Txt.split x (Str.ofString "/")).take i).foldl normStep []).length ≤ x.length + 1 ∧
    ∀ v ∈ ((Txt.split x (Str.ofString "/")).take i).foldl normStep [], (v == Str.ofString "..") = false := by
  refine ⟨?_, norm_dd _ (fun _ h => nomatch h)⟩
  have h1 := norm_wt ((Txt.split x (Str.ofString "/")).take i) []
  have h2 := wt_take (Txt.split x (Str.ofString "/")) i
  have h3 := split_weight x (Str.ofString "/") (by decide)
  simp only [wt, List.map_nil, List.sum_nil, List.length_nil] at h1 h2
  omega
theorem tells_normpath {w : World} {mean : ExcName → Option Value} {mg mb : Str → Option Value} (x : Str) (tx : Tok) (hx : x.length ≤ 2000) (hx0 : (x.length : Int) ≠ 0) (hroot : ((rootOf x).length : Int) ≠ 0) :
    Tells w mean mg mb 9 201 [.str x tx] (fun t => .str (normOf x) t) := by
  k_with_none
  dsimp only [Tells, TellsG]
  k_fill
  intros
  rename_i hret
  refine wpAny_call ?_
  k_dflt k_enter
  k_steps
  · with_reducible rename Fr _ _ _ _ => lF'
    with_reducible rename News _ _ _ _ => lN'
    with_reducible rename _ < _ ∧ _ => l1'
    with_reducible rename List.map _ _ = Txt.split _ _ => hsp
    with_reducible rename ∀ a : Str, a ∈ _ → Str.length a ≤ _ => hal
    with_reducible rename (restOf x).length ≤ _ => hrl
    with_reducible rename StrsAre _ _ => hsa
    rw [hsp] at hsa hal
    with_unfolding_all refine' For_invVF lF' ?k1 ?k2 ?_
    case k1 => exact rfl
    case k2 => exact rfl
    k_steps
    refine iter_foldD (us₀ := []) (cur₀ := []) (k₀ := 0) (ws := Txt.split (restOf x) (Str.ofString "/")) normStep rfl hsa .nil ?_ lF' lN' ?_ ?_
    · exact List.forall_mem_cons.2 ⟨Nat.ne_of_lt l1'.1, List.forall_mem_cons.2 ⟨Nat.ne_of_lt l1'.2.1, fun p hp => Nat.ne_of_lt (kst_ltOf l1'.2.2 p hp)⟩⟩
    · intro i c t us k h tk I oI hw hu hDr hpI F1 N1
      clear lF' lN'
      have hcl := hal c (List.mem_of_getElem? hw)
      obtain ⟨hwt, hdd⟩ := norm_facts (restOf x) i
      generalize List.foldl normStep [] (List.take i (Txt.split (restOf x) (Str.ofString "/"))) = cur at *
      have hul := hu.length
      clear hw hsa hsp hal
      k_steps
      all_goals (try dsimp only)
      all_goals
        with_reducible rename Fr _ _ _ _ => F9
        with_reducible rename News _ _ _ _ => N9
        refine foldPost_next (by first | exact .inl rfl | exact .inr rfl) F9 (fun y hy => if_neg hy) N9 (fun p hp => hp) ?_
        first
          | (rw [norm_a (by with_reducible assumption)]; assumption)
          | (rw [norm_b (by with_reducible assumption) (by with_reducible assumption)]; assumption)
          | (rw [norm_c (by with_reducible assumption) (by with_reducible assumption) (by with_reducible assumption)]; exact sa_snoc hu)
          | (rw [norm_e (by with_reducible assumption) (by with_reducible assumption) (by with_reducible assumption) (by with_reducible assumption)]; assumption)
          | (with_reducible rename _ ∈ cur => hv9; exact absurd (hdd _ hv9) (by with_reducible rename (_ == Str.ofString "..") = true => h9; rw [h9]; decide))
          | (rw [norm_d (by with_reducible assumption) (by with_reducible assumption) (by with_reducible assumption)]; assumption)
          | exact absurd (by assumption) hroot
    · intro us k u h tk hu F1 N1
      clear lF' lN'
      have hwt := (norm_facts (restOf x) (Txt.split (restOf x) (Str.ofString "/")).length).1
      rw [List.take_length] at hwt
      generalize hcur : List.foldl normStep [] (Txt.split (restOf x) (Str.ofString "/")) = cur at *
      clear hsa hsp hal
      k_steps
      · exact retS hret (by assumption) (by assumption) (by first | (intro p9 hp9; (repeat (first | (with_reducible exact hp9) | refine List.mem_cons_of_mem _ ?_)); done) | kcj_all) (by rw [normOf, hcur])
      · exfalso
        omega
  · exact absurd (by assumption) hx0
end
section
section
variable {prog : Program} {w : World} {A : Around} {E : Value → Shared → Prop} {s : Shared} {env : Env} {h₀ : Heap} {x a : Str} {body : List Stmt} {Q : Flow → Shared → Prop}
/-- a turn's end: the name a holds a list of the texts cur' -/
def FoldPostV (h₀ : Heap) (L : Addr) (x a : Str) (m₀ : Str → Option Value) (rest : List (Addr × Obj)) (cur' : List Str) (I : Addr) (oI : Obj) (s₁ : Shared) (Q : Flow → Shared → Prop) (f : Flow) (s₂ : Shared) : Prop :=
  match f with
  | .ret v => Q (.ret v) s₂
  | .brk => Q .next s₂
  | _ => ∃ h' tk m' S us k, s₂ = { s₁ with heap := h', toks := tk } ∧ Fr h₀ L h' m' ∧ m' a = some (.ref S) ∧ (∀ y, y ≠ x → y ≠ a → m' y = m₀ y) ∧ News h₀ L h' ((I, oI) :: (S, listOf us.toArray k) :: rest) ∧ S ≠ I ∧ StrsAre us cur'
theorem foldPostV_next {L S : Addr} {m₀ m' : Str → Option Value} {rest all : List (Addr × Obj)} {cur' : List Str} {I : Addr} {oI : Obj} {s₁ : Shared} {f : Flow} {h' : Heap} {tk : Nat} {us : List Value} {k : Nat} (hf : f = .next ∨ f = .cont)
    (F : Fr h₀ L h' m') (ha : m' a = some (.ref S)) (hm : ∀ y, y ≠ x → y ≠ a → m' y = m₀ y) (N : News h₀ L h' all) (hs : ∀ p ∈ (I, oI) :: (S, listOf us.toArray k) :: rest, p ∈ all) (hSI : S ≠ I) (hu : StrsAre us cur') :
    FoldPostV h₀ L x a m₀ rest cur' I oI s₁ Q f { s₁ with heap := h', toks := tk } := by
  rcases hf with rfl | rfl <;> exact ⟨h', tk, m', S, us, k, rfl, F, ha, hm, fun p hp => N p (hs p hp), hSI, hu⟩
theorem iter_foldV {l S₀ : Addr} {vs us₀ : List Value} {ws cur₀ : List Str} {nn k₀ : Nat} {m₀ : Str → Option Value} {rest : List (Addr × Obj)} (f : List Str → Str → List Str) (hax : a ≠ x)
    (hh : A.handled = none) (hi : StrsAre vs ws) (hc : StrsAre us₀ cur₀) (ha : m₀ a = some (.ref S₀)) (F : Fr h₀ env.locals s.heap m₀) (N : News h₀ env.locals s.heap ((S₀, listOf us₀.toArray k₀) :: (l, listOf vs.toArray nn) :: rest))
    (turn : ∀ i c t S us k h tk I oI, ws[i]? = some c → StrsAre us ((ws.take i).foldl f cur₀) → (∀ p ∈ (S, listOf us.toArray k) :: (l, listOf vs.toArray nn) :: rest, p.1 ≠ I) →
      Fr h₀ env.locals h (fun y => if y = x then some (.str c t) else if y = a then some (.ref S) else m₀ y) → News h₀ env.locals h ((I, oI) :: (S, listOf us.toArray k) :: (l, listOf vs.toArray nn) :: rest) →
      wpAny (model prog w) A (execs body env) (FoldPostV h₀ env.locals x a m₀ ((l, listOf vs.toArray nn) :: rest) (f ((ws.take i).foldl f cur₀) c) I oI { s with heap := h, toks := tk } Q) E { s with heap := h, toks := tk })
    (done : ∀ S us k u h tk, StrsAre us (ws.foldl f cur₀) → Fr h₀ env.locals h (fun y => if y = x then u else if y = a then some (.ref S) else m₀ y) → News h₀ env.locals h ((S, listOf us.toArray k) :: (l, listOf vs.toArray nn) :: rest) → Q .next { s with heap := h, toks := tk }) :
    wpAny (model prog w) A (pyIter (.ref l)) (fun it s₂ => LoopAtV prog w A h₀ env x body Q E it s₂) E s := by
  have hmx : ∀ (m₁ : Str → Option Value) (v : Option Value) (S : Addr), m₁ a = some (.ref S) → (∀ y, y ≠ x → y ≠ a → m₁ y = m₀ y) → (fun y => if y = x then v else m₁ y) = fun y => if y = x then v else if y = a then some (.ref S) else m₀ y := by
    intro m₁ v S hS h
    funext y
    by_cases e : y = x
    · simp [e]
    · simp only [if_neg e]
      by_cases e2 : y = a
      · rw [if_pos e2, e2]; exact hS
      · rw [if_neg e2]; exact h y e e2
  refine iter_strsG (vs := vs) (ws := ws) (nn := nn) (fun i m nx => ∃ S us k, m a = some (.ref S) ∧ (∀ y, y ≠ x → y ≠ a → m y = m₀ y) ∧ nx = (S, listOf us.toArray k) :: (l, listOf vs.toArray nn) :: rest ∧ StrsAre us ((ws.take i).foldl f cur₀)) hh (.tail _ (.head _)) hi F N ⟨S₀, us₀, k₀, ha, fun _ _ _ => rfl, rfl, by simpa using hc⟩ ?_ ?_
  · rintro i c t m₁ news₁ h tk I oI hw hI hl ⟨S, us, k, hS, hm, rfl, hu⟩ F₁ N₁
    rw [hmx m₁ _ S hS hm] at F₁
    refine wpAny_mono (turn i c t S us k h tk I oI hw hu hI F₁ N₁) (fun fl s₂ p => ?_) fun _ _ e => e
    have up : (∃ h' tk' m' S us k, s₂ = { ({ s with heap := h, toks := tk } : Shared) with heap := h', toks := tk' } ∧ Fr h₀ env.locals h' m' ∧ m' a = some (.ref S) ∧ (∀ y, y ≠ x → y ≠ a → m' y = m₀ y) ∧ News h₀ env.locals h' ((I, oI) :: (S, listOf us.toArray k) :: (l, listOf vs.toArray nn) :: rest) ∧ S ≠ I ∧ StrsAre us (f ((ws.take i).foldl f cur₀) c)) →
        LoopRest h₀ env.locals (fun m nx => ∃ S us k, m a = some (.ref S) ∧ (∀ y, y ≠ x → y ≠ a → m y = m₀ y) ∧ nx = (S, listOf us.toArray k) :: (l, listOf vs.toArray nn) :: rest ∧ StrsAre us ((ws.take (i + 1)).foldl f cur₀)) l (listOf vs.toArray nn) I oI { s with heap := h, toks := tk } s₂ := by
      rintro ⟨h', tk', m', S', us', k', e, F', hS', hm', N', hSI, hu'⟩
      refine ⟨h', tk', m', _, e, F', N', fun p hp => ?_, .tail _ (.head _), S', us', k', hS', hm', rfl, ?_⟩
      · rcases List.mem_cons.mp hp with rfl | hp
        · exact hSI
        · exact hI p (.tail _ hp)
      · rw [List.take_add_one, hw, List.foldl_append]; exact hu'
    cases fl with
    | ret v => exact p
    | brk => exact p
    | next => exact up p
    | cont => exact up p
  · rintro m₁ news₁ h tk hl ⟨S, us, k, hS, hm, rfl, hu⟩ F₁ N₁
    rw [List.take_length] at hu
    refine done S us k (m₁ x) h tk hu ?_ N₁
    have e : (fun y => if y = x then m₁ x else if y = a then some (.ref S) else m₀ y) = m₁ := by
      rw [← hmx m₁ (m₁ x) S hS hm]
      funext y
      by_cases e : y = x
      · simp [e]
      · simp only [if_neg e]
    rw [e]; exact F₁
end
section
variable {prog : Program} {w : World} {A : Around} {E : Value → Shared → Prop} {s : Shared} {h₀ : Heap} {L S : Addr} {m : Str → Option Value} {news : List (Addr × Obj)} {us : List Value} {ws : List Str} {k : Nat}
theorem sa_take : ∀ {us : List Value} {ws : List Str} (n : Nat), StrsAre us ws → StrsAre (us.take n) (ws.take n)
  | _, _, 0, _ => .nil
  | _, _, _ + 1, .nil => .nil
  | _, _, n + 1, .cons y t r => .cons y t (sa_take n r)
theorem sa_append : ∀ {us us2 : List Value} {ws ws2 : List Str}, StrsAre us ws → StrsAre us2 ws2 → StrsAre (us ++ us2) (ws ++ ws2)
  | _, _, _, _, .nil, h => h
  | _, _, _, _, .cons y t r, h => .cons y t (sa_append r h)
theorem slice_init {value slice : Expr} {t : Tok} {Q : Value → Shared → Prop} (F : Fr h₀ L s.heap m) (N : News h₀ L s.heap news) (hm : (S, listOf us.toArray k) ∈ news) (hu : StrsAre us ws) (hz : ws.length ≤ sizeLine)
    (h : ∀ D us' h', Fr h₀ L h' m → News h₀ L h' ((D, listOf (List.toArray us') 0) :: news) → (∀ p ∈ news, p.1 < D) → StrsAre us' ws.dropLast → Q (.ref D) { s with heap := h' })
    (hs : subscripted slice false (.ref S) (.ref s.heap.objs.size) = operate [.ref s.heap.objs.size, .ref S] (getItem (.ref S) (.ref s.heap.objs.size))) (ht : ∀ r, letTemporaryGo value (.ref S) r = pure ()) :
    wpAny (model prog w) A (subscriptTail value slice (.ref S) (.ref s.heap.objs.size)) Q E { s with heap := s.heap.push { cls := .type "slice", data := .fields #[.none, .int (-1) t, .none] } } := by
  refine kmk_slice F N ⟨_, (N _ hm).1, rfl, _, rfl⟩ IsPart.none (IsPart.int _ _) (fun D h' F' N' l1 => ?_) hs ht (by rw [List.size_toArray, hu.length]; exact hz)
  have e : sliceBounds none (some (-1)) none us.toArray.size = (((0 : Nat) : Int), ((us.toArray.size - 1 : Nat) : Int), 1) := by
    simp only [sliceBounds, Option.getD_none, show (1 : Int) > 0 by decide, if_true, if_pos (show (-1 : Int) < 0 by decide)]
    congr 1
    congr 1
    omega
  rw [kmk_pick_nat _ e] at N'
  refine h D ((us.drop 0).take (us.toArray.size - 1 - 0)) h' F' N' l1 ?_
  rw [List.drop_zero, Nat.sub_zero, List.size_toArray, hu.length, List.dropLast_eq_take]
  exact sa_take _ hu
theorem add_strLists {b : Addr} {us2 : List Value} {ws2 : List Str} {k2 : Nat} {Q : Value → Shared → Prop} (F : Fr h₀ L s.heap m) (N : News h₀ L s.heap news) (hm : (S, listOf us.toArray k) ∈ news) (hm2 : (b, listOf us2.toArray k2) ∈ news) (hu : StrsAre us ws) (hu2 : StrsAre us2 ws2) (hz : ws.length + ws2.length ≤ 16777216)
    (h : ∀ D us' h', Fr h₀ L h' m → News h₀ L h' ((D, listOf (List.toArray us') 0) :: news) → (∀ p ∈ news, p.1 < D) → StrsAre us' (ws ++ ws2) → Q (.ref D) { s with heap := h' }) :
    wpAny (model prog w) A (binaryOp .Add (.ref S) (.ref b)) Q E s := by
  refine add_arrays F N (its := us.toArray) (its2 := us2.toArray) ⟨_, (N _ hm).1, rfl, _, rfl⟩ ⟨_, (N _ hm2).1, rfl, _, rfl⟩ (fun h' F' N' => h _ (us ++ us2) h' F' N' (fun p hp => Heap.lt_size (N p hp).1) (sa_append hu hu2)) ?_
  rw [List.size_toArray, List.size_toArray, hu.length, hu2.length, PySem.sizeLine_eq]
  exact hz
end
end
section
local macro_rules | `(tactic| walk_at "call builtin:str.join") => `(tactic| (k_here; (with_reducible show wpAny _ _ (call (Value.builtin _) [Value.str _ _, Value.ref _]) _ _ _); k_dflt (refine' join_slash ?N ?m ?u ?z ?_; (case N => k_asm); (case m => k_mem); (case u => with_reducible assumption); (case z => (first | assumption | omega)); k_whole); intro t8 k8 z8))
local macro_rules | `(tactic| walk_at "subscriptTail Name Slice ref ref") => `(tactic| (k_here; (with_reducible show wpAny _ _ (subscriptTail _ (PySem.Expr.Slice _ _ none _) (Value.ref _) (Value.ref _)) _ _ _); k_dflt (refine' slice_init ?F ?N ?m ?u ?z ?_ ?s ?t; (case F => k_asm); (case N => k_asm); (case m => k_mem); (case u => with_reducible assumption); (case z => (rw [PySem.sizeLine_eq]; omega)); (case s => with_unfolding_all rfl); (case t => (intro _; with_unfolding_all rfl)); k_whole); intro D' us' h' F' N' l1 hu'; (try k_lt l1)))
local macro_rules | `(tactic| walk_at "binaryOp Add ref ref") => `(tactic| (k_here; (with_reducible show wpAny _ _ (binaryOp Operator.Add (Value.ref _) (Value.ref _)) _ _ _); k_dflt (refine' add_strLists ?F ?N ?m ?m2 ?u (.cons _ _ .nil) ?z ?_; (case F => k_asm); (case N => k_asm); (case m => k_mem); (case m2 => k_mem); (case u => with_reducible assumption); (case z => (simp only [List.length_singleton]; omega)); k_whole); intro D' us' h' F' N' l1 hu'; (try k_lt l1)))
def placeStep (st : List Str) (p : Str) : List Str :=
  if (p == Str.ofString "..") = true then st.dropLast else if ([Str.ofString "", Str.ofString "."].any fun x => x == p) = true then st else st ++ [p]
theorem place_wt1 (ws : List Str) (c : Str) : wt (placeStep ws c) ≤ wt ws + (c.length + 1) := by
  unfold placeStep
  (repeat' split)
  · have := wt_dropLast ws; omega
  · omega
  · rw [wt_snoc]; omega
theorem place_wt : ∀ (cs ws : List Str), wt (cs.foldl placeStep ws) ≤ wt ws + wt cs
  | [], ws => by simp [wt]
  | c :: r, ws => by
    rw [List.foldl_cons]
    have h1 := place_wt r (placeStep ws c)
    have h2 := place_wt1 ws c
    have h3 : wt (c :: r) = c.length + 1 + wt r := by simp [wt]; omega
    omega
theorem place_facts (st : List Str) (hst : wt st ≤ 4) (x : Str) (i : Nat) : ((((Txt.split x (Str.ofString "/")).take i).foldl placeStep st).map (·.length)).sum + (((Txt.split x (Str.ofString "/")).take i).foldl placeStep st).length ≤ x.length + 5 := by
  have h1 := place_wt ((Txt.split x (Str.ofString "/")).take i) st
  have h2 := wt_take (Txt.split x (Str.ofString "/")) i
  have h3 := split_weight x (Str.ofString "/") (by decide)
  simp only [wt] at h1 h2 hst
  omega
theorem place_bound {us : List Value} {st : List Str} {x : Str} {i : Nat} (hu : StrsAre us (((Txt.split x (Str.ofString "/")).take i).foldl placeStep st)) (hst : wt st ≤ 4) : ((((Txt.split x (Str.ofString "/")).take i).foldl placeStep st).map (·.length)).sum + (((Txt.split x (Str.ofString "/")).take i).foldl placeStep st).length ≤ x.length + 5 := place_facts st hst x i
theorem place_bound' {us : List Value} {st : List Str} {x : Str} (hu : StrsAre us ((Txt.split x (Str.ofString "/")).foldl placeStep st)) (hst : wt st ≤ 4) : (((Txt.split x (Str.ofString "/")).foldl placeStep st).map (·.length)).sum + ((Txt.split x (Str.ofString "/")).foldl placeStep st).length ≤ x.length + 5 := by
  have h := place_facts st hst x (Txt.split x (Str.ofString "/")).length
  rw [List.take_length] at h
  exact h
theorem place_a {ws : List Str} {c : Str} (h : (c == Str.ofString "..") = true) : placeStep ws c = ws.dropLast := by rw [placeStep, if_pos h]
theorem place_b {ws : List Str} {c : Str} (h : (c == Str.ofString "..") = false) (h2 : ([Str.ofString "", Str.ofString "."].any fun x => x == c) = true) : placeStep ws c = ws := by rw [placeStep, h, if_neg (by decide), if_pos h2]
theorem place_c {ws : List Str} {c : Str} (h : (c == Str.ofString "..") = false) (h2 : ([Str.ofString "", Str.ofString "."].any fun x => x == c) = false) : placeStep ws c = ws ++ [c] := by rw [placeStep, h, if_neg (by decide), h2, if_neg (by decide)]
theorem news_swap {h₀ h : Heap} {L : Addr} {p q t : Addr × Obj} {r : List (Addr × Obj)} (N : News h₀ L h (p :: t :: q :: r)) : News h₀ L h (q :: p :: r) := fun z hz => N z (by
  rcases List.mem_cons.mp hz with rfl | hz
  · exact .tail _ (.tail _ (.head _))
  · rcases List.mem_cons.mp hz with rfl | hz
    · exact .head _
    · exact .tail _ (.tail _ (.tail _ hz)))
def placeOf (x : Str) : Str :=
  (if (Txt.lstripChars x (Str.ofString "/") != x) = true then (if (x.length : Int) - ((Txt.lstripChars x (Str.ofString "/")).length : Int) = 2 then Str.ofString "//" else Str.ofString "/") else Str.ofString "/") ++
  Str.join (Str.ofString "/") ((Txt.split (Txt.lstripChars x (Str.ofString "/")) (Str.ofString "/")).foldl placeStep (if (Txt.lstripChars x (Str.ofString "/") != x) = true then [] else [Str.ofString "h", Str.ofString "i"]))
theorem place_1 {x cur : _} (h : (Txt.lstripChars x (Str.ofString "/") != x) = true) (h2 : (x.length : Int) - ((Txt.lstripChars x (Str.ofString "/")).length : Int) = 2) (hc : List.foldl placeStep [] (Txt.split (Txt.lstripChars x (Str.ofString "/")) (Str.ofString "/")) = cur) :
    Str.ofString "//" ++ Str.join (Str.ofString "/") cur = placeOf x := by
  rw [placeOf, h, if_pos rfl, if_pos h2, if_pos rfl, hc]
theorem place_2 {x cur : _} (h : (Txt.lstripChars x (Str.ofString "/") != x) = true) (h2 : (x.length : Int) - ((Txt.lstripChars x (Str.ofString "/")).length : Int) ≠ 2) (hc : List.foldl placeStep [] (Txt.split (Txt.lstripChars x (Str.ofString "/")) (Str.ofString "/")) = cur) :
    Str.ofString "/" ++ Str.join (Str.ofString "/") cur = placeOf x := by
  rw [placeOf, h, if_pos rfl, if_neg h2, if_pos rfl, hc]
theorem place_3 {x cur : _} (h : (Txt.lstripChars x (Str.ofString "/") != x) = false) (hc : List.foldl placeStep [Str.ofString "h", Str.ofString "i"] (Txt.split (Txt.lstripChars x (Str.ofString "/")) (Str.ofString "/")) = cur) :
    Str.ofString "/" ++ Str.join (Str.ofString "/") cur = placeOf x := by
  rw [placeOf, h, if_neg (by decide), if_neg (by decide), hc]
theorem tells_place {w : World} {mean : ExcName → Option Value} {mg mb : Str → Option Value} (x : Str) (tx : Tok) (hx : x.length ≤ 1000) :
    Tells w mean mg mb 6 213 [.str x tx] (fun t => .str (placeOf x) t) := by
  k_with_none
  dsimp only [Tells, TellsG]
  k_fill
  intro dp un gd cn nms ig ic mo a ccd cl outer A₀ base h₀ L m news s Q E hB0 hF0 hX0 hN0 hT0 hd0 hu0 hret
  refine wpAny_call ?_
  k_dflt k_enter
  k_steps
  rotate_left 2
  all_goals
    with_reducible rename Fr _ _ _ _ => lF'
    with_reducible rename News _ _ _ _ => lN'
    with_reducible rename List.map _ _ = Txt.split _ _ => hsp
    with_reducible rename ∀ a : Str, a ∈ _ → Str.length a ≤ _ => hal
    with_reducible rename StrsAre _ _ => hsa
    rw [hsp] at hsa hal
    refine iter_foldV (a := Str.ofString "stack") (ws := Txt.split (Txt.lstripChars x (Str.ofString "/")) (Str.ofString "/")) placeStep (by decide) rfl hsa (by first | exact .nil | exact .cons _ _ (.cons _ _ .nil)) rfl lF' (news_swap lN') ?_ ?_
    · intro i c t S us k h tk I oI hw hu hI F1 N1
      clear lF' lN'
      have hcl := hal c (List.mem_of_getElem? hw)
      have hwt := place_bound hu (by decide)
      generalize List.foldl placeStep _ (List.take i _) = cur at *
      have hul := hu.length
      clear hw hsa hsp hal
      k_steps
      all_goals
        with_reducible rename Fr _ _ _ _ => F9
        with_reducible rename News _ _ _ _ => N9
        refine' foldPostV_next (by first | exact .inl rfl | exact .inr rfl) F9 rfl (fun y h1 h2 => by simp only [if_neg h1, if_neg h2]) N9 ?hs ?hI ?hu
        case hs =>
          intro p hp
          rcases List.mem_cons.mp hp with rfl | hp
          · repeat (first | exact .head _ | refine .tail _ ?_)
          · rcases List.mem_cons.mp hp with rfl | hp
            · repeat (first | exact .head _ | refine .tail _ ?_)
            · repeat (first | exact hp | refine .tail _ ?_)
        case hI => first | exact hI _ (.head _) | exact Nat.ne_of_gt (by omega)
        case hu => first
          | (rw [place_a (by with_reducible assumption)]; assumption)
          | (rw [place_b (by with_reducible assumption) (by with_reducible assumption)]; assumption)
          | (rw [place_c (by with_reducible assumption) (by with_reducible assumption)]; assumption)
    · intro S us k u h tk hu F1 N1
      clear lF' lN'
      have hwt := place_bound' hu (by decide)
      generalize hcur : List.foldl placeStep _ (Txt.split _ _) = cur at *
      clear hsa hsp hal
      k_steps
      exact retS hret (by assumption) (by assumption) (by first | (intro p9 hp9; (repeat (first | (with_reducible exact hp9) | refine List.mem_cons_of_mem _ ?_)); done) | kcj_all) (by first | exact place_1 (by with_reducible assumption) (by with_reducible assumption) hcur | exact place_2 (by with_reducible assumption) (by with_reducible assumption) hcur | exact place_3 (by with_reducible assumption) hcur)
end
section
section
variable {prog : Program} {w : World} {A : Around} {E : Value → Shared → Prop} {s : Shared} {env : Env} {h₀ : Heap} {x a : Str} {body : List Stmt} {Q : Flow → Shared → Prop}
/-- a turn's end: the name a holds an int i of which P is so -/
def TextPost (h₀ : Heap) (L : Addr) (x a : Str) (m₀ : Str → Option Value) (all : List (Addr × Obj)) (P : Int → Prop) (s₁ : Shared) (Q : Flow → Shared → Prop) (f : Flow) (s₂ : Shared) : Prop :=
  match f with
  | .ret v => Q (.ret v) s₂
  | .brk => Q .next s₂
  | _ => ∃ h' tk m' i t, s₂ = { s₁ with heap := h', toks := tk } ∧ Fr h₀ L h' m' ∧ m' a = some (.int i t) ∧ (∀ y, y ≠ x → y ≠ a → m' y = m₀ y) ∧ News h₀ L h' all ∧ P i
theorem textPost_next {L : Addr} {m₀ m' : Str → Option Value} {all all' : List (Addr × Obj)} {P : Int → Prop} {s₁ : Shared} {h' : Heap} {tk : Nat} {i : Int} {t : Tok}
    (F : Fr h₀ L h' m') (ha : m' a = some (.int i t)) (hm : ∀ y, y ≠ x → y ≠ a → m' y = m₀ y) (N : News h₀ L h' all') (hs : ∀ p ∈ all, p ∈ all') (hp : P i) :
    TextPost h₀ L x a m₀ all P s₁ Q .next { s₁ with heap := h', toks := tk } := ⟨h', tk, m', i, t, rfl, F, ha, hm, fun p hp => N p (hs p hp), hp⟩
theorem iter_textI {xt : Str} {tx : Tok} {i₀ : Int} {t₀ : Tok} {m₀ : Str → Option Value} {news : List (Addr × Obj)} (P : List Nat → Int → Prop) (hax : a ≠ x)
    (hh : A.handled = none) (ha : m₀ a = some (.int i₀ t₀)) (hp : P [] i₀) (F : Fr h₀ env.locals s.heap m₀) (N : News h₀ env.locals s.heap news)
    (turn : ∀ pre c post i t ti h tk own, xt.cps.toList = pre ++ c :: post → P pre i →
      Fr h₀ env.locals h (fun y => if y = x then some (.str ⟨#[c]⟩ t) else if y = a then some (.int i ti) else m₀ y) → News h₀ env.locals h (news ++ own) →
      wpAny (model prog w) A (execs body env) (TextPost h₀ env.locals x a m₀ (news ++ own) (P (pre ++ [c])) { s with heap := h, toks := tk } Q) E { s with heap := h, toks := tk })
    (done : ∀ i ti u h tk, P xt.cps.toList i → Fr h₀ env.locals h (fun y => if y = x then u else if y = a then some (.int i ti) else m₀ y) → News h₀ env.locals h news → Q .next { s with heap := h, toks := tk }) :
    wpAny (model prog w) A (pyIter (.str xt tx)) (fun it s₂ => LoopAtV prog w A h₀ env x body Q E it s₂) E s := by
  have hmx : ∀ (m₁ : Str → Option Value) (v : Option Value) (i : Int) (t : Tok), m₁ a = some (.int i t) → (∀ y, y ≠ x → y ≠ a → m₁ y = m₀ y) → (fun y => if y = x then v else m₁ y) = fun y => if y = x then v else if y = a then some (.int i t) else m₀ y := by
    intro m₁ v i t hS h
    funext y
    by_cases e : y = x
    · simp [e]
    · simp only [if_neg e]
      by_cases e2 : y = a
      · rw [if_pos e2, e2]; exact hS
      · rw [if_neg e2]; exact h y e e2
  refine wpAny_pyIter_str fun o St hW hst => ?_
  have W := hW A hh
  refine loop_invN (fun i m nx => nx = news ∧ ∃ k t, m a = some (.int k t) ∧ (∀ y, y ≠ x → y ≠ a → m y = m₀ y) ∧ P (xt.cps.toList.take i) k) W ?_ ?_ ?_ ?_ hst (F.push _) (fun p hp => ⟨Heap.get?_push_of_some _ (N p hp).1, (N p hp).2⟩) ⟨rfl, i₀, t₀, ha, fun _ _ _ => rfl, by simpa using hp⟩ ?_ ?_
  · intro hm
    exact absurd F.ns.lt ((List.mem_singleton.mp hm) ▸ Nat.lt_irrefl _)
  · intro b' hb
    rw [List.mem_singleton.mp hb]
    exact next_is_new F
  · intro p hp hI
    exact absurd (Heap.lt_size (N p hp).1) ((List.mem_singleton.mp hI) ▸ Nat.lt_irrefl _)
  · intro p hp hI
    exact absurd (Heap.lt_size (N p hp).1) ((List.mem_singleton.mp hI) ▸ Nat.lt_irrefl _)
  · rintro i v m₁ nx h tk own hi ⟨n, u, hn, rfl⟩ _ hoff ⟨rfl, k, tk0, hk, hm, hp'⟩ F₁ N₁
    rw [hmx m₁ _ k tk0 hk hm] at F₁
    have hn' : xt.cps.toList[i]? = some n := by simpa using hn
    have hs : xt.cps.toList.take (i + 1) = xt.cps.toList.take i ++ [n] := by simp [List.take_add_one, hn']
    have e : xt.cps.toList = xt.cps.toList.take i ++ n :: xt.cps.toList.drop (i + 1) := by
      have ht := List.take_append_drop (i + 1) xt.cps.toList
      rw [hs, List.append_assoc] at ht
      exact ht.symm
    rw [hs]
    refine wpAny_mono (turn _ n _ k u tk0 h tk own e hp' F₁ N₁) (fun f s₂ p => ?_) fun _ _ x => x
    cases f with
    | ret v => exact p
    | brk => exact p
    | next =>
      obtain ⟨h', tk', m', i', t', e', F', hk', hm', N', hp2⟩ := p
      exact ⟨h', tk', m', nx ++ own, nx, e', F', N', fun p hp => List.mem_append_left _ hp, fun p hp => List.mem_append_right _ hp, rfl, rfl, i', t', hk', hm', hp2⟩
    | cont =>
      obtain ⟨h', tk', m', i', t', e', F', hk', hm', N', hp2⟩ := p
      exact ⟨h', tk', m', nx ++ own, nx, e', F', N', fun p hp => List.mem_append_left _ hp, fun p hp => List.mem_append_right _ hp, rfl, rfl, i', t', hk', hm', hp2⟩
  · rintro m₁ nx h tk ⟨rfl, k, tk0, hk, hm, hp'⟩ F₁ N₁
    have hl : xt.cps.size = xt.cps.toList.length := by simp
    rw [hl, List.take_length] at hp'
    refine done k tk0 (m₁ x) h tk hp' ?_ N₁
    have e : (fun y => if y = x then m₁ x else if y = a then some (.int k tk0) else m₀ y) = m₁ := by
      rw [← hmx m₁ (m₁ x) k tk0 hk hm]
      funext y
      by_cases e : y = x
      · simp [e]
      · simp only [if_neg e]
    rw [e]; exact F₁
end
end
section
local macro_rules | `(tactic| walk_at $s:str) => `(tactic| k_extra $s)
def escU (c : Nat) : List Nat := if c = 46 ∨ c = 32 then [92, c] else [c]
def escs (t : List Nat) : List Nat := t.flatMap escU
def FitInv (t : List Nat) (pre : List Nat) (i : Int) : Prop := i = ((escs pre).length : Int) ∧ pre <+: t
theorem item_nat {x : Str} {k c : Nat} (h : x.cps.toList[k]? = some c) : Txt.item x (k : Int) = ⟨#[c]⟩ := by
  have hk : k < x.cps.toList.length := (List.getElem?_eq_some_iff.1 h).1
  have hl : x.length = x.cps.toList.length := by simp [Str.length]
  have hs : seqIndex? (k : Int) x.length = some k := by
    unfold seqIndex?
    simp only [if_neg (show ¬ ((k : Int) < 0) by omega)]
    rw [if_pos (by simp only [Bool.and_eq_true, decide_eq_true_eq]; omega)]
    simp
  have hc : Txt.charAt x (k : Int) = some c := by
    unfold Txt.charAt
    rw [hs]
    simpa using h
  unfold Txt.item
  rw [hc]
  rfl
theorem escs_append (a b : List Nat) : escs (a ++ b) = escs a ++ escs b := by simp [escs]
theorem escs_cons (d : Nat) (b : List Nat) : escs (d :: b) = escU d ++ escs b := by simp [escs]
theorem fit_parts {t pre post : List Nat} {d : Nat} {tt : Str} (h3 : tt.cps.toList = escs t) (ht : t = pre ++ d :: post) : tt.cps.toList = escs pre ++ (escU d ++ escs post) := by
  rw [h3, ht, escs_append, escs_cons]
theorem str_len {tt : Str} : tt.length = tt.cps.toList.length := by simp [Str.length]
theorem fit_cases {t pre : List Nat} {i : Int} {tt : Str} (h3 : tt.cps.toList = escs t) (hinv : FitInv t pre i) (hg : ∀ d ∈ t, d ≠ 92) :
    (i = (tt.length : Int) ∧ pre = t) ∨
    (∃ d post, t = pre ++ d :: post ∧ 0 ≤ i ∧ i + 1 < (tt.length : Int) ∧ (Txt.item tt i == Str.ofString "\\") = true ∧ Txt.isalnum (Txt.item tt (i + 1)) = false ∧ Txt.item tt (i + 1) = ⟨#[d]⟩ ∧ (escU d).length = 2) ∨
    (∃ d post, t = pre ++ d :: post ∧ 0 ≤ i ∧ i < (tt.length : Int) ∧ (Txt.item tt i == Str.ofString "\\") = false ∧ (Txt.item tt i == Str.ofString ".") = false ∧ Txt.item tt i = ⟨#[d]⟩ ∧ (escU d).length = 1) := by
  obtain ⟨rfl, r, hr⟩ := hinv
  cases r with
  | nil =>
    left
    rw [List.append_nil] at hr
    subst hr
    exact ⟨by rw [str_len, h3], rfl⟩
  | cons d post =>
    right
    have hp := fit_parts h3 hr.symm
    have hlen : tt.length = (escs pre).length + ((escU d).length + (escs post).length) := by rw [str_len, hp]; simp
    by_cases hd : d = 46 ∨ d = 32
    · left
      have e : escU d = [92, d] := by rw [escU, if_pos hd]
      rw [e] at hp hlen
      have i1 : Txt.item tt ((escs pre).length : Int) = ⟨#[92]⟩ := item_nat (by rw [hp]; simp)
      have i2 : Txt.item tt (((escs pre).length + 1 : Nat) : Int) = ⟨#[d]⟩ := item_nat (by rw [hp, List.getElem?_append_right (by omega)]; simp)
      have ei : ((escs pre).length : Int) + 1 = (((escs pre).length + 1 : Nat) : Int) := by omega
      refine ⟨d, post, hr.symm, by omega, ?_, ?_, ?_, ?_, by rw [e]; rfl⟩
      · rw [hlen]; simp only [List.length_cons, List.length_nil]; omega
      · rw [i1]; decide
      · rw [ei, i2]; rcases hd with rfl | rfl <;> decide +kernel
      · rw [ei]; exact i2
    · right
      have e : escU d = [d] := by rw [escU, if_neg hd]
      rw [e] at hp hlen
      have i1 : Txt.item tt ((escs pre).length : Int) = ⟨#[d]⟩ := item_nat (by rw [hp]; simp)
      have h92 : d ≠ 92 := hg d (by rw [← hr]; simp)
      refine ⟨d, post, hr.symm, by omega, ?_, ?_, ?_, i1, by rw [e]; rfl⟩
      · rw [hlen]; simp only [List.length_cons, List.length_nil]; omega
      · rw [i1]
        refine beq_eq_false_iff_ne.2 fun h => ?_
        have h' : (⟨#[d]⟩ : Str) = ⟨#[92]⟩ := h
        injection h' with h'
        exact h92 (by simpa using h')
      · rw [i1]
        refine beq_eq_false_iff_ne.2 fun h => ?_
        have h' : (⟨#[d]⟩ : Str) = ⟨#[46]⟩ := h
        injection h' with h'
        exact hd (.inl (by simpa using h'))
theorem sign_eq {d c : Nat} (h : ((⟨#[d]⟩ : Str) != ⟨#[c]⟩) = false) : d = c := by
  have h' : (⟨#[d]⟩ : Str) = ⟨#[c]⟩ := by simpa using h
  injection h' with h'
  simpa using h'
theorem sign_ne {d c : Nat} (h : ((⟨#[d]⟩ : Str) != ⟨#[c]⟩) = true) : d ≠ c := by
  rintro rfl
  simp at h
theorem prefix_iff (a b : List Nat) : a.isPrefixOf b = true ↔ a <+: b := List.isPrefixOf_iff_prefix
theorem fit_full {t pre : List Nat} {c : Nat} {post row : List Nat} (h : row = pre ++ c :: post) (e : pre = t) : true = t.isPrefixOf row := by
  rw [h, ← e]
  exact ((prefix_iff _ _).2 (List.prefix_append _ _)).symm
theorem fit_no {t pre : List Nat} {c d : Nat} {post post' row : List Nat} (h : row = pre ++ c :: post) (e : t = pre ++ d :: post') (hn : d ≠ c) : false = t.isPrefixOf row := by
  cases hb : t.isPrefixOf row with
  | false => rfl
  | true =>
    have hp := (prefix_iff _ _).1 hb
    rw [h, e] at hp
    have := (List.prefix_append_right_inj pre).1 hp
    exact absurd (List.cons_prefix_cons.1 this).1 hn
theorem fit_step {t pre : List Nat} {c : Nat} {post' : List Nat} {i : Int} {k : Nat} (hinv : FitInv t pre i) (e : t = pre ++ c :: post') (hk : (escU c).length = k) (j : Int) (hj : j = i + k) : FitInv t (pre ++ [c]) j := by
  refine ⟨?_, post', by rw [e]; simp⟩
  rw [hj, hinv.1, escs_append, escs_cons]
  simp only [List.length_append, hk, show escs [] = [] from rfl, List.append_nil]
  omega
theorem escs_len_lt (d : Nat) (post : List Nat) : 0 < (escs (d :: post)).length := by
  rw [escs_cons, List.length_append]
  have : 0 < (escU d).length := by unfold escU; split <;> simp
  omega
theorem fit_end {t row : List Nat} {i : Int} {tt : Str} (h3 : tt.cps.toList = escs t) (hinv : FitInv t row i) : (i == (tt.length : Int)) = t.isPrefixOf row := by
  obtain ⟨hi, r, hr⟩ := hinv
  have hl : tt.length = (escs row).length + (escs r).length := by rw [str_len, h3, ← hr, escs_append, List.length_append]
  cases r with
  | nil =>
    rw [List.append_nil] at hr
    rw [(prefix_iff t row).2 (by rw [hr]; exact List.prefix_refl _)]
    simp only [beq_iff_eq]
    rw [hi, hl]
    simp [escs]
  | cons d post =>
    have hlt := escs_len_lt d post
    have h1 : t.isPrefixOf row = false := by
      cases hb : t.isPrefixOf row with
      | false => rfl
      | true =>
        have := ((prefix_iff _ _).1 hb).length_le
        rw [← hr] at this
        simp at this
        omega
    rw [h1]
    refine beq_eq_false_iff_ne.2 ?_
    rw [hi, hl]
    omega
theorem tells_fits {w : World} {mean : ExcName → Option Value} {mg mb : Str → Option Value} (x : Str) (tx : Tok) (hx : x.length ≤ 4000) (y : Str) (ty : Tok) (hy : y.length ≤ 2000) (t : List Nat)
    (h1 : (Txt.slice x none (some 4) != Str.ofString "(?s:") = false) (h2 : (Txt.slice x (some (-5)) none != Str.ofString ".*)\\Z") = false) (h3 : (Txt.slice x (some 4) (some (-5))).cps.toList = escs t) (hg : ∀ d ∈ t, d ≠ 92) :
    Tells w mean mg mb 3 220 [.str x tx, .str y ty] (fun _ => .bool (t.isPrefixOf y.cps.toList)) := by
  k_with_none
  k_with "exec For Name Name cons nil" => (k_here; (with_reducible show wpAny _ _ (exec (Stmt.For (Expr.Name _ _) (Expr.Name _ _) _ _ _) _) _ _ _); (rename Fr _ _ _ _ => lF'); (with_unfolding_all refine' For_invVF lF' ?k1 ?k2 ?_; (case k1 => exact rfl); (case k2 => exact rfl); k_whole))
  k_with "exec For" => (k_here; (with_reducible show wpAny _ _ (exec (Stmt.For (Expr.Name _ _) (Expr.Name _ _) _ _ _) _) _ _ _); (rename Fr _ _ _ _ => lF'); (with_unfolding_all refine' For_invVF lF' ?k1 ?k2 ?_; (case k1 => exact rfl); (case k2 => exact rfl); k_whole))
  dsimp only [Tells, TellsG]
  k_fill
  intro dp un gd cn nms ig ic mo a ccd cl outer A₀ base h₀ L m news s Q E hB0 hF0 hX0 hN0 hT0 hd0 hu0 hret
  refine wpAny_call ?_
  k_dflt k_enter
  k_steps
  with_reducible rename Fr _ _ _ _ => lF'
  with_reducible rename News _ _ _ _ => lN'
  refine iter_textI (a := Str.ofString "place") (FitInv t) (by decide) rfl rfl ⟨rfl, List.nil_prefix⟩ lF' lN' ?_ ?_
  · intro pre c post i tc ti h tk own hpc hinv F1 N1
    clear lF' lN'
    generalize htt : Txt.slice x (some 4) (some (-5)) = tt at *
    rcases fit_cases h3 hinv hg with ⟨ha, hb⟩ | ⟨d, post', hd, hi0, hi1, hq1, hq2, hq3, hq4⟩ | ⟨d, post', hd, hi0, hi1, hq1, hq2, hq3, hq4⟩
    · k_steps
      · dsimp only
        unfold TextPost
        dsimp only
        k_steps
        exact retB hret (by assumption) (by assumption) (by first | (intro p9 hp9; (repeat (first | (with_reducible exact hp9) | refine List.mem_cons_of_mem _ ?_)); done) | kcj_all) (fit_full hpc hb)
      · exact absurd ha (by assumption)
    all_goals
      k_steps
      · exfalso
        omega
      · dsimp only
        unfold TextPost
        dsimp only
        k_steps
        with_reducible rename (Txt.item _ _ != _) = true => hne
        rw [hq3] at hne
        exact retB hret (by assumption) (by assumption) (by first | (intro p9 hp9; (repeat (first | (with_reducible exact hp9) | refine List.mem_cons_of_mem _ ?_)); done) | kcj_all) (fit_no hpc hd (sign_ne hne))
      · with_reducible rename (Txt.item _ _ != _) = false => hne
        rw [hq3] at hne
        cases sign_eq hne
        with_reducible rename Fr _ _ _ _ => F9
        with_reducible rename News _ _ _ _ => N9
        exact textPost_next F9 rfl (fun y h1 h2 => by simp only [if_neg h1, if_neg h2]) N9 (fun p hp => hp) (fit_step hinv hd hq4 _ (by omega))
  · intro i ti u h tk hinv F1 N1
    clear lF' lN'
    generalize htt : Txt.slice x (some 4) (some (-5)) = tt at *
    k_steps
    exact retB hret (by assumption) (by assumption) (by first | (intro p9 hp9; (repeat (first | (with_reducible exact hp9) | refine List.mem_cons_of_mem _ ?_)); done) | kcj_all) (fit_end h3 hinv)
end
section
section
variable {prog : Program} {w : World} {A : Around} {E : Value → Shared → Prop} {s : Shared}
open PySem.Builtin PySem.Builtin.Re
abbrev patO (ps : Str) (pt : Tok) (fl : Int) (ft : Tok) (ta : Addr) : Obj := { cls := .type "re.Pattern", data := .fields #[.str ps pt, .int fl ft, .int 0 0, .none, .none, .ref ta, .int 0 0] }
abbrev tupA (its : Array Value) : Obj := { cls := .type "tuple", data := .seq its }
theorem whole_target {pa ta : Addr} {ps : Str} {pt ft : Tok} {fl : Int} {its : Array Value} {data : Str} {td : Tok} {Q : ReTarget → Shared → Prop} (hp : s.heap.get? pa = some (patO ps pt fl ft ta))
   (ht : s.heap.get? ta = some (tupA its)) (hq : Q ⟨.ref pa, .str data td, (its.map reRawOf).map (·.toNat), data.cps, 0, 0, 0, data.cps.size⟩ s) :
    wpAny (model prog w) A (reWholeTarget (.ref pa) (.str data td)) Q E s := by
  obtain ⟨h, g, d, t, os⟩ := s
  unfold reWholeTarget
  repeat (any_goals (first | assumption | (first | (with_reducible (first | refine PySem.wpAny_pure ?_ | refine PySem.wpAny_bind ?_ | refine PySem.wpAny_holding ?_ | refine PySem.wpAny_standAt ?_ | refine PySem.wpAny_point ?_ | refine PySem.wpAny_rule ?_ | refine PySem.wpAny_letGo ?_ | refine PySem.wpAny_mkInt' ?_ | ((show PySem.wpAny _ _ (PySem.mkStr _) _ _ _); refine PySem.wpAny_mkStr' ?_) | refine PySem.wpAny_fresh' ?_ | refine PySem.wpAny_alloc' ?_ | refine PySem.wpAny_attempt ?_ | refine PySem.wpAny_throw ?_ | refine PySem.wpAny_of_eq (by assumption) ?_ | refine PySem.wpAny_typeOf (by assumption) ?_ | refine PySem.wpAny_specialOf_val (by assumption) (by assumption) ?_ | refine PySem.wpAny_specialOf (by assumption) (by assumption) ?_ | refine PySem.wpAny_isInstance_val (by assumption) (by assumption) ?_ | refine PySem.wpAny_isInstance (by assumption) (by assumption) ?_ | refine PySem.wpAny_call ?_ | refine PySem.wpAny_runValue ?_ | refine PySem.wpAny_run ?_)) | ((with_reducible refine' PySem.wpAny_load' ?qh ?_); case qh => (heap_get; done)) | ((with_reducible refine' PySem.wpAny_update' ?qh ?_); case qh => (heap_get; done)) | ((with_reducible refine' PySem.wpAny_loadPart' ?qh ?_); case qh => (heap_get; done)) | ((with_reducible refine' PySem.wpAny_updatePart' ?qh ?_); case qh => (heap_get; done)) | ((with_reducible refine PySem.wpAny_handled_none ?qh ?_); case qh => (assumption; done)) | ((with_reducible refine PySem.wpAny_ite_false ?qh ?_); case qh => (rfl; done)) | ((with_reducible refine PySem.wpAny_ite_true ?qh ?_); case qh => (rfl; done)) | ((with_reducible refine PySem.wpAny_ite_false ?qh ?_); case qh => (simp [*]; done)) | ((with_reducible refine PySem.wpAny_ite_true ?qh ?_); case qh => (simp [*]; done)) | wp_delta | with_reducible_and_instances refine PySem.wpAny_pure ?_ | with_reducible_and_instances refine PySem.wpAny_bind ?_)))
theorem call_lookup : typeLookup (.type "str") (Str.ofString "__call__") = pure none := by rw [typeLookup_type, builtinLookup_eq_fast]; kernel_rfl
theorem sub_enter {pa ta : Addr} {ps : Str} {pt ft : Tok} {fl : Int} {its : Array Value} {repl data : Str} {tr td : Tok} {Q : Fin → Shared → Prop} (hp : s.heap.get? pa = some (patO ps pt fl ft ta))
   (ht : s.heap.get? ta = some (tupA its)) (hr : repl.cps.contains 92 = false)
   (hq : Q (.again (Code.builtin "re.Pattern.sub.loop" ⟨[.ref pa, .str data td, .str repl tr, rawInt 0, rawInt 0, rawInt 0, rawInt 0, rawInt 0, .bool false, .ref s.heap.objs.size, .bool false], []⟩)) { s with heap := s.heap.push { cls := .type "list", data := .seq #[] } }) :
    wpAny (model prog w) A (Builtin.«re.Pattern.sub» ⟨[.ref pa, .str repl tr, .str data td], []⟩) Q E s := by
  obtain ⟨h, g, d, t, os⟩ := s
  have fc := call_lookup
  unfold Builtin.«re.Pattern.sub» reSubstitute
  repeat (any_goals (first | with_reducible assumption | (with_reducible refine wpAny_bind (whole_target hp ht ?_)) | (rw [fc]) | (with_reducible exact hq) | (rw [if_pos (show (!repl.cps.contains 92) = true by rw [hr]; rfl)]) | (first | (with_reducible (first | refine PySem.wpAny_pure ?_ | refine PySem.wpAny_bind ?_ | refine PySem.wpAny_holding ?_ | refine PySem.wpAny_standAt ?_ | refine PySem.wpAny_point ?_ | refine PySem.wpAny_rule ?_ | refine PySem.wpAny_letGo ?_ | refine PySem.wpAny_mkInt' ?_ | ((show PySem.wpAny _ _ (PySem.mkStr _) _ _ _); refine PySem.wpAny_mkStr' ?_) | refine PySem.wpAny_fresh' ?_ | refine PySem.wpAny_alloc' ?_ | refine PySem.wpAny_attempt ?_ | refine PySem.wpAny_throw ?_ | refine PySem.wpAny_of_eq (by assumption) ?_ | refine PySem.wpAny_typeOf (by assumption) ?_ | refine PySem.wpAny_specialOf_val (by assumption) (by assumption) ?_ | refine PySem.wpAny_specialOf (by assumption) (by assumption) ?_ | refine PySem.wpAny_isInstance_val (by assumption) (by assumption) ?_ | refine PySem.wpAny_isInstance (by assumption) (by assumption) ?_ | refine PySem.wpAny_call ?_ | refine PySem.wpAny_runValue ?_ | refine PySem.wpAny_run ?_)) | ((with_reducible refine' PySem.wpAny_load' ?qh ?_); case qh => (heap_get; done)) | ((with_reducible refine' PySem.wpAny_update' ?qh ?_); case qh => (heap_get; done)) | ((with_reducible refine' PySem.wpAny_loadPart' ?qh ?_); case qh => (heap_get; done)) | ((with_reducible refine' PySem.wpAny_updatePart' ?qh ?_); case qh => (heap_get; done)) | ((with_reducible refine PySem.wpAny_handled_none ?qh ?_); case qh => (assumption; done)) | ((with_reducible refine PySem.wpAny_ite_false ?qh ?_); case qh => (rfl; done)) | ((with_reducible refine PySem.wpAny_ite_true ?qh ?_); case qh => (rfl; done)) | ((with_reducible refine PySem.wpAny_ite_false ?qh ?_); case qh => (simp [*]; done)) | ((with_reducible refine PySem.wpAny_ite_true ?qh ?_); case qh => (simp [*]; done)) | wp_delta | with_reducible_and_instances refine PySem.wpAny_pure ?_ | with_reducible_and_instances refine PySem.wpAny_bind ?_) | assumption))
end
end
section
section
open PySem.Sre
theorem runFor_stop {m : M} (h : m.outcome.isSome = true) : ∀ n, M.runFor n m = m
  | 0 => rfl
  | n + 1 => by rw [M.runFor, if_pos h]
theorem runFor_add : ∀ (a b : Nat) (m : M), M.runFor (a + b) m = M.runFor b (M.runFor a m)
  | 0, b, m => by rw [Nat.zero_add]; rfl
  | a + 1, b, m => by
    rw [show a + 1 + b = (a + b) + 1 by omega, M.runFor, M.runFor]
    split
    · rename_i h; exact (runFor_stop h b).symm
    · exact runFor_add a b m.step
/-- m comes to m' in n steps -/
def Goes (n : Nat) (m m' : M) : Prop := M.runFor n m = m'
theorem Goes.step {m m1 m' : M} {n : Nat} (h0 : m.outcome = none) (h1 : m.step = m1) (h : Goes n m1 m') : Goes (n + 1) m m' := by
  unfold Goes
  rw [M.runFor, h0, if_neg (by decide), h1]
  exact h
theorem Goes.trans {m m1 m' : M} {a b : Nat} (h1 : Goes a m m1) (h : Goes b m1 m') : Goes (a + b) m m' := by
  unfold Goes at *
  rw [runFor_add, h1, h]
theorem Goes.refl (m : M) : Goes 0 m m := rfl
theorem Goes.more {m m' : M} {a : Nat} (h : Goes a m m') (ho : m'.outcome.isSome = true) (b : Nat) (hb : a ≤ b) : M.runFor b m = m' := by
  obtain ⟨c, rfl⟩ := Nat.exists_eq_add_of_le hb
  rw [runFor_add, h, runFor_stop ho]
end
section
variable {prog : Program} {w : World} {A : Around} {E : Value → Shared → Prop} {s : Shared}
open PySem.Sre PySem.Builtin PySem.Builtin.Re
theorem drive_goes {m' : M} {Q : M → Shared → Prop} (ho : m'.outcome.isSome = true) (hq : Q m' s) : ∀ (turns n : Nat) (m : M), n < turns → Goes n m m' → wpAny (model prog w) A (reDrive turns m) Q E s
  | 0, _, _, h, _ => absurd h (Nat.not_lt_zero _)
  | turns + 1, n, m, h, g => by
    unfold reDrive
    by_cases h4 : n ≤ reTurnSteps
    · have e : m.runFor reTurnSteps = m' := g.more ho _ h4
      rw [e]
      dsimp only
      rw [if_pos ho]
      exact wpAny_pure hq
    · have e : Goes (n - reTurnSteps) (m.runFor reTurnSteps) m' := by
        unfold Goes at *
        rw [← runFor_add, show reTurnSteps + (n - reTurnSteps) = n by omega]
        exact g
      dsimp only
      split
      · rename_i h1
        have e2 : m.runFor reTurnSteps = m' := by
          rw [← e, runFor_stop h1]
        rw [e2]
        exact wpAny_pure hq
      · refine wpAny_bind (wpAny_rule ?_)
        exact drive_goes ho hq turns _ _ (by have : 0 < reTurnSteps := by decide
                                             omega) e
theorem forIn_wp {body : Nat → PUnit → Sem (ForInStep PUnit)} {Q : PUnit → Shared → Prop} (hb : ∀ i (Q : ForInStep PUnit → Shared → Prop), Q (.yield ⟨⟩) s → wpAny (model prog w) A (body i ⟨⟩) Q E s) (hq : Q ⟨⟩ s) : ∀ (l : List Nat),
    wpAny (model prog w) A (forIn l PUnit.unit body) Q E s
  | [] => wpAny_pure hq
  | i :: r => by
    rw [List.forIn_cons]
    exact wpAny_bind (hb i _ (forIn_wp hb hq r))
theorem ends_matched {m m' : M} {n : Nat} {Q : Option M → Shared → Prop} (g : Goes n m m') (hn : n < 2 ^ 64) (ho : m'.outcome = some .matched) (hq : Q (some m') s) : wpAny (model prog w) A (reRunToEnd m) Q E s := by
  unfold reRunToEnd
  refine wpAny_bind (drive_goes (by rw [ho]; rfl) ?_ _ n m hn g)
  refine wpAny_bind (forIn_wp ?_ ?_ _)
  · intro i Q h
    first
      | (split
         · exact wpAny_bind (wpAny_rule (wpAny_pure h))
         · first | exact wpAny_pure h | exact wpAny_bind (wpAny_pure (wpAny_pure h)))
      | (refine wpAny_bind ?_
         split
         · exact wpAny_rule (wpAny_pure h)
         · exact wpAny_pure (wpAny_pure h))
  rw [ho]
  exact wpAny_pure hq
theorem ends_failed {m m' : M} {n : Nat} {Q : Option M → Shared → Prop} (g : Goes n m m') (hn : n < 2 ^ 64) (ho : m'.outcome = some .failed) (hq : Q none s) : wpAny (model prog w) A (reRunToEnd m) Q E s := by
  unfold reRunToEnd
  refine wpAny_bind (drive_goes (by rw [ho]; rfl) ?_ _ n m hn g)
  refine wpAny_bind (forIn_wp ?_ ?_ _)
  · intro i Q h
    first
      | (split
         · exact wpAny_bind (wpAny_rule (wpAny_pure h))
         · first | exact wpAny_pure h | exact wpAny_bind (wpAny_pure (wpAny_pure h)))
      | (refine wpAny_bind ?_
         split
         · exact wpAny_rule (wpAny_pure h)
         · exact wpAny_pure (wpAny_pure h))
  rw [ho]
  exact wpAny_pure hq
end
end
section
section
open PySem.Sre
def code1 : Array Nat := #[14, 4, 0, 1, 1, 6, 1, 16, 46, 1]
def A1 (text : Array Nat) (lim s : Nat) (o : Bool) (seen : PySem.Sre.Seen) : M :=
  { code := code1, text, lim, start := s, lastStart := lim, pc := 5, pos := s, handed := s, outermost := o, marks := #[], frames := [{ wait := .nextStart, pc := 5, pos := s, outermost := o }], weight := 1, seen := seen }
variable {text : Array Nat} {lim s : Nat} {o : Bool} {seen : PySem.Sre.Seen}
theorem a1_start : forSearch code1 text 0 s lim false = if (s > lim || lim - s < 1) = true then { code := code1, text, lim, start := s, pc := 5, pos := s, handed := s, marks := #[], seen := ({} : PySem.Sre.Seen).add 14, answer := some false } else A1 text lim s true (({} : PySem.Sre.Seen).add 14) := by
  rfl
theorem a1_at : (A1 text lim s o seen).step = if (s == 0 || text.getD (s - 1) 0 == 10) = true then { A1 text lim s o ((seen.add 6).add 44) with pc := 7 } else { A1 text lim s o ((seen.add 6).add 44) with answer := some false } := rfl
theorem a1_no : ({ A1 text lim s o seen with answer := some false } : M).step = if s < lim then A1 text lim (s + 1) false seen else { A1 text lim s o seen with frames := [], weight := 0, answer := some false } := rfl
def litNext (m : M) (seen : PySem.Sre.Seen) (b : Bool) : M := match b with
  | false => { m with seen, answer := some false }
  | true => { m with seen, pc := m.pc + 2, pos := m.pos + 1 }
theorem a1_end (h : s ≥ lim) : ({ A1 text lim s o seen with pc := 7 } : M).step = { A1 text lim s o (seen.add 16) with pc := 7, answer := some false } := by
  have e : ∀ X Y : M, (if s ≥ lim then X else Y) = X := fun X Y => if_pos h
  exact e _ _
theorem a1_lit (h : s < lim) (b : Bool) (hb : (text.getD s 0 == 46) = b) : ({ A1 text lim s o seen with pc := 7 } : M).step = litNext { A1 text lim s o (seen.add 16) with pc := 7 } (seen.add 16) b := by
  have e : ∀ X Y : M, (if s ≥ lim then X else Y) = Y := fun X Y => if_neg (Nat.not_le.2 h)
  refine Eq.trans (e _ _) ?_
  have ha : ∀ sn, accepts code1 7 (text.getD s 0) sn = .ok (text.getD s 0 == 46, sn) := fun _ => rfl
  dsimp only [A1]
  rw [ha, hb]
  cases b <;> rfl
theorem a1_no7 : ({ A1 text lim s o seen with pc := 7, answer := some false } : M).step = if s < lim then A1 text lim (s + 1) false seen else { A1 text lim s o seen with frames := [], weight := 0, answer := some false } := rfl
theorem a1_succ : ({ A1 text lim s o seen with pc := 9, pos := s + 1 } : M).step = { A1 text lim s o (seen.add 1) with pc := 9, pos := s + 1, handed := s + 1, answer := some true } := by cases o <;> rfl
theorem a1_yes : ({ A1 text lim s o seen with pc := 9, pos := s + 1, handed := s + 1, answer := some true } : M).step = { A1 text lim s o seen with pc := 5, pos := s, handed := s + 1, frames := [], weight := 0, answer := some true } := rfl
theorem a1_done : ({ A1 text lim s o seen with pc := 5, pos := s, handed := s + 1, frames := [], weight := 0, answer := some true } : M).step = { A1 text lim s o seen with pc := 5, pos := s, handed := s + 1, frames := [], weight := 0, answer := some true, outcome := some .matched } := rfl
theorem a1_fail : ({ A1 text lim s o seen with frames := [], weight := 0, answer := some false } : M).step = { A1 text lim s o seen with frames := [], weight := 0, answer := some false, outcome := some .failed } := rfl
def dotAt (text : Array Nat) (s : Nat) : Bool := (s == 0 || text.getD (s - 1) 0 == 10) && text.getD s 0 == 46
theorem attempt1_ok (h : s < lim) (hd : dotAt text s = true) : ∃ m', Goes 5 (A1 text lim s o seen) m' ∧ m'.outcome = some .matched ∧ m'.start = s ∧ m'.handed = s + 1 := by
  unfold dotAt at hd
  rw [Bool.and_eq_true] at hd
  refine ⟨_, Goes.step rfl (a1_at.trans (if_pos hd.1)) (Goes.step rfl (a1_lit h true hd.2) (Goes.step rfl a1_succ (Goes.step rfl a1_yes (Goes.step rfl a1_done (Goes.refl _))))), rfl, rfl, rfl⟩
theorem attempt1_no (h : ¬ (s < lim ∧ dotAt text s = true)) : ∃ n seen', n ≤ 3 ∧ Goes n (A1 text lim s o seen) (if s < lim then A1 text lim (s + 1) false seen' else { A1 text lim s o seen' with frames := [], weight := 0, answer := some false }) := by
  by_cases ha : (s == 0 || text.getD (s - 1) 0 == 10) = true
  · by_cases hs : s < lim
    · have hl : (text.getD s 0 == 46) = false := by
        cases hb : (text.getD s 0 == 46) with
        | false => rfl
        | true => exact absurd ⟨hs, by unfold dotAt; rw [ha, hb]; rfl⟩ h
      exact ⟨3, _, Nat.le_refl _, Goes.step rfl (a1_at.trans (if_pos ha)) (Goes.step rfl (a1_lit hs false hl) (Goes.step rfl a1_no7 (Goes.refl _)))⟩
    · exact ⟨3, _, Nat.le_refl _, Goes.step rfl (a1_at.trans (if_pos ha)) (Goes.step rfl (a1_end (Nat.not_lt.1 hs)) (Goes.step rfl a1_no7 (Goes.refl _)))⟩
  · exact ⟨2, _, by omega, Goes.step rfl (a1_at.trans (if_neg ha)) (Goes.step rfl a1_no (Goes.refl _))⟩
theorem search1 : ∀ (d s : Nat) (o : Bool) (seen : PySem.Sre.Seen), s + d = lim →
    (∃ n m' k, n ≤ 5 * d + 5 ∧ Goes n (A1 text lim s o seen) m' ∧ m'.outcome = some .matched ∧ m'.start = k ∧ m'.handed = k + 1 ∧ s ≤ k ∧ k < lim ∧ dotAt text k = true ∧ ∀ j, s ≤ j → j < k → dotAt text j = false) ∨
    (∃ n m', n ≤ 5 * d + 5 ∧ Goes n (A1 text lim s o seen) m' ∧ m'.outcome = some .failed ∧ ∀ j, s ≤ j → j < lim → dotAt text j = false) := by
  intro d
  induction d with
  | zero =>
    intro s o seen hs
    obtain ⟨n, seen', hn, g⟩ := attempt1_no (text := text) (lim := lim) (s := s) (o := o) (seen := seen) (by omega)
    rw [if_neg (by omega)] at g
    exact .inr ⟨n + 1, _, by omega, g.trans (Goes.step rfl a1_fail (Goes.refl _)), rfl, fun j h1 h2 => by omega⟩
  | succ d ih =>
    intro s o seen hs
    by_cases hd : dotAt text s = true
    · obtain ⟨m', g, h1, h2, h3⟩ := attempt1_ok (text := text) (lim := lim) (s := s) (o := o) (seen := seen) (by omega) hd
      exact .inl ⟨5, m', s, by omega, g, h1, h2, h3, Nat.le_refl _, by omega, hd, fun j h1 h2 => by omega⟩
    · obtain ⟨n, seen', hn, g⟩ := attempt1_no (text := text) (lim := lim) (s := s) (o := o) (seen := seen) (by simp [hd])
      rw [if_pos (by omega)] at g
      have hd' : dotAt text s = false := by simpa using hd
      have split : ∀ (P : Nat → Prop) (k : Nat), P s → (∀ j, s + 1 ≤ j → j < k → P j) → ∀ j, s ≤ j → j < k → P j := fun P k h0 h j h1 h2 => by
        rcases Nat.eq_or_lt_of_le h1 with e | e
        · exact e ▸ h0
        · exact h j e h2
      rcases ih (s + 1) false seen' (by omega) with ⟨n', m', k, hn', g', h1, h2, h3, h4, h5, h6, h7⟩ | ⟨n', m', hn', g', h1, h7⟩
      · exact .inl ⟨n + n', m', k, by omega, g.trans g', h1, h2, h3, by omega, h5, h6, split (fun j => dotAt text j = false) k hd' h7⟩
      · exact .inr ⟨n + n', m', by omega, g.trans g', h1, split (fun j => dotAt text j = false) lim hd' h7⟩
end
end
section
section
open PySem.Sre
def code2 : Array Nat := #[14, 9, 4, 1, 2, 16, 10, 16, 13, 0, 7, 7, 16, 13, 16, 10, 15, 18, 5, 16, 10, 15, 13, 11, 16, 13, 5, 5, 0, 16, 10, 1, 15, 2, 0, 1]
def ns2 (s : Nat) (o : Bool) : PySem.Sre.Frame := { wait := .nextStart, pc := 10, pos := s, outermost := o }
def nb2 (p s : Nat) (o : Bool) : PySem.Sre.Frame := { wait := .nextBranch, pc := p, pos := s, outermost := o }
def B2 (text : Array Nat) (lim s : Nat) (fr : List PySem.Sre.Frame) (wgt : Nat) (o : Bool) (pc pos hd : Nat) (ans : Option Bool) (seen : PySem.Sre.Seen) : M :=
  { code := code2, text, lim, start := s, lastStart := lim, pc, pos, handed := hd, outermost := o, marks := #[], frames := fr, weight := wgt, answer := ans, seen }
def endAt2 (text : Array Nat) (s : Nat) : Bool := text.getD s 0 == 10 || text.getD s 0 == 13
variable {text : Array Nat} {lim s hd : Nat} {o : Bool} {seen : PySem.Sre.Seen} {fr : List PySem.Sre.Frame} {wgt pos : Nat}
theorem inSet2 (c : Nat) : inSet code2 c 36 5 true seen = if (c == 10) = true then .ok (true, seen.add 16) else if (c == 13) = true then .ok (true, (seen.add 16).add 16) else .ok (false, ((seen.add 16).add 16).add 0) := rfl
theorem adm2 (m : M) (hc : m.code = code2) (ht : m.text = text) (hl : m.lim = lim) : ∀ (fuel s : Nat) (seen : PySem.Sre.Seen), lim + 1 - s ≤ fuel →
    (∃ k seen', s ≤ k ∧ k < lim ∧ endAt2 text k = true ∧ (∀ j, s ≤ j → j < k → endAt2 text j = false) ∧ M.admitted m fuel s seen = .ok (some k, seen')) ∨
    (∃ seen', (∀ j, s ≤ j → j < lim → endAt2 text j = false) ∧ M.admitted m fuel s seen = .ok (none, seen')) := by
  intro fuel
  induction fuel with
  | zero =>
    intro s seen h
    exact .inr ⟨seen, fun j h1 h2 => by omega, rfl⟩
  | succ fuel ih =>
    intro s seen h
    unfold M.admitted
    rw [hc, ht, hl]
    by_cases hs : s ≥ lim
    · rw [if_pos hs]
      exact .inr ⟨seen, fun j h1 h2 => by omega, rfl⟩
    · rw [if_neg hs, show code2.size = 36 from rfl, inSet2]
      by_cases h1 : (text.getD s 0 == 10) = true
      · rw [if_pos h1]
        exact .inl ⟨s, _, Nat.le_refl _, by omega, by unfold endAt2; rw [h1]; rfl, fun j h1 h2 => by omega, rfl⟩
      · rw [if_neg h1]
        by_cases h2 : (text.getD s 0 == 13) = true
        · rw [if_pos h2]
          exact .inl ⟨s, _, Nat.le_refl _, by omega, by unfold endAt2; rw [h2, Bool.or_true], fun j h1 h2 => by omega, rfl⟩
        · rw [if_neg h2]
          have h0 : endAt2 text s = false := by
            unfold endAt2
            rw [Bool.not_eq_true] at h1 h2
            rw [h1, h2]; rfl
          have split : ∀ (k : Nat), (∀ j, s + 1 ≤ j → j < k → endAt2 text j = false) → ∀ j, s ≤ j → j < k → endAt2 text j = false := fun k h j h1 h2 => by
            rcases Nat.eq_or_lt_of_le h1 with e | e
            · exact e ▸ h0
            · exact h j e h2
          rcases ih (s + 1) (((seen.add 16).add 16).add 0) (by omega) with ⟨k, seen', h3, h4, h5, h6, h7⟩ | ⟨seen', h6, h7⟩
          · exact .inl ⟨k, seen', by omega, h4, h5, split k h6, h7⟩
          · exact .inr ⟨seen', split lim h6, h7⟩
theorem b2_branch : (B2 text lim s [ns2 s o] 1 o 10 s s none seen).step = B2 text lim s [nb2 11 s o, ns2 s o] 2 o 12 s s none (seen.add 7) := rfl
theorem b2_alt2 (p h : Nat) (oo : Bool) : (B2 text lim s [nb2 11 s o, ns2 s o] 2 oo p pos h (some false) seen).step = B2 text lim s [nb2 18 s o, ns2 s o] 2 o 19 s s none seen := rfl
theorem b2_alt3 (p h : Nat) (oo : Bool) : (B2 text lim s [nb2 18 s o, ns2 s o] 2 oo p pos h (some false) seen).step = B2 text lim s [nb2 23 s o, ns2 s o] 2 o 24 s s none seen := rfl
theorem b2_yes (q p h : Nat) (oo : Bool) : (B2 text lim s [nb2 q s o, ns2 s o] 2 oo p pos h (some true) seen).step = B2 text lim s [ns2 s o] 1 o q s h (some true) seen := rfl
theorem b2_start (p h : Nat) (oo : Bool) : (B2 text lim s [ns2 s o] 1 oo p pos h (some true) seen).step = B2 text lim s [] 0 o 10 s h (some true) seen := rfl
theorem b2_done (p h : Nat) (oo : Bool) : (B2 text lim s [] 0 oo p pos h (some true) seen).step = { B2 text lim s [] 0 oo p pos h (some true) seen with outcome := some .matched } := rfl
theorem b2_succ (h : Nat) : (B2 text lim s fr wgt o 35 pos h none seen).step = B2 text lim s fr wgt o 35 pos pos (some true) (seen.add 1) := by cases o <;> rfl
theorem b2_not (h : Nat) : (B2 text lim s [nb2 23 s o, ns2 s o] 2 o 26 (s + 1) h none seen).step = B2 text lim s [{ wait := .lookNot, pc := 26, pos := s + 1, outermost := o }, nb2 23 s o, ns2 s o] 3 false 29 (s + 1) (s + 1) none (seen.add 5) := rfl
theorem b2_unlook (p h : Nat) (oo : Bool) : (B2 text lim s [{ wait := .lookNot, pc := 26, pos := s + 1, outermost := o }, nb2 23 s o, ns2 s o] 3 oo p pos h (some false) seen).step = B2 text lim s [nb2 23 s o, ns2 s o] 2 o 32 (s + 1) h none seen := rfl
theorem b2_jump16 (h : Nat) : (B2 text lim s fr wgt o 16 pos h none seen).step = B2 text lim s fr wgt o 35 pos h none (seen.add 15) := rfl
theorem b2_jump21 (h : Nat) : (B2 text lim s fr wgt o 21 pos h none seen).step = B2 text lim s fr wgt o 35 pos h none (seen.add 15) := rfl
theorem b2_jump32 (h : Nat) : (B2 text lim s fr wgt o 32 pos h none seen).step = B2 text lim s fr wgt o 35 pos h none (seen.add 15) := rfl
theorem b2_end12 (h : pos ≥ lim) : (B2 text lim s fr wgt o 12 pos hd none seen).step = B2 text lim s fr wgt o 12 pos hd (some false) (seen.add 16) := by
  have e : ∀ X Y : M, (if pos ≥ lim then X else Y) = X := fun X Y => if_pos h
  exact e _ _
theorem b2_lit12 (h : pos < lim) (b : Bool) (hb : (text.getD pos 0 == 13) = b) : (B2 text lim s fr wgt o 12 pos hd none seen).step = if b then B2 text lim s fr wgt o 14 (pos + 1) hd none (seen.add 16) else B2 text lim s fr wgt o 12 pos hd (some false) (seen.add 16) := by
  have e : ∀ X Y : M, (if pos ≥ lim then X else Y) = Y := fun X Y => if_neg (Nat.not_le.2 h)
  refine Eq.trans (e _ _) ?_
  have ha : ∀ sn, accepts code2 12 (text.getD pos 0) sn = .ok (text.getD pos 0 == 13, sn) := fun _ => rfl
  dsimp only [B2]
  rw [ha, hb]
  cases b <;> rfl
theorem b2_end14 (h : pos ≥ lim) : (B2 text lim s fr wgt o 14 pos hd none seen).step = B2 text lim s fr wgt o 14 pos hd (some false) (seen.add 16) := by
  have e : ∀ X Y : M, (if pos ≥ lim then X else Y) = X := fun X Y => if_pos h
  exact e _ _
theorem b2_lit14 (h : pos < lim) (b : Bool) (hb : (text.getD pos 0 == 10) = b) : (B2 text lim s fr wgt o 14 pos hd none seen).step = if b then B2 text lim s fr wgt o 16 (pos + 1) hd none (seen.add 16) else B2 text lim s fr wgt o 14 pos hd (some false) (seen.add 16) := by
  have e : ∀ X Y : M, (if pos ≥ lim then X else Y) = Y := fun X Y => if_neg (Nat.not_le.2 h)
  refine Eq.trans (e _ _) ?_
  have ha : ∀ sn, accepts code2 14 (text.getD pos 0) sn = .ok (text.getD pos 0 == 10, sn) := fun _ => rfl
  dsimp only [B2]
  rw [ha, hb]
  cases b <;> rfl
theorem b2_end19 (h : pos ≥ lim) : (B2 text lim s fr wgt o 19 pos hd none seen).step = B2 text lim s fr wgt o 19 pos hd (some false) (seen.add 16) := by
  have e : ∀ X Y : M, (if pos ≥ lim then X else Y) = X := fun X Y => if_pos h
  exact e _ _
theorem b2_lit19 (h : pos < lim) (b : Bool) (hb : (text.getD pos 0 == 10) = b) : (B2 text lim s fr wgt o 19 pos hd none seen).step = if b then B2 text lim s fr wgt o 21 (pos + 1) hd none (seen.add 16) else B2 text lim s fr wgt o 19 pos hd (some false) (seen.add 16) := by
  have e : ∀ X Y : M, (if pos ≥ lim then X else Y) = Y := fun X Y => if_neg (Nat.not_le.2 h)
  refine Eq.trans (e _ _) ?_
  have ha : ∀ sn, accepts code2 19 (text.getD pos 0) sn = .ok (text.getD pos 0 == 10, sn) := fun _ => rfl
  dsimp only [B2]
  rw [ha, hb]
  cases b <;> rfl
theorem b2_end24 (h : pos ≥ lim) : (B2 text lim s fr wgt o 24 pos hd none seen).step = B2 text lim s fr wgt o 24 pos hd (some false) (seen.add 16) := by
  have e : ∀ X Y : M, (if pos ≥ lim then X else Y) = X := fun X Y => if_pos h
  exact e _ _
theorem b2_lit24 (h : pos < lim) (b : Bool) (hb : (text.getD pos 0 == 13) = b) : (B2 text lim s fr wgt o 24 pos hd none seen).step = if b then B2 text lim s fr wgt o 26 (pos + 1) hd none (seen.add 16) else B2 text lim s fr wgt o 24 pos hd (some false) (seen.add 16) := by
  have e : ∀ X Y : M, (if pos ≥ lim then X else Y) = Y := fun X Y => if_neg (Nat.not_le.2 h)
  refine Eq.trans (e _ _) ?_
  have ha : ∀ sn, accepts code2 24 (text.getD pos 0) sn = .ok (text.getD pos 0 == 13, sn) := fun _ => rfl
  dsimp only [B2]
  rw [ha, hb]
  cases b <;> rfl
theorem b2_end29 (h : pos ≥ lim) : (B2 text lim s fr wgt o 29 pos hd none seen).step = B2 text lim s fr wgt o 29 pos hd (some false) (seen.add 16) := by
  have e : ∀ X Y : M, (if pos ≥ lim then X else Y) = X := fun X Y => if_pos h
  exact e _ _
theorem b2_lit29 (h : pos < lim) (b : Bool) (hb : (text.getD pos 0 == 10) = b) : (B2 text lim s fr wgt o 29 pos hd none seen).step = if b then B2 text lim s fr wgt o 31 (pos + 1) hd none (seen.add 16) else B2 text lim s fr wgt o 29 pos hd (some false) (seen.add 16) := by
  have e : ∀ X Y : M, (if pos ≥ lim then X else Y) = Y := fun X Y => if_neg (Nat.not_le.2 h)
  refine Eq.trans (e _ _) ?_
  have ha : ∀ sn, accepts code2 29 (text.getD pos 0) sn = .ok (text.getD pos 0 == 10, sn) := fun _ => rfl
  dsimp only [B2]
  rw [ha, hb]
  cases b <;> rfl
/-- where the match at s ends -/
def after2 (text : Array Nat) (lim s : Nat) : Nat := if text.getD s 0 == 13 && s + 1 < lim && text.getD (s + 1) 0 == 10 then s + 2 else s + 1
theorem match2 (h : s < lim) (he : endAt2 text s = true) : ∃ n m', n ≤ 15 ∧ Goes n (B2 text lim s [ns2 s o] 1 o 10 s s none seen) m' ∧ m'.outcome = some .matched ∧ m'.start = s ∧ m'.handed = after2 text lim s := by
  by_cases hc : (text.getD s 0 == 13) = true
  · by_cases hn : s + 1 < lim ∧ (text.getD (s + 1) 0 == 10) = true
    · have ha : after2 text lim s = s + 2 := by unfold after2; rw [hc, hn.2, decide_eq_true hn.1]; rfl
      rw [ha]
      exact ⟨8, _, by omega, Goes.step rfl b2_branch (Goes.step rfl (b2_lit12 h true hc) (Goes.step rfl (b2_lit14 hn.1 true hn.2) (Goes.step rfl (b2_jump16 _) (Goes.step rfl (b2_succ _) (Goes.step rfl (b2_yes _ _ _ _) (Goes.step rfl (b2_start _ _ _) (Goes.step rfl (b2_done _ _ _) (Goes.refl _)))))))), rfl, rfl, rfl⟩
    · have ha : after2 text lim s = s + 1 := by
        unfold after2
        rw [hc, Bool.true_and, if_neg]
        intro hx
        rw [Bool.and_eq_true, decide_eq_true_eq] at hx
        exact hn hx
      have hc10 : (text.getD s 0 == 10) = false := by
        have : text.getD s 0 = 13 := by simpa using hc
        rw [this]; rfl
      rw [ha]
      by_cases hl : s + 1 < lim
      · have hnx : (text.getD (s + 1) 0 == 10) = false := by
          cases hb : (text.getD (s + 1) 0 == 10) with
          | false => rfl
          | true => exact absurd ⟨hl, hb⟩ hn
        exact ⟨15, _, by omega, Goes.step rfl b2_branch (Goes.step rfl (b2_lit12 h true hc) (Goes.step rfl (b2_lit14 hl false hnx) (Goes.step rfl (b2_alt2 _ _ _) (Goes.step rfl (b2_lit19 h false hc10) (Goes.step rfl (b2_alt3 _ _ _) (Goes.step rfl (b2_lit24 h true hc) (Goes.step rfl (b2_not _) (Goes.step rfl (b2_lit29 hl false hnx) (Goes.step rfl (b2_unlook _ _ _) (Goes.step rfl (b2_jump32 _) (Goes.step rfl (b2_succ _) (Goes.step rfl (b2_yes _ _ _ _) (Goes.step rfl (b2_start _ _ _) (Goes.step rfl (b2_done _ _ _) (Goes.refl _))))))))))))))), rfl, rfl, rfl⟩
      · have hl' : s + 1 ≥ lim := Nat.not_lt.1 hl
        exact ⟨15, _, by omega, Goes.step rfl b2_branch (Goes.step rfl (b2_lit12 h true hc) (Goes.step rfl (b2_end14 hl') (Goes.step rfl (b2_alt2 _ _ _) (Goes.step rfl (b2_lit19 h false hc10) (Goes.step rfl (b2_alt3 _ _ _) (Goes.step rfl (b2_lit24 h true hc) (Goes.step rfl (b2_not _) (Goes.step rfl (b2_end29 hl') (Goes.step rfl (b2_unlook _ _ _) (Goes.step rfl (b2_jump32 _) (Goes.step rfl (b2_succ _) (Goes.step rfl (b2_yes _ _ _ _) (Goes.step rfl (b2_start _ _ _) (Goes.step rfl (b2_done _ _ _) (Goes.refl _))))))))))))))), rfl, rfl, rfl⟩
  · have hc' : (text.getD s 0 == 13) = false := by simpa using hc
    have h10 : (text.getD s 0 == 10) = true := by
      unfold endAt2 at he
      rw [hc', Bool.or_false] at he
      exact he
    have ha : after2 text lim s = s + 1 := by unfold after2; rw [hc']; rfl
    rw [ha]
    exact ⟨9, _, by omega, Goes.step rfl b2_branch (Goes.step rfl (b2_lit12 h false hc') (Goes.step rfl (b2_alt2 _ _ _) (Goes.step rfl (b2_lit19 h true h10) (Goes.step rfl (b2_jump21 _) (Goes.step rfl (b2_succ _) (Goes.step rfl (b2_yes _ _ _ _) (Goes.step rfl (b2_start _ _ _) (Goes.step rfl (b2_done _ _ _) (Goes.refl _))))))))), rfl, rfl, rfl⟩
end
end
section
section
variable {prog : Program} {w : World} {A : Around} {E : Value → Shared → Prop} {s : Shared}
open PySem.Builtin PySem.Builtin.Re
theorem next_found {pa : Addr} {code : Array Nat} {data : Str} {td : Tok} {pos N : Nat} {m' : PySem.Sre.M} {Q : Option PySem.Sre.M → Shared → Prop} (g : Goes N (PySem.Sre.forSearch code data.cps 0 pos data.cps.size false) m') (hn : N < 2 ^ 64) (ho : m'.outcome = some .matched) (hq : Q (some m') s) :
    wpAny (model prog w) A (reNextFound ⟨.ref pa, .str data td, code, data.cps, 0, 0, 0, data.cps.size⟩ ((pos : Int)).toNat false) Q E s := ends_matched g hn ho hq
theorem next_none {pa : Addr} {code : Array Nat} {data : Str} {td : Tok} {pos N : Nat} {m' : PySem.Sre.M} {Q : Option PySem.Sre.M → Shared → Prop} (g : Goes N (PySem.Sre.forSearch code data.cps 0 pos data.cps.size false) m') (hn : N < 2 ^ 64) (ho : m'.outcome = some .failed) (hq : Q none s) :
    wpAny (model prog w) A (reNextFound ⟨.ref pa, .str data td, code, data.cps, 0, 0, 0, data.cps.size⟩ ((pos : Int)).toNat false) Q E s := ends_failed g hn ho hq
theorem wp_if_true {α : Type} {M : Model} {c : Bool} {a b : Sem α} {Q : α → Shared → Prop} (hc : c = true) (h : wpAny M A a Q E s) : wpAny M A (if c = true then a else b) Q E s := by
  rw [if_pos hc]; exact h
theorem wp_if_false {α : Type} {M : Model} {c : Bool} {a b : Sem α} {Q : α → Shared → Prop} (hc : c = false) (h : wpAny M A b Q E s) : wpAny M A (if c = true then a else b) Q E s := by
  rw [hc, if_neg (by decide)]; exact h
theorem push_one {D : Addr} {us : List Value} {k : Nat} {x : Value} {Q : Unit → Shared → Prop} (hl : s.heap.get? D = some (listOf us.toArray k)) (hz : us.length ≤ 100000)
    (hq : ∀ h', h'.get? D = some (listOf (us ++ [x]).toArray (k + 1)) → Heap.SameBut D s.heap h' → Q () { s with heap := h' }) : wpAny (model prog w) A (updateSeq D fun a => a.push x) Q E s := by
  have q := PySem.IsL.update (x := hl) (fun a => a.push x)
  rw [if_neg (by simp)] at q
  refine wpAny_updateSeq hl rfl (hq _ ?_ (Heap.SameBut.update ..)) ?_ ?_
  · have e : (us ++ [x]).toArray = us.toArray.push x := by simp
    rw [e]
    exact q
  · rw [List.size_toArray, PySem.sizeLine_eq]; omega
  · rw [Array.size_push, List.size_toArray, PySem.sizeLine_eq]; omega
def cat (ws : List Str) : List Nat := ws.flatMap fun x => x.cps.toList
theorem cat_snoc (ws : List Str) (x : Str) : cat (ws ++ [x]) = cat ws ++ x.cps.toList := by simp [cat]
theorem extract_list (a : Array Nat) (b e : Nat) : (⟨a.extract b e⟩ : Str).cps.toList = (a.toList.drop b).take (e - b) := by simp
theorem extract_len (a : Array Nat) (b e : Nat) : (⟨a.extract b e⟩ : Str).length ≤ a.size := by
  show (a.extract b e).size ≤ a.size
  rw [Array.size_extract]; omega
theorem turn_found {pa ta D : Addr} {ps : Str} {pt ft : Tok} {fl : Int} {its : Array Value} {code : Array Nat} {repl data : Str} {tr td : Tok} {n : Int} {pos : Nat} {us : List Value} {ws : List Str} {k : Nat} {Q : Fin → Shared → Prop} {m' : PySem.Sre.M} {N : Nat}
   (hp : s.heap.get? pa = some (patO ps pt fl ft ta)) (ht : s.heap.get? ta = some (tupA its)) (hc : (its.map reRawOf).map (·.toNat) = code) (hl : s.heap.get? D = some (listOf us.toArray k)) (hu : StrsAre us ws) (hz : ws.length ≤ 90000)
   (g : Goes N (PySem.Sre.forSearch code data.cps 0 pos data.cps.size false) m') (hn : N < 2 ^ 64) (ho : m'.outcome = some .matched) (hd : data.cps.size ≤ 10000) (hne : (m'.handed == m'.start) = false)
   (hq : ∀ h' tk us' ws' k', h'.get? D = some (listOf (List.toArray us') k') → Heap.SameBut D s.heap h' → StrsAre us' ws' → cat ws' = cat ws ++ (data.cps.toList.drop pos).take (m'.start - pos) ++ repl.cps.toList → ws'.length ≤ ws.length + 2 →
     Q (.again (Code.builtin "re.Pattern.sub.loop" ⟨[.ref pa, .str data td, .str repl tr, rawInt 0, rawInt 0, rawInt (n + 1), rawInt m'.handed, rawInt m'.handed, .bool false, .ref D, .bool false], []⟩)) { s with heap := h', toks := tk }) :
    wpAny (model prog w) A (Builtin.«re.Pattern.sub.loop» ⟨[.ref pa, .str data td, .str repl tr, rawInt 0, rawInt 0, rawInt n, rawInt pos, rawInt pos, .bool false, .ref D, .bool false], []⟩) Q E s := by
  obtain ⟨h, g', d, t, os⟩ := s
  have hul := hu.length
  unfold Builtin.«re.Pattern.sub.loop»
  dsimp only [rawInt]
  refine wpAny_bind (whole_target hp ht ?_)
  rw [hc]
  repeat (any_goals (first | with_reducible assumption | (with_reducible refine next_found g hn ho ?_) | ((fail_if_success (with_reducible show wpAny _ _ (if _ < _ then _ else _) _ _ _)); wp_step)))
  dsimp only
  by_cases hlt : pos < m'.start
  · rw [if_pos (show ((pos : Int)).toNat < m'.start by simpa using hlt)]
    refine wpAny_bind ?_
    show wpAny _ _ (mkStr ⟨data.cps.extract (pos : Int).toNat m'.start⟩) _ _ _
    refine wpAny_mkStr ?_ (Nat.le_trans (extract_len _ _ _) (by rw [PySem.sizeLine_eq]; omega))
    refine wpAny_bind (push_one hl (by omega) fun h1 hl1 hs1 => ?_)
    dsimp only
    refine wp_if_true rfl ?_
    refine wpAny_bind (wpAny_pure ?_)
    refine wp_if_true rfl ?_
    refine wpAny_bind (push_one hl1 (by rw [List.length_append, List.length_singleton]; omega) fun h2 hl2 hs2 => ?_)
    refine wpAny_pure ?_
    rw [hne]
    refine hq h2 _ _ (ws ++ [⟨data.cps.extract (pos : Int).toNat m'.start⟩] ++ [repl]) _ hl2 (hs1.trans hs2) (sa_snoc (sa_snoc hu)) ?_ (by simp)
    rw [cat_snoc, cat_snoc, extract_list, Int.toNat_natCast]
  · rw [if_neg (show ¬ ((pos : Int)).toNat < m'.start by simpa using hlt)]
    refine wp_if_true rfl ?_
    refine wpAny_bind (wpAny_pure ?_)
    refine wp_if_true rfl ?_
    refine wpAny_bind (push_one hl (by omega) fun h2 hl2 hs2 => ?_)
    refine wpAny_pure ?_
    rw [hne]
    refine hq h2 _ _ (ws ++ [repl]) _ hl2 hs2 (sa_snoc hu) ?_ (by simp)
    rw [cat_snoc, show m'.start - pos = 0 by omega]
    simp
end
end
section
section
variable {prog : Program} {w : World} {A : Around} {E : Value → Shared → Prop} {s : Shared}
open PySem.Builtin PySem.Builtin.Re
theorem join_empty : ∀ ws : List Str, Str.join ⟨#[]⟩ ws = ⟨(cat ws).toArray⟩
  | [] => rfl
  | [x] => by
    show x = _
    obtain ⟨c⟩ := x
    simp [cat]
  | x :: y :: r => by
    show x ++ ⟨#[]⟩ ++ Str.join ⟨#[]⟩ (y :: r) = _
    rw [join_empty (y :: r)]
    refine Str.ext' ?_
    rw [Str.cps_append, Str.cps_append]
    simp [cat]
theorem cat_len (ws : List Str) : (ws.map (·.length)).sum = (cat ws).length := by
  induction ws with
  | nil => rfl
  | cons x r ih =>
    have e : cat (x :: r) = x.cps.toList ++ cat r := by simp [cat]
    rw [List.map_cons, List.sum_cons, ih, e, List.length_append]
    simp [Str.length]
theorem drop_full (a : Array Nat) (p : Nat) : (a.extract p a.size).toList = a.toList.drop p := by
  rw [show (a.extract p a.size).toList = (a.toList.drop p).take (a.size - p) by simp]
  exact List.take_of_length_le (by simp)
theorem join_tail {D : Addr} {us : List Value} {ws : List Str} {k : Nat} {t : Tok} {x : Str} {Q : Value → Shared → Prop} (hx : x = ⟨#[]⟩) (hl : s.heap.get? D = some (listOf us.toArray k)) (hu : StrsAre us ws) (hz2 : (cat ws).length ≤ 1100000)
   (hq : ∀ t' tk, Q (.str ⟨(cat ws).toArray⟩ t') { s with toks := tk }) : wpAny (model prog w) A (call (.builtin (if ((0 : Nat) == 0) = true then "str.join" else "bytes.join")) [.str x t, .ref D]) Q E s := by
  subst hx
  show wpAny (model prog w) A (call (.builtin "str.join") [.str ⟨#[]⟩ t, .ref D]) Q E s
  refine join_list (ys := ws) (items := us.toArray) ⟨_, hl, rfl, _, rfl⟩ hu (by rw [cat_len]; show _ + _ * 0 ≤ _; omega) fun t' tk => ?_
  have e : Txt.join (⟨#[]⟩ : Str) ws = ⟨(cat ws).toArray⟩ := (StrLaws.glued_eq_join _ _).trans (join_empty ws)
  rw [e]
  exact hq t' tk
theorem ex00 (a : Array Nat) : (⟨a.extract 0 0⟩ : Str) = ⟨#[]⟩ := Str.ext' (by simp)
theorem turn_none {pa ta D : Addr} {ps : Str} {pt ft : Tok} {fl : Int} {its : Array Value} {code : Array Nat} {repl data : Str} {tr td : Tok} {n : Int} {pos : Nat} {us : List Value} {ws : List Str} {k : Nat} {Q : Fin → Shared → Prop} {m' : PySem.Sre.M} {N : Nat}
   (hp : s.heap.get? pa = some (patO ps pt fl ft ta)) (ht : s.heap.get? ta = some (tupA its)) (hc : (its.map reRawOf).map (·.toNat) = code) (hl : s.heap.get? D = some (listOf us.toArray k)) (hu : StrsAre us ws) (hz : ws.length ≤ 90000) (hz2 : (cat ws).length ≤ 1000000)
   (g : Goes N (PySem.Sre.forSearch code data.cps 0 pos data.cps.size false) m') (hn : N < 2 ^ 64) (ho : m'.outcome = some .failed) (hd : data.cps.size ≤ 10000)
   (hq : ∀ h' tk t', Heap.SameBut D s.heap h' → Q (.done (.ret (.str ⟨(cat ws ++ data.cps.toList.drop pos).toArray⟩ t'))) { s with heap := h', toks := tk }) :
    wpAny (model prog w) A (Builtin.«re.Pattern.sub.loop» ⟨[.ref pa, .str data td, .str repl tr, rawInt 0, rawInt 0, rawInt n, rawInt pos, rawInt pos, .bool false, .ref D, .bool false], []⟩) Q E s := by
  obtain ⟨h, g', d, t, os⟩ := s
  have hul := hu.length
  unfold Builtin.«re.Pattern.sub.loop»
  dsimp only [rawInt]
  refine wpAny_bind (whole_target hp ht ?_)
  rw [hc]
  repeat (any_goals (first | with_reducible assumption | (with_reducible refine next_none g hn ho ?_) | ((fail_if_success (with_reducible show wpAny _ _ (if _ < _ then _ else _) _ _ _)); wp_step)))
  dsimp only
  by_cases hlt : pos < data.cps.size
  · rw [if_pos (show ((pos : Int)).toNat < data.cps.size by simpa using hlt)]
    refine wpAny_bind ?_
    show wpAny _ _ (mkStr ⟨data.cps.extract (pos : Int).toNat data.cps.size⟩) _ _ _
    refine wpAny_mkStr ?_ (Nat.le_trans (extract_len _ _ _) (by rw [PySem.sizeLine_eq]; omega))
    refine wpAny_bind (push_one hl (by omega) fun h1 hl1 hs1 => ?_)
    refine wpAny_bind ?_
    show wpAny _ _ (mkStr ⟨data.cps.extract 0 0⟩) _ _ _
    refine wpAny_mkStr ?_ (Nat.le_trans (extract_len _ _ _) (by rw [PySem.sizeLine_eq]; omega))
    have hu1 : StrsAre (us ++ [Value.str ⟨data.cps.extract (pos : Int).toNat data.cps.size⟩ t]) (ws ++ [⟨data.cps.extract (pos : Int).toNat data.cps.size⟩]) := sa_snoc hu
    have hcat : cat (ws ++ [⟨data.cps.extract (pos : Int).toNat data.cps.size⟩]) = cat ws ++ data.cps.toList.drop pos := by
      rw [cat_snoc, extract_list, Int.toNat_natCast, List.take_of_length_le (by simp)]
    repeat (any_goals (first | with_reducible assumption | ((fail_if_success (with_reducible show wpAny _ _ (call _ _) _ _ _)); wp_step)))
    refine join_tail (ex00 _) hl1 hu1 (by rw [hcat, List.length_append, List.length_drop]; have := data.cps.size_eq_length_toList; omega) fun t' tk => ?_
    refine wp_if_false rfl (wpAny_pure ?_)
    rw [hcat]
    exact hq _ _ _ hs1
  · rw [if_neg (show ¬ ((pos : Int)).toNat < data.cps.size by simpa using hlt)]
    have hdr : data.cps.toList.drop pos = [] := List.drop_eq_nil_of_le (by have := data.cps.size_eq_length_toList; omega)
    refine wpAny_bind ?_
    show wpAny _ _ (mkStr ⟨data.cps.extract 0 0⟩) _ _ _
    refine wpAny_mkStr ?_ (Nat.le_trans (extract_len _ _ _) (by rw [PySem.sizeLine_eq]; omega))
    repeat (any_goals (first | with_reducible assumption | ((fail_if_success (with_reducible show wpAny _ _ (ite _ _ _) _ _ _)); wp_step)))
    show wpAny _ _ (if us.toArray.isEmpty = true then _ else _) _ _ _
    have hsb : Heap.SameBut D h h := Heap.SameBut.refl _ _
    cases us with
    | nil =>
      have hw : ws = [] := List.length_eq_zero_iff.1 hul.symm
      subst hw
      refine wp_if_true rfl (wpAny_bind (wpAny_pure (wp_if_false rfl (wpAny_pure ?_))))
      rw [ex00]
      have e := hq h (t + 1) t hsb
      rw [hdr] at e
      exact e
    | cons u us =>
      refine wp_if_false (by simp) (wpAny_bind ?_)
      refine join_tail (ex00 _) hl hu (by omega) fun t' tk => ?_
      refine wp_if_false rfl (wpAny_pure ?_)
      have e := hq h tk t' hsb
      rw [hdr, List.append_nil] at e
      exact e
end
end
section
section
variable {prog : Program} {w : World} {A : Around} {E : Value → Shared → Prop} {s : Shared}
open PySem.Builtin PySem.Builtin.Re
def Finds (code : Array Nat) (text : Array Nat) (repl : List Nat) (R : Nat → List Nat) : Prop := ∀ pos, pos ≤ text.size →
  (∃ n m', n < 2 ^ 64 ∧ Goes n (PySem.Sre.forSearch code text 0 pos text.size false) m' ∧ m'.outcome = some .matched ∧ pos ≤ m'.start ∧ m'.start < m'.handed ∧ m'.handed ≤ text.size ∧ R pos = (text.toList.drop pos).take (m'.start - pos) ++ repl ++ R m'.handed) ∨
  (∃ n m', n < 2 ^ 64 ∧ Goes n (PySem.Sre.forSearch code text 0 pos text.size false) m' ∧ m'.outcome = some .failed ∧ R pos = text.toList.drop pos)
theorem loop_entry : entryFor table "re.Pattern.sub.loop" = some Builtin.«re.Pattern.sub.loop» := entryFor_of_tree (by kernel_rfl)
theorem sub_entry : entryFor table "re.Pattern.sub" = some Builtin.«re.Pattern.sub» := entryFor_of_tree (by kernel_rfl)
theorem sub_loop {pa ta D : Addr} {ps : Str} {pt ft : Tok} {fl : Int} {its : Array Value} {code : Array Nat} {repl data : Str} {tr td : Tok} {R : Nat → List Nat} {X : Except Value Flow → Shared → Prop}
   (hc : (its.map reRawOf).map (·.toNat) = code) (hd : data.cps.size ≤ 10000) (hf : Finds code data.cps repl.cps.toList R) (hpD : pa ≠ D) (htD : ta ≠ D) (total : List Nat) (hlt : total.length ≤ 1000000) :
   ∀ (b pos : Nat) (n : Int) (us : List Value) (ws : List Str) (k : Nat) (s : Shared), data.cps.size - pos ≤ b → pos ≤ data.cps.size → s.heap.get? pa = some (patO ps pt fl ft ta) → s.heap.get? ta = some (tupA its) →
    s.heap.get? D = some (listOf us.toArray k) → StrsAre us ws → ws.length + 2 * b ≤ 90000 → cat ws ++ R pos = total →
    (∀ h' tk t', Heap.SameBut D s.heap h' → X (.ok (.ret (.str ⟨total.toArray⟩ t'))) { s with heap := h', toks := tk }) →
    codeAny (model prog w) A (Code.builtin "re.Pattern.sub.loop" ⟨[.ref pa, .str data td, .str repl tr, rawInt 0, rawInt 0, rawInt n, rawInt pos, rawInt pos, .bool false, .ref D, .bool false], []⟩) X s := by
  intro b
  induction b with
  | zero =>
    intro pos n us ws k s hb hps hp ht hl hu hz he hq
    refine codeAny_builtin loop_entry ?_
    rcases hf pos hps with ⟨N, m', hn, g, ho, h1, h2, h3, h4⟩ | ⟨N, m', hn, g, ho, h4⟩
    · omega
    · refine turn_none hp ht hc hl hu (by omega) (by rw [← he, List.length_append] at hlt; omega) g hn ho hd fun h' tk t' hs => ?_
      rw [← h4, he]
      exact hq h' tk t' hs
  | succ b ih =>
    intro pos n us ws k s hb hps hp ht hl hu hz he hq
    refine codeAny_builtin loop_entry ?_
    rcases hf pos hps with ⟨N, m', hn, g, ho, h1, h2, h3, h4⟩ | ⟨N, m', hn, g, ho, h4⟩
    · refine turn_found hp ht hc hl hu (by omega) g hn ho hd (by simp; omega) fun h' tk us' ws' k' hl' hs hu' hw hwl => ⟨Code.quiet_builtin _ (by decide +kernel), ?_⟩
      refine ih m'.handed (n + 1) us' ws' k' _ (by omega) h3 ((hs.2 _ hpD).trans hp) ((hs.2 _ htD).trans ht) hl' hu' (by omega) ?_ fun h2 tk2 t2 hs2 => hq h2 tk2 t2 (hs.trans hs2)
      rw [hw, ← he, h4]
      simp only [List.append_assoc]
    · refine turn_none hp ht hc hl hu (by omega) (by rw [← he, List.length_append] at hlt; omega) g hn ho hd fun h' tk t' hs => ?_
      rw [← h4, he]
      exact hq h' tk t' hs
end
end
section
section
open PySem.Sre
variable {text : Array Nat} {lim s : Nat}
def M0 (text : Array Nat) (lim s : Nat) : M := { code := code2, text, lim, start := s, lastStart := lim, pc := 10, pos := s, handed := s, marks := #[], seen := ({} : PySem.Sre.Seen).add 14 }
def start2 (text : Array Nat) (lim s : Nat) (r : Except String (Option Nat × PySem.Sre.Seen)) : M := match r with
  | .ok (some k, seen) => B2 text lim k [ns2 k true] 1 true 10 k k none seen
  | .ok (none, seen) => { M0 text lim s with seen, answer := some false }
  | .error why => { M0 text lim s with outcome := some (.stuck why) }
def from2 (m : M) (s : Nat) (r : Except String (Option Nat × PySem.Sre.Seen)) : M := match r with
  | .ok (some s, seen) => { m with mustAdvance := false, seen }.attemptAt s true
  | .ok (none, seen) => { m with seen }.say false
  | .error why => m.stick why
theorem from2_eq (m : M) (h : m.hasFirstSet = true) : m.attemptFrom s true = from2 m s (M.admitted m (m.lim + 1 - s) s m.seen) := by
  unfold M.attemptFrom
  rw [h]
  rfl
theorem a2_start : forSearch code2 text 0 s lim false = if (s > lim || lim - s < 1) = true then { code := code2, text, lim, start := s, pc := 10, pos := s, handed := s, marks := #[], seen := ({} : PySem.Sre.Seen).add 14, answer := some false } else start2 text lim s (M.admitted (M0 text lim s) (lim + 1 - s) s (({} : PySem.Sre.Seen).add 14)) := by
  have e1 : forSearch code2 text 0 s lim false = if (s > lim || lim - s < 1) = true then { code := code2, text, lim, start := s, pc := 10, pos := s, handed := s, marks := #[], seen := ({} : PySem.Sre.Seen).add 14, answer := some false } else (M0 text lim s).attemptFrom s true := rfl
  rw [e1, from2_eq _ rfl]
  have e2 : ∀ r, from2 (M0 text lim s) s r = start2 text lim s r := by
    intro r
    rcases r with e | ⟨_ | k, seen⟩
    · rfl
    · rfl
    · rfl
  rw [e2]
  rfl
def q2 : List Nat → List Nat
  | [] => []
  | 13 :: 10 :: r => 13 :: 10 :: q2 r
  | c :: r => if c = 10 ∨ c = 13 then 13 :: 10 :: q2 r else c :: q2 r
def q1 : Bool → List Nat → List Nat
  | _, [] => []
  | b, c :: r => (if b = true ∧ c = 46 then [46, 46] else [c]) ++ q1 (c == 10) r
theorem drop_at {a : Array Nat} {k : Nat} (h : k < a.size) : a.toList.drop k = a.getD k 0 :: a.toList.drop (k + 1) := by
  rw [List.drop_eq_getElem_cons (by simpa using h)]
  simp [Array.getD, h]
theorem q2_crlf (r : List Nat) : q2 (13 :: 10 :: r) = 13 :: 10 :: q2 r := by rw [q2]
theorem q2_end {c : Nat} {r : List Nat} (hc : c = 10 ∨ c = 13) (hn : ¬ (c = 13 ∧ r.head? = some 10)) : q2 (c :: r) = 13 :: 10 :: q2 r := by
  rw [q2]
  · rw [if_pos hc]
  · intro r' h1 h2
    subst h2
    exact hn ⟨h1, rfl⟩
theorem q2_plain {c : Nat} {r : List Nat} (hc : ¬ (c = 10 ∨ c = 13)) : q2 (c :: r) = c :: q2 r := by
  rw [q2]
  · rw [if_neg hc]
  · intro r' h1 h2
    exact hc (.inr h1)
theorem q2_skip {a : Array Nat} : ∀ (d pos k : Nat), pos + d = k → k ≤ a.size → (∀ j, pos ≤ j → j < k → endAt2 a j = false) → q2 (a.toList.drop pos) = (a.toList.drop pos).take (k - pos) ++ q2 (a.toList.drop k)
  | 0, pos, k, h, _, _ => by
    rw [show k = pos by omega]
    simp
  | d + 1, pos, k, h, hk, hn => by
    have e := hn pos (Nat.le_refl _) (by omega)
    unfold endAt2 at e
    simp only [Bool.or_eq_false_iff, beq_eq_false_iff_ne] at e
    have ih := q2_skip d (pos + 1) k (by omega) hk fun j h1 h2 => hn j (by omega) h2
    rw [drop_at (by omega), q2_plain (by omega), ih, show k - pos = (k - (pos + 1)) + 1 by omega, List.take_succ_cons]
    rfl
theorem q2_hit {a : Array Nat} {k : Nat} (hk : k < a.size) (he : endAt2 a k = true) : q2 (a.toList.drop k) = [13, 10] ++ q2 (a.toList.drop (after2 a a.size k)) := by
  unfold endAt2 at he
  simp only [Bool.or_eq_true, beq_iff_eq] at he
  unfold after2
  by_cases h2 : a.getD k 0 = 13 ∧ k + 1 < a.size ∧ a.getD (k + 1) 0 = 10
  · rw [if_pos (by simp [h2])]
    rw [drop_at hk, drop_at h2.2.1, h2.1, h2.2.2, q2_crlf]
    rfl
  · rw [if_neg (by simpa [and_assoc] using h2), drop_at hk, q2_end he]
    · rfl
    · rintro ⟨h3, h4⟩
      refine h2 ⟨h3, ?_⟩
      by_cases hk2 : k + 1 < a.size
      · rw [drop_at hk2] at h4
        exact ⟨hk2, by simpa using h4⟩
      · rw [List.drop_eq_nil_of_le (by have := a.size_eq_length_toList; omega)] at h4
        cases h4
theorem after2_le (a : Array Nat) (k : Nat) (h : k < a.size) : k < after2 a a.size k ∧ after2 a a.size k ≤ a.size := by
  unfold after2
  by_cases h2 : k + 1 < a.size
  · have e : ∀ b : Bool, k < (if b = true then k + 2 else k + 1) ∧ (if b = true then k + 2 else k + 1) ≤ a.size := by
      intro b
      cases b
      · rw [if_neg (by decide)]; omega
      · rw [if_pos rfl]; omega
    exact e _
  · rw [decide_eq_false h2, Bool.and_false, Bool.false_and, if_neg (by decide)]
    omega
theorem finds2 (text : Array Nat) : Finds code2 text [13, 10] (fun pos => q2 (text.toList.drop pos)) := by
  intro pos hp
  rw [a2_start]
  by_cases h0 : text.size - pos < 1
  · rw [if_pos (by simp; omega)]
    refine .inr ⟨1, _, by decide, Goes.step rfl rfl (Goes.refl _), rfl, ?_⟩
    have e : text.toList.drop pos = [] := List.drop_eq_nil_of_le (by have := text.size_eq_length_toList; omega)
    dsimp only
    rw [e]
    rfl
  · rw [if_neg (by simp; omega)]
    rcases adm2 (text := text) (lim := text.size) (M0 text text.size pos) rfl rfl rfl (text.size + 1 - pos) pos (({} : PySem.Sre.Seen).add 14) (Nat.le_refl _) with ⟨k, seen', h1, h2, h3, h4, h5⟩ | ⟨seen', h4, h5⟩
    · rw [h5]
      obtain ⟨n, m', hn, g, ho, hs, hh⟩ := match2 (seen := seen') (o := true) h2 h3
      have ha := after2_le text k h2
      refine .inl ⟨n, m', by omega, g, ho, by omega, by omega, by omega, ?_⟩
      dsimp only
      rw [hs, hh, q2_skip (k - pos) pos k (by omega) (by omega) h4, q2_hit h2 h3, List.append_assoc]
    · rw [h5]
      refine .inr ⟨1, _, by decide, Goes.step rfl rfl (Goes.refl _), rfl, ?_⟩
      dsimp only
      rw [q2_skip (text.size - pos) pos text.size (by omega) (Nat.le_refl _) h4, List.take_of_length_le (by simp), List.drop_eq_nil_of_le (Nat.le_of_eq text.size_eq_length_toList.symm)]
      simp [q2]
theorem q1_skip {a : Array Nat} : ∀ (d pos k : Nat), pos + d = k → k ≤ a.size → (∀ j, pos ≤ j → j < k → dotAt a j = false) → q1 (pos == 0 || a.getD (pos - 1) 0 == 10) (a.toList.drop pos) = (a.toList.drop pos).take (k - pos) ++ q1 (k == 0 || a.getD (k - 1) 0 == 10) (a.toList.drop k)
  | 0, pos, k, h, _, _ => by
    rw [show k = pos by omega]
    simp
  | d + 1, pos, k, h, hk, hn => by
    have e := hn pos (Nat.le_refl _) (by omega)
    unfold dotAt at e
    have ih := q1_skip d (pos + 1) k (by omega) hk fun j h1 h2 => hn j (by omega) h2
    rw [show (pos + 1 == 0) = false from rfl, Bool.false_or, Nat.add_sub_cancel] at ih
    rw [drop_at (by omega), q1, ih, if_neg, show k - pos = (k - (pos + 1)) + 1 by omega, List.take_succ_cons]
    · rfl
    · rintro ⟨x, y⟩
      rw [x, y] at e
      cases e
theorem q1_hit {a : Array Nat} {k : Nat} (hk : k < a.size) (he : dotAt a k = true) : q1 (k == 0 || a.getD (k - 1) 0 == 10) (a.toList.drop k) = [46, 46] ++ q1 (k + 1 == 0 || a.getD (k + 1 - 1) 0 == 10) (a.toList.drop (k + 1)) := by
  unfold dotAt at he
  rw [Bool.and_eq_true, beq_iff_eq (a := a.getD k 0)] at he
  rw [drop_at hk, q1, if_pos ⟨he.1, he.2⟩]
  rfl
theorem finds1 (text : Array Nat) (hd : text.size ≤ 10000) : Finds code1 text [46, 46] (fun pos => q1 (pos == 0 || text.getD (pos - 1) 0 == 10) (text.toList.drop pos)) := by
  intro pos hp
  rw [a1_start]
  by_cases h0 : text.size - pos < 1
  · rw [if_pos (by simp; omega)]
    refine .inr ⟨1, _, by decide, Goes.step rfl rfl (Goes.refl _), rfl, ?_⟩
    have e : text.toList.drop pos = [] := List.drop_eq_nil_of_le (by have := text.size_eq_length_toList; omega)
    dsimp only
    rw [e]
    rfl
  · rw [if_neg (by simp; omega)]
    rcases search1 (lim := text.size) (text := text) (text.size - pos) pos true (({} : PySem.Sre.Seen).add 14) (by omega) with ⟨n, m', k, hn, g, ho, hs, hh, h1, h2, h3, h4⟩ | ⟨n, m', hn, g, ho, h4⟩
    · refine .inl ⟨n, m', by omega, g, ho, by omega, by omega, by omega, ?_⟩
      dsimp only
      rw [hs, hh, q1_skip (k - pos) pos k (by omega) (by omega) h4, q1_hit h2 h3, List.append_assoc]
    · refine .inr ⟨n, m', by omega, g, ho, ?_⟩
      dsimp only
      rw [q1_skip (text.size - pos) pos text.size (by omega) (Nat.le_refl _) h4, List.take_of_length_le (by simp), List.drop_eq_nil_of_le (Nat.le_of_eq text.size_eq_length_toList.symm)]
      simp [q1]
end
end
section
theorem slot_sub : Slot "re.Pattern" "sub" "re.Pattern.sub" :=
  .of (owner := "re.Pattern") (n := "sub") (by rw [typeLookup_type, builtinLookup_eq_fast]; kernel_rfl) (by decide +kernel) (by decide +kernel) (by decide +kernel)
    (by first | exact .inl (by decide +kernel) | exact .inr (by decide +kernel)) (by rw [isSubtype_type]; kernel_rfl)
theorem plainAttrs_pattern : PlainAttrs "re.Pattern" :=
  ⟨⟨"object.__getattribute__", by rw [typeLookup_type, builtinLookup_eq_fast]; kernel_rfl, by decide +kernel⟩, by rw [typeLookup_type, builtinLookup_eq_fast]; kernel_rfl⟩
theorem type_sub : typeOf (.builtin "re.Pattern.sub") = pure (.type "method_descriptor") := by show builtinType _ = _; rw [builtinType_eq_fast]; kernel_rfl
theorem args_sub (a b c : Value) : argsOk "re.Pattern.sub" ⟨[a, b, c], []⟩ := by unfold argsOk; kernel_rfl
section
variable {prog : Program} {w : World} {A : Around} {E : Value → Shared → Prop} {s : Shared} {h₀ : Heap} {L : Addr} {m : Str → Option Value} {news : List (Addr × Obj)}
open PySem.Builtin PySem.Builtin.Re
theorem fr_same {h h' : Heap} {o : Obj} (F : Fr h₀ L h m) (hs : Heap.SameBut h.objs.size (h.push o) h') : Fr h₀ L h' m := by
  obtain ⟨oL, a1, a2, hL, a3⟩ := F.ns
  have e1 : ∀ b o', h.get? b = some o' → h'.get? b = some o' := fun b o' e =>
    (hs.2 b (Nat.ne_of_lt (Heap.lt_size e))).trans (Heap.get?_push_of_some _ e)
  exact ⟨⟨oL, a1, a2, e1 _ _ hL, a3⟩, fun b o' e => e1 _ _ (F.keep b o' e), F.above⟩
theorem news_same {h h' : Heap} {o : Obj} (N : News h₀ L h news) (hs : Heap.SameBut h.objs.size (h.push o) h') : News h₀ L h' news := fun p hp =>
  ⟨(hs.2 p.1 (Nat.ne_of_lt (Heap.lt_size (N p hp).1))).trans (Heap.get?_push_of_some _ (N p hp).1), (N p hp).2⟩
theorem get_sub {pa ta : Addr} {ps : Str} {pt ft : Tok} {fl : Int} {pl : Sem Bool} {Q : Value × List Value → Shared → Prop} (F : Fr h₀ L s.heap m) (hp : h₀.get? pa = some (patO ps pt fl ft ta))
    (hq : Q (.builtin "re.Pattern.sub", [.ref pa]) s) : wpAny (model prog w) A (getMethod (.ref pa) "sub" pl) Q E s :=
  getMethod_builtin ⟨_, F.keep _ _ hp, rfl⟩ plainAttrs_pattern slot_sub type_sub (fun a e => by cases e; exact ⟨_, F.keep _ _ hp, rfl⟩) hq
theorem call_sub {pa ta : Addr} {ps : Str} {pt ft : Tok} {fl : Int} {its : Array Value} {code : Array Nat} {repl data : Str} {tr td : Tok} {R : Nat → List Nat} {Q : Value → Shared → Prop}
   (F : Fr h₀ L s.heap m) (N : News h₀ L s.heap news) (hp : h₀.get? pa = some (patO ps pt fl ft ta)) (ht : h₀.get? ta = some (tupA its)) (hc : (its.map reRawOf).map (·.toNat) = code) (hd : data.cps.size ≤ 10000)
   (hr : repl.cps.contains 92 = false) (hf : Finds code data.cps repl.cps.toList R) (hlt : (R 0).length ≤ 1000000)
   (hq : ∀ h' tk t', Fr h₀ L h' m → News h₀ L h' news → Q (.str ⟨(R 0).toArray⟩ t') { s with heap := h', toks := tk }) :
    wpAny (model prog w) A (call (.builtin "re.Pattern.sub") [.ref pa, .str repl tr, .str data td]) Q E s := by
  refine wpAny_call (codeAny_call_builtin slot_sub.plain sub_entry (slot_sub.check _ _ _ _ _ _ _ _ ⟨_, F.keep _ _ hp, rfl⟩ (args_sub _ _ _) ?_))
  refine sub_enter (F.keep _ _ hp) (F.keep _ _ ht) hr ⟨Code.quiet_builtin _ (by decide +kernel), ?_⟩
  have hps := Heap.lt_size (F.keep _ _ hp)
  have hts := Heap.lt_size (F.keep _ _ ht)
  refine sub_loop (k := 0) (us := []) (ws := []) hc hd hf (Nat.ne_of_lt hps) (Nat.ne_of_lt hts) (R 0) hlt data.cps.size 0 0 _ (by omega) (by omega) (Heap.get?_push_of_some _ (F.keep _ _ hp)) (Heap.get?_push_of_some _ (F.keep _ _ ht)) ?_ .nil (by simp; omega) rfl ?_
  · exact Heap.get?_push_size _ rfl
  · intro h' tk t' hs
    exact hq h' tk t' (fr_same F hs) (news_same N hs)
end
end
section
local macro_rules | `(tactic| walk_at $s:str) => `(tactic| k_extra $s)
theorem q2_len : ∀ n (l : List Nat), l.length ≤ n → (q2 l).length ≤ 2 * l.length
  | 0, l, h => by
    have e : l = [] := List.length_eq_zero_iff.1 (by omega)
    subst e
    simp [q2]
  | n + 1, [], _ => by simp [q2]
  | n + 1, c :: r, h => by
    rw [List.length_cons] at h
    have ih := q2_len n r (by omega)
    by_cases hx : c = 13 ∧ r.head? = some 10
    · obtain ⟨h1, h2⟩ := hx
      cases r with
      | nil => cases h2
      | cons d r' =>
        cases h2
        subst h1
        rw [List.length_cons] at h
        have ih2 := q2_len n r' (by omega)
        rw [q2_crlf]
        simp only [List.length_cons]
        omega
    · by_cases hc : c = 10 ∨ c = 13
      · rw [q2_end hc hx]
        simp only [List.length_cons]
        omega
      · rw [q2_plain hc]
        simp only [List.length_cons]
        omega
theorem q1_len : ∀ (b : Bool) (l : List Nat), (q1 b l).length ≤ 2 * l.length
  | _, [] => by simp [q1]
  | b, c :: r => by
    have ih := q1_len (c == 10) r
    rw [q1, List.length_append, List.length_cons]
    split <;> simp <;> omega
theorem tells_quote {w : World} {mean : ExcName → Option Value} {mg mb : Str → Option Value} (x : Str) (tx : Tok) (hx : x.length ≤ 2000) :
    Tells w mean mg mb 3 55 [.str x tx] (fun t => .str ⟨(q1 true (q2 x.cps.toList)).toArray⟩ t) := by
  k_with_none
  k_with "getMethod ref" => (k_here; (with_reducible show wpAny _ _ (getMethod (Value.ref _) (PySem.Str.ofString "sub") _) _ _ _); k_dflt ((with_reducible rename Frag.In _ _ => qX); refine get_sub (by k_asm) (qX _ _ (by k_is)) ?_))
  k_with "call builtin:re.Pattern.sub" => (k_here; (with_reducible show wpAny _ _ (call (Value.builtin "re.Pattern.sub") [Value.ref 48, Value.str _ _, Value.str _ _]) _ _ _); k_dflt ((with_reducible rename Frag.In _ _ => qX); refine call_sub (by k_asm) (by k_asm) (qX _ _ (by k_is)) (qX _ _ (by k_is)) (code := code2) (by kernel_rfl) (by (first | omega | (simp only [List.drop_zero, List.size_toArray]; omega) | (simp only [List.drop_zero, List.size_toArray, beq_self_eq_true, Bool.true_or]; omega))) (by kernel_rfl) (finds2 _) (by (first | omega | (simp only [List.drop_zero, List.size_toArray]; omega) | (simp only [List.drop_zero, List.size_toArray, beq_self_eq_true, Bool.true_or]; omega))) ?_))
  k_with "call builtin:re.Pattern.sub" => (k_here; (with_reducible show wpAny _ _ (call (Value.builtin "re.Pattern.sub") [Value.ref 43, Value.str _ _, Value.str _ _]) _ _ _); k_dflt ((with_reducible rename Frag.In _ _ => qX); refine call_sub (by k_asm) (by k_asm) (qX _ _ (by k_is)) (qX _ _ (by k_is)) (code := code1) (by kernel_rfl) (by (first | omega | (simp only [List.drop_zero, List.size_toArray]; omega) | (simp only [List.drop_zero, List.size_toArray, beq_self_eq_true, Bool.true_or]; omega))) (by kernel_rfl) (finds1 _ (by (first | omega | (simp only [List.drop_zero, List.size_toArray]; omega) | (simp only [List.drop_zero, List.size_toArray, beq_self_eq_true, Bool.true_or]; omega)))) (by (first | omega | (simp only [List.drop_zero, List.size_toArray]; omega) | (simp only [List.drop_zero, List.size_toArray, beq_self_eq_true, Bool.true_or]; omega))) ?_))
  dsimp only [Tells, TellsG]
  k_fill
  intro dp un gd cn nms ig ic mo a ccd cl outer A₀ base h₀ L m news s Q E hB0 hF0 hX0 hN0 hT0 hd0 hu0 hret
  have hx2 : x.cps.size ≤ 2000 := hx
  have hx3 : (q2 x.cps.toList).length ≤ 4000 := Nat.le_trans (q2_len _ _ (Nat.le_refl _)) (by rw [← x.cps.size_eq_length_toList]; omega)
  have hx4 : (q1 true (q2 x.cps.toList)).length ≤ 8000 := Nat.le_trans (q1_len _ _) (by omega)
  refine wpAny_call ?_
  k_dflt k_enter
  k_steps
  exact retS hret (by assumption) (by assumption) (by first | (intro p9 hp9; (repeat (first | (with_reducible exact hp9) | refine List.mem_cons_of_mem _ ?_)); done) | kcj_all) (by rfl)
end
section
section
variable {prog : Program} {w : World} {A : Around} {E : Value → Shared → Prop} {s : Shared}
open PySem.Builtin PySem.Builtin.Str
theorem look_hit {d : Addr} {f : Int → Option Value} {c : Nat} {t2 : Str} {tt : Tok} {Q : Mapped → Shared → Prop} (hm : s.heap.MapOf (intKind prog w) d f) (hf : f c = some (.str t2 tt)) (hq : ∀ tk, Q (.text t2) { s with toks := tk }) :
    wpAny (model prog w) A (tableLookup (.ref d) c) Q E s := by
  obtain ⟨h, g, dd, t, os⟩ := s
  unfold tableLookup
  refine wpAny_bind (wpAny_attempt ?_)
  refine wpAny_bind ?_
  (first | (with_reducible (first | refine PySem.wpAny_pure ?_ | refine PySem.wpAny_bind ?_ | refine PySem.wpAny_holding ?_ | refine PySem.wpAny_standAt ?_ | refine PySem.wpAny_point ?_ | refine PySem.wpAny_rule ?_ | refine PySem.wpAny_letGo ?_ | refine PySem.wpAny_mkInt' ?_ | ((show PySem.wpAny _ _ (PySem.mkStr _) _ _ _); refine PySem.wpAny_mkStr' ?_) | refine PySem.wpAny_fresh' ?_ | refine PySem.wpAny_alloc' ?_ | refine PySem.wpAny_attempt ?_ | refine PySem.wpAny_throw ?_ | refine PySem.wpAny_of_eq (by assumption) ?_ | refine PySem.wpAny_typeOf (by assumption) ?_ | refine PySem.wpAny_specialOf_val (by assumption) (by assumption) ?_ | refine PySem.wpAny_specialOf (by assumption) (by assumption) ?_ | refine PySem.wpAny_isInstance_val (by assumption) (by assumption) ?_ | refine PySem.wpAny_isInstance (by assumption) (by assumption) ?_ | refine PySem.wpAny_call ?_ | refine PySem.wpAny_runValue ?_ | refine PySem.wpAny_run ?_)) | ((with_reducible refine' PySem.wpAny_load' ?qh ?_); case qh => (heap_get; done)) | ((with_reducible refine' PySem.wpAny_update' ?qh ?_); case qh => (heap_get; done)) | ((with_reducible refine' PySem.wpAny_loadPart' ?qh ?_); case qh => (heap_get; done)) | ((with_reducible refine' PySem.wpAny_updatePart' ?qh ?_); case qh => (heap_get; done)) | ((with_reducible refine PySem.wpAny_handled_none ?qh ?_); case qh => (assumption; done)) | ((with_reducible refine PySem.wpAny_ite_false ?qh ?_); case qh => (rfl; done)) | ((with_reducible refine PySem.wpAny_ite_true ?qh ?_); case qh => (rfl; done)) | ((with_reducible refine PySem.wpAny_ite_false ?qh ?_); case qh => (simp [*]; done)) | ((with_reducible refine PySem.wpAny_ite_true ?qh ?_); case qh => (simp [*]; done)) | wp_delta | with_reducible_and_instances refine PySem.wpAny_pure ?_ | with_reducible_and_instances refine PySem.wpAny_bind ?_)
  refine wpAny_getItem_of (knd := intKind prog w) (k := c) (by simp [intKind, Value.isInt]) hm hf ?_
  repeat (any_goals (first | with_reducible assumption | exact hq _ | (first | (with_reducible (first | refine PySem.wpAny_pure ?_ | refine PySem.wpAny_bind ?_ | refine PySem.wpAny_holding ?_ | refine PySem.wpAny_standAt ?_ | refine PySem.wpAny_point ?_ | refine PySem.wpAny_rule ?_ | refine PySem.wpAny_letGo ?_ | refine PySem.wpAny_mkInt' ?_ | ((show PySem.wpAny _ _ (PySem.mkStr _) _ _ _); refine PySem.wpAny_mkStr' ?_) | refine PySem.wpAny_fresh' ?_ | refine PySem.wpAny_alloc' ?_ | refine PySem.wpAny_attempt ?_ | refine PySem.wpAny_throw ?_ | refine PySem.wpAny_of_eq (by assumption) ?_ | refine PySem.wpAny_typeOf (by assumption) ?_ | refine PySem.wpAny_specialOf_val (by assumption) (by assumption) ?_ | refine PySem.wpAny_specialOf (by assumption) (by assumption) ?_ | refine PySem.wpAny_isInstance_val (by assumption) (by assumption) ?_ | refine PySem.wpAny_isInstance (by assumption) (by assumption) ?_ | refine PySem.wpAny_call ?_ | refine PySem.wpAny_runValue ?_ | refine PySem.wpAny_run ?_)) | ((with_reducible refine' PySem.wpAny_load' ?qh ?_); case qh => (heap_get; done)) | ((with_reducible refine' PySem.wpAny_update' ?qh ?_); case qh => (heap_get; done)) | ((with_reducible refine' PySem.wpAny_loadPart' ?qh ?_); case qh => (heap_get; done)) | ((with_reducible refine' PySem.wpAny_updatePart' ?qh ?_); case qh => (heap_get; done)) | ((with_reducible refine PySem.wpAny_handled_none ?qh ?_); case qh => (assumption; done)) | ((with_reducible refine PySem.wpAny_ite_false ?qh ?_); case qh => (rfl; done)) | ((with_reducible refine PySem.wpAny_ite_true ?qh ?_); case qh => (rfl; done)) | ((with_reducible refine PySem.wpAny_ite_false ?qh ?_); case qh => (simp [*]; done)) | ((with_reducible refine PySem.wpAny_ite_true ?qh ?_); case qh => (simp [*]; done)) | wp_delta | with_reducible_and_instances refine PySem.wpAny_pure ?_ | with_reducible_and_instances refine PySem.wpAny_bind ?_)))
theorem look_miss {d : Addr} {f : Int → Option Value} {c : Nat} {Q : Mapped → Shared → Prop} (hh : A.handled = none) (hd : (d == sysModules) = false) (hm : s.heap.MapOf (intKind prog w) d f) (hf : f c = none) (hq : ∀ h' tk, (∀ b o, s.heap.get? b = some o → h'.get? b = some o) → Q .keep { s with heap := h', toks := tk }) :
    wpAny (model prog w) A (tableLookup (.ref d) c) Q E s := by
  obtain ⟨h, g, dd, t, os⟩ := s
  unfold tableLookup
  refine wpAny_bind (wpAny_attempt ?_)
  refine wpAny_bind ?_
  (first | (with_reducible (first | refine PySem.wpAny_pure ?_ | refine PySem.wpAny_bind ?_ | refine PySem.wpAny_holding ?_ | refine PySem.wpAny_standAt ?_ | refine PySem.wpAny_point ?_ | refine PySem.wpAny_rule ?_ | refine PySem.wpAny_letGo ?_ | refine PySem.wpAny_mkInt' ?_ | ((show PySem.wpAny _ _ (PySem.mkStr _) _ _ _); refine PySem.wpAny_mkStr' ?_) | refine PySem.wpAny_fresh' ?_ | refine PySem.wpAny_alloc' ?_ | refine PySem.wpAny_attempt ?_ | refine PySem.wpAny_throw ?_ | refine PySem.wpAny_of_eq (by assumption) ?_ | refine PySem.wpAny_typeOf (by assumption) ?_ | refine PySem.wpAny_specialOf_val (by assumption) (by assumption) ?_ | refine PySem.wpAny_specialOf (by assumption) (by assumption) ?_ | refine PySem.wpAny_isInstance_val (by assumption) (by assumption) ?_ | refine PySem.wpAny_isInstance (by assumption) (by assumption) ?_ | refine PySem.wpAny_call ?_ | refine PySem.wpAny_runValue ?_ | refine PySem.wpAny_run ?_)) | ((with_reducible refine' PySem.wpAny_load' ?qh ?_); case qh => (heap_get; done)) | ((with_reducible refine' PySem.wpAny_update' ?qh ?_); case qh => (heap_get; done)) | ((with_reducible refine' PySem.wpAny_loadPart' ?qh ?_); case qh => (heap_get; done)) | ((with_reducible refine' PySem.wpAny_updatePart' ?qh ?_); case qh => (heap_get; done)) | ((with_reducible refine PySem.wpAny_handled_none ?qh ?_); case qh => (assumption; done)) | ((with_reducible refine PySem.wpAny_ite_false ?qh ?_); case qh => (rfl; done)) | ((with_reducible refine PySem.wpAny_ite_true ?qh ?_); case qh => (rfl; done)) | ((with_reducible refine PySem.wpAny_ite_false ?qh ?_); case qh => (simp [*]; done)) | ((with_reducible refine PySem.wpAny_ite_true ?qh ?_); case qh => (simp [*]; done)) | wp_delta | with_reducible_and_instances refine PySem.wpAny_pure ?_ | with_reducible_and_instances refine PySem.wpAny_bind ?_)
  refine wpAny_getItem_missing_of (knd := intKind prog w) (k := c) (by simp [intKind, Value.isInt]) hd hh hm hf ?_
  intro h' e hx
  obtain ⟨ob, t1, he, hcls, hdt⟩ := hx.there
  have ek : isSubtype (.type "KeyError") (.type "LookupError") = pure true := by rw [isSubtype_type]; kernel_rfl
  repeat (any_goals (first | with_reducible assumption | exact hq _ _ hx.keeps | (rw [hcls, ek]) | (first | (with_reducible (first | refine PySem.wpAny_pure ?_ | refine PySem.wpAny_bind ?_ | refine PySem.wpAny_holding ?_ | refine PySem.wpAny_standAt ?_ | refine PySem.wpAny_point ?_ | refine PySem.wpAny_rule ?_ | refine PySem.wpAny_letGo ?_ | refine PySem.wpAny_mkInt' ?_ | ((show PySem.wpAny _ _ (PySem.mkStr _) _ _ _); refine PySem.wpAny_mkStr' ?_) | refine PySem.wpAny_fresh' ?_ | refine PySem.wpAny_alloc' ?_ | refine PySem.wpAny_attempt ?_ | refine PySem.wpAny_throw ?_ | refine PySem.wpAny_of_eq (by assumption) ?_ | refine PySem.wpAny_typeOf (by assumption) ?_ | refine PySem.wpAny_specialOf_val (by assumption) (by assumption) ?_ | refine PySem.wpAny_specialOf (by assumption) (by assumption) ?_ | refine PySem.wpAny_isInstance_val (by assumption) (by assumption) ?_ | refine PySem.wpAny_isInstance (by assumption) (by assumption) ?_ | refine PySem.wpAny_call ?_ | refine PySem.wpAny_runValue ?_ | refine PySem.wpAny_run ?_)) | ((with_reducible refine' PySem.wpAny_load' ?qh ?_); case qh => (heap_get; done)) | ((with_reducible refine' PySem.wpAny_update' ?qh ?_); case qh => (heap_get; done)) | ((with_reducible refine' PySem.wpAny_loadPart' ?qh ?_); case qh => (heap_get; done)) | ((with_reducible refine' PySem.wpAny_updatePart' ?qh ?_); case qh => (heap_get; done)) | ((with_reducible refine PySem.wpAny_handled_none ?qh ?_); case qh => (assumption; done)) | ((with_reducible refine PySem.wpAny_ite_false ?qh ?_); case qh => (rfl; done)) | ((with_reducible refine PySem.wpAny_ite_true ?qh ?_); case qh => (rfl; done)) | ((with_reducible refine PySem.wpAny_ite_false ?qh ?_); case qh => (simp [*]; done)) | ((with_reducible refine PySem.wpAny_ite_true ?qh ?_); case qh => (simp [*]; done)) | wp_delta | with_reducible_and_instances refine PySem.wpAny_pure ?_ | with_reducible_and_instances refine PySem.wpAny_bind ?_)))
theorem tr_keep {d : Addr} {f : Int → Option Value} {c : Nat} {tc : Tok} {Q : Fin → Shared → Prop} (hh : A.handled = none) (hd : (d == sysModules) = false) (hm : s.heap.MapOf (intKind prog w) d f) (hf : f c = none) (hc : c < 128)
   (hq : ∀ h' tk t', (∀ b o, s.heap.get? b = some o → h'.get? b = some o) → Q (.done (.ret (.str ⟨#[c]⟩ t'))) { s with heap := h', toks := tk }) :
    wpAny (model prog w) A (Builtin.«str.translate» ⟨[.str ⟨#[c]⟩ tc, .ref d], []⟩) Q E s := by
  obtain ⟨h, g, dd, t, os⟩ := s
  unfold Builtin.«str.translate»
  have e1 : (#[c] : Array Nat).all (fun x => decide (x < 128)) = true := by simp [hc]
  repeat (any_goals (first | with_reducible assumption | ((with_reducible show wpAny _ _ (bind (tableLookup _ _) _) _ _ _); refine wpAny_bind (look_miss (c := c) hh hd hm hf fun h' tk hk => ?_)) | exact hq _ _ _ (by assumption) | ((fail_if_success (with_reducible show wpAny _ _ (bind (tableLookup _ _) _) _ _ _)); (first | (with_reducible (first | refine PySem.wpAny_pure ?_ | refine PySem.wpAny_bind ?_ | refine PySem.wpAny_holding ?_ | refine PySem.wpAny_standAt ?_ | refine PySem.wpAny_point ?_ | refine PySem.wpAny_rule ?_ | refine PySem.wpAny_letGo ?_ | refine PySem.wpAny_mkInt' ?_ | ((show PySem.wpAny _ _ (PySem.mkStr _) _ _ _); refine PySem.wpAny_mkStr' ?_) | refine PySem.wpAny_fresh' ?_ | refine PySem.wpAny_alloc' ?_ | refine PySem.wpAny_attempt ?_ | refine PySem.wpAny_throw ?_ | refine PySem.wpAny_of_eq (by assumption) ?_ | refine PySem.wpAny_typeOf (by assumption) ?_ | refine PySem.wpAny_specialOf_val (by assumption) (by assumption) ?_ | refine PySem.wpAny_specialOf (by assumption) (by assumption) ?_ | refine PySem.wpAny_isInstance_val (by assumption) (by assumption) ?_ | refine PySem.wpAny_isInstance (by assumption) (by assumption) ?_ | refine PySem.wpAny_call ?_ | refine PySem.wpAny_runValue ?_ | refine PySem.wpAny_run ?_)) | ((with_reducible refine' PySem.wpAny_load' ?qh ?_); case qh => (heap_get; done)) | ((with_reducible refine' PySem.wpAny_update' ?qh ?_); case qh => (heap_get; done)) | ((with_reducible refine' PySem.wpAny_loadPart' ?qh ?_); case qh => (heap_get; done)) | ((with_reducible refine' PySem.wpAny_updatePart' ?qh ?_); case qh => (heap_get; done)) | ((with_reducible refine PySem.wpAny_handled_none ?qh ?_); case qh => (assumption; done)) | ((with_reducible refine PySem.wpAny_ite_false ?qh ?_); case qh => (rfl; done)) | ((with_reducible refine PySem.wpAny_ite_true ?qh ?_); case qh => (rfl; done)) | ((with_reducible refine PySem.wpAny_ite_false ?qh ?_); case qh => (simp [*]; done)) | ((with_reducible refine PySem.wpAny_ite_true ?qh ?_); case qh => (simp [*]; done)) | wp_delta | with_reducible_and_instances refine PySem.wpAny_pure ?_ | with_reducible_and_instances refine PySem.wpAny_bind ?_))))
theorem tr_text {d : Addr} {f : Int → Option Value} {c : Nat} {t2 : Str} {tc t3 : Tok} {Q : Fin → Shared → Prop} (hh : A.handled = none) (hd : (d == sysModules) = false) (hm : s.heap.MapOf (intKind prog w) d f) (hf : f c = some (.str t2 t3)) (hc : c < 128) (ht : t2.length = 2)
   (hq : ∀ tk t', Q (.done (.ret (.str ⟨#[] ++ t2.cps⟩ t'))) { s with toks := tk }) :
    wpAny (model prog w) A (Builtin.«str.translate» ⟨[.str ⟨#[c]⟩ tc, .ref d], []⟩) Q E s := by
  obtain ⟨h, g, dd, t, os⟩ := s
  unfold Builtin.«str.translate»
  have e1 : (#[c] : Array Nat).all (fun x => decide (x < 128)) = true := by simp [hc]
  have e2 : (t2.length == 1) = false := by rw [ht]; rfl
  repeat (any_goals (first | with_reducible assumption | ((with_reducible show wpAny _ _ (bind (tableLookup _ _) _) _ _ _); refine wpAny_bind (look_hit (c := c) hm hf fun tk => ?_)) | exact hq _ _ | (simp only [e2, Bool.false_and, Bool.false_eq_true, if_false]) | ((fail_if_success (with_reducible show wpAny _ _ (bind (tableLookup _ _) _) _ _ _)); (first | (with_reducible (first | refine PySem.wpAny_pure ?_ | refine PySem.wpAny_bind ?_ | refine PySem.wpAny_holding ?_ | refine PySem.wpAny_standAt ?_ | refine PySem.wpAny_point ?_ | refine PySem.wpAny_rule ?_ | refine PySem.wpAny_letGo ?_ | refine PySem.wpAny_mkInt' ?_ | ((show PySem.wpAny _ _ (PySem.mkStr _) _ _ _); refine PySem.wpAny_mkStr' ?_) | refine PySem.wpAny_fresh' ?_ | refine PySem.wpAny_alloc' ?_ | refine PySem.wpAny_attempt ?_ | refine PySem.wpAny_throw ?_ | refine PySem.wpAny_of_eq (by assumption) ?_ | refine PySem.wpAny_typeOf (by assumption) ?_ | refine PySem.wpAny_specialOf_val (by assumption) (by assumption) ?_ | refine PySem.wpAny_specialOf (by assumption) (by assumption) ?_ | refine PySem.wpAny_isInstance_val (by assumption) (by assumption) ?_ | refine PySem.wpAny_isInstance (by assumption) (by assumption) ?_ | refine PySem.wpAny_call ?_ | refine PySem.wpAny_runValue ?_ | refine PySem.wpAny_run ?_)) | ((with_reducible refine' PySem.wpAny_load' ?qh ?_); case qh => (heap_get; done)) | ((with_reducible refine' PySem.wpAny_update' ?qh ?_); case qh => (heap_get; done)) | ((with_reducible refine' PySem.wpAny_loadPart' ?qh ?_); case qh => (heap_get; done)) | ((with_reducible refine' PySem.wpAny_updatePart' ?qh ?_); case qh => (heap_get; done)) | ((with_reducible refine PySem.wpAny_handled_none ?qh ?_); case qh => (assumption; done)) | ((with_reducible refine PySem.wpAny_ite_false ?qh ?_); case qh => (rfl; done)) | ((with_reducible refine PySem.wpAny_ite_true ?qh ?_); case qh => (rfl; done)) | ((with_reducible refine PySem.wpAny_ite_false ?qh ?_); case qh => (simp [*]; done)) | ((with_reducible refine PySem.wpAny_ite_true ?qh ?_); case qh => (simp [*]; done)) | wp_delta | with_reducible_and_instances refine PySem.wpAny_pure ?_ | with_reducible_and_instances refine PySem.wpAny_bind ?_))))
  have e3 : tooLong (0 + t2.length) = false := by rw [ht]; kernel_rfl
  rw [e3, if_neg (by decide)]
  show wpAny _ _ (retStr ⟨#[] ++ t2.cps⟩) _ _ _
  unfold retStr
  refine wpAny_bind (wpAny_mkStr ?_ ?_)
  · exact wpAny_pure (hq _ _)
  · show (#[] ++ t2.cps).size ≤ _
    have ht' : t2.cps.size = 2 := ht
    rw [Array.size_append, ht', PySem.sizeLine_eq]
    decide
theorem call_tr {h₀ : Heap} {L : Addr} {m : Str → Option Value} {news : List (Addr × Obj)} {d : Addr} {f : Int → Option Value} {c : Nat} {x : Str} {tc : Tok} {Q : Value → Shared → Prop} (hh : A.handled = none) (hd : (d == sysModules) = false) (F : Fr h₀ L s.heap m) (N : News h₀ L s.heap news)
   (hm : h₀.MapOf (intKind prog w) d f) (hc : c < 128) (hx : f c = none ∧ x = ⟨#[c]⟩ ∨ ∃ t3, f c = some (.str x t3) ∧ x.length = 2)
   (hq : ∀ h' tk t', Fr h₀ L h' m → News h₀ L h' news → Q (.str x t') { s with heap := h', toks := tk }) :
    wpAny (model prog w) A (call (.builtin "str.translate") [.str ⟨#[c]⟩ tc, .ref d]) Q E s := by
  have hm2 : s.heap.MapOf (intKind prog w) d f := by
    obtain ⟨o, es, ep, ho, r⟩ := hm
    exact ⟨o, es, ep, F.keep _ _ ho, r⟩
  refine wpAny_call (codeAny_call_builtin PySem.F.slot_str_translate.plain PySem.F.entry_str_translate (PySem.F.slot_str_translate.check _ _ _ _ _ _ _ _ rfl (PySem.F.args_str_translate_2 _ _) ?_))
  rcases hx with ⟨h1, h2⟩ | ⟨t3, h1, h2⟩
  · subst h2
    refine tr_keep hh hd hm2 h1 hc fun h' tk t' hk => hq _ _ _ ⟨?_, fun b o e => hk _ _ (F.keep b o e), F.above⟩ fun p hp => ⟨hk _ _ (N p hp).1, (N p hp).2⟩
    obtain ⟨oL, a1, a2, hL, a3⟩ := F.ns
    exact ⟨oL, a1, a2, hk _ _ hL, a3⟩
  · refine tr_text hh hd hm2 h1 hc h2 fun tk t' => ?_
    have e : (⟨#[] ++ x.cps⟩ : Str) = x := Str.ext' (by simp)
    rw [e]
    exact hq _ _ _ F N
end
end
section
local macro_rules | `(tactic| walk_at $s:str) => `(tactic| k_extra $s)
def intOk (es : Array DictEntry) : Bool := es.toList.all fun e => match e.key with | .int k _ => decide (e.hash = hashInt k) | _ => false
theorem map_of {prog : Program} {w : World} {h : Heap} {d : Addr} {es : Array DictEntry} {ep : Nat} (ho : h.get? d = some { cls := .type "dict", data := .dict es ep }) (hk : intOk es = true) : h.MapOf (intKind prog w) d (fun k => findBy Value.isInt es k) := by
  refine Heap.IntMap.mapOf ⟨_, es, ep, ho, rfl, rfl, ?_, fun k => rfl⟩ ?_
  · intro e he
    have := List.all_eq_true.1 hk e (by simpa using he)
    revert this
    cases e.key <;> intro this <;> first | cases this | exact ⟨_, _, rfl, by simpa using this⟩
  · intro o e
    rw [ho] at e
    cases e
    exact ⟨rfl, rfl⟩
def escS (c : Nat) : Str := ⟨(if c = 46 ∨ c = 32 then [92, c] else [c]).toArray⟩
def Alpha (c : Nat) : Prop := c = 46 ∨ c = 47 ∨ c = 32 ∨ c = 97 ∨ c = 98 ∨ c = 99 ∨ c = 104 ∨ c = 105 ∨ c = 120
theorem map69 {w : World} {h₀ : Heap} : (Mine.kFrag w.params).In h₀ → ∃ f, h₀.MapOf (intKind (PySem.Challenge.rw_in0073_01.row.prog) w) 69 f ∧ ∀ c, Alpha c → f c = none ∧ escS c = ⟨#[c]⟩ ∨ ∃ t3, f c = some (.str (escS c) t3) ∧ (escS c).length = 2 := by
  k_fill
  intro X
  k_dflt (refine ⟨_, map_of (X _ _ (by k_is)) (by kernel_rfl), ?_⟩)
  intro c hc
  rcases hc with h | h | h | h | h | h | h | h | h <;> subst h
  · exact .inr ⟨498, by kernel_rfl, by kernel_rfl⟩
  · exact .inl ⟨by kernel_rfl, by kernel_rfl⟩
  · exact .inr ⟨522, by kernel_rfl, by kernel_rfl⟩
  all_goals exact .inl ⟨by kernel_rfl, by kernel_rfl⟩
theorem get_tr {prog : Program} {w : World} {A : Around} {E : Value → Shared → Prop} {s : Shared} {x : Str} {t : Tok} {pl : Sem Bool} {Q : Value × List Value → Shared → Prop}
    (hq : Q (.builtin "str.translate", [.str x t]) s) : wpAny (model prog w) A (getMethod (.str x t) "translate" pl) Q E s := by
  have hT : s.TypeIs (.str x t) "str" := rfl
  have hd : ∀ a, Value.str x t = .ref a → ∃ o, s.heap.get? a = some o ∧ o.dict = none := fun a e => nomatch e
  revert hT hd hq
  generalize Value.str x t = v
  intro hq hT hd
  exact getMethod_builtin hT PySem.F.plainAttrs_str PySem.F.slot_str_translate PySem.F.type_str_translate hd hq
theorem alpha_lt {c : Nat} (h : Alpha c) : c < 128 := by
  rcases h with h | h | h | h | h | h | h | h | h <;> omega
theorem tells_escape {w : World} {mean : ExcName → Option Value} {mg mb : Str → Option Value} (c : Nat) (tx : Tok) (hc : Alpha c) :
    Tells w mean mg mb 3 79 [.str ⟨#[c]⟩ tx] (fun t => .str (escS c) t) := by
  k_with_none
  k_with "getMethod str" => (k_here; (with_reducible show wpAny _ _ (getMethod (Value.str _ _) (PySem.Str.ofString "translate") _) _ _ _); (refine get_tr ?_))
  k_with "call builtin:str.translate" => (k_here; (with_reducible show wpAny _ _ (call (Value.builtin "str.translate") [Value.str _ _, Value.ref _]) _ _ _); k_dflt ((with_reducible rename Frag.In _ _ => qX); (obtain ⟨qf, qm, qa⟩ := map69 qX); refine call_tr rfl (by decide +kernel) (by k_asm) (by k_asm) qm (alpha_lt (by assumption)) (qa _ (by assumption)) ?_))
  dsimp only [Tells, TellsG]
  k_fill
  intros
  rename_i hret
  refine wpAny_call ?_
  k_dflt k_enter
  k_steps
  exact retS hret (by assumption) (by assumption) (by first | (intro p9 hp9; (repeat (first | (with_reducible exact hp9) | refine List.mem_cons_of_mem _ ?_)); done) | kcj_all) (by rfl)
end
section
abbrev boundA (D : Addr) : Obj := { cls := .type "builtin_function_or_method", data := .fields #[.builtin "list.append", .ref D] }
theorem slot_mget : Slot "method_descriptor" "__get__" "method_descriptor.__get__" :=
  .of (owner := "method_descriptor") (n := "__get__") (by rw [typeLookup_type, builtinLookup_eq_fast]; kernel_rfl) (by decide +kernel) (by decide +kernel) (by decide +kernel)
    (by first | exact .inl (by decide +kernel) | exact .inr (by decide +kernel)) (by rw [isSubtype_type]; kernel_rfl)
theorem entry_mget : entryFor table "method_descriptor.__get__" = some Builtin.«method_descriptor.__get__» := entryFor_of_tree (by kernel_rfl)
theorem args_mget (a b c : Value) : argsOk "method_descriptor.__get__" ⟨[a, b, c], []⟩ := by unfold argsOk; kernel_rfl
theorem slot_lga : Slot "list" "__getattribute__" "list.__getattribute__" := PySem.F.slot_list_getattribute
theorem entry_lga : entryFor table "list.__getattribute__" = some Builtin.«object.__getattribute__» := PySem.F.entry_list_ga
theorem args_lga (a b : Value) : argsOk "list.__getattribute__" ⟨[a, b], []⟩ := PySem.F.args_list_getattribute_2 a b
section
variable {prog : Program} {w : World} {A : Around} {E : Value → Shared → Prop} {s : Shared}
open PySem.Builtin
theorem sub_list_list : isSubtype (.type "list") (.type "list") = pure true := by rw [isSubtype_type]; kernel_rfl
theorem mget_run {D : Addr} {its : Array Value} {k : Nat} (hl : s.heap.get? D = some (listOf its k)) {P : Fin → Shared → Prop} (hq : P (.done (.ret (.ref s.heap.objs.size))) { s with heap := s.heap.push (boundA D) }) :
    wpAny (model prog w) A (Builtin.«method_descriptor.__get__» ⟨[.builtin "list.append", .ref D, .type "list"], []⟩) P E s := by
  obtain ⟨h, g, dd, t, os⟩ := s
  unfold Builtin.«method_descriptor.__get__»
  refine wpAny_bind (wpAny_of_eq (a := (.builtin "list.append", some (.ref D), some (.type "list"))) (by first | rfl | kernel_rfl) ?_)
  have hm : Manifest.toldItsClass.contains "list.append" = false := by decide +kernel
  have hs : isSubtype (listOf its k).cls (Value.type (".".intercalate ("list.append".cutAt '.').dropLast)) = pure true := by
    rw [show ".".intercalate ("list.append".cutAt '.').dropLast = "list" by decide +kernel]
    exact sub_list_list
  repeat (any_goals (first | with_reducible assumption | (rw [hm]) | (split; (rename_i o9 n9 heq9); (cases (heq9.symm.trans (show _ = (("list", "append") : String × String) by first | decide +kernel | kernel_rfl)))) | (rw [hs]) | with_reducible exact hq | (first | (with_reducible (first | refine PySem.wpAny_pure ?_ | refine PySem.wpAny_bind ?_ | refine PySem.wpAny_holding ?_ | refine PySem.wpAny_standAt ?_ | refine PySem.wpAny_point ?_ | refine PySem.wpAny_rule ?_ | refine PySem.wpAny_letGo ?_ | refine PySem.wpAny_mkInt' ?_ | ((show PySem.wpAny _ _ (PySem.mkStr _) _ _ _); refine PySem.wpAny_mkStr' ?_) | refine PySem.wpAny_fresh' ?_ | refine PySem.wpAny_alloc' ?_ | refine PySem.wpAny_attempt ?_ | refine PySem.wpAny_throw ?_ | refine PySem.wpAny_of_eq (by assumption) ?_ | refine PySem.wpAny_typeOf (by assumption) ?_ | refine PySem.wpAny_specialOf_val (by assumption) (by assumption) ?_ | refine PySem.wpAny_specialOf (by assumption) (by assumption) ?_ | refine PySem.wpAny_isInstance_val (by assumption) (by assumption) ?_ | refine PySem.wpAny_isInstance (by assumption) (by assumption) ?_ | refine PySem.wpAny_call ?_ | refine PySem.wpAny_runValue ?_ | refine PySem.wpAny_run ?_)) | ((with_reducible refine' PySem.wpAny_load' ?qh ?_); case qh => (heap_get; done)) | ((with_reducible refine' PySem.wpAny_update' ?qh ?_); case qh => (heap_get; done)) | ((with_reducible refine' PySem.wpAny_loadPart' ?qh ?_); case qh => (heap_get; done)) | ((with_reducible refine' PySem.wpAny_updatePart' ?qh ?_); case qh => (heap_get; done)) | ((with_reducible refine PySem.wpAny_handled_none ?qh ?_); case qh => (assumption; done)) | ((with_reducible refine PySem.wpAny_ite_false ?qh ?_); case qh => (rfl; done)) | ((with_reducible refine PySem.wpAny_ite_true ?qh ?_); case qh => (rfl; done)) | ((with_reducible refine PySem.wpAny_ite_false ?qh ?_); case qh => (simp [*]; done)) | ((with_reducible refine PySem.wpAny_ite_true ?qh ?_); case qh => (simp [*]; done)) | wp_delta | with_reducible_and_instances refine PySem.wpAny_pure ?_ | with_reducible_and_instances refine PySem.wpAny_bind ?_) | exact hq))
theorem no_set : typeLookup (.type "method_descriptor") (Str.ofString "__set__") = pure none := by rw [typeLookup_type, builtinLookup_eq_fast]; kernel_rfl
theorem no_del : typeLookup (.type "method_descriptor") (Str.ofString "__delete__") = pure none := by rw [typeLookup_type, builtinLookup_eq_fast]; kernel_rfl
theorem get_append {D : Addr} {its : Array Value} {k : Nat} {Q : Value → Shared → Prop} (hl : s.heap.get? D = some (listOf its k)) (hq : ∀ tk, Q (.ref s.heap.objs.size) { s with heap := s.heap.push (boundA D), toks := tk }) :
    wpAny (model prog w) A (getAttr (.ref D) "append" true) Q E s := by
  obtain ⟨h, g, dd, t, os⟩ := s
  have e1 := slot_lga.lookup
  have e2 := slot_lga.bind
  unfold getAttr getAttrBy
  repeat (any_goals (first | with_reducible assumption | (rw [e1]) | (rw [e2]) | ((fail_if_success (with_reducible show wpAny _ _ (call _ _) _ _ _)); (first | (with_reducible (first | refine PySem.wpAny_pure ?_ | refine PySem.wpAny_bind ?_ | refine PySem.wpAny_holding ?_ | refine PySem.wpAny_standAt ?_ | refine PySem.wpAny_point ?_ | refine PySem.wpAny_rule ?_ | refine PySem.wpAny_letGo ?_ | refine PySem.wpAny_mkInt' ?_ | ((show PySem.wpAny _ _ (PySem.mkStr _) _ _ _); refine PySem.wpAny_mkStr' ?_) | refine PySem.wpAny_fresh' ?_ | refine PySem.wpAny_alloc' ?_ | refine PySem.wpAny_attempt ?_ | refine PySem.wpAny_throw ?_ | refine PySem.wpAny_of_eq (by assumption) ?_ | refine PySem.wpAny_typeOf (by assumption) ?_ | refine PySem.wpAny_specialOf_val (by assumption) (by assumption) ?_ | refine PySem.wpAny_specialOf (by assumption) (by assumption) ?_ | refine PySem.wpAny_isInstance_val (by assumption) (by assumption) ?_ | refine PySem.wpAny_isInstance (by assumption) (by assumption) ?_ | refine PySem.wpAny_call ?_ | refine PySem.wpAny_runValue ?_ | refine PySem.wpAny_run ?_)) | ((with_reducible refine' PySem.wpAny_load' ?qh ?_); case qh => (heap_get; done)) | ((with_reducible refine' PySem.wpAny_update' ?qh ?_); case qh => (heap_get; done)) | ((with_reducible refine' PySem.wpAny_loadPart' ?qh ?_); case qh => (heap_get; done)) | ((with_reducible refine' PySem.wpAny_updatePart' ?qh ?_); case qh => (heap_get; done)) | ((with_reducible refine PySem.wpAny_handled_none ?qh ?_); case qh => (assumption; done)) | ((with_reducible refine PySem.wpAny_ite_false ?qh ?_); case qh => (rfl; done)) | ((with_reducible refine PySem.wpAny_ite_true ?qh ?_); case qh => (rfl; done)) | ((with_reducible refine PySem.wpAny_ite_false ?qh ?_); case qh => (simp [*]; done)) | ((with_reducible refine PySem.wpAny_ite_true ?qh ?_); case qh => (simp [*]; done)) | wp_delta | with_reducible_and_instances refine PySem.wpAny_pure ?_ | with_reducible_and_instances refine PySem.wpAny_bind ?_))))
  show wpAny _ _ (call (.builtin "list.__getattribute__") [.ref D, .str (Str.ofString "append") t]) _ _ _
  have hT : (⟨h, g, dd, t + 1, os⟩ : Shared).TypeIs (.ref D) "list" := ⟨_, hl, rfl⟩
  refine wpAny_call_entry slot_lga hT entry_lga ?_ (args_lga _ _)
  clear e1 e2
  have e3 := slot_list_append.lookup
  have e4 := slot_mget.lookup
  have e5 := type_list_append
  have e6 := no_set
  have e7 := no_del
  unfold Builtin.«object.__getattribute__»
  repeat (any_goals (first | with_reducible assumption | (rw [e3]) | (rw [e4]) | (rw [e5]) | (rw [e6]) | (rw [e7]) | ((fail_if_success (with_reducible show wpAny _ _ (call _ _) _ _ _)); (first | (with_reducible (first | refine PySem.wpAny_pure ?_ | refine PySem.wpAny_bind ?_ | refine PySem.wpAny_holding ?_ | refine PySem.wpAny_standAt ?_ | refine PySem.wpAny_point ?_ | refine PySem.wpAny_rule ?_ | refine PySem.wpAny_letGo ?_ | refine PySem.wpAny_mkInt' ?_ | ((show PySem.wpAny _ _ (PySem.mkStr _) _ _ _); refine PySem.wpAny_mkStr' ?_) | refine PySem.wpAny_fresh' ?_ | refine PySem.wpAny_alloc' ?_ | refine PySem.wpAny_attempt ?_ | refine PySem.wpAny_throw ?_ | refine PySem.wpAny_of_eq (by assumption) ?_ | refine PySem.wpAny_typeOf (by assumption) ?_ | refine PySem.wpAny_specialOf_val (by assumption) (by assumption) ?_ | refine PySem.wpAny_specialOf (by assumption) (by assumption) ?_ | refine PySem.wpAny_isInstance_val (by assumption) (by assumption) ?_ | refine PySem.wpAny_isInstance (by assumption) (by assumption) ?_ | refine PySem.wpAny_call ?_ | refine PySem.wpAny_runValue ?_ | refine PySem.wpAny_run ?_)) | ((with_reducible refine' PySem.wpAny_load' ?qh ?_); case qh => (heap_get; done)) | ((with_reducible refine' PySem.wpAny_update' ?qh ?_); case qh => (heap_get; done)) | ((with_reducible refine' PySem.wpAny_loadPart' ?qh ?_); case qh => (heap_get; done)) | ((with_reducible refine' PySem.wpAny_updatePart' ?qh ?_); case qh => (heap_get; done)) | ((with_reducible refine PySem.wpAny_handled_none ?qh ?_); case qh => (assumption; done)) | ((with_reducible refine PySem.wpAny_ite_false ?qh ?_); case qh => (rfl; done)) | ((with_reducible refine PySem.wpAny_ite_true ?qh ?_); case qh => (rfl; done)) | ((with_reducible refine PySem.wpAny_ite_false ?qh ?_); case qh => (simp [*]; done)) | ((with_reducible refine PySem.wpAny_ite_true ?qh ?_); case qh => (simp [*]; done)) | wp_delta | with_reducible_and_instances refine PySem.wpAny_pure ?_ | with_reducible_and_instances refine PySem.wpAny_bind ?_))))
  refine wpAny_call_entry slot_mget e5 entry_mget ?_ (args_mget _ _ _)
  refine mget_run (s := ⟨h, g, dd, t + 1, os⟩) hl ?_
  refine ⟨_, rfl, wpAny_pure ⟨_, rfl, ?_⟩⟩
  dsimp only
  repeat (any_goals (first | with_reducible assumption | with_reducible exact hq _ | (first | (with_reducible (first | refine PySem.wpAny_pure ?_ | refine PySem.wpAny_bind ?_ | refine PySem.wpAny_holding ?_ | refine PySem.wpAny_standAt ?_ | refine PySem.wpAny_point ?_ | refine PySem.wpAny_rule ?_ | refine PySem.wpAny_letGo ?_ | refine PySem.wpAny_mkInt' ?_ | ((show PySem.wpAny _ _ (PySem.mkStr _) _ _ _); refine PySem.wpAny_mkStr' ?_) | refine PySem.wpAny_fresh' ?_ | refine PySem.wpAny_alloc' ?_ | refine PySem.wpAny_attempt ?_ | refine PySem.wpAny_throw ?_ | refine PySem.wpAny_of_eq (by assumption) ?_ | refine PySem.wpAny_typeOf (by assumption) ?_ | refine PySem.wpAny_specialOf_val (by assumption) (by assumption) ?_ | refine PySem.wpAny_specialOf (by assumption) (by assumption) ?_ | refine PySem.wpAny_isInstance_val (by assumption) (by assumption) ?_ | refine PySem.wpAny_isInstance (by assumption) (by assumption) ?_ | refine PySem.wpAny_call ?_ | refine PySem.wpAny_runValue ?_ | refine PySem.wpAny_run ?_)) | ((with_reducible refine' PySem.wpAny_load' ?qh ?_); case qh => (heap_get; done)) | ((with_reducible refine' PySem.wpAny_update' ?qh ?_); case qh => (heap_get; done)) | ((with_reducible refine' PySem.wpAny_loadPart' ?qh ?_); case qh => (heap_get; done)) | ((with_reducible refine' PySem.wpAny_updatePart' ?qh ?_); case qh => (heap_get; done)) | ((with_reducible refine PySem.wpAny_handled_none ?qh ?_); case qh => (assumption; done)) | ((with_reducible refine PySem.wpAny_ite_false ?qh ?_); case qh => (rfl; done)) | ((with_reducible refine PySem.wpAny_ite_true ?qh ?_); case qh => (rfl; done)) | ((with_reducible refine PySem.wpAny_ite_false ?qh ?_); case qh => (simp [*]; done)) | ((with_reducible refine PySem.wpAny_ite_true ?qh ?_); case qh => (simp [*]; done)) | wp_delta | with_reducible_and_instances refine PySem.wpAny_pure ?_ | with_reducible_and_instances refine PySem.wpAny_bind ?_) | exact hq _))
end
end
section
section
variable {prog : Program} {w : World} {A : Around} {E : Value → Shared → Prop} {s : Shared} {h₀ : Heap} {L : Addr} {m : Str → Option Value} {news rest : List (Addr × Obj)}
open PySem.Builtin
def StandsA (u D : Addr) (h : Heap) : Prop := h.get? u = some (boundA D)
theorem sub_list_module : isSubtype (.type "list") (.type "module") = pure false := by rw [isSubtype_type]; kernel_rfl
theorem sub_list_type : isSubtype (.type "list") (.type "type") = pure false := by rw [isSubtype_type]; kernel_rfl
theorem kind_ap : builtinKind "list.append" = some .method := by decide +kernel
theorem sig_ap_some : (List.lookup "append" Manifest.sig_list).isSome = true := by decide +kernel
theorem sig_ap : ∃ sig, Manifest.signature? "list.append" = some sig ∧ ∀ a b : Value, Bind.checkArgs "list.append" { sig with full := "list.append" } ⟨[a, b], []⟩ = pure () :=
  ⟨Option.get _ sig_ap_some, by
    rw [signature?_of (id := "list.append") (n := ['d', 'n', 'e', 'p', 'p', 'a']) (o := ['t', 's', 'i', 'l']) (by kernel_rfl) PySem.F.owner_list, Option.some_get]; kernel_rfl, fun _ _ => by kernel_rfl⟩
theorem check_ap {D : Addr} {its : Array Value} {k : Nat} {v : Value} {Q : Unit → Shared → Prop} (hl : s.heap.get? D = some (listOf its k)) (hq : Q () s) : wpAny (model prog w) A (checkBoundCall "list.append" ⟨[.ref D, v], []⟩) Q E s := by
  obtain ⟨h, g, dd, t, os⟩ := s
  obtain ⟨sig, h1, h2⟩ := sig_ap
  unfold checkBoundCall
  rw [h1, kind_ap]
  have e1 := sub_list_module
  have e2 := sub_list_type
  have e3 : Manifest.varargsMethods.contains "list.append" = false := by decide +kernel
  have e4 : (s!"{Bind.lastOf "list"}.{Bind.lastOf "list.append"}" : String) = "list.append" := by decide +kernel
  repeat (any_goals (first | with_reducible assumption | (rw [e1]) | (rw [e2]) | (rw [e3]) | (rw [e4, h2]) | (first | (with_reducible (first | refine PySem.wpAny_pure ?_ | refine PySem.wpAny_bind ?_ | refine PySem.wpAny_holding ?_ | refine PySem.wpAny_standAt ?_ | refine PySem.wpAny_point ?_ | refine PySem.wpAny_rule ?_ | refine PySem.wpAny_letGo ?_ | refine PySem.wpAny_mkInt' ?_ | ((show PySem.wpAny _ _ (PySem.mkStr _) _ _ _); refine PySem.wpAny_mkStr' ?_) | refine PySem.wpAny_fresh' ?_ | refine PySem.wpAny_alloc' ?_ | refine PySem.wpAny_attempt ?_ | refine PySem.wpAny_throw ?_ | refine PySem.wpAny_of_eq (by assumption) ?_ | refine PySem.wpAny_typeOf (by assumption) ?_ | refine PySem.wpAny_specialOf_val (by assumption) (by assumption) ?_ | refine PySem.wpAny_specialOf (by assumption) (by assumption) ?_ | refine PySem.wpAny_isInstance_val (by assumption) (by assumption) ?_ | refine PySem.wpAny_isInstance (by assumption) (by assumption) ?_ | refine PySem.wpAny_call ?_ | refine PySem.wpAny_runValue ?_ | refine PySem.wpAny_run ?_)) | ((with_reducible refine' PySem.wpAny_load' ?qh ?_); case qh => (heap_get; done)) | ((with_reducible refine' PySem.wpAny_update' ?qh ?_); case qh => (heap_get; done)) | ((with_reducible refine' PySem.wpAny_loadPart' ?qh ?_); case qh => (heap_get; done)) | ((with_reducible refine' PySem.wpAny_updatePart' ?qh ?_); case qh => (heap_get; done)) | ((with_reducible refine PySem.wpAny_handled_none ?qh ?_); case qh => (assumption; done)) | ((with_reducible refine PySem.wpAny_ite_false ?qh ?_); case qh => (rfl; done)) | ((with_reducible refine PySem.wpAny_ite_true ?qh ?_); case qh => (rfl; done)) | ((with_reducible refine PySem.wpAny_ite_false ?qh ?_); case qh => (simp [*]; done)) | ((with_reducible refine PySem.wpAny_ite_true ?qh ?_); case qh => (simp [*]; done)) | wp_delta | with_reducible_and_instances refine PySem.wpAny_pure ?_ | with_reducible_and_instances refine PySem.wpAny_bind ?_)))
theorem wp_true {α : Type} {M : Model} {c : Bool} {a b : Sem α} {Q : α → Shared → Prop} (hc : c = true) (h : wpAny M A a Q E s) : wpAny M A (if c = true then a else b) Q E s := by
  rw [if_pos hc]; exact h
theorem call_ap {u D : Addr} {us : List Value} {k : Nat} {v : Value} {Q : Value → Shared → Prop} (ho : StandsA u D s.heap) (hl : s.heap.get? D = some (listOf us.toArray k)) (hz : us.length ≤ sizeLine)
    (hq : ∀ h', h'.get? D = some (listOf (us ++ [v]).toArray (k + 1)) → Heap.SameBut D s.heap h' → Q .none { s with heap := h' }) : wpAny (model prog w) A (call (.ref u) [v]) Q E s := by
  refine wpAny_call (codeAny_of_tree ?_)
  show wpAny _ A.in1 (callAny (.ref u) ⟨[v], []⟩) _ _ s
  simp only [callAny]
  refine wpAny_bind (wpAny_load ho ?_)
  simp only [boundA, show (Value.type "builtin_function_or_method" == Value.type "method" || Value.type "builtin_function_or_method" == Value.type "builtin_function_or_method" || Value.type "builtin_function_or_method" == Value.type "method-wrapper") = true by decide, if_true]
  refine wp_true (by decide) ?_
  refine wpAny_bind (check_ap hl ?_)
  refine wpAny_bind (wpAny_pure (wpAny_pure ?_))
  refine ⟨Code.quiet_builtin _ (by decide +kernel), codeAny_builtin PySem.F.entry_list_append ?_⟩
  rw [Around.under_plainId PySem.F.slot_list_append.plain _]
  show wpAny (model prog w) A.in1 (Builtin.«list.append» ⟨[.ref D, v], []⟩) _ _ s
  refine wpAny_mono (PySem.AutoListH.list_append_list_val_0 D us.toArray k v (by simpa using hz) prog w A (wants Q E) s ⟨hl, ?_⟩) (fun fin s' h' => ?_) (fun _ _ h' => h')
  rotate_left
  · cases fin <;> exact h'
  have q := PySem.IsL.update (x := hl) (fun a => a.push v)
  rw [if_neg (by simp)] at q
  have e : (us ++ [v]).toArray = us.toArray.push v := by simp
  rw [← e] at q
  exact hq _ q (Heap.SameBut.update ..)
theorem callWith_ap {pos : Pos} {u D : Addr} {first : List Value} {env : Env} {e : Expr} {rs : List Expr} {Q : Value → Shared → Prop} (_N : News h₀ L s.heap news) (_hm : (u, boundA D) ∈ news)
    (h : wpAny (model prog w) A (spliced (backTo pos (starEach (e :: rs) env))) (fun vs s₁ => StandsA u D s₁.heap ∧ wpAny (model prog w) A (call (.ref u) (first ++ vs)) Q E s₁) E s)
    (he : starEach (e :: rs) env = (false, eval e env) :: starEach rs env := by rfl) (hplain : (backTo pos (starEach rs env)).any (·.1) = false := by rfl) :
    wpAny (model prog w) A (callWith pos (.ref u) first (backTo pos (starEach (e :: rs) env)) []) Q E s := by
  rw [he] at h ⊢
  unfold callWith
  have h' : wpAny (model prog w) A (evalArgs (.ref u) true (backTo pos ((false, eval e env) :: starEach rs env)) []) (fun x s₁ => StandsA u D s₁.heap ∧ wpAny (model prog w) A (call (.ref u) (first ++ x.pos) x.kw) Q E s₁) E s := evalArgs_plain h
  refine wpAny_bind (wpAny_holding (wpAny_mono h' (fun x s₁ h₁ => wpAny_bind (wpAny_standAt ?_)) fun _ _ x => x))
  obtain ⟨ho, hcall⟩ := h₁
  have hp' : (backTo pos ((false, eval e env) :: starEach rs env)).any (·.1) = false := by show (false || (backTo pos (starEach rs env)).any (·.1)) = false; rw [hplain]; rfl
  simp only [hp', List.any_nil, Bool.or_false]
  refine wpAny_bind (m := keeperOf (.ref u)) ?_
  unfold keeperOf
  refine wpAny_bind (wpAny_load ho ?_)
  simp only [boundA, show (Value.type "builtin_function_or_method" != Value.type "method") = true by decide, show (Value.type "builtin_function_or_method" == Value.type "builtin_function_or_method" || Value.type "builtin_function_or_method" == Value.type "method-wrapper") = true by decide, if_true]
  refine wpAny_pure ?_
  exact wpAny_bind (wpAny_mono hcall (fun r s₂ hr => wpAny_bind (wpAny_holding (wpAny_point (wpAny_pure hr)))) fun _ _ x => x)
theorem call_apN {q D : Addr} {us : List Value} {k : Nat} {v : Value} {Q : Value → Shared → Prop} (F : Fr h₀ L s.heap m) (N : News h₀ L s.heap ((q, boundA D) :: (D, listOf us.toArray k) :: rest)) (hqD : D ≠ q) (hr : ∀ p ∈ rest, p.1 ≠ D) (hz : us.length ≤ 5000)
    (hq : ∀ h' k', Fr h₀ L h' m → News h₀ L h' ((q, boundA D) :: (D, listOf (us ++ [v]).toArray k') :: rest) → Q .none { s with heap := h' }) : wpAny (model prog w) A (call (.ref q) [v]) Q E s := by
  have z := N (D, listOf us.toArray k) (.tail _ (.head _))
  refine call_ap (N _ (.head _)).1 z.1 (by rw [PySem.sizeLine_eq]; omega) fun h' hl' hs => hq h' (k + 1) (F.change hs z.2.1 z.2.2) ?_
  intro p hp
  rcases List.mem_cons.1 hp with rfl | hp
  · have y := N (q, boundA D) (.head _)
    exact ⟨(hs.2 _ (Ne.symm hqD)).trans y.1, y.2⟩
  · rcases List.mem_cons.1 hp with rfl | hp
    · exact ⟨hl', z.2⟩
    · have y := N p (.tail _ (.tail _ hp))
      exact ⟨(hs.2 _ (hr p hp)).trans y.1, y.2⟩
end
end
section
section
open PySem.Builtin
theorem mro_object : mroOf (.type "object") = pure [.type "object"] := by rw [mroOf_type]; kernel_rfl
theorem lookup_object_new : typeLookup (.type "object") "__new__" = pure (some (.builtin "object.__new__")) := by rw [typeLookup_type, builtinLookup_eq_fast]; kernel_rfl
theorem sub_object : isSubtype (.type "object") (.type "object") = pure true := by rw [isSubtype_type]; kernel_rfl
theorem sub_object_type : isSubtype (.type "type") (.type "type") = pure true := by rw [isSubtype_type]; kernel_rfl
theorem slot_object_init : Slot "object" "__init__" "object.__init__" :=
  .of (owner := "object") (n := "__init__") (by rw [typeLookup_type, builtinLookup_eq_fast]; kernel_rfl) (by decide +kernel) (by decide +kernel) (by decide +kernel)
    (by first | exact .inl (by decide +kernel) | exact .inr (by decide +kernel)) (by rw [isSubtype_type]; kernel_rfl)
theorem called_object : TypeCalled "object" "object.__new__" "object.__init__" :=
  ⟨by decide +kernel, by decide +kernel, ⟨_, _, mro_object⟩, madeBy_type mro_object lookup_object_new (by decide +kernel), by decide +kernel, sub_object, slot_object_init⟩
theorem typeCall_object : checkTypeCall "object" ⟨[], []⟩ = pure () := by kernel_rfl
theorem newCall_object : checkBuiltinCall "object.__new__" ⟨[.type "object"], []⟩ = pure () := by kernel_rfl
theorem args_object_init (a : Value) : argsOk "object.__init__" ⟨[a], []⟩ := by unfold argsOk; kernel_rfl
abbrev objO : Obj := { cls := .type "object", data := .plain }
theorem new_object : Meets (Builtin.«object.__new__» ⟨[.type "object"], []⟩) (fun _ R s => R (.ok (.ret (.ref s.heap.objs.size))) { s with heap := s.heap.push objO }) :=
  Meets.of_wp fun prog w A R s hs => by
    obtain ⟨h, g, dd, t, os⟩ := s
    unfold Builtin.«object.__new__»
    have e1 : isType (.type "object") = pure true := by first | rfl | kernel_rfl | (unfold isType; rw [isSubtype_type]; kernel_rfl)
    have e2 : Bind.madeHere "object.__new__" (.type "object") = pure () := by kernel_rfl
    have e4 : ((Manifest.find? "object").elim false fun x => x.mro.any fun t => (Manifest.find? t).elim false fun x => x.noNew) = false := by decide +kernel
    have e5 : typeHasDict (.type "object") = false := by first | rfl | kernel_rfl
    have e6 : diesByItsTypesDel "object" = false := by first | rfl | decide +kernel
    repeat (any_goals (first | with_reducible assumption | with_reducible exact ⟨_, rfl, hs⟩ | (rw [e1]) | (rw [e2]) | (rw [e4]) | (rw [e5]) | (rw [e6]) | (first | (with_reducible (first | refine PySem.wpAny_pure ?_ | refine PySem.wpAny_bind ?_ | refine PySem.wpAny_holding ?_ | refine PySem.wpAny_standAt ?_ | refine PySem.wpAny_point ?_ | refine PySem.wpAny_rule ?_ | refine PySem.wpAny_letGo ?_ | refine PySem.wpAny_mkInt' ?_ | ((show PySem.wpAny _ _ (PySem.mkStr _) _ _ _); refine PySem.wpAny_mkStr' ?_) | refine PySem.wpAny_fresh' ?_ | refine PySem.wpAny_alloc' ?_ | refine PySem.wpAny_attempt ?_ | refine PySem.wpAny_throw ?_ | refine PySem.wpAny_of_eq (by assumption) ?_ | refine PySem.wpAny_typeOf (by assumption) ?_ | refine PySem.wpAny_specialOf_val (by assumption) (by assumption) ?_ | refine PySem.wpAny_specialOf (by assumption) (by assumption) ?_ | refine PySem.wpAny_isInstance_val (by assumption) (by assumption) ?_ | refine PySem.wpAny_isInstance (by assumption) (by assumption) ?_ | refine PySem.wpAny_call ?_ | refine PySem.wpAny_runValue ?_ | refine PySem.wpAny_run ?_)) | ((with_reducible refine' PySem.wpAny_load' ?qh ?_); case qh => (heap_get; done)) | ((with_reducible refine' PySem.wpAny_update' ?qh ?_); case qh => (heap_get; done)) | ((with_reducible refine' PySem.wpAny_loadPart' ?qh ?_); case qh => (heap_get; done)) | ((with_reducible refine' PySem.wpAny_updatePart' ?qh ?_); case qh => (heap_get; done)) | ((with_reducible refine PySem.wpAny_handled_none ?qh ?_); case qh => (assumption; done)) | ((with_reducible refine PySem.wpAny_ite_false ?qh ?_); case qh => (rfl; done)) | ((with_reducible refine PySem.wpAny_ite_true ?qh ?_); case qh => (rfl; done)) | ((with_reducible refine PySem.wpAny_ite_false ?qh ?_); case qh => (simp [*]; done)) | ((with_reducible refine PySem.wpAny_ite_true ?qh ?_); case qh => (simp [*]; done)) | wp_delta | with_reducible_and_instances refine PySem.wpAny_pure ?_ | with_reducible_and_instances refine PySem.wpAny_bind ?_)))
theorem call_object {prog : Program} {w : World} {A : Around} {E : Value → Shared → Prop} {s : Shared} {Q : Value → Shared → Prop} (hq : Q (.ref s.heap.objs.size) { s with heap := s.heap.push objO }) : wpAny (model prog w) A (call (.type "object") []) Q E s := by
  refine callType_meets (Q₁ := fun obj s₁ => obj = .ref s.heap.objs.size ∧ s₁ = { s with heap := s.heap.push objO }) called_object typeCall_object newCall_object PySem.F.entry_object_new PySem.F.entry_object_init new_object ⟨rfl, rfl⟩ ?_
  rintro obj s₁ ⟨rfl, rfl⟩
  refine ⟨⟨_, Heap.get?_push_size _ rfl, rfl⟩, args_object_init _, _, Meets.of_wp (S := fun _ R s => R (.ok (.ret .none)) s) fun prog w A R s hs => wpAny_pure ⟨_, rfl, hs⟩, ⟨rfl, hq⟩⟩
end
end
section
local macro_rules | `(tactic| walk_at $s:str) => `(tactic| k_extra $s)
section
variable {prog : Program} {w : World} {A : Around} {E : Value → Shared → Prop} {Q : Flow → Shared → Prop} {s : Shared} {env : Env} {h₀ : Heap} {L : Addr}
def WPost {σ : Type} (h₀ : Heap) (L : Addr) (s : Shared) (Led : σ → List (Addr × Obj)) (ps : σ → List (Str × Value)) (Facts : σ → Prop) (stored : List Str) (m₀ : Str → Option Value) (P : σ → Prop) (μ : σ → Nat) (Q : Flow → Shared → Prop) (c : σ) (f : Flow) (s₂ : Shared) : Prop := KswPost h₀ L s Led ps Facts stored m₀ P μ Q c f s₂
theorem while_own {σ : Type} {test : Expr} {body : List Stmt} {pos : Pos} {m₀ : Str → Option Value} (Led : σ → List (Addr × Obj)) (ps : σ → List (Str × Value)) (Facts : σ → Prop) (stored : List Str) (P : σ → Prop) (μ : σ → Nat) (c₀ : σ)
    (F : Fr h₀ L s.heap m₀) (N : News h₀ L s.heap (Led c₀)) (hf : Facts c₀) (hk : ∀ p ∈ ps c₀, m₀ p.1 = some p.2) (hp : P c₀)
    (turn : ∀ (c : σ) (u : Str → Option Value) h tk, Facts c → P c → Fr h₀ L h (kstB (fun z => if stored.contains z then u z else m₀ z) (ps c)) → News h₀ L h (Led c) →
      wpAny (model prog w) A (isTrue test env (eval test env)) (fun b s₂ =>
        if b = true then wpAny (model prog w) A (execs body env) (WPost h₀ L s Led ps Facts stored m₀ P μ Q c) E s₂ else Q .next s₂) E { s with heap := h, toks := tk })
    (hE : PassesOwn (model prog w) A env E := by passes_own) :
    wpAny (model prog w) A (exec (.While test body [] pos) env) Q E s := ksw_while Led ps Facts stored P μ c₀ F N hf hk hp turn hE
end
theorem get_ap {prog : Program} {w : World} {A : Around} {E : Value → Shared → Prop} {s : Shared} {h₀ : Heap} {L : Addr} {m : Str → Option Value} {news : List (Addr × Obj)} {D : Addr} {its : Array Value} {k : Nat} {Q : Value → Shared → Prop} (F : Fr h₀ L s.heap m) (N : News h₀ L s.heap news) (hm : (D, listOf its k) ∈ news)
    (hq : ∀ q h' tk, Fr h₀ L h' m → News h₀ L h' ((q, boundA D) :: news) → (∀ p ∈ news, p.1 < q) → Q (.ref q) { s with heap := h', toks := tk }) : wpAny (model prog w) A (getAttr (.ref D) "append" true) Q E s :=
  get_append (News.get N hm) fun tk => hq _ _ tk (F.push _) (News.push F N _) fun p hp => Heap.lt_size (N p hp).1
def Hold (P : Prop) : Prop := P
theorem Hold.out {P : Prop} (h : Hold P) : P := h
theorem Hold.of {P : Prop} (h : P) : Hold P := h
structure TS where
  i : Nat
  ti : Tok
  us : List Value
  k : Nat
def TransRet (S : Addr) (l : List Nat) (h₀ : Heap) (L : Addr) (m : Str → Option Value) (news : List (Addr × Obj)) (s : Shared) (Q : Value → Shared → Prop) : Prop :=
  (S, objO) ∈ news ∧ ∀ h' tk D us k, Fr h₀ L h' m → News h₀ L h' ((D, listOf (us ++ [.ref S]).toArray k) :: news) → (∀ p ∈ news, p.1 < D) → StrsAre us (l.map escS) → Q (.ref D) { s with heap := h', toks := tk }
theorem news_tl {h₀ h : Heap} {L : Addr} {p : Addr × Obj} {r : List (Addr × Obj)} (N : News h₀ L h (p :: r)) : News h₀ L h r := fun q hq => N q (.tail _ hq)
theorem while_tr {prog : Program} {w : World} {A : Around} {E : Value → Shared → Prop} {Q : Flow → Shared → Prop} {s : Shared} {env : Env} {h₀ : Heap} {L : Addr} {test : Expr} {body : List Stmt} {pos : Pos} {m₀ : Str → Option Value} {q D : Addr} {p : Addr × Obj} {news : List (Addr × Obj)} {t : Tok} (stored : List Str) (P : TS → Prop) (μ : TS → Nat)
    (F : Fr h₀ L s.heap m₀) (N : News h₀ L s.heap (p :: (q, boundA D) :: (D, listOf #[] 0) :: news)) (hk : m₀ (Str.ofString "i") = some (.int 0 t)) (hp : P ⟨0, t, [], 0⟩)
    (turn : ∀ (i : Nat) (ti : Tok) (us : List Value) (k : Nat) (u : Str → Option Value) h tk, P ⟨i, ti, us, k⟩ → Fr h₀ L h (fun z => if z = Str.ofString "i" then some (.int i ti) else if stored.contains z then u z else m₀ z) → News h₀ L h ((q, boundA D) :: (D, listOf us.toArray k) :: news) →
      wpAny (model prog w) A (isTrue test env (eval test env)) (fun b s₂ =>
        if b = true then wpAny (model prog w) A (execs body env) (WPost h₀ L s (fun c => (q, boundA D) :: (D, listOf c.us.toArray c.k) :: news) (fun c => [(Str.ofString "i", .int c.i c.ti)]) (fun _ => True) stored m₀ P μ Q ⟨i, ti, us, k⟩) E s₂ else Q .next s₂) E { s with heap := h, toks := tk })
    (hE : PassesOwn (model prog w) A env E := by passes_own) :
    wpAny (model prog w) A (exec (.While test body [] pos) env) Q E s := by
  refine while_own (fun c : TS => (q, boundA D) :: (D, listOf c.us.toArray c.k) :: news) (fun c => [(Str.ofString "i", .int c.i c.ti)]) (fun _ => True) stored P μ ⟨0, t, [], 0⟩ F (news_tl N) trivial ?_ hp ?_ hE
  · intro p hp
    rw [List.mem_singleton.1 hp]
    exact hk
  · rintro ⟨i, ti, us, k⟩ u h tk _ hp F1 N1
    exact turn i ti us k u h tk hp F1 N1
theorem wpost_tr {h₀ : Heap} {L : Addr} {s : Shared} {q D : Addr} {news : List (Addr × Obj)} {stored : List Str} {m₀ m' : Str → Option Value} {P : TS → Prop} {μ : TS → Nat} {Q : Flow → Shared → Prop} {c : TS} {h' : Heap} {tk : Nat} {us' : List Value} {k' i' : Nat} {t : Tok} {z : Int}
    (F : Fr h₀ L h' m') (N : News h₀ L h' ((q, boundA D) :: (D, listOf us'.toArray k') :: news)) (hz : z = (i' : Int)) (hi : m' (Str.ofString "i") = some (.int z t)) (hm : ∀ y, y ≠ Str.ofString "i" → stored.contains y = false → m' y = m₀ y) (hP : P ⟨i', t, us', k'⟩) (hμ : μ ⟨i', t, us', k'⟩ < μ c) :
    WPost h₀ L s (fun c => (q, boundA D) :: (D, listOf c.us.toArray c.k) :: news) (fun c => [(Str.ofString "i", .int c.i c.ti)]) (fun _ => True) stored m₀ P μ Q c .next { s with heap := h', toks := tk } := by
  subst hz
  refine ⟨⟨i', t, us', k'⟩, h', tk, m', _, rfl, F, N, fun p hp => hp, trivial, ?_, ?_, hP, hμ⟩
  · intro p hp
    rw [List.mem_singleton.1 hp]
    exact hi
  · intro y h1 h2
    exact hm y (h1 _ (.head _)) h2
theorem mem1 {y : Str} (h : [Str.ofString "c"].contains y = false) : y ≠ Str.ofString "c" := by
  intro e
  subst e
  cases h
def TInv (l : List Nat) (S : Addr) (c : TS) : Prop := (c.i ≤ l.length ∧ StrsAre c.us ((l.take c.i).map escS)) ∨ (c.i = l.length + 1 ∧ ∃ us, c.us = us ++ [.ref S] ∧ StrsAre us (l.map escS))
theorem item_ne {y : Str} {c d : Nat} (h : y = ⟨#[c]⟩) (hcd : c ≠ d) : (y == ⟨#[d]⟩) = false := by
  subst h
  rw [beq_eq_false_iff_ne]
  intro e
  cases e
  exact hcd rfl
theorem tr_cases {x : Str} {l : List Nat} {S : Addr} {i : Nat} {ti : Tok} {us : List Value} {k : Nat} (hxl : x.cps.toList = l ++ [42]) (ha : ∀ c ∈ l, Alpha c) (h : TInv l S ⟨i, ti, us, k⟩) :
    (∃ c, i < l.length ∧ Alpha c ∧ Txt.item x (i : Int) = ⟨#[c]⟩ ∧ (Txt.item x (i : Int) == Str.ofString "*") = false ∧ (Txt.item x (i : Int) == Str.ofString "?") = false ∧ (Txt.item x (i : Int) == Str.ofString "[") = false ∧
       StrsAre us ((l.take i).map escS) ∧ (l.take (i + 1)).map escS = (l.take i).map escS ++ [escS c]) ∨
    (i = l.length ∧ (Txt.item x (i : Int) == Str.ofString "*") = true ∧ StrsAre us (l.map escS)) ∨ (i = l.length + 1 ∧ ∃ us', us = us' ++ [.ref S] ∧ StrsAre us' (l.map escS)) := by
  rcases h with ⟨h1, h2⟩ | ⟨h1, h2⟩
  · dsimp only at h1 h2
    by_cases hi : i < l.length
    · have hc : l[i]? = some l[i] := by simp [hi]
      have hx : Txt.item x (i : Int) = ⟨#[l[i]]⟩ := item_nat (by rw [hxl, List.getElem?_append_left hi, hc])
      have hal := ha l[i] (List.getElem_mem hi)
      have hv : l[i] ≠ 42 ∧ l[i] ≠ 63 ∧ l[i] ≠ 91 := by
        rcases hal with h | h | h | h | h | h | h | h | h <;> rw [h] <;> decide
      refine .inl ⟨l[i], hi, hal, hx, item_ne hx hv.1, item_ne hx hv.2.1, item_ne hx hv.2.2, h2, ?_⟩
      rw [List.take_add_one, hc, Option.toList_some, List.map_append]
      rfl
    · have e : i = l.length := by omega
      subst e
      have hx : Txt.item x (l.length : Int) = ⟨#[42]⟩ := item_nat (by rw [hxl]; simp)
      refine .inr (.inl ⟨rfl, by rw [hx]; rfl, ?_⟩)
      rw [List.take_length] at h2
      exact h2
  · exact .inr (.inr ⟨h1, h2⟩)
theorem tells_esc2 {w : World} {mean : ExcName → Option Value} {mg mb : Str → Option Value} {c : Nat} {y : Str} {tx : Tok} (hy : y = ⟨#[c]⟩) (hc : Alpha c) : Tells w mean mg mb 3 79 [.str y tx] (fun t => .str (escS c) t) := by
  subst hy
  exact tells_escape c tx hc
theorem tells_trans {w : World} {mean : ExcName → Option Value} {mg mb : Str → Option Value} (x : Str) (l : List Nat) (tx tq : Tok) (hx : x.length ≤ 1001) (hxl : x.cps.toList = l ++ [42]) (ha : ∀ c ∈ l, Alpha c) (S : Addr) : TellsG w mean mg mb 8 86 [.str x tx, .ref S, .str (Str.ofString ".") tq] (TransRet S l) := by
  k_with_none
  k_with "getAttr ref" => (k_here; (with_reducible show wpAny _ _ (getAttr (Value.ref _) (PySem.Str.ofString "append") true) _ _ _); k_dflt (refine' get_ap ?k1 ?k2 ?k3 ?_; (case k1 => k_asm); (case k2 => k_asm); (case k3 => k_mem); k_whole); intro qpKw hpKw tkpKw FpKw NpKw l1Kw; (try k_lt l1Kw))
  k_with "exec While" => (k_here; refine Hold.out ?_)
  k_with "truthy ref" => (k_here; (with_reducible show wpAny _ _ (truthy (Value.ref _)) _ _ _); k_dflt (refine' truthy_strs ?N ?m ?u ?z ?_; (case N => k_asm); (case m => k_mem); (case u => with_reducible assumption); (case z => (rw [PySem.sizeLine_eq, List.length_map]; omega))))
  k_with "subscriptTail" => (k_here; (with_reducible show wpAny _ _ (subscriptTail _ _ (Value.ref _) (Value.int _ _)) _ _ _); k_dflt (refine' item_last ?N ?m ?u ?e ?_ ?s; (case N => k_asm); (case m => k_mem); (case u => with_reducible assumption); (case e => assumption); (case s => with_unfolding_all rfl)); intro v9Kw t9Kw hv9Kw)
  k_with "compareOp IsNot" => (k_here; (with_reducible show wpAny _ _ (compareOp CmpOp.IsNot (Value.str _ _) (Value.ref _)) _ _ _); refine wpAny_isNot_other (by rfl) (by intro xKw; cases xKw) ?_)
  k_with "compareOp IsNot str ref" => (k_here; (with_reducible show wpAny _ _ (compareOp CmpOp.IsNot (Value.str _ _) (Value.ref _)) _ _ _); refine wpAny_isNot_other (by rfl) (by intro xKw; cases xKw) ?_)
  k_with "callWith ref" => (k_here; (with_reducible show wpAny _ _ (callWith _ (Value.ref _) _ (backTo _ (starEach (_ :: _) _)) []) _ _ _); k_dflt (refine' callWith_ap ?kN ?kM ?_; (case kN => k_asm); (case kM => k_mem); k_whole))
  k_with "And" => ((with_reducible show StandsA _ _ _ ∧ _); k_dflt (refine ⟨News.get (by k_asm) (by k_mem), ?_⟩); (try dsimp only [List.nil_append, List.cons_append]))
  k_with "call ref" => (k_here; (with_reducible show wpAny _ _ (call (Value.ref 79) [Value.str _ _]) _ _ _); k_dflt (refine' tells_use (tells_esc2 (by assumption) (by assumption)) ?k1 ?k2 ?k3 ?k4 ?k5 ?kd ?ku ?_; (case k1 => k_asm); (case k2 => k_asm); (case k3 => k_asm); (case k4 => k_asm); (case k5 => k_asm); (case kd => k_room); (case ku => k_units)); intro t9Kw h9Kw tk9Kw F9Kw N9Kw; (try dsimp only); (try k_fold))
  k_with "call ref" => (k_here; (with_reducible show wpAny _ _ (call (Value.ref _) [_]) _ _ _); k_dflt (refine' call_apN ?k1 ?k2 ?k3 ?k4 ?k5 ?_; (case k1 => k_asm); (case k2 => k_asm); (case k3 => assumption); (case k4 => assumption); (case k5 => omega); k_whole); intro hpKw kpKw FpKw NpKw)
  dsimp only [Tells, TellsG]
  k_fill
  intro dp un gd cn nms ig ic mo a ccd cl outer A₀ base h₀ L m news s Q E hB0 hF0 hX0 hN0 hT0 hd0 hu0 hret
  obtain ⟨hS, hret⟩ := hret
  have hlen : x.length = l.length + 1 := by
    have e : x.length = x.cps.toList.length := by simp [Str.length]
    rw [e, hxl, List.length_append]; rfl
  refine wpAny_call ?_
  k_dflt k_enter
  k_steps
  with_reducible rename Fr _ _ _ _ => lF'
  with_reducible rename News _ _ _ _ => lN'
  with_reducible rename _ < _ ∧ AllLt _ _ => lt1
  with_reducible rename ∀ p ∈ news, _ < _ => lt0
  have hn1 := Nat.ne_of_lt lt1.1
  have hn0 : ∀ p ∈ news, p.1 ≠ _ := fun p hp => Nat.ne_of_lt (lt0 p hp)
  refine Hold.of ?_
  refine while_tr [Str.ofString "c"] (TInv l S) (fun c => l.length + 1 - c.i) lF' lN' rfl (.inl ⟨Nat.zero_le _, .nil⟩) ?_
  intro i ti us k u h tk hinv F1 N1
  clear lF' lN'
  rcases tr_cases hxl ha hinv with ⟨c, hi, hc, hx1, hx2, hx3, hx4, hu, htk⟩ | ⟨hi, hx2, hu⟩ | ⟨hi, us', hus, hu⟩
  · have hul := hu.length
    rw [List.length_map, List.length_take] at hul
    k_steps
    with_reducible rename Fr _ _ _ _ => F9
    with_reducible rename News _ _ _ _ => N9
    refine wpost_tr (i' := i + 1) F9 N9 rfl rfl (fun y h1 h2 => by simp only [if_neg h1, if_neg (mem1 h2), h2, Bool.false_eq_true, if_false]) (.inl ⟨hi, ?_⟩) (by dsimp only; omega)
    dsimp only
    rw [htk]
    exact sa_snoc hu
  · have hul := hu.length
    rw [List.length_map] at hul
    have hP : TInv l S ⟨i + 1, ti, us ++ [.ref S], k⟩ := .inr ⟨by dsimp only; omega, us, rfl, hu⟩
    k_steps
    all_goals
      with_reducible rename Fr _ _ _ _ => F9
      with_reducible rename News _ _ _ _ => N9
      refine wpost_tr (i' := i + 1) F9 N9 rfl rfl (fun y h1 h2 => by simp only [if_neg h1, if_neg (mem1 h2), h2, Bool.false_eq_true, if_false]) hP (by dsimp only; omega)
  · subst hus
    k_steps
    · with_reducible rename News _ _ _ _ => N9
      exact hret _ _ _ us' k (by assumption) (news_tl N9) lt0 hu
    · exfalso
      omega
end
section
local macro_rules | `(tactic| walk_at $s:str) => `(tactic| k_extra $s)
section
variable {prog : Program} {w : World} {A : Around} {E : Value → Shared → Prop} {Q : Flow → Shared → Prop} {s : Shared} {env : Env} {h₀ : Heap} {L : Addr} {m : Str → Option Value} {news : List (Addr × Obj)}
def OncePost (Q : Flow → Shared → Prop) (f : Flow) (s : Shared) : Prop := match f with
  | .brk => Q .next s
  | .ret v => Q (.ret v) s
  | _ => False
theorem while_once {test : Expr} {body : List Stmt} {pos : Pos} (turn : wpAny (model prog w) A (isTrue test env (eval test env)) (fun b s₂ => if b = true then wpAny (model prog w) A (execs body env) (OncePost Q) E s₂ else Q .next s₂) E s)
    (hE : PassesOwn (model prog w) A env E := by passes_own) : wpAny (model prog w) A (exec (.While test body [] pos) env) Q E s := by
  refine wpAny_While (codeAny_whileLoop (fun n s' => s' = s) ?_ 0 rfl)
  intro n s' e
  rw [e]
  refine wpAny_mono turn (fun b s₂ h₂ => ?_) hE
  cases b with
  | false =>
    simp only [Bool.false_eq_true, if_false] at h₂ ⊢
    exact wpAny_execs_nil h₂
  | true =>
    simp only [if_true] at h₂ ⊢
    refine wpAny_mono h₂ (fun f s₃ h₃ => ?_) hE
    cases f with
    | next => exact h₃.elim
    | cont => exact h₃.elim
    | brk => exact h₃
    | ret v => exact h₃
theorem item_at {D : Addr} {vs : List Value} {k i : Nat} {v : Value} {value slice : Expr} {u : Tok} {Q : Value → Shared → Prop} (N : News h₀ L s.heap news) (hm : (D, listOf vs.toArray k) ∈ news) (hv : vs[i]? = some v) (hz : vs.length ≤ 5000) (h : Q v s)
    (hs : subscripted slice false (.ref D) (.int i u) = operate [.ref D, .int i u] (getItem (.ref D) (.int i u)) := by with_unfolding_all rfl) :
    wpAny (model prog w) A (subscriptTail value slice (.ref D) (.int i u)) Q E s := by
  have hl : s.heap.IsList D vs.toArray := ⟨_, (N _ hm).1, rfl, _, rfl⟩
  have hi : i < vs.length := (List.getElem?_eq_some_iff.1 hv).1
  exact tail_any hl.typeIs slot_list_getitem.lookup (wpAny_getItem_list hl (by omega) (by omega) (by simpa using hv) h) hs
theorem len_at {D : Addr} {vs : List Value} {k : Nat} {Q : Value → Shared → Prop} (N : News h₀ L s.heap news) (hm : (D, listOf vs.toArray k) ∈ news) (hz : vs.length ≤ 5000) (h : ∀ t tk, Q (.int (vs.length : Nat) t) { s with toks := tk }) : wpAny (model prog w) A (call (.builtin "len") [.ref D]) Q E s := by
  have hl : s.heap.IsList D vs.toArray := ⟨_, (N _ hm).1, rfl, _, rfl⟩
  refine Calls.call_len_list hl (by rw [List.size_toArray]; omega) ?_
  rw [List.size_toArray]
  exact h _ _
end
theorem join_nil {prog : Program} {w : World} {A : Around} {E : Value → Shared → Prop} {s : Shared} {h₀ : Heap} {L D : Addr} {news : List (Addr × Obj)} {us : List Value} {ws : List Str} {k : Nat} {t : Tok} {Q : Value → Shared → Prop} (N : News h₀ L s.heap news) (hm : (D, listOf us.toArray k) ∈ news) (hu : StrsAre us ws) (hz : (cat ws).length ≤ 10000)
    (h : ∀ t' k, (⟨(cat ws).toArray⟩ : Str).length ≤ 10000 → Q (.str ⟨(cat ws).toArray⟩ t') { s with toks := k }) : wpAny (model prog w) A (call (.builtin "str.join") [.str (Str.ofString "") t, .ref D]) Q E s := by
  have hx : Str.ofString "" = ⟨#[]⟩ := by kernel_rfl
  rw [hx]
  refine join_list (ys := ws) (items := us.toArray) ⟨_, (N _ hm).1, rfl, _, rfl⟩ hu (by rw [cat_len]; show _ + _ * 0 ≤ _; omega) fun t' tk => ?_
  have e : Txt.join (⟨#[]⟩ : Str) ws = ⟨(cat ws).toArray⟩ := (StrLaws.glued_eq_join _ _).trans (join_empty ws)
  rw [e]
  refine h t' tk ?_
  show (cat ws).toArray.size ≤ _
  rw [List.size_toArray]
  exact hz
def JoinRet (D S : Addr) (us : List Value) (k : Nat) (r : Str) (h₀ : Heap) (L : Addr) (m : Str → Option Value) (news : List (Addr × Obj)) (s : Shared) (Q : Value → Shared → Prop) : Prop :=
  (S, objO) ∈ news ∧ (D, listOf (us ++ [Value.ref S]).toArray k) ∈ news ∧ CbRet h₀ L m news s Q (fun t => .str r t)
theorem str_at : ∀ {us : List Value} {ws : List Str} {i : Nat}, StrsAre us ws → i < us.length → ∃ v t, us[i]? = some (.str v t) ∧ ws[i]? = some v
  | _, _, _, .nil, h => absurd h (Nat.not_lt_zero _)
  | _, _, 0, .cons y t r, _ => ⟨y, t, rfl, rfl⟩
  | _, _, i + 1, .cons y t r, h => by
    obtain ⟨v, t2, h1, h2⟩ := str_at (i := i) r (by simpa using h)
    exact ⟨v, t2, by simpa using h1, by simpa using h2⟩
def JInv (us : List Value) (ws : List Str) (c : TS) : Prop := c.i ≤ us.length ∧ StrsAre c.us (ws.take c.i)
def glue (ws : List Str) : Str := Str.empty ++ Str.ofString "(?s:" ++ ⟨(cat (ws ++ [Str.ofString ".*"])).toArray⟩ ++ Str.ofString ")\\Z"
theorem tells_jparts {w : World} {mean : ExcName → Option Value} {mg mb : Str → Option Value} (D S : Addr) (us : List Value) (k : Nat) (ws : List Str) (hus : StrsAre us ws) (hz : us.length ≤ 1000) (hw : (cat ws).length ≤ 5000) : TellsG w mean mg mb 3 93 [.ref D, .ref S] (JoinRet D S us k (glue ws)) := by
  k_with_none
  k_with "call builtin:str.join" => (k_here; (with_reducible show wpAny _ _ (call (Value.builtin _) [Value.str _ _, Value.ref _]) _ _ _); k_dflt (refine' join_nil ?N ?m ?u ?z ?_; (case N => k_asm); (case m => k_mem); (case u => exact sa_snoc (by assumption)); (case z => assumption); k_whole); intro t8Kw k8Kw z8Kw)
  k_with "call builtin:len" => (k_here; (with_reducible show wpAny _ _ (call (Value.builtin "len") [Value.ref _]) _ _ _); k_dflt (refine' len_at ?N ?m ?z ?_; (case N => k_asm); (case m => (first | with_reducible assumption | (refine List.mem_cons_of_mem _ ?_; with_reducible assumption) | (refine List.mem_cons_of_mem _ (List.mem_cons_of_mem _ ?_); with_reducible assumption) | (refine List.mem_cons_of_mem _ (List.mem_cons_of_mem _ (List.mem_cons_of_mem _ ?_)); with_reducible assumption) | k_mem)); (case z => assumption)); intro tpKw tkpKw)
  k_with "exec While" => (k_here; refine Hold.out ?_)
  k_with "getAttr ref" => (k_here; (with_reducible show wpAny _ _ (getAttr (Value.ref _) (PySem.Str.ofString "append") true) _ _ _); k_dflt (refine' get_ap ?k1 ?k2 ?k3 ?_; (case k1 => k_asm); (case k2 => k_asm); (case k3 => k_mem); k_whole); intro qpKw hpKw tkpKw FpKw NpKw l1Kw; (try k_lt l1Kw))
  k_with "subscriptTail" => (k_here; (with_reducible show wpAny _ _ (subscriptTail _ _ (Value.ref _) (Value.int _ _)) _ _ _); k_dflt (refine' item_at ?N ?m ?v ?z ?_ ?s; (case N => k_asm); (case m => (first | with_reducible assumption | (refine List.mem_cons_of_mem _ ?_; with_reducible assumption) | (refine List.mem_cons_of_mem _ (List.mem_cons_of_mem _ ?_); with_reducible assumption) | (refine List.mem_cons_of_mem _ (List.mem_cons_of_mem _ (List.mem_cons_of_mem _ ?_)); with_reducible assumption) | k_mem)); (case v => assumption); (case z => assumption); (case s => with_unfolding_all rfl)))
  k_with "compareOp IsNot" => (k_here; (with_reducible show wpAny _ _ (compareOp CmpOp.IsNot (Value.str _ _) (Value.ref _)) _ _ _); refine wpAny_isNot_other (by rfl) (by intro xKw; cases xKw) ?_)
  k_with "compareOp IsNot str ref" => (k_here; (with_reducible show wpAny _ _ (compareOp CmpOp.IsNot (Value.str _ _) (Value.ref _)) _ _ _); refine wpAny_isNot_other (by rfl) (by intro xKw; cases xKw) ?_)
  k_with "compareOp IsNot ref ref" => (k_here; refine wpAny_isNot_ref_self ?_)
  k_with "compareOp Is ref ref" => (k_here; refine wpAny_is_ref_self ?_)
  k_with "callWith ref" => (k_here; (with_reducible show wpAny _ _ (callWith _ (Value.ref _) _ (backTo _ (starEach (_ :: _) _)) []) _ _ _); k_dflt (refine' callWith_ap ?kN ?kM ?_; (case kN => k_asm); (case kM => k_mem); k_whole))
  k_with "And" => ((with_reducible show StandsA _ _ _ ∧ _); k_dflt (refine ⟨News.get (by k_asm) (by k_mem), ?_⟩); (try dsimp only [List.nil_append, List.cons_append]))
  k_with "call ref" => (k_here; (with_reducible show wpAny _ _ (call (Value.ref _) [_]) _ _ _); k_dflt (refine' call_apN ?k1 ?k2 ?k3 ?k4 ?k5 ?_; (case k1 => k_asm); (case k2 => k_asm); (case k3 => assumption); (case k4 => assumption); (case k5 => omega); k_whole); intro hpKw kpKw FpKw NpKw)
  dsimp only [Tells, TellsG]
  k_fill
  intro dp un gd cn nms ig ic mo a ccd cl outer A₀ base h₀ L m news s Q E hB0 hF0 hX0 hN0 hT0 hd0 hu0 hret
  obtain ⟨hS, hD, hret⟩ := hret
  have hlen : (us ++ [Value.ref S]).length = us.length + 1 := by rw [List.length_append]; rfl
  have hl5 : (us ++ [Value.ref S]).length ≤ 5000 := by omega
  refine wpAny_call ?_
  k_dflt k_enter
  k_steps
  with_reducible rename Fr _ _ _ _ => lF'
  with_reducible rename News _ _ _ _ => lN'
  with_reducible rename _ < _ ∧ AllLt _ _ => lt1
  with_reducible rename ∀ p ∈ news, _ < _ => lt0
  have hn1 := Nat.ne_of_lt lt1.1
  have hn0 : ∀ p ∈ news, p.1 ≠ _ := fun p hp => Nat.ne_of_lt (lt0 p hp)
  refine Hold.of ?_
  refine while_tr [] (JInv us ws) (fun c => us.length - c.i) lF' lN' rfl ⟨Nat.zero_le _, .nil⟩ ?_
  intro i ti rs k u h tk hinv F1 N1
  clear lF' lN'
  obtain ⟨hi, hu⟩ := hinv
  dsimp only at hi hu
  have hwl := hus.length
  have hul := hu.length
  rw [List.length_take] at hul
  by_cases hlt : i < us.length
  · obtain ⟨v, t, hv, hvw⟩ := str_at hus hlt
    have hv2 : (us ++ [Value.ref S])[i]? = some (.str v t) := by rw [List.getElem?_append_left hlt]; exact hv
    have htk : ws.take (i + 1) = ws.take i ++ [v] := by rw [List.take_add_one, hvw]; rfl
    k_steps
    with_reducible rename Fr _ _ _ _ => F9
    with_reducible rename News _ _ _ _ => N9
    refine wpost_tr (i' := i + 1) F9 N9 rfl rfl (fun y h1 h2 => by simp only [if_neg h1, h2, Bool.false_eq_true, if_false]) ⟨hlt, ?_⟩ (by dsimp only; omega)
    dsimp only
    rw [htk]
    exact sa_snoc hu
  · have hie : i = us.length := by omega
    have hv2 : (us ++ [Value.ref S])[i]? = some (.ref S) := by rw [hie]; simp
    k_steps
    refine Hold.of ?_
    refine while_once ?_
    have hu1 : StrsAre rs ws := by
      have e : ws.take i = ws := List.take_of_length_le (by omega)
      rw [e] at hu
      exact hu
    clear hu
    have hz1 : (cat (ws ++ [Str.ofString ".*"])).length ≤ 10000 := by
      rw [cat_snoc, List.length_append]
      have e : (Str.ofString ".*").cps.toList.length = 2 := by decide +kernel
      omega
    have hrl : rs.length ≤ 1000 := by omega
    k_steps
    · dsimp only
      unfold OncePost
      dsimp only
      k_steps
      · exact retS hret (by assumption) (by assumption) (by first | (intro p9 hp9; (repeat (first | (with_reducible exact hp9) | refine List.mem_cons_of_mem _ ?_)); done) | kcj_all) (by rfl)
      all_goals
        exfalso
        omega
    all_goals
      exfalso
      omega
end
section
local macro_rules | `(tactic| walk_at $s:str) => `(tactic| k_extra $s)
theorem new_obj {prog : Program} {w : World} {A : Around} {E : Value → Shared → Prop} {s : Shared} {h₀ : Heap} {L : Addr} {m : Str → Option Value} {news : List (Addr × Obj)} {Q : Value → Shared → Prop} (F : Fr h₀ L s.heap m) (N : News h₀ L s.heap news)
    (hq : ∀ q h', Fr h₀ L h' m → News h₀ L h' ((q, objO) :: news) → (∀ p ∈ news, p.1 < q) → Q (.ref q) { s with heap := h' }) : wpAny (model prog w) A (call (.type "object") []) Q E s :=
  call_object (hq _ _ (F.push _) (News.push F N _) fun p hp => Heap.lt_size (N p hp).1)
theorem cat_esc_len : ∀ l : List Nat, (cat (l.map escS)).length ≤ 2 * l.length
  | [] => by simp [cat]
  | c :: r => by
    have ih := cat_esc_len r
    have e : cat ((c :: r).map escS) = (escS c).cps.toList ++ cat (r.map escS) := by simp [cat]
    have e2 : (escS c).cps.toList.length ≤ 2 := by
      unfold escS
      dsimp only
      split <;> simp
    rw [e, List.length_append, List.length_cons]
    omega
theorem tells_translate {w : World} {mean : ExcName → Option Value} {mg mb : Str → Option Value} (x : Str) (l : List Nat) (tx : Tok) (hx : x.length ≤ 1001) (hxl : x.cps.toList = l ++ [42]) (ha : ∀ c ∈ l, Alpha c) : Tells w mean mg mb 12 67 [.str x tx] (fun t => .str (glue (l.map escS)) t) := by
  k_with_none
  k_with "call type:object" => (k_here; k_dflt (refine' new_obj ?k1 ?k2 ?_; (case k1 => k_asm); (case k2 => k_asm); k_whole); intro qpKw hpKw FpKw NpKw l1Kw; (try k_lt l1Kw))
  k_with "call ref" => (k_here; (with_reducible show wpAny _ _ (call (Value.ref 86) _) _ _ _); refine Hold.out ?_)
  k_with "call ref" => (k_here; (with_reducible show wpAny _ _ (call (Value.ref 93) _) _ _ _); refine Hold.out ?_)
  dsimp only [Tells, TellsG]
  k_fill
  intro dp un gd cn nms ig ic mo a ccd cl outer A₀ base h₀ L m news s Q E hB0 hF0 hX0 hN0 hT0 hd0 hu0 hret
  have hlen : x.length = l.length + 1 := by
    have e : x.length = x.cps.toList.length := by simp [Str.length]
    rw [e, hxl, List.length_append]; rfl
  have hcl := cat_esc_len l
  refine wpAny_call ?_
  k_dflt k_enter
  k_steps
  refine Hold.of ?_
  k_dflt (refine' tells_use (tells_trans _ _ _ _ ?ha ?hb ?hc _) ?k1 ?k2 ?k3 ?k4 ?k5 ?kd ?ku ?_)
  case ha => assumption
  case hb => assumption
  case hc => assumption
  case k1 => k_asm
  case k2 => k_asm
  case k3 => k_asm
  case k4 => k_asm
  case k5 => k_asm
  case kd => k_room
  case ku => k_units
  refine ⟨by k_mem, ?_⟩
  intro h9 tk9 D9 us9 k9 F9 N9 l9 u9
  k_lt l9
  have u9l := u9.length
  rw [List.length_map] at u9l
  k_steps
  refine Hold.of ?_
  k_dflt (refine' tells_use (tells_jparts D9 _ us9 k9 _ ?ha ?hb ?hc) ?k1 ?k2 ?k3 ?k4 ?k5 ?kd ?ku ?_)
  case ha => exact u9
  case hb => omega
  case hc => omega
  case k1 => k_asm
  case k2 => k_asm
  case k3 => k_asm
  case k4 => k_asm
  case k5 => k_asm
  case kd => k_room
  case ku => k_units
  refine ⟨.tail _ (.head _), .head _, ?_⟩
  intro t8 h8 tk8 F8 N8
  k_steps
  exact retS hret (by assumption) (by assumption) (by first | (intro p9 hp9; (repeat (first | (with_reducible exact hp9) | refine List.mem_cons_of_mem _ ?_)); done) | kcj_all) (by rfl)
end
section
local macro_rules | `(tactic| walk_at $s:str) => `(tactic| k_extra $s)
theorem comp_end1 {h₀ : Heap} {L I C D : Addr} {m : Str → Option Value} {s₁ : Shared} {oI oC oD : Obj} {S : List (Addr × Obj) → Prop} {rest : Value → List (Addr × Obj) → Prop} {y : Value} {h' : Heap} {tk : Nat} {p : Addr × Obj} {nw : List (Addr × Obj)}
    (F : Fr h₀ L h' m) (N : News h₀ L h' (p :: (I, oI) :: (C, oC) :: (D, oD) :: nw)) (off : LCg.Off3 I C D nw) (hS : S nw) (r : rest y nw) :
    LCg.CompEnd h₀ L m s₁ I oI C oC D oD S rest y { s₁ with heap := h', toks := tk } := LCg.CompEnd.intro F N nw (fun _ hq => .tail _ hq) off hS r
def piece (n : Nat) : Str := [Str.ofString ".", Str.ofString "..", Str.ofString ".x", Str.ofString "a", Str.ofString "b c", Str.ofString ""].getD n Str.empty
theorem piece_len : ∀ n, (piece n).length ≤ 3
  | 0 | 1 | 2 | 3 | 4 | 5 => by decide +kernel
  | n + 6 => by
    show (Str.empty).length ≤ 3
    decide +kernel
theorem pieces_ok : ∀ ns : List Nat, ((ns.map piece).map (·.length)).sum + (ns.map piece).length ≤ 4 * ns.length
  | [] => by simp
  | n :: r => by
    have ih := pieces_ok r
    have h := piece_len n
    simp only [List.map_cons, List.sum_cons, List.length_cons] at *
    omega
def digit (x : Int) (k : Nat) : Nat := (((x.fdiv 3).fdiv (6 ^ k)).fmod 6).toNat
def digits (x : Int) : List Nat := if 1 + x.fmod 3 = 1 then [digit x 0] else if 1 + x.fmod 3 = 2 then [digit x 0, digit x 1] else [digit x 0, digit x 1, digit x 2]
theorem digits1 {x : Int} (h : 1 + x.fmod 3 = 1) : digits x = [digit x 0] := if_pos h
theorem digits2 {x : Int} (h : 1 + x.fmod 3 = 2) : digits x = [digit x 0, digit x 1] := by
  unfold digits
  rw [if_neg (by omega), if_pos h]
theorem digits3 {x : Int} (h : 1 + x.fmod 3 = 3) : digits x = [digit x 0, digit x 1, digit x 2] := by
  unfold digits
  rw [if_neg (by omega), if_neg (by omega)]
def rowRaw (x : Int) : Str := Str.join (Str.ofString "/") ((digits x).map piece)
def rowOf (x : Int) : Str := if (rowRaw x != Str.ofString "") = true then rowRaw x else Str.ofString "a"
theorem join_pieces {prog : Program} {w : World} {A : Around} {E : Value → Shared → Prop} {s : Shared} {h₀ : Heap} {L D : Addr} {news : List (Addr × Obj)} {us : List Value} {ns : List Nat} {k : Nat} {t : Tok} {Q : Value → Shared → Prop} (N : News h₀ L s.heap news) (hm : (D, listOf us.toArray k) ∈ news) (hu : StrsAre us (ns.map piece)) (hl : ns.length ≤ 3)
    (h : ∀ t' k, (Str.join (Str.ofString "/") (ns.map piece)).length ≤ 12 → Q (.str (Str.join (Str.ofString "/") (ns.map piece)) t') { s with toks := k }) : wpAny (model prog w) A (call (.builtin "str.join") [.str (Str.ofString "/") t, .ref D]) Q E s := by
  have hp := pieces_ok ns
  exact join_slash N hm hu (by omega) fun t' k hz => h t' k (by omega)
theorem tells_row {w : World} {mean : ExcName → Option Value} {mg mb : Str → Option Value} (x : Int) (tx : Tok) : Tells w mean mg mb 6 206 [.int x tx] (fun t => .str (rowOf x) t) := by
  k_with_none
  k_with "CompEnd" => (refine comp_end1 (by assumption) (by assumption) (by assumption) True.intro ?_)
  k_with "CompSrc" => (k_here; k_dflt ((refine LCg.CompSrc.range (by rfl) (by k_asm) (by k_asm) (by assumption) (by first | decide | rfl) (by first | rfl | decide) (by first | size_fits | exact Nat.le_of_ble_eq_true rfl) ?_); intro g8Kw; (try lcg_lit)))
  k_with "CompRest" => (with_unfolding_all first | (refine LCg.CompRest.succ ?_; intro v8Kw I8Kw oI8Kw C8Kw oC8Kw D8Kw m8Kw h8Kw tk8Kw E8Kw hv8Kw hC8Kw hx8Kw F8Kw N8Kw off8Kw ne8Kw; (first | lcg_open hv8Kw | (obtain ⟨t8, hw8⟩ := hv8Kw; subst hw8)); (try simp only [LCg.Off3, and_true] at off8Kw)) | refine LCg.CompRest.zero ?_)
  k_with "call builtin:str.join" => (k_here; (with_reducible show wpAny _ _ (call (Value.builtin _) [Value.str _ _, Value.ref _]) _ _ _); k_dflt (first | (refine' join_pieces (ns := [_]) ?N ?m ?u ?z ?_; (case N => k_asm); (case m => exact .head _); (case u => exact .cons _ _ .nil); (case z => exact Nat.le_of_ble_eq_true rfl)) | (refine' join_pieces (ns := [_, _]) ?N ?m ?u ?z ?_; (case N => k_asm); (case m => exact .head _); (case u => exact .cons _ _ (.cons _ _ .nil)); (case z => exact Nat.le_of_ble_eq_true rfl)) | (refine' join_pieces (ns := [_, _, _]) ?N ?m ?u ?z ?_; (case N => k_asm); (case m => exact .head _); (case u => exact .cons _ _ (.cons _ _ (.cons _ _ .nil))); (case z => exact Nat.le_of_ble_eq_true rfl))); intro t8Kw k8Kw z8Kw)
  dsimp only [Tells, TellsG]
  k_fill
  intro dp un gd cn nms ig ic mo a ccd cl outer A₀ base h₀ L m news s Q E hB0 hF0 hX0 hN0 hT0 hd0 hu0 hret
  refine wpAny_call ?_
  k_dflt k_enter
  k_with "call type:range" => k_rangeSizes
  k_with "table" => skip
  k_steps
  all_goals
    with_reducible rename 1 + x.fmod 3 = _ => hk
    with_reducible rename (_ != _) = _ => hb
    refine retS hret (by assumption) (by assumption) (by first | (intro p9 hp9; (repeat (first | (with_reducible exact hp9) | refine List.mem_cons_of_mem _ ?_)); done) | kcj_all) ?_
    unfold rowOf rowRaw
    first
    | rw [digits1 hk]
    | rw [digits2 hk]
    | rw [digits3 hk]
    first
    | exact (if_pos hb).symm
    | exact (if_neg (ne_true_of_eq_false hb)).symm
end
section
section
variable {prog : Program} {w : World} {A : Around} {s : Shared} {h₀ : Heap} {L : Addr} {m : Str → Option Value} {env : Env} {elt : Expr} {x : Str} {scope : Scope} {cl : List (Str × Addr)} {S : List (Addr × Obj) → Prop} {P : Nat → Value → Prop} {Fin : List Value → List (Addr × Obj) → Prop}
theorem rest_inv {n : Nat} (J : Nat → List Value → List (Addr × Obj) → Prop)
    (turn : ∀ i ys nw v I oI C oC D m₂ h tk (E' : Value → Shared → Prop), i < n → J i ys nw → P i v → LCg.NsObj oC m₂ → m₂ x = some v → Fr h₀ L h m → News h₀ L h ((I, oI) :: (C, oC) :: (D, LCg.lst ys) :: nw) → LCg.Off3 I C D nw → ((@Ne Nat I C) ∧ (@Ne Nat I D) ∧ (@Ne Nat C D)) →
      wpAny (model prog w) A (eval elt (compEnvC scope cl C env)) (LCg.CompEnd h₀ L m { s with heap := h, toks := tk } I oI C oC D (LCg.lst ys) S (fun y nw' => J (i + 1) (ys ++ [y]) nw')) E' { s with heap := h, toks := tk })
    (fin : ∀ ys nw, J n ys nw → Fin ys nw) : ∀ k i ys nw, i + k = n → J i ys nw → LCg.CompRest prog w A h₀ L m env elt x scope cl s S P Fin k i ys nw := by
  intro k
  induction k with
  | zero =>
    intro i ys nw hi hj
    have e : i = n := by omega
    exact LCg.CompRest.zero (fin ys nw (e ▸ hj))
  | succ k ih =>
    intro i ys nw hi hj
    refine LCg.CompRest.succ fun v I oI C oC D m₂ h tk E' hv hC hx F N off ne => ?_
    refine wpAny_mono (turn i ys nw v I oI C oC D m₂ h tk E' (by omega) hj hv hC hx F N off ne) (fun y s' hy => ?_) fun _ _ z => z
    obtain ⟨h', tk', nw', e, F', N', off', hS, hr⟩ := hy
    exact ⟨h', tk', nw', e, F', N', off', hS, ih (i + 1) (ys ++ [y]) nw' (by omega) hr⟩
end
section
variable {prog : Program} {w : World} {A : Around} {s₁ : Shared} {h₀ : Heap} {L : Addr} {m : Str → Option Value} {env : Env} {elt : Expr} {x : Str} {scope : Scope} {cl : List (Str × Addr)} {news : List (Addr × Obj)}
theorem comp_list {ax : Addr} {k : Nat} {its : List Value} {Fin : Shared → List Value → List (Addr × Obj) → Prop} (R : Nat → Value → Prop) (hh : A.handled = none) (F : Fr h₀ L s₁.heap m) (N : News h₀ L s₁.heap news) (hm : (ax, listOf its.toArray k) ∈ news) (hsz : its.length ≤ 1000)
    (turn : ∀ i v ys s I oI C oC D m₂ h tk (E' : Value → Shared → Prop), its[i]? = some v → LCg.NsObj oC m₂ → m₂ x = some v → Fr h₀ L h m → News h₀ L h ((I, oI) :: (C, oC) :: (D, LCg.lst ys) :: news) → LCg.Off3 I C D news → ((@Ne Nat I C) ∧ (@Ne Nat I D) ∧ (@Ne Nat C D)) →
      (∃ g, s = { s₁ with heap := g }) → wpAny (model prog w) A (eval elt (compEnvC scope cl C env)) (LCg.CompEnd h₀ L m { s with heap := h, toks := tk } I oI C oC D (LCg.lst ys) (fun _ => True) (fun y nw' => nw' = news ∧ R i y)) E' { s with heap := h, toks := tk })
    (fin : ∀ s ys, (∃ g, s = { s₁ with heap := g }) → ys.length = its.length → (∀ i y, ys[i]? = some y → R i y) → Fin s ys news) :
    LCg.CompSrc prog w A h₀ L m env elt x scope cl Fin (.ref ax) s₁ := by
  refine LCg.CompSrc.ledger hh F N hm (by rw [List.size_toArray, PySem.sizeLine_eq]; omega) fun g => ?_
  have hS : LCg.SrcAt h₀ ax its.toArray news := .inr ⟨_, hm, rfl, _, rfl⟩
  refine rest_inv (n := its.toArray.size) (fun i ys nw => nw = news ∧ ys.length = i ∧ ∀ j y, ys[j]? = some y → R j y) ?_ ?_ _ 0 [] news (Nat.zero_add _) ⟨rfl, rfl, fun j y e => by cases e⟩
  · rintro i ys nw v I oI C oC D m₂ h tk E' hi ⟨e, hl, hy⟩ hv hC hx F1 N1 off ne
    rw [e] at N1 off
    refine wpAny_mono (turn i v ys _ I oI C oC D m₂ h tk E' (by simpa using hv) hC hx F1 N1 off ne ⟨g, rfl⟩) (fun y s' hz => ?_) fun _ _ z => z
    obtain ⟨h', tk', nw', e1, F', N', off', _, e2, hr⟩ := hz
    rw [e2] at N' off'
    refine ⟨h', tk', news, e1, F', N', off', hS, rfl, by rw [List.length_append, hl]; rfl, fun j z hj => ?_⟩
    rcases Nat.lt_or_ge j ys.length with hlt | hge
    · rw [List.getElem?_append_left hlt] at hj
      exact hy j z hj
    · rw [List.getElem?_append_right hge] at hj
      have hj0 : j - ys.length = 0 := by
        rcases Nat.eq_zero_or_pos (j - ys.length) with h | h
        · exact h
        · rw [List.getElem?_eq_none (by rw [List.length_singleton]; exact h)] at hj
          cases hj
      rw [hj0] at hj
      cases hj
      rw [show j = i by omega]
      exact hr
  · rintro ys nw ⟨e, hl, hy⟩
    rw [e]
    exact fin _ ys ⟨g, rfl⟩ (by simpa using hl) hy
theorem comp_range {r : Addr} {n : Nat} {b : Int} {t₀ u₀ v₀ : Tok} {Fin : Shared → List Value → List (Addr × Obj) → Prop} (R : Nat → Value → Prop) (hh : A.handled = none) (F : Fr h₀ L s₁.heap m) (N : News h₀ L s₁.heap news) (hr : IsRange s₁.heap r 0 b 1 t₀ u₀ v₀) (hb : b = (n : Int)) (hsz : n ≤ 1000)
    (turn : ∀ i t ys s I oI C oC D m₂ h tk (E' : Value → Shared → Prop), i < n → LCg.NsObj oC m₂ → m₂ x = some (.int (0 + (i : Int)) t) → Fr h₀ L h m → News h₀ L h ((I, oI) :: (C, oC) :: (D, LCg.lst ys) :: news) → LCg.Off3 I C D news → ((@Ne Nat I C) ∧ (@Ne Nat I D) ∧ (@Ne Nat C D)) →
      (∃ g, s = { s₁ with heap := g }) → wpAny (model prog w) A (eval elt (compEnvC scope cl C env)) (LCg.CompEnd h₀ L m { s with heap := h, toks := tk } I oI C oC D (LCg.lst ys) (fun _ => True) (fun y nw' => nw' = news ∧ R i y)) E' { s with heap := h, toks := tk })
    (fin : ∀ s ys, (∃ g, s = { s₁ with heap := g }) → ys.length = n → (∀ i y, ys[i]? = some y → R i y) → Fin s ys news) :
    LCg.CompSrc prog w A h₀ L m env elt x scope cl Fin (.ref r) s₁ := by
  subst hb
  refine LCg.CompSrc.range hh F N hr (small_one (by omega) (by omega) (by omega) (by omega)) (rangeSize_nat _ _) (by rw [PySem.sizeLine_eq]; omega) fun g => ?_
  refine rest_inv (n := n) (fun i ys nw => nw = news ∧ ys.length = i ∧ ∀ j y, ys[j]? = some y → R j y) ?_ ?_ _ 0 [] news (Nat.zero_add _) ⟨rfl, rfl, fun j y e => by cases e⟩
  · rintro i ys nw v I oI C oC D m₂ h tk E' hi ⟨e, hl, hy⟩ hv hC hx F1 N1 off ne
    rw [e] at N1 off
    obtain ⟨t, rfl⟩ := hv
    refine wpAny_mono (turn i t ys _ I oI C oC D m₂ h tk E' (by omega) hC hx F1 N1 off ne ⟨g, rfl⟩) (fun y s' hz => ?_) fun _ _ z => z
    obtain ⟨h', tk', nw', e1, F', N', off', _, e2, hr⟩ := hz
    rw [e2] at N' off'
    refine ⟨h', tk', news, e1, F', N', off', trivial, rfl, by rw [List.length_append, hl]; rfl, fun j z hj => ?_⟩
    rcases Nat.lt_or_ge j ys.length with hlt | hge
    · rw [List.getElem?_append_left hlt] at hj
      exact hy j z hj
    · rw [List.getElem?_append_right hge] at hj
      have hj0 : j - ys.length = 0 := by
        rcases Nat.eq_zero_or_pos (j - ys.length) with h | h
        · exact h
        · rw [List.getElem?_eq_none (by rw [List.length_singleton]; exact h)] at hj
          cases hj
      rw [hj0] at hj
      cases hj
      rw [show j = i by omega]
      exact hr
  · rintro ys nw ⟨e, hl, hy⟩
    rw [e]
    exact fin _ ys ⟨g, rfl⟩ hl hy
end
end
section
open Builtin Builtin.Str StrLaws
def dotL (l : List Nat) : List Nat := if l.head? = some 46 then 46 :: l else l
def gOf (x : Str) : Str := ⟨(dotL x.cps.toList).toArray⟩
def Free (p : List Nat) : Prop := ∀ c ∈ p, c ≠ 10 ∧ c ≠ 13
def crlf (ps : List (List Nat)) : List Nat := ps.flatMap (· ++ [13, 10])
inductive Ended : List Str → List Str → Prop
  | nil : Ended [] []
  | cons {r t : Str} {rs ts : List Str} (e : List Nat) (he : e = [10] ∨ e = [13] ∨ e = [13, 10]) (ht : t.cps.toList = r.cps.toList ++ e) (h : Ended rs ts) : Ended (r :: rs) (t :: ts)
theorem q2_app : ∀ {p l : List Nat}, Free p → q2 (p ++ l) = p ++ q2 l
  | [], l, _ => rfl
  | c :: p, l, h => by
    have h1 := h c (.head _)
    rw [List.cons_append, q2_plain (by omega), q2_app fun d hd => h d (.tail _ hd)]
    rfl
theorem q2_ends {e l : List Nat} (he : e = [10] ∨ e = [13] ∨ e = [13, 10]) (hl : l.head? ≠ some 10) : q2 (e ++ l) = 13 :: 10 :: q2 l := by
  rcases he with rfl | rfl | rfl
  · exact q2_end (.inl rfl) (by rintro ⟨h, _⟩; cases h)
  · exact q2_end (.inr rfl) (by rintro ⟨_, h⟩; exact hl h)
  · exact q2_crlf l
theorem q1_app : ∀ {p l : List Nat}, p ≠ [] → Free p → q1 false (p ++ l) = p ++ q1 false l
  | [], _, h, _ => absurd rfl h
  | [c], l, _, h => by
    have h1 := h c (.head _)
    have h2 : (c == 10) = false := beq_false_of_ne h1.1
    simp only [List.cons_append, List.nil_append, q1, h2]
    simp
  | c :: d :: p, l, _, h => by
    have h1 := h c (.head _)
    have h2 : (c == 10) = false := beq_false_of_ne h1.1
    have ih := q1_app (p := d :: p) (l := l) (by simp) fun d hd => h d (.tail _ hd)
    rw [List.cons_append, q1, h2, ih]
    simp
theorem q1_row {p l : List Nat} (hp : p ≠ []) (h : Free p) : q1 true (p ++ 13 :: 10 :: l) = dotL p ++ 13 :: 10 :: q1 true l := by
  cases p with
  | nil => exact absurd rfl hp
  | cons c p =>
    have h1 := h c (.head _)
    have h2 : (c == 10) = false := beq_false_of_ne h1.1
    have h3 : q1 false (13 :: 10 :: l) = 13 :: 10 :: q1 true l := by simp [q1]
    have h4 : q1 false (p ++ 13 :: 10 :: l) = p ++ 13 :: 10 :: q1 true l := by
      cases p with
      | nil => exact h3
      | cons d p => rw [q1_app (by simp) fun d hd => h d (.tail _ hd), h3]
    rw [List.cons_append, q1, h2, h4, dotL]
    by_cases hc : c = 46
    · subst hc; simp
    · simp [hc]
theorem cat_cons (x : Str) (ws : List Str) : cat (x :: ws) = x.cps.toList ++ cat ws := by simp [cat]
theorem ended_head {rs ts : List Str} (hr : ∀ r ∈ rs, r.cps.toList ≠ [] ∧ Free r.cps.toList) (h : Ended rs ts) : (cat ts).head? ≠ some 10 := by
  cases h with
  | nil => simp [cat]
  | cons e he ht h =>
    rename_i r t rs ts
    have h1 := hr r (.head _)
    rw [cat_cons, ht]
    cases hc : r.cps.toList with
    | nil => exact absurd hc h1.1
    | cons c p =>
      have := h1.2 c (by rw [hc]; exact .head _)
      simp [this.1]
theorem quote_body {rs ts : List Str} (hr : ∀ r ∈ rs, r.cps.toList ≠ [] ∧ Free r.cps.toList) (h : Ended rs ts) : q1 true (q2 (cat ts)) = crlf (rs.map fun r => dotL r.cps.toList) := by
  induction h with
  | nil => rfl
  | cons e he ht h ih =>
    rename_i r t rs ts
    have h1 := hr r (.head _)
    have h2 := fun x hx => hr x (.tail _ hx)
    rw [cat_cons, ht, List.append_assoc, q2_app h1.2, q2_ends he (ended_head h2 h), q1_row h1.1 h1.2, ih h2]
    simp [crlf]
theorem at_iff (x : Str) (c : Nat) : At x ⟨#[13, 10]⟩ x.length c ↔ [13, 10] <+: x.cps.toList.drop c := by
  unfold At
  rw [subAt_eq]
  have hn : x.cps.toList.length = x.length := by simp [Str.length]
  show _ + 2 ≤ _ ∧ _ ↔ _
  constructor
  · rintro ⟨_, h2⟩
    have h3 := eq_of_beq h2
    exact ⟨(x.cps.toList.drop c).drop 2, by
      have := List.take_append_drop 2 (x.cps.toList.drop c)
      rw [show (x.cps.toList.drop c).take 2 = [13, 10] from h3] at this
      exact this⟩
  · rintro ⟨t, ht⟩
    have hl := congrArg List.length ht
    rw [List.length_drop] at hl
    simp only [List.length_append, List.length_cons, List.length_nil] at hl
    refine ⟨by omega, ?_⟩
    rw [beq_iff_eq]
    show (x.cps.toList.drop c).take 2 = [13, 10]
    rw [← ht]
    rfl
theorem split_body (x : Str) : ∀ (ps : List (List Nat)) (a : Nat) (cuts : List Nat) (f : Nat), (∀ p ∈ ps, 13 ∉ p) → x.cps.toList.drop a = crlf ps → ChainG x ⟨#[13, 10]⟩ x.length a cuts f → (∀ k, f ≤ k → ¬ At x ⟨#[13, 10]⟩ x.length k) →
    partsFrom x 2 a cuts = ps.map (fun p => (⟨p.toArray⟩ : Str)) ++ [⟨#[]⟩]
  | [], a, [], f, _, hd, _, _ => by
    have e : strSub x a x.length = ⟨#[]⟩ := by
      apply Str.ext'
      apply Array.toList_inj.mp
      rw [strSub_toList, hd]
      simp [crlf]
    show [strSub x a x.length] = _
    rw [e]
    rfl
  | [], a, c :: r, f, _, hd, h, _ => by
    exfalso
    obtain ⟨h1, h2, _⟩ := h
    rw [at_iff] at h2
    have e : x.cps.toList.drop c = [] := by
      rw [show c = a + (c - a) by omega, ← List.drop_drop, hd]
      simp [crlf]
    rw [e] at h2
    have := List.prefix_nil.mp h2
    cases this
  | p :: ps, a, cuts, f, hp, hd, h, hf => by
    have hd' : x.cps.toList.drop a = p ++ (13 :: 10 :: crlf ps) := by rw [hd]; simp [crlf]
    have hA : At x ⟨#[13, 10]⟩ x.length (a + p.length) := by
      rw [at_iff, ← List.drop_drop, hd', List.drop_left]
      exact ⟨crlf ps, rfl⟩
    cases cuts with
    | nil =>
      have e : f = a := h
      exact absurd hA (hf _ (by omega))
    | cons c r =>
      obtain ⟨h1, h2, h3, h4⟩ := h
      have hc : c = a + p.length := by
        rcases Nat.lt_trichotomy c (a + p.length) with hlt | he | hgt
        · exfalso
          rw [at_iff, show c = a + (c - a) by omega, ← List.drop_drop, hd', List.drop_append_of_le_length (by omega)] at h2
          obtain ⟨t, ht⟩ := h2
          cases hq : p.drop (c - a) with
          | nil =>
            have := congrArg List.length hq
            rw [List.length_drop, List.length_nil] at this
            omega
          | cons d q =>
            rw [hq] at ht
            have e1 : (13 : Nat) = d := (List.cons.inj ht).1
            subst e1
            exact hp p (.head _) (List.mem_of_mem_drop (by rw [hq]; exact .head _))
        · exact he
        · exact absurd hA (h3 _ (by omega) hgt)
      subst hc
      have e1 : strSub x a (a + p.length) = ⟨p.toArray⟩ := by
        apply Str.ext'
        apply Array.toList_inj.mp
        rw [strSub_toList, hd']
        simp
      have ih := split_body x ps (a + p.length + 2) r f (fun q hq => hp q (.tail _ hq)) (by
        rw [Nat.add_assoc, ← List.drop_drop, hd', ← List.drop_drop, List.drop_left]
        rfl) h4 hf
      show strSub x a (a + p.length) :: partsFrom x 2 (a + p.length + 2) r = _
      rw [ih, e1]
      rfl
theorem split_crlf {x : Str} {ps : List (List Nat)} (hp : ∀ p ∈ ps, 13 ∉ p) (hx : x.cps.toList = crlf ps) (h0 : ps ≠ []) : Txt.split x (Str.ofString "\r\n") = ps.map (fun p => (⟨p.toArray⟩ : Str)) ++ [⟨#[]⟩] := by
  rw [show Str.ofString "\r\n" = ⟨#[13, 10]⟩ by decide +kernel]
  have hn : x.cps.toList.length = x.length := by simp [Str.length]
  have h2 : 2 ≤ x.length := by
    rw [← hn, hx]
    cases ps with
    | nil => exact absurd rfl h0
    | cons p ps => simp [crlf]; omega
  obtain ⟨f, hc, hf⟩ := occ_tight x ⟨#[13, 10]⟩ (by decide)
  have key := split_body x ps 0 _ f hp (by rw [List.drop_zero]; exact hx) hc hf
  unfold Txt.split
  rw [if_neg]
  · split
    · rename_i he
      rw [List.isEmpty_iff.mp he] at key
      rw [← key]
      show [x] = [strSub x 0 x.length]
      rw [sub_whole]
    · rw [partsBetween_eq]
      exact key
  · have hk : PySem.Builtin.Str.strKind (⟨#[13, 10]⟩ : Str) = 1 := by decide +kernel
    have hk2 : 1 ≤ PySem.Builtin.Str.strKind x := by
      unfold PySem.Builtin.Str.strKind
      (repeat' split) <;> omega
    rw [hk]
    simp only [Bool.or_eq_true, decide_eq_true_eq]
    show ¬ (x.length < 2 ∨ _)
    omega
end
section
open Builtin Builtin.Str StrLaws
def spGo : List Nat → List Nat → List (List Nat)
  | [], acc => [acc.reverse]
  | c :: l, acc => if c = 47 then acc.reverse :: spGo l [] else spGo l (c :: acc)
def sp (l : List Nat) : List (List Nat) := spGo l []
def mkS (p : List Nat) : Str := ⟨p.toArray⟩
theorem spGo_free : ∀ (p acc l : List Nat), 47 ∉ p → spGo (p ++ l) acc = spGo l (p.reverse ++ acc)
  | [], acc, l, _ => rfl
  | c :: p, acc, l, h => by
    have hc : c ≠ 47 := fun e => h (by rw [e]; exact .head _)
    rw [List.cons_append, spGo, if_neg hc, spGo_free p _ l fun hm => h (.tail _ hm)]
    simp
theorem sp_cut (p l : List Nat) (h : 47 ∉ p) : sp (p ++ 47 :: l) = p :: sp l := by
  rw [sp, spGo_free p [] _ h, spGo, if_pos rfl]
  simp [sp]
theorem sp_last (p : List Nat) (h : 47 ∉ p) : sp p = [p] := by
  have := spGo_free p [] [] h
  rw [List.append_nil] at this
  rw [sp, this, spGo]
  simp
theorem at1_iff (x : Str) (c : Nat) : At x ⟨#[47]⟩ x.length c ↔ [47] <+: x.cps.toList.drop c := by
  unfold At
  rw [subAt_eq]
  have hn : x.cps.toList.length = x.length := by simp [Str.length]
  show _ + 1 ≤ _ ∧ _ ↔ _
  constructor
  · rintro ⟨_, h2⟩
    have h3 := eq_of_beq h2
    exact ⟨(x.cps.toList.drop c).drop 1, by
      have := List.take_append_drop 1 (x.cps.toList.drop c)
      rw [show (x.cps.toList.drop c).take 1 = [47] from h3] at this
      exact this⟩
  · rintro ⟨t, ht⟩
    have hl := congrArg List.length ht
    rw [List.length_drop] at hl
    simp only [List.length_append, List.length_cons, List.length_nil] at hl
    refine ⟨by omega, ?_⟩
    rw [beq_iff_eq]
    show (x.cps.toList.drop c).take 1 = [47]
    rw [← ht]
    rfl
theorem parts_sp (x : Str) : ∀ (cuts : List Nat) (a f : Nat), a ≤ x.length → ChainG x ⟨#[47]⟩ x.length a cuts f → (∀ k, f ≤ k → ¬ At x ⟨#[47]⟩ x.length k) → partsFrom x 1 a cuts = (sp (x.cps.toList.drop a)).map mkS
  | [], a, f, ha, h, hf => by
    have e : f = a := h
    subst e
    have hn : 47 ∉ x.cps.toList.drop f := by
      intro hm
      obtain ⟨j, hj⟩ := List.getElem?_of_mem hm
      obtain ⟨hlt, hj2⟩ := List.getElem?_eq_some_iff.mp hj
      refine hf (f + j) (by omega) ((at1_iff x _).mpr ?_)
      rw [← List.drop_drop, List.drop_eq_getElem_cons hlt, hj2]
      exact ⟨_, rfl⟩
    rw [sp_last _ hn]
    show [strSub x f x.length] = [mkS _]
    congr 1
    apply Str.ext'
    apply Array.toList_inj.mp
    rw [strSub_toList]
    exact List.take_of_length_le (by simp [Str.length])
  | c :: r, a, f, ha, h, hf => by
    obtain ⟨h1, h2, h3, h4⟩ := h
    have h2' := (at1_iff x c).mp h2
    have hc : c + 1 ≤ x.length := h2.1
    obtain ⟨t, ht⟩ := h2'
    have e0 : x.cps.toList.drop a = (x.cps.toList.drop a).take (c - a) ++ 47 :: x.cps.toList.drop (c + 1) := by
      have e1 := (List.take_append_drop (c - a) (x.cps.toList.drop a)).symm
      rw [List.drop_drop, show a + (c - a) = c by omega, ← ht] at e1
      have e2 : x.cps.toList.drop (c + 1) = t := by rw [← List.drop_drop, ← ht]; rfl
      rw [e2]
      exact e1
    have hn : 47 ∉ (x.cps.toList.drop a).take (c - a) := by
      intro hm
      obtain ⟨j, hj⟩ := List.getElem?_of_mem hm
      obtain ⟨hlt, hj2⟩ := List.getElem?_eq_some_iff.mp hj
      have hlt2 := hlt
      rw [List.length_take] at hlt2
      rw [List.getElem_take] at hj2
      refine h3 (a + j) (by omega) (by omega) ((at1_iff x _).mpr ?_)
      rw [← List.drop_drop, List.drop_eq_getElem_cons (by omega), hj2]
      exact ⟨_, rfl⟩
    have ih := parts_sp x r (c + 1) f hc h4 hf
    show strSub x a c :: partsFrom x 1 (c + 1) r = _
    rw [ih, e0, sp_cut _ _ hn]
    show _ = mkS _ :: _
    congr 1
    apply Str.ext'
    apply Array.toList_inj.mp
    rw [strSub_toList]
    rfl
theorem split_sp (x : Str) : Txt.split x (Str.ofString "/") = (sp x.cps.toList).map mkS := by
  rw [show Str.ofString "/" = ⟨#[47]⟩ by decide +kernel]
  have hn : x.cps.toList.length = x.length := by simp [Str.length]
  obtain ⟨f, hc, hf⟩ := occ_tight x ⟨#[47]⟩ (by decide)
  have key := parts_sp x _ 0 f (Nat.zero_le _) hc hf
  rw [List.drop_zero] at key
  unfold Txt.split
  by_cases h1 : (decide (x.length < (⟨#[47]⟩ : Str).length) || decide (PySem.Builtin.Str.strKind x < PySem.Builtin.Str.strKind (⟨#[47]⟩ : Str))) = true
  · rw [if_pos h1]
    have hk : PySem.Builtin.Str.strKind (⟨#[47]⟩ : Str) = 1 := by decide +kernel
    have hk2 : 1 ≤ PySem.Builtin.Str.strKind x := by
      unfold PySem.Builtin.Str.strKind
      (repeat' split) <;> omega
    rw [hk] at h1
    simp only [Bool.or_eq_true, decide_eq_true_eq] at h1
    have h0 : x.length < 1 := by
      rcases h1 with h | h
      · exact h
      · omega
    have e : x.cps.toList = [] := List.length_eq_zero_iff.mp (by omega)
    rw [e]
    show [x] = [mkS []]
    congr 1
    apply Str.ext'
    apply Array.toList_inj.mp
    exact e
  · rw [if_neg h1]
    split
    · rename_i he
      rw [List.isEmpty_iff.mp he] at key
      rw [← key]
      show [x] = [strSub x 0 x.length]
      rw [sub_whole]
    · rw [partsBetween_eq]
      exact key
end
section
open Builtin Builtin.Str StrLaws
theorem mkS_eta (x : Str) : mkS x.cps.toList = x := Str.ext' (Array.toList_inj.mp rfl)
theorem mkS_inj {a b : List Nat} (h : mkS a = mkS b) : a = b := by
  have := congrArg (fun z : Str => z.cps.toList) h
  exact this
theorem mkS_ne {a b : List Nat} (h : a ≠ b) : (mkS a != mkS b) = true := by
  rw [bne_iff_ne]
  exact fun e => h (mkS_inj e)
theorem mkS_len (a : List Nat) : (mkS a).length = a.length := by simp [mkS, Str.length]
theorem mkS_app (a b : List Nat) : mkS a ++ mkS b = mkS (a ++ b) := by
  apply Str.ext'
  apply Array.toList_inj.mp
  rw [Str.cps_append, Array.toList_append]
  rfl
theorem slice_to (l : List Nat) (j : Nat) : Txt.slice (mkS l) none (some (j : Int)) = mkS (l.take j) := by
  have hl := mkS_len l
  by_cases h : j ≤ l.length
  · have := beq_iff_eq.mp (slice_closes_toL (x := mkS l) (j := (j : Int)) (by omega) (by omega))
    rw [this]
    show mkS _ = mkS _
    simp [mkS]
  · have e : Txt.slice (mkS l) none (some (j : Int)) = Txt.slice (mkS l) none (some ((mkS l).length : Int)) := by
      unfold Txt.slice
      have e2 : strSliceIndices none (some (j : Int)) 1 (mkS l).length = strSliceIndices none (some ((mkS l).length : Int)) 1 (mkS l).length := by
        have h0 : ¬ ((j : Int) < 0) := by omega
        have h1 : ¬ (((mkS l).length : Int) < 0) := by omega
        have h2 : (1 : Int) > 0 := by decide
        have h3 : ((mkS l).length : Int) ≤ (j : Int) := by omega
        simp only [strSliceIndices, h0, h1, h2, if_false, if_true, Int.min_eq_right h3, Int.min_self]
      rw [e2]
    rw [e, beq_iff_eq.mp (slice_closes_toL (x := mkS l) (j := ((mkS l).length : Int)) (by omega) (by omega))]
    show mkS _ = mkS _
    rw [mkS_len]
    simp only [mkS]
    rw [List.take_of_length_le (by simp), List.take_of_length_le (by omega)]
    simp
theorem slice_from (l : List Nat) (i : Nat) : Txt.slice (mkS l) (some (i : Int)) none = mkS (l.drop i) := by
  have hl := mkS_len l
  by_cases h : i ≤ l.length
  · rw [slice_from_eq (x := mkS l) (i := (i : Int)) (b := ((mkS l).length : Int)) (by omega) (by omega) rfl]
    show mkS _ = mkS _
    rw [mkS_len]
    simp only [mkS]
    rw [List.take_of_length_le (by simp)]
    simp
  · rw [slice_beyond (by omega), List.drop_of_length_le (by omega)]
    rfl
theorem slice_mid (l : List Nat) (i j : Nat) (hij : i ≤ j) : Txt.slice (mkS l) (some (i : Int)) (some (j : Int)) = mkS ((l.take j).drop i) := by
  have hl := mkS_len l
  have h0 : ¬ ((i : Int) < 0) := by omega
  have h1 : ¬ ((j : Int) < 0) := by omega
  have h2 : (1 : Int) > 0 := by decide
  have e : Txt.slice (mkS l) (some (i : Int)) (some (j : Int)) = Txt.slice (mkS l) (some ((min i l.length : Nat) : Int)) (some ((min j l.length : Nat) : Int)) := by
    unfold Txt.slice
    have e2 : strSliceIndices (some (i : Int)) (some (j : Int)) 1 (mkS l).length = strSliceIndices (some ((min i l.length : Nat) : Int)) (some ((min j l.length : Nat) : Int)) 1 (mkS l).length := by
      have h3 : ¬ (((min i l.length : Nat) : Int) < 0) := by omega
      have h4 : ¬ (((min j l.length : Nat) : Int) < 0) := by omega
      simp only [strSliceIndices, h0, h1, h2, h3, h4, if_false, if_true, hl]
      congr 1 <;> omega
    rw [e2]
  rw [e, beq_iff_eq.mp (slice_closesL (x := mkS l) (by omega) (by omega) (by omega))]
  show mkS _ = mkS _
  congr 1
  simp only [mkS, Int.toNat_natCast]
  rcases Nat.le_total i l.length with hi | hi
  · rcases Nat.le_total j l.length with hj | hj
    · rw [Nat.min_eq_left hi, Nat.min_eq_left hj, List.drop_take]
      congr 1
      omega
    · rw [Nat.min_eq_left hi, Nat.min_eq_right hj, List.take_of_length_le (l := l) hj, List.take_of_length_le]
      rw [List.length_drop]
      omega
  · rw [Nat.min_eq_right hi, List.drop_of_length_le (Nat.le_refl _), List.drop_of_length_le]
    · simp
    · rw [List.length_take]; omega
theorem starts_iff (l : List Nat) : Txt.startswith (mkS l) (Str.ofString "/") = true ↔ l.head? = some 47 := by
  rw [show Str.ofString "/" = mkS [47] by decide +kernel]
  unfold Txt.startswith
  rw [subAt_eq]
  have hl := mkS_len l
  simp only [Bool.and_eq_true, decide_eq_true_eq, beq_iff_eq]
  rw [mkS_len [47]]
  show 0 + 1 ≤ _ ∧ (List.drop 0 l).take 1 = [47] ↔ _
  cases l with
  | nil => simp
  | cons c r => simp [hl]
theorem lstrip_list (l : List Nat) : Txt.lstripChars (mkS l) (Str.ofString "/") = mkS (l.dropWhile (· == 47)) := by
  rw [show Str.ofString "/" = mkS [47] by decide +kernel]
  unfold Txt.lstripChars
  rw [PyProof.Rows.stripBy_eq]
  have hp : (mkS [47]).cps.contains = fun c => c == 47 := by
    funext c
    simp [mkS, Array.contains]
  rw [hp]
  apply Str.ext'
  apply Array.toList_inj.mp
  rw [strSub_toList]
  unfold stripLo stripHi
  rw [if_pos rfl, if_neg (by decide)]
  show ((l.drop _).take _) = l.dropWhile _
  have hd : ∀ l : List Nat, List.drop (List.takeWhile (fun c => c == 47) l).length l = l.dropWhile (fun c => c == 47) := by
    intro l
    conv => lhs; arg 2; rw [← List.takeWhile_append_dropWhile (p := fun c => c == 47) (l := l)]
    exact List.drop_left
  rw [List.take_of_length_le (by rw [List.length_drop, mkS_len]; exact Nat.le_refl _)]
  exact hd l
end
section
open Builtin Builtin.Str StrLaws
theorem sep_is : Str.ofString "/" = mkS [47] := by decide +kernel
theorem head_take {r : List Nat} (h : r.head? ≠ some 47) : r.take 1 ≠ [47] := by
  cases r with
  | nil => simp
  | cons c r => simpa using h
theorem mkS_self (a : List Nat) : (mkS a != mkS a) = false := by simp
theorem mkS_beq (a : List Nat) : (mkS a == mkS a) = true := by simp
theorem mkS_bne {a b : List Nat} (h : a ≠ b) : (mkS a == mkS b) = false := by
  have := mkS_ne h
  simpa [bne] using this
theorem slice1 (l : List Nat) : Txt.slice (mkS l) none (some 1) = mkS (l.take 1) := slice_to l 1
theorem slice2 (l : List Nat) : Txt.slice (mkS l) none (some 2) = mkS (l.take 2) := slice_to l 2
theorem slice12 (l : List Nat) : Txt.slice (mkS l) (some 1) (some 2) = mkS ((l.take 2).drop 1) := slice_mid l 1 2 (by omega)
theorem slice23 (l : List Nat) : Txt.slice (mkS l) (some 2) (some 3) = mkS ((l.take 3).drop 2) := slice_mid l 2 3 (by omega)
theorem from1 (l : List Nat) : Txt.slice (mkS l) (some 1) none = mkS (l.drop 1) := slice_from l 1
theorem from2' (l : List Nat) : Txt.slice (mkS l) (some 2) none = mkS (l.drop 2) := slice_from l 2
theorem drop_take2 (r : List Nat) : ((47 :: r).take 2).drop 1 = r.take 1 := by cases r <;> rfl
theorem drop_take3 (c : Nat) (r : List Nat) : ((47 :: c :: r).take 3).drop 2 = r.take 1 := by cases r <;> rfl
theorem rootA {r : List Nat} (h : r.head? ≠ some 47) : rootOf (mkS (47 :: r)) = mkS [47] ∧ restOf (mkS (47 :: r)) = mkS r := by
  have e1 : Txt.slice (mkS (47 :: r)) none (some 1) = mkS [47] := slice1 _
  have e2 : Txt.slice (mkS (47 :: r)) (some 1) (some 2) = mkS (r.take 1) := by rw [slice12, drop_take2]
  have e3 : Txt.slice (mkS (47 :: r)) (some 1) none = mkS r := from1 _
  unfold rootOf restOf
  rw [sep_is, e1, e2, e3, mkS_self, mkS_ne (head_take h)]
  simp
theorem rootB {r : List Nat} (h : r.head? ≠ some 47) : rootOf (mkS (47 :: 47 :: r)) = mkS [47, 47] ∧ restOf (mkS (47 :: 47 :: r)) = mkS r := by
  have e1 : Txt.slice (mkS (47 :: 47 :: r)) none (some 1) = mkS [47] := slice1 _
  have e2 : Txt.slice (mkS (47 :: 47 :: r)) (some 1) (some 2) = mkS [47] := by rw [slice12, drop_take2]; rfl
  have e3 : Txt.slice (mkS (47 :: 47 :: r)) (some 2) (some 3) = mkS (r.take 1) := by rw [slice23, drop_take3]
  have e4 : Txt.slice (mkS (47 :: 47 :: r)) none (some 2) = mkS [47, 47] := slice2 _
  have e5 : Txt.slice (mkS (47 :: 47 :: r)) (some 2) none = mkS r := from2' _
  unfold rootOf restOf
  rw [sep_is, e1, e2, e3, e4, e5, mkS_self, mkS_bne (head_take h)]
  simp
theorem rootC (r : List Nat) : rootOf (mkS (47 :: 47 :: 47 :: r)) = mkS [47] ∧ restOf (mkS (47 :: 47 :: 47 :: r)) = mkS (47 :: 47 :: r) := by
  have e1 : Txt.slice (mkS (47 :: 47 :: 47 :: r)) none (some 1) = mkS [47] := slice1 _
  have e2 : Txt.slice (mkS (47 :: 47 :: 47 :: r)) (some 1) (some 2) = mkS [47] := by rw [slice12, drop_take2]; rfl
  have e3 : Txt.slice (mkS (47 :: 47 :: 47 :: r)) (some 2) (some 3) = mkS [47] := by rw [slice23, drop_take3]; rfl
  have e4 : Txt.slice (mkS (47 :: 47 :: 47 :: r)) (some 1) none = mkS (47 :: 47 :: r) := from1 _
  unfold rootOf restOf
  rw [sep_is, e1, e2, e3, e4, mkS_self, mkS_beq]
  simp
theorem lits : Str.ofString "" = mkS [] ∧ Str.ofString "." = mkS [46] ∧ Str.ofString ".." = mkS [46, 46] ∧ Str.ofString "h" = mkS [104] ∧ Str.ofString "i" = mkS [105] ∧ Str.ofString "/h/i" = mkS [47, 104, 47, 105] ∧ Str.ofString "//" = mkS [47, 47] := by decide +kernel
theorem step_same (ws : List Str) (c : Str) : normStep ws c = placeStep ws c := by
  have hl := lits
  unfold normStep placeStep
  rw [hl.1, hl.2.1, hl.2.2.1]
  have hc : c = mkS c.cps.toList := (mkS_eta c).symm
  generalize c.cps.toList = l at hc
  subst hc
  rw [mkS_len]
  by_cases h0 : l = []
  · subst h0
    rw [if_pos (show (([] : List Nat).length : Int) = 0 from rfl), mkS_bne (by simp : ([] : List Nat) ≠ [46, 46]), if_neg (by decide)]
    simp
  · have h1 : ¬ ((l.length : Int) = 0) := by
      intro e
      exact h0 (List.length_eq_zero_iff.mp (by omega))
    rw [if_neg h1]
    by_cases h2 : l = [46, 46]
    · subst h2
      rw [mkS_beq, mkS_self, mkS_bne (by simp : ([46, 46] : List Nat) ≠ [46])]
      simp
    · by_cases h3 : l = [46]
      · subst h3
        rw [mkS_beq, mkS_bne (by simp : ([46] : List Nat) ≠ [46, 46])]
        simp [mkS_beq]
      · rw [mkS_bne h3, mkS_bne h2, mkS_ne h2]
        have e1 : (mkS [] == mkS l) = false := mkS_bne (Ne.symm h0)
        have e2 : (mkS [46] == mkS l) = false := mkS_bne (Ne.symm h3)
        simp [e1, e2]
theorem fold_same (cs ws : List Str) : cs.foldl normStep ws = cs.foldl placeStep ws := by
  rw [show normStep = placeStep from funext fun ws => funext fun c => step_same ws c]
theorem place_nil (ws : List Str) : placeStep ws (mkS []) = ws := by
  rw [← step_same]
  exact if_pos rfl
theorem sp_slash (l : List Nat) : sp (47 :: l) = [] :: sp l := sp_cut [] l (by simp)
theorem fold_slash (l : List Nat) (ws : List Str) : ((sp (47 :: l)).map mkS).foldl placeStep ws = ((sp l).map mkS).foldl placeStep ws := by
  rw [sp_slash, List.map_cons, List.foldl_cons, place_nil]
theorem fold_drop : ∀ (l : List Nat) (ws : List Str), ((sp (l.dropWhile (· == 47))).map mkS).foldl placeStep ws = ((sp l).map mkS).foldl placeStep ws
  | [], ws => rfl
  | c :: l, ws => by
    by_cases hc : c = 47
    · subst hc
      rw [fold_slash, ← fold_drop l ws]
      rfl
    · have : (c == 47) = false := beq_false_of_ne hc
      rw [List.dropWhile_cons, this]
      rfl
def placeL (l : List Nat) : Str := (if l.head? = some 47 then (if (l.takeWhile (· == 47)).length = 2 then mkS [47, 47] else mkS [47]) else mkS [47]) ++ Str.join (mkS [47]) (((sp l).map mkS).foldl placeStep (if l.head? = some 47 then [] else [mkS [104], mkS [105]]))
theorem drop_ne {l : List Nat} (h : l.head? = some 47) : mkS (l.dropWhile (· == 47)) != mkS l := by
  refine mkS_ne fun e => ?_
  have h2 : l.dropWhile (· == 47) ≠ l := by
    cases l with
    | nil => simp at h
    | cons c r =>
      have hc : c = 47 := by simpa using h
      subst hc
      intro e
      have h3 : (List.dropWhile (· == 47) (47 :: r)).length ≤ r.length := by
        show (List.dropWhile (· == 47) r).length ≤ _
        have := congrArg List.length (List.takeWhile_append_dropWhile (p := (· == 47)) (l := r))
        rw [List.length_append] at this
        omega
      rw [e, List.length_cons] at h3
      omega
  exact h2 e
theorem drop_eq {l : List Nat} (h : l.head? ≠ some 47) : l.dropWhile (· == 47) = l := by
  cases l with
  | nil => rfl
  | cons c r =>
    have hc : (c == 47) = false := by
      apply beq_false_of_ne
      simpa using h
    rw [List.dropWhile_cons, hc]
    rfl
theorem place_list (l : List Nat) : placeOf (mkS l) = placeL l := by
  have hl := lits
  unfold placeOf placeL
  rw [split_sp, lstrip_list, sep_is, hl.2.2.2.1, hl.2.2.2.2.1, hl.2.2.2.2.2.2, mkS_len, mkS_len]
  by_cases h : l.head? = some 47
  · rw [if_pos (drop_ne h), if_pos (drop_ne h), if_pos h, if_pos h]
    have e : ((l.length : Int) - ((l.dropWhile (· == 47)).length : Int) = 2) = ((l.takeWhile (· == 47)).length = 2) := by
      have h3 := congrArg List.length (List.takeWhile_append_dropWhile (p := (· == 47)) (l := l))
      rw [List.length_append] at h3
      apply propext
      omega
    simp only [e]
    show _ ++ Str.join _ (((sp (l.dropWhile (· == 47))).map mkS).foldl placeStep []) = _
    rw [fold_drop]
  · rw [drop_eq h, mkS_self, if_neg (by decide), if_neg (by decide), if_neg h, if_neg h]
    rfl
theorem norm_list {x : Str} {a r : List Nat} (h1 : rootOf x = mkS a) (h2 : restOf x = mkS r) : normOf x = mkS a ++ Str.join (mkS [47]) (((sp r).map mkS).foldl placeStep []) := by
  unfold normOf
  rw [h1, h2, split_sp, fold_same, sep_is]
  rfl
theorem join_list1 {l : List Nat} (h : l.head? = some 47) : joinOf (mkS l) = mkS l := if_pos ((starts_iff l).mpr h)
theorem join_list2 {l : List Nat} (h : l.head? ≠ some 47) : joinOf (mkS l) = mkS (47 :: 104 :: 47 :: 105 :: 47 :: l) := by
  have hl := lits
  unfold joinOf
  rw [if_neg (fun e => h ((starts_iff l).mp e)), hl.2.2.2.2.2.1, sep_is, mkS_app, mkS_app]
  rfl
theorem two_hi (l : List Nat) : ((sp (104 :: 47 :: 105 :: 47 :: l)).map mkS).foldl placeStep [] = ((sp l).map mkS).foldl placeStep [mkS [104], mkS [105]] := by
  have e1 : sp (104 :: 47 :: 105 :: 47 :: l) = [104] :: sp (105 :: 47 :: l) := sp_cut [104] _ (by simp)
  have e2 : sp (105 :: 47 :: l) = [105] :: sp l := sp_cut [105] _ (by simp)
  rw [e1, e2]
  have e3 : placeStep [] (mkS [104]) = [mkS [104]] := by decide +kernel
  have e4 : placeStep [mkS [104]] (mkS [105]) = [mkS [104], mkS [105]] := by decide +kernel
  simp only [List.map_cons, List.foldl_cons, e3, e4]
theorem norm_place_list (l : List Nat) : normOf (joinOf (mkS l)) = placeOf (mkS l) := by
  rw [place_list]
  by_cases h : l.head? = some 47
  · rw [join_list1 h]
    unfold placeL
    rw [if_pos h, if_pos h]
    cases l with
    | nil => simp at h
    | cons c r =>
      have hc : c = 47 := by simpa using h
      subst hc
      by_cases h2 : r.head? = some 47
      · cases r with
        | nil => simp at h2
        | cons c r =>
          have hc : c = 47 := by simpa using h2
          subst hc
          by_cases h3 : r.head? = some 47
          · cases r with
            | nil => simp at h3
            | cons c r =>
              have hc : c = 47 := by simpa using h3
              subst hc
              have hC := rootC r
              rw [norm_list hC.1 hC.2, fold_slash, fold_slash, fold_slash, fold_slash, fold_slash, if_neg]
              show ¬ ((List.takeWhile (· == 47) r).length + 1 + 1 + 1 = 2)
              omega
          · have hB := rootB h3
            rw [norm_list hB.1 hB.2, fold_slash, fold_slash, if_pos]
            show ((List.takeWhile (· == 47) r).length + 1 + 1 = 2)
            have : r.takeWhile (· == 47) = [] := by
              cases r with
              | nil => rfl
              | cons c r =>
                have hc : (c == 47) = false := beq_false_of_ne (by simpa using h3)
                rw [List.takeWhile_cons, hc]
                rfl
            rw [this]
            rfl
      · have hA := rootA h2
        rw [norm_list hA.1 hA.2, fold_slash, if_neg]
        show ¬ ((List.takeWhile (· == 47) r).length + 1 = 2)
        have : r.takeWhile (· == 47) = [] := by
          cases r with
          | nil => rfl
          | cons c r =>
            have hc : (c == 47) = false := beq_false_of_ne (by simpa using h2)
            rw [List.takeWhile_cons, hc]
            rfl
        rw [this]
        simp
  · rw [join_list2 h]
    have hA := rootA (r := 104 :: 47 :: 105 :: 47 :: l) (by simp)
    rw [norm_list hA.1 hA.2, two_hi]
    unfold placeL
    rw [if_neg h, if_neg h]
theorem norm_place (x : Str) : normOf (joinOf x) = placeOf x := by
  have := norm_place_list x.cps.toList
  rwa [mkS_eta] at this
theorem root_ne (x : Str) : ((rootOf (joinOf x)).length : Int) ≠ 0 ∧ ((joinOf x).length : Int) ≠ 0 ∧ (joinOf x).length ≤ x.length + 5 := by
  have hx : x = mkS x.cps.toList := (mkS_eta x).symm
  generalize x.cps.toList = l at hx
  subst hx
  by_cases h : l.head? = some 47
  · rw [join_list1 h]
    cases l with
    | nil => simp at h
    | cons c r =>
      have hc : c = 47 := by simpa using h
      subst hc
      refine ⟨?_, by rw [mkS_len, List.length_cons]; omega, by omega⟩
      by_cases h2 : r.head? = some 47
      · cases r with
        | nil => simp at h2
        | cons c r =>
          have hc : c = 47 := by simpa using h2
          subst hc
          by_cases h3 : r.head? = some 47
          · cases r with
            | nil => simp at h3
            | cons c r =>
              have hc : c = 47 := by simpa using h3
              subst hc
              rw [(rootC r).1, mkS_len]
              decide
          · rw [(rootB h3).1, mkS_len]
            decide
      · rw [(rootA h2).1, mkS_len]
        decide
  · rw [join_list2 h, (rootA (r := 104 :: 47 :: 105 :: 47 :: l) (by simp)).1, mkS_len, mkS_len, mkS_len]
    simp only [List.length_cons, List.length_nil]
    omega
end
section
def six : List Nat := [0, 1, 2, 3, 4, 5]
def allD : List (List Nat) := six.map (fun a => [a]) ++ six.flatMap (fun a => six.map fun b => [a, b]) ++ six.flatMap fun a => six.flatMap fun b => six.map fun c => [a, b, c]
def rowD (ds : List Nat) : Str := if (Str.join (Str.ofString "/") (ds.map piece) != Str.ofString "") = true then Str.join (Str.ofString "/") (ds.map piece) else Str.ofString "a"
theorem rowOf_eq (x : Int) : rowOf x = rowD (digits x) := rfl
theorem digit_mem (x : Int) (k : Nat) : digit x k ∈ six := by
  have h1 : 0 ≤ ((x.fdiv 3).fdiv (6 ^ k)).fmod 6 := Int.fmod_nonneg_of_pos _ (by decide)
  have h2 : ((x.fdiv 3).fdiv (6 ^ k)).fmod 6 < 6 := Int.fmod_lt_of_pos _ (by decide)
  have h : digit x k < 6 := by unfold digit; omega
  revert h
  generalize digit x k = d
  intro h
  unfold six
  simp only [List.mem_cons, List.not_mem_nil, or_false]
  omega
theorem digits_mem (x : Int) : digits x ∈ allD := by
  unfold digits allD
  split
  · exact List.mem_append_left _ (List.mem_append_left _ (List.mem_map.mpr ⟨_, digit_mem x 0, rfl⟩))
  · split
    · exact List.mem_append_left _ (List.mem_append_right _ (List.mem_flatMap.mpr ⟨_, digit_mem x 0, List.mem_map.mpr ⟨_, digit_mem x 1, rfl⟩⟩))
    · exact List.mem_append_right _ (List.mem_flatMap.mpr ⟨_, digit_mem x 0, List.mem_flatMap.mpr ⟨_, digit_mem x 1, List.mem_map.mpr ⟨_, digit_mem x 2, rfl⟩⟩⟩)
theorem row_all {P : Str → Bool} (h : allD.all (fun ds => P (rowD ds)) = true) (x : Int) : P (rowOf x) = true := by
  rw [rowOf_eq]
  exact List.all_eq_true.mp h _ (digits_mem x)
def alphaB (c : Nat) : Bool := c == 46 || c == 47 || c == 32 || c == 97 || c == 98 || c == 99 || c == 104 || c == 105 || c == 120
def chk1 (r : Str) : Bool := !r.cps.toList.isEmpty && r.cps.toList.all alphaB && decide (r.length ≤ 11)
theorem row1 (x : Int) : chk1 (rowOf x) = true := row_all (P := chk1) (by decide +kernel) x
theorem alpha_iff {c : Nat} (h : alphaB c = true) : Alpha c := by
  unfold alphaB at h
  simp only [Bool.or_eq_true, beq_iff_eq] at h
  unfold Alpha
  rcases h with (((((((h | h) | h) | h) | h) | h) | h) | h) | h
  · exact .inl h
  · exact .inr (.inl h)
  · exact .inr (.inr (.inl h))
  · exact .inr (.inr (.inr (.inl h)))
  · exact .inr (.inr (.inr (.inr (.inl h))))
  · exact .inr (.inr (.inr (.inr (.inr (.inl h)))))
  · exact .inr (.inr (.inr (.inr (.inr (.inr (.inl h))))))
  · exact .inr (.inr (.inr (.inr (.inr (.inr (.inr (.inl h)))))))
  · exact .inr (.inr (.inr (.inr (.inr (.inr (.inr (.inr h)))))))
theorem row_ok (x : Int) : (rowOf x).cps.toList ≠ [] ∧ (∀ c ∈ (rowOf x).cps.toList, Alpha c) ∧ (rowOf x).length ≤ 11 := by
  have h := row1 x
  unfold chk1 at h
  simp only [Bool.and_eq_true, Bool.not_eq_true', decide_eq_true_eq] at h
  refine ⟨fun e => ?_, fun c hc => alpha_iff (List.all_eq_true.mp h.1.2 c hc), h.2⟩
  rw [e] at h
  simp at h
theorem alpha_free {c : Nat} (h : Alpha c) : c ≠ 10 ∧ c ≠ 13 := by
  unfold Alpha at h
  omega
theorem row_free (x : Int) : Free (rowOf x).cps.toList := fun c hc => alpha_free ((row_ok x).2.1 c hc)
theorem gOf_len (x : Str) : (gOf x).length ≤ x.length + 1 := by
  show (dotL x.cps.toList).toArray.size ≤ x.cps.size + 1
  rw [List.size_toArray]
  unfold dotL
  split
  · simp
  · simp
def AllA (l : List Nat) : Prop := ∀ c ∈ l, Alpha c
theorem allA_app {a b : List Nat} (ha : AllA a) (hb : AllA b) : AllA (a ++ b) := fun c hc => by
  rcases List.mem_append.mp hc with h | h
  · exact ha c h
  · exact hb c h
theorem spGo_sub : ∀ (l acc : List Nat), (∀ p ∈ spGo l acc, ∀ c ∈ p, c ∈ l ∨ c ∈ acc)
  | [], acc => by
    intro p hp c hc
    rw [spGo, List.mem_singleton] at hp
    subst hp
    exact .inr (List.mem_reverse.mp hc)
  | d :: l, acc => by
    intro p hp c hc
    rw [spGo] at hp
    split at hp
    · rcases List.mem_cons.mp hp with rfl | hp
      · exact .inr (List.mem_reverse.mp hc)
      · rcases spGo_sub l [] p hp c hc with h | h
        · exact .inl (.tail _ h)
        · cases h
    · rcases spGo_sub l (d :: acc) p hp c hc with h | h
      · exact .inl (.tail _ h)
      · rcases List.mem_cons.mp h with rfl | h
        · exact .inl (.head _)
        · exact .inr h
theorem sp_sub {l p : List Nat} (hp : p ∈ sp l) : ∀ c ∈ p, c ∈ l := fun c hc => by
  rcases spGo_sub l [] p hp c hc with h | h
  · exact h
  · cases h
theorem step_all {ws : List Str} {c : Str} (hw : ∀ x ∈ ws, AllA x.cps.toList) (hc : AllA c.cps.toList) : ∀ x ∈ placeStep ws c, AllA x.cps.toList := by
  unfold placeStep
  (repeat' split)
  · exact fun x hx => hw x (List.dropLast_subset _ hx)
  · exact hw
  · intro x hx
    rcases List.mem_append.mp hx with hx | hx
    · exact hw x hx
    · rw [List.mem_singleton.mp hx]; exact hc
theorem fold_all : ∀ (cs ws : List Str), (∀ x ∈ ws, AllA x.cps.toList) → (∀ x ∈ cs, AllA x.cps.toList) → ∀ x ∈ cs.foldl placeStep ws, AllA x.cps.toList
  | [], ws, hw, _ => hw
  | c :: cs, ws, hw, hc => by
    rw [List.foldl_cons]
    exact fold_all cs _ (step_all hw (hc c (.head _))) fun x hx => hc x (.tail _ hx)
theorem join_all : ∀ (ws : List Str), (∀ x ∈ ws, AllA x.cps.toList) → AllA (Str.join (mkS [47]) ws).cps.toList
  | [], _ => fun c hc => by
    have e : (Str.join (mkS [47]) []).cps.toList = [] := by decide +kernel
    rw [e] at hc
    cases hc
  | [x], h => h x (.head _)
  | x :: y :: r, h => by
    have ih := join_all (y :: r) fun z hz => h z (.tail _ hz)
    show AllA (x ++ mkS [47] ++ Str.join (mkS [47]) (y :: r)).cps.toList
    rw [Str.cps_append, Str.cps_append, Array.toList_append, Array.toList_append]
    refine allA_app (allA_app (h x (.head _)) ?_) ih
    intro c hc
    have : c = 47 := List.mem_singleton.mp hc
    exact .inr (.inl this)
theorem place_all {x : Str} (h : AllA x.cps.toList) : AllA (placeOf x).cps.toList := by
  have e := place_list x.cps.toList
  rw [mkS_eta] at e
  rw [e]
  unfold placeL
  rw [Str.cps_append, Array.toList_append]
  have h47 : ∀ l : List Nat, l = [47] ∨ l = [47, 47] → AllA l := by
    rintro l (rfl | rfl) c hc
    · exact .inr (.inl (List.mem_singleton.mp hc))
    · simp only [List.mem_cons, List.not_mem_nil, or_false, or_self] at hc
      exact .inr (.inl hc)
  refine allA_app ?_ (join_all _ (fold_all _ _ ?_ ?_))
  · (repeat' split)
    · exact h47 _ (.inr rfl)
    · exact h47 _ (.inl rfl)
    · exact h47 _ (.inl rfl)
  · split
    · exact fun x hx => nomatch hx
    · intro x hx c hc
      simp only [List.mem_cons, List.not_mem_nil, or_false] at hx
      rcases hx with rfl | rfl
      · have : c = 104 := List.mem_singleton.mp hc
        subst this
        unfold Alpha
        simp
      · have : c = 105 := List.mem_singleton.mp hc
        subst this
        unfold Alpha
        simp
  · intro x hx
    obtain ⟨p, hp, rfl⟩ := List.mem_map.mp hx
    exact fun c hc => h c (sp_sub hp c hc)
theorem place_len (x : Str) : (placeOf x).length ≤ x.length + 8 := by
  have h1 := place_facts (if (Txt.lstripChars x (Str.ofString "/") != x) = true then [] else [Str.ofString "h", Str.ofString "i"]) (by
    split
    · simp [wt]
    · exact (by decide +kernel : wt [Str.ofString "h", Str.ofString "i"] ≤ 4)) (Txt.lstripChars x (Str.ofString "/")) ((Txt.split (Txt.lstripChars x (Str.ofString "/")) (Str.ofString "/")).length)
  rw [List.take_length] at h1
  have h2 := len_lstripChars x (Str.ofString "/")
  unfold placeOf
  rw [Str.length_append]
  have h3 := StrLaws.join_length_le (Str.ofString "/") ((Txt.split (Txt.lstripChars x (Str.ofString "/")) (Str.ofString "/")).foldl placeStep (if (Txt.lstripChars x (Str.ofString "/") != x) = true then [] else [Str.ofString "h", Str.ofString "i"]))
  have h4 : (Str.ofString "/").length = 1 := by decide +kernel
  have h5 : (Str.ofString "//").length = 2 := by decide +kernel
  have h6 : (if (Txt.lstripChars x (Str.ofString "/") != x) = true then (if (x.length : Int) - ((Txt.lstripChars x (Str.ofString "/")).length : Int) = 2 then Str.ofString "//" else Str.ofString "/") else Str.ofString "/").length ≤ 2 := by
    (repeat' split)
    · omega
    · omega
    · omega
  rw [h4, Nat.mul_one] at h3
  omega
end
section
open Builtin Builtin.Str StrLaws
theorem slice_neg_from (l : List Nat) (h : 5 ≤ l.length) : Txt.slice (mkS l) (some (-5)) none = mkS (l.drop (l.length - 5)) := by
  rw [← slice_from]
  have hl := mkS_len l
  unfold Txt.slice
  have h0 : ((-5 : Int) < 0) := by decide
  have h1 : ¬ (((l.length - 5 : Nat) : Int) < 0) := by omega
  have h2 : (1 : Int) > 0 := by decide
  have e2 : strSliceIndices (some (-5)) none 1 (mkS l).length = strSliceIndices (some ((l.length - 5 : Nat) : Int)) none 1 (mkS l).length := by
    simp only [strSliceIndices, h0, h1, h2, if_false, if_true, hl]
    congr 1
    omega
  rw [e2]
theorem slice_neg_mid (l : List Nat) (h : 9 ≤ l.length) : Txt.slice (mkS l) (some 4) (some (-5)) = mkS ((l.take (l.length - 5)).drop 4) := by
  rw [← slice_mid l 4 (l.length - 5) (by omega)]
  have hl := mkS_len l
  unfold Txt.slice
  have h0 : ((-5 : Int) < 0) := by decide
  have h1 : ¬ (((l.length - 5 : Nat) : Int) < 0) := by omega
  have h2 : (1 : Int) > 0 := by decide
  have e2 : strSliceIndices (some 4) (some (-5)) 1 (mkS l).length = strSliceIndices (some ((4 : Nat) : Int)) (some ((l.length - 5 : Nat) : Int)) 1 (mkS l).length := by
    simp only [strSliceIndices, h0, h1, h2, if_false, if_true, hl]
    congr 1
    omega
  rw [e2]
def madeL (l : List Nat) : List Nat := [40, 63, 115, 58] ++ escs l ++ [46, 42, 41, 92, 90]
theorem cat_esc (l : List Nat) : cat (l.map escS) = escs l := by
  induction l with
  | nil => rfl
  | cons c l ih =>
    rw [List.map_cons, cat_cons, ih]
    show _ = escU c ++ escs l
    rfl
theorem cat_app (a b : List Str) : cat (a ++ b) = cat a ++ cat b := by simp [cat]
theorem glue_is (l : List Nat) : glue (l.map escS) = mkS (madeL l) := by
  have e1 : Str.empty = mkS [] := by decide +kernel
  have e2 : Str.ofString "(?s:" = mkS [40, 63, 115, 58] := by decide +kernel
  have e3 : Str.ofString ")\\Z" = mkS [41, 92, 90] := by decide +kernel
  have e4 : Str.ofString ".*" = mkS [46, 42] := by decide +kernel
  unfold glue
  rw [cat_app, cat_esc, e1, e2, e3, e4]
  show mkS [] ++ mkS _ ++ mkS (escs l ++ cat [mkS [46, 42]]) ++ mkS _ = _
  have e5 : cat [mkS [46, 42]] = [46, 42] := by decide +kernel
  rw [e5, mkS_app, mkS_app, mkS_app]
  unfold madeL
  congr 1
  simp
theorem made_len (l : List Nat) : (madeL l).length = (escs l).length + 9 := by
  unfold madeL
  simp only [List.length_append, List.length_cons, List.length_nil]
  omega
theorem escs_len (l : List Nat) : (escs l).length ≤ 2 * l.length := by
  rw [← cat_esc]
  exact cat_esc_len l
theorem made_take (l : List Nat) : Txt.slice (mkS (madeL l)) none (some 4) = Str.ofString "(?s:" := by
  rw [show Txt.slice (mkS (madeL l)) none (some 4) = mkS ((madeL l).take 4) from slice_to _ 4, show Str.ofString "(?s:" = mkS [40, 63, 115, 58] by decide +kernel]
  unfold madeL
  rw [List.append_assoc, List.take_append_of_le_length (by decide)]
  rfl
theorem made_drop (l : List Nat) : Txt.slice (mkS (madeL l)) (some (-5)) none = Str.ofString ".*)\\Z" := by
  have hl := made_len l
  rw [slice_neg_from _ (by omega), hl, show Str.ofString ".*)\\Z" = mkS [46, 42, 41, 92, 90] by decide +kernel]
  congr 1
  unfold madeL
  rw [show (escs l).length + 9 - 5 = ([40, 63, 115, 58] ++ escs l).length by simp]
  exact List.drop_left
theorem made_body (l : List Nat) : (Txt.slice (mkS (madeL l)) (some 4) (some (-5))).cps.toList = escs l := by
  have hl := made_len l
  rw [slice_neg_mid _ (by omega), hl]
  show ((madeL l).take _).drop 4 = _
  unfold madeL
  rw [show (escs l).length + 9 - 5 = ([40, 63, 115, 58] ++ escs l).length by simp, List.take_left]
  rfl
theorem tells_fits2 {w : World} {mean : ExcName → Option Value} {mg mb : Str → Option Value} (l : List Nat) (tx : Tok) (hl : l.length ≤ 1000) (ha : AllA l) (y : Str) (ty : Tok) (hy : y.length ≤ 2000) :
    Tells w mean mg mb 3 220 [.str (glue (l.map escS)) tx, .str y ty] (fun _ => .bool (l.isPrefixOf y.cps.toList)) := by
  have h1 := made_len l
  have h2 := escs_len l
  rw [glue_is]
  refine tells_fits _ tx (by rw [mkS_len]; omega) y ty hy l ?_ ?_ (made_body l) fun d hd => ?_
  · rw [made_take]; decide +kernel
  · rw [made_drop]; decide +kernel
  · have := ha d hd
    unfold Alpha at this
    omega
def EndS (e : Str) : Prop := e = Str.ofString "\n" ∨ e = Str.ofString "\r" ∨ e = Str.ofString "\r\n"
theorem endS_len {e : Str} (h : EndS e) : e.length ≤ 2 := by
  rcases h with rfl | rfl | rfl <;> decide +kernel
theorem endS_cps {e : Str} (h : EndS e) : e.cps.toList = [10] ∨ e.cps.toList = [13] ∨ e.cps.toList = [13, 10] := by
  rcases h with rfl | rfl | rfl
  · exact .inl (by decide +kernel)
  · exact .inr (.inl (by decide +kernel))
  · exact .inr (.inr (by decide +kernel))
theorem ended_of : ∀ {rs : List Str} {ys : List Value}, ys.length = rs.length → (∀ (i : Nat) (y : Value), ys[i]? = some y → ∃ (r e : Str) (t : Tok), rs[i]? = some r ∧ EndS e ∧ y = Value.str (r ++ e) t) → ∃ ts, StrsAre ys ts ∧ Ended rs ts ∧ (cat ts).length ≤ (cat rs).length + 2 * rs.length
  | [], [], _, _ => ⟨[], .nil, .nil, by simp⟩
  | r :: rs, y :: ys, h, hR => by
    obtain ⟨r', e, t, h1, h2, h3⟩ := hR 0 y rfl
    cases h1
    obtain ⟨ts, q1, q2, q3⟩ := ended_of (rs := rs) (ys := ys) (by simpa using h) fun i z hz => hR (i + 1) z (by simpa using hz)
    subst h3
    refine ⟨(r ++ e) :: ts, .cons _ _ q1, .cons e.cps.toList (endS_cps h2) (by rw [Str.cps_append, Array.toList_append]) q2, ?_⟩
    have h4 := endS_len h2
    have h5 : e.cps.toList.length = e.length := by simp [Str.length]
    rw [cat_cons, cat_cons, Str.cps_append, Array.toList_append]
    simp only [List.length_append, List.length_cons]
    omega
theorem cat_rows : ∀ ns : List Int, (cat (ns.map rowOf)).length ≤ 11 * ns.length
  | [] => by simp [cat]
  | n :: ns => by
    have ih := cat_rows ns
    have h1 := (row_ok n).2.2
    have h5 : (rowOf n).cps.toList.length = (rowOf n).length := by simp [Str.length]
    rw [List.map_cons, cat_cons]
    simp only [List.length_append, List.length_cons]
    omega
def sentOf (ns : List Int) : Str := mkS (crlf (ns.map fun n => dotL (rowOf n).cps.toList))
abbrev rawOf (ns : List Int) : List Str := ns.map (fun n => gOf (rowOf n)) ++ [Str.ofString ""]
theorem rows_free (ns : List Int) : ∀ r ∈ ns.map rowOf, r.cps.toList ≠ [] ∧ Free r.cps.toList := by
  intro r hr
  obtain ⟨n, _, rfl⟩ := List.mem_map.mp hr
  exact ⟨(row_ok n).1, row_free n⟩
theorem tells_quote2 {w : World} {mean : ExcName → Option Value} {mg mb : Str → Option Value} {ns : List Int} {ts : List Str} (tx : Tok) (h : Ended (ns.map rowOf) ts) (hz : (cat ts).length ≤ 2000) :
    Tells w mean mg mb 3 55 [.str ⟨(cat ts).toArray⟩ tx] (fun t => .str (sentOf ns) t) := by
  have e := quote_body (rows_free ns) h
  have key := tells_quote (w := w) (mean := mean) (mg := mg) (mb := mb) ⟨(cat ts).toArray⟩ tx (by show (cat ts).toArray.size ≤ _; rw [List.size_toArray]; exact hz)
  have e2 : (⟨(q1 true (q2 ((⟨(cat ts).toArray⟩ : Str).cps.toList))).toArray⟩ : Str) = sentOf ns := by
    show mkS (q1 true (q2 (cat ts))) = _
    rw [e]
    unfold sentOf
    congr 2
    rw [List.map_map]
    rfl
  rw [e2] at key
  exact key
theorem dot_free {p : List Nat} (h : Free p) : 13 ∉ dotL p := by
  unfold dotL
  split
  · intro hm
    rcases List.mem_cons.mp hm with h1 | h1
    · cases h1
    · exact (h 13 h1).2 rfl
  · exact fun hm => (h 13 hm).2 rfl
theorem split_sent {ns : List Int} (h0 : ns ≠ []) : Txt.split (sentOf ns) (Str.ofString "\r\n") = rawOf ns := by
  rw [split_crlf (ps := ns.map fun n => dotL (rowOf n).cps.toList) (fun p hp => ?_) rfl (by simpa using h0)]
  · unfold rawOf
    rw [List.map_map, lits.1]
    rfl
  · obtain ⟨n, _, rfl⟩ := List.mem_map.mp hp
    exact dot_free (row_free n)
theorem dotL_len (l : List Nat) : (dotL l).length ≤ l.length + 1 := by
  unfold dotL
  split <;> simp
theorem crlf_len : ∀ ns : List Int, (crlf (ns.map fun n => dotL (rowOf n).cps.toList)).length ≤ 14 * ns.length
  | [] => by simp [crlf]
  | n :: ns => by
    have ih := crlf_len ns
    have h1 := (row_ok n).2.2
    have h5 : (rowOf n).cps.toList.length = (rowOf n).length := by simp [Str.length]
    have h6 := dotL_len (rowOf n).cps.toList
    rw [List.map_cons]
    simp only [crlf, List.flatMap_cons, List.length_append, List.length_cons, List.length_nil] at ih ⊢
    omega
theorem call_split {prog : Program} {w : World} {A : Around} {E : Value → Shared → Prop} {s : Shared} {h₀ : Heap} {L : Addr} {m : Str → Option Value} {news : List (Addr × Obj)} {ns : List Int} {t u : Tok} {Q : Value → Shared → Prop} (hF : Fr h₀ L s.heap m) (hN : News h₀ L s.heap news) (h0 : 6 ≤ ns.length) (h9 : ns.length ≤ 9)
    (h : ∀ D us h' k, StrsAre us (rawOf ns) → us.length = ns.length + 1 → Fr h₀ L h' m → News h₀ L h' ((D, listOf us.toArray 0) :: news) → (∀ p ∈ news, p.1 < D) → Q (.ref D) { s with heap := h', toks := k }) :
    wpAny (model prog w) A (call (.builtin "str.split") [.str (sentOf ns) t, .str (Str.ofString "\r\n") u]) Q E s := by
  have hz := crlf_len ns
  have hn : ns ≠ [] := by
    intro e
    rw [e, List.length_nil] at h0
    omega
  refine KSpl.split1 hF hN (by decide +kernel) (fun D l h' k e a F N hlt => h D _ h' k ?_ ?_ F N hlt) ?_
  · rw [e, split_sent hn] at a
    exact a
  · have := a.length
    rw [e, split_sent hn] at this
    rw [this]
    simp [rawOf]
  · unfold sentOf
    rw [mkS_len, PySem.sizeLine_eq]
    omega
theorem item_tab {prog : Program} {w : World} {A : Around} {E : Value → Shared → Prop} {s : Shared} {h₀ : Heap} {L : Addr} {news : List (Addr × Obj)} {D : Addr} {k : Nat} {t1 t2 t3 u : Tok} {j : Int} {value slice : Expr} {Q : Value → Shared → Prop} (N : News h₀ L s.heap news) (hm : (D, listOf [Value.str (Str.ofString "\n") t1, .str (Str.ofString "\r") t2, .str (Str.ofString "\r\n") t3].toArray k) ∈ news) (h0 : 0 ≤ j) (h3 : j < 3)
    (h : ∀ e t, EndS e → e.length ≤ 2 → Q (.str e t) s)
    (hs : subscripted slice false (.ref D) (.int j u) = operate [.ref D, .int j u] (getItem (.ref D) (.int j u)) := by with_unfolding_all rfl) :
    wpAny (model prog w) A (subscriptTail value slice (.ref D) (.int j u)) Q E s := by
  obtain ⟨i, rfl⟩ : ∃ i : Nat, j = (i : Int) := ⟨j.toNat, by omega⟩
  have h' : ∀ e t, EndS e → Q (.str e t) s := fun e t he => h e t he (endS_len he)
  match i, h3 with
  | 0, _ => exact item_at N hm rfl (by simp) (h' _ _ (.inl rfl)) hs
  | 1, _ => exact item_at N hm rfl (by simp) (h' _ _ (.inr (.inl rfl))) hs
  | 2, _ => exact item_at N hm rfl (by simp) (h' _ _ (.inr (.inr rfl))) hs
  | n + 3, h3 => omega
theorem ints_at : ∀ {vs : List Value} {ns : List Int} {i : Nat} {v : Value}, IntsAre vs ns → vs[i]? = some v → ∃ n t, v = .int n t ∧ ns[i]? = some n
  | _, _, _, _, .nil, h => by cases h
  | _, _, 0, _, .cons n t r, h => by
    cases h
    exact ⟨n, t, rfl, rfl⟩
  | _, _, i + 1, _, .cons n t r, h => by
    obtain ⟨m, u, h1, h2⟩ := ints_at (i := i) r (by simpa using h)
    exact ⟨m, u, h1, by simpa using h2⟩
theorem strs_of {g : Int → Str} : ∀ {ys : List Value} {ns : List Int}, ys.length = ns.length → (∀ (i : Nat) (y : Value), ys[i]? = some y → ∃ (n : Int) (t : Tok), ns[i]? = some n ∧ y = Value.str (g n) t) → StrsAre ys (ns.map g)
  | [], [], _, _ => .nil
  | y :: ys, n :: ns, h, hR => by
    obtain ⟨m, t, h1, h2⟩ := hR 0 y rfl
    cases h1
    subst h2
    exact .cons _ _ (strs_of (by simpa using h) fun i z hz => hR (i + 1) z (by simpa using hz))
theorem row_len {ns : List Int} {i : Nat} {r : Str} (h : (ns.map rowOf)[i]? = some r) : r.length ≤ 11 := by
  rw [List.getElem?_map] at h
  obtain ⟨n, _, rfl⟩ := Option.map_eq_some_iff.mp h
  exact (row_ok n).2.2
end
section
open Builtin Builtin.Str StrLaws
theorem g_dot {x : Str} (h1 : 1 ≤ x.length) (h : (Txt.item x 0 == Str.ofString ".") = true) : Str.ofString "." ++ x = gOf x := by
  have hx : x = mkS x.cps.toList := (mkS_eta x).symm
  generalize x.cps.toList = l at hx
  subst hx
  rw [lits.2.1] at h ⊢
  rw [mkS_app]
  show mkS _ = mkS (dotL l)
  unfold dotL
  cases l with
  | nil => rw [mkS_len] at h1; simp at h1
  | cons c r =>
    have e : Txt.item (mkS (c :: r)) 0 = mkS [c] := by
      have e0 : seqIndex? 0 (mkS (c :: r)).length = some 0 := by
        rw [mkS_len]
        simp [seqIndex?]
      unfold Txt.item Txt.charAt
      rw [e0]
      simp [mkS]
    rw [e] at h
    have := mkS_inj (beq_iff_eq.mp h)
    rw [if_pos (by simpa using this)]
    rfl
theorem g_plain {x : Str} (h1 : 1 ≤ x.length) (h : (Txt.item x 0 == Str.ofString ".") = false) : Str.ofString "" ++ x = gOf x := by
  have hx : x = mkS x.cps.toList := (mkS_eta x).symm
  generalize x.cps.toList = l at hx
  subst hx
  rw [lits.2.1] at h
  rw [lits.1, mkS_app]
  show mkS _ = mkS (dotL l)
  unfold dotL
  cases l with
  | nil => rfl
  | cons c r =>
    have e : Txt.item (mkS (c :: r)) 0 = mkS [c] := by
      have e0 : seqIndex? 0 (mkS (c :: r)).length = some 0 := by
        rw [mkS_len]
        simp [seqIndex?]
      unfold Txt.item Txt.charAt
      rw [e0]
      simp [mkS]
    rw [e] at h
    rw [if_neg]
    · rfl
    · intro hc
      have hc : c = 46 := by simpa using hc
      subst hc
      simp at h
def isDot (x : Str) : Bool := [46].isPrefixOf x.cps.toList
theorem strip_g {x : Str} : (Txt.slice (gOf x) none (some 1) == Str.ofString ".") = true → Txt.slice (gOf x) (some 1) none = x := by
  have hx : x = mkS x.cps.toList := (mkS_eta x).symm
  generalize x.cps.toList = l at hx
  subst hx
  show (Txt.slice (mkS (dotL l)) none (some 1) == _) = true → Txt.slice (mkS (dotL l)) (some 1) none = _
  rw [slice1, from1, lits.2.1]
  intro h
  have h2 := mkS_inj (beq_iff_eq.mp h)
  unfold dotL at h2 ⊢
  by_cases hc : l.head? = some 46
  · rw [if_pos hc]
    rfl
  · rw [if_neg hc] at h2
    exfalso
    cases l with
    | nil => simp at h2
    | cons c r => exact hc (by simpa using h2)
theorem keep_g {x : Str} : (Txt.slice (gOf x) none (some 1) == Str.ofString ".") = false → gOf x = x := by
  have hx : x = mkS x.cps.toList := (mkS_eta x).symm
  generalize x.cps.toList = l at hx
  subst hx
  show (Txt.slice (mkS (dotL l)) none (some 1) == _) = false → mkS (dotL l) = _
  rw [slice1, lits.2.1]
  intro h
  unfold dotL at h ⊢
  by_cases hc : l.head? = some 46
  · rw [if_pos hc] at h
    simp at h
  · rw [if_neg hc]
theorem ne_g (x : Str) : (gOf x != x) = isDot x := by
  have hx : x = mkS x.cps.toList := (mkS_eta x).symm
  generalize x.cps.toList = l at hx
  subst hx
  show (mkS (dotL l) != mkS l) = [46].isPrefixOf l
  unfold dotL
  by_cases hc : l.head? = some 46
  · rw [if_pos hc, mkS_ne (by
      intro e
      have := congrArg List.length e
      simp at this)]
    cases l with
    | nil => simp at hc
    | cons c r =>
      have hc : c = 46 := by simpa using hc
      subst hc
      simp
  · rw [if_neg hc, mkS_self]
    cases l with
    | nil => rfl
    | cons c r =>
      have hc : ¬ (46 = c) := by
        intro e
        subst e
        exact hc rfl
      rw [List.isPrefixOf, beq_false_of_ne hc]
      rfl
theorem pre_is (l : List Nat) (y : Str) : (Txt.slice y none (some ((mkS l).length : Int)) == mkS l) = l.isPrefixOf y.cps.toList := by
  have hx : y = mkS y.cps.toList := (mkS_eta y).symm
  generalize y.cps.toList = r at hx
  subst hx
  rw [slice_to, mkS_len]
  show _ = l.isPrefixOf r
  rw [Bool.eq_iff_iff, List.isPrefixOf_iff_prefix, List.prefix_iff_eq_take, beq_iff_eq]
  constructor
  · intro h
    exact (mkS_inj h).symm
  · intro h
    rw [← h]
def flat (d : PyData) : Prop := d.canLay0 = true ∧ d.depth = 0 ∧ PyData.eqv d d = true
theorem flat_lay : ∀ {ds : List PyData}, (∀ d ∈ ds, flat d) → PyData.canLayAll0 ds = true ∧ PyData.depthAll ds = 0 ∧ PyData.eqvAll ds ds = true
  | [], _ => ⟨rfl, rfl, rfl⟩
  | d :: ds, h => by
    have h1 := h d (.head _)
    have h2 := flat_lay (ds := ds) fun x hx => h x (.tail _ hx)
    refine ⟨?_, ?_, ?_⟩
    · rw [PyData.canLayAll0, h1.1, h2.1]; rfl
    · rw [PyData.depthAll, h1.2.1, h2.2.1]; rfl
    · rw [PyData.eqvAll, h1.2.2, h2.2.2]; rfl
theorem flat_bool (b : Bool) : flat (.bool b) := ⟨by rw [PyData.canLay0], by rw [PyData.depth], by rw [PyData.eqv]; simp⟩
theorem flat_str {x : Str} (h : PyData.strOk x = true) : flat (.str x) := ⟨by rw [PyData.canLay0, h], by rw [PyData.depth], by rw [PyData.eqv]; simp⟩
theorem allA_ok {x : Str} (h : AllA x.cps.toList) : PyData.strOk x = true := by
  unfold PyData.strOk
  rw [← Array.all_toList, List.all_eq_true]
  intro c hc
  have := h c hc
  unfold Alpha at this
  exact decide_eq_true (by omega)
theorem gOf_all {x : Str} (h : AllA x.cps.toList) : AllA (gOf x).cps.toList := by
  show AllA (dotL x.cps.toList)
  unfold dotL
  split
  · intro c hc
    rcases List.mem_cons.mp hc with rfl | hc
    · exact .inl rfl
    · exact h c hc
  · exact h
theorem row_all' (n : Int) : AllA (rowOf n).cps.toList := (row_ok n).2.1
theorem ok_rows (ns : List Int) : ∀ d ∈ (ns.map rowOf).map PyData.str, flat d := by
  intro d hd
  obtain ⟨x, hx, rfl⟩ := List.mem_map.mp hd
  obtain ⟨n, _, rfl⟩ := List.mem_map.mp hx
  exact flat_str (allA_ok (row_all' n))
theorem ok_raw (ns : List Int) : ∀ d ∈ (rawOf ns).map PyData.str, flat d := by
  intro d hd
  obtain ⟨x, hx, rfl⟩ := List.mem_map.mp hd
  rcases List.mem_append.mp hx with hx | hx
  · obtain ⟨n, _, rfl⟩ := List.mem_map.mp hx
    exact flat_str (allA_ok (gOf_all (row_all' n)))
  · rw [List.mem_singleton.mp hx]
    exact flat_str (by decide +kernel)
theorem ok_bools (bs : List Bool) : ∀ d ∈ bs.map PyData.bool, flat d := by
  intro d hd
  obtain ⟨b, _, rfl⟩ := List.mem_map.mp hd
  exact flat_bool b
theorem car_strs : ∀ {us : List Value} {ws : List Str}, StrsAre us ws → CarriedAll us (ws.map PyData.str)
  | _, _, .nil => .nil
  | _, _, .cons x t r => .cons (.str x t) (car_strs r)
theorem bools_of {g : Int → Bool} : ∀ {ys : List Value} {ns : List Int}, ys.length = ns.length → (∀ (i : Nat) (y : Value), ys[i]? = some y → ∃ (n : Int), ns[i]? = some n ∧ y = Value.bool (g n)) → CarriedAll ys ((ns.map g).map PyData.bool)
  | [], [], _, _ => .nil
  | y :: ys, n :: ns, h, hR => by
    obtain ⟨m, h1, h2⟩ := hR 0 y rfl
    cases h1
    subst h2
    exact .cons (.bool _) (bools_of (by simpa using h) fun i z hz => hR (i + 1) z (by simpa using hz))
section
variable {prog : Program} {w : World} {A : Around} {E : Value → Shared → Prop} {s : Shared} {h₀ : Heap} {L a b : Addr} {m : Str → Option Value} {news : List (Addr × Obj)} {us vs : List Value} {ka kb : Nat} {Q : Value → Shared → Prop}
theorem flat_shaped {ds : List PyData} (h : ∀ d ∈ ds, flat d) : SeqAt.shaped (.list ds) = true := by
  have h1 := flat_lay h
  unfold SeqAt.shaped
  rw [PyData.canLay0, PyData.depth, h1.1, h1.2.1]
  rfl
theorem ne_flat {ds : List PyData} (N : News h₀ L s.heap news) (ma : (a, listOf us.toArray ka) ∈ news) (mb : (b, listOf vs.toArray kb) ∈ news) (hu : CarriedAll us ds) (hv : CarriedAll vs ds) (hf : ∀ d ∈ ds, flat d) (hun : A.units + 64 < cLine) (h : Q (.bool false) s) :
    wpAny (model prog w) A (compareOp .NotEq (.ref a) (.ref b)) Q E s := by
  refine ne_dataH (reads_newData ⟨_, (N _ ma).1, rfl, _, rfl⟩ hu) (reads_newData ⟨_, (N _ mb).1, rfl, _, rfl⟩ hv) (flat_shaped hf) (flat_shaped hf) hun ?_
  rw [PyData.eqv, (flat_lay hf).2.2]
  exact h
theorem ne_texts {ws : List Str} (N : News h₀ L s.heap news) (ma : (a, listOf us.toArray ka) ∈ news) (mb : (b, listOf vs.toArray kb) ∈ news) (hu : StrsAre us ws) (hv : StrsAre vs ws) (hf : ∀ d ∈ ws.map PyData.str, flat d) (hun : A.units + 64 < cLine) (h : Q (.bool false) s) :
    wpAny (model prog w) A (compareOp .NotEq (.ref a) (.ref b)) Q E s := ne_flat N ma mb (car_strs hu) (car_strs hv) hf hun h
theorem slice_raw {S : Addr} {ns : List Int} {value slice : Expr} {t : Tok} (F : Fr h₀ L s.heap m) (N : News h₀ L s.heap news) (hm : (S, listOf us.toArray ka) ∈ news) (hu : StrsAre us (rawOf ns)) (h9 : ns.length ≤ 9)
    (h : ∀ D us' h', Fr h₀ L h' m → News h₀ L h' ((D, listOf (List.toArray us') 0) :: news) → (∀ p ∈ news, p.1 < D) → StrsAre us' (ns.map fun n => gOf (rowOf n)) → us'.length = ns.length → Q (.ref D) { s with heap := h' })
    (hs : subscripted slice false (.ref S) (.ref s.heap.objs.size) = operate [.ref s.heap.objs.size, .ref S] (getItem (.ref S) (.ref s.heap.objs.size))) (ht : ∀ r, letTemporaryGo value (.ref S) r = pure ()) :
    wpAny (model prog w) A (subscriptTail value slice (.ref S) (.ref s.heap.objs.size)) Q E { s with heap := s.heap.push { cls := .type "slice", data := .fields #[.none, .int (-1) t, .none] } } := by
  refine slice_init F N hm hu (by rw [PySem.sizeLine_eq]; simp [rawOf]; omega) (fun D us' h' F' N' l1 hu' => ?_) hs ht
  have e : (rawOf ns).dropLast = ns.map fun n => gOf (rowOf n) := List.dropLast_concat
  rw [e] at hu'
  exact h D us' h' F' N' l1 hu' (by rw [hu'.length, List.length_map])
theorem tells_np {w : World} {mean : ExcName → Option Value} {mg mb : Str → Option Value} (x : Str) (tx : Tok) (hx : x.length ≤ 1000) : Tells w mean mg mb 9 201 [.str (joinOf x) tx] (fun t => .str (placeOf x) t) := by
  have h := root_ne x
  have key := tells_normpath (w := w) (mean := mean) (mg := mg) (mb := mb) (joinOf x) tx (by omega) h.2.1 h.1
  rw [norm_place] at key
  exact key
theorem tells_fits3 {w : World} {mean : ExcName → Option Value} {mg mb : Str → Option Value} {l : List Nat} {d : Str} (hd : glue (l.map escS) = d) (tx : Tok) (hl : l.length ≤ 1000) (ha : AllA l) (y : Str) (ty : Tok) (hy : y.length ≤ 2000) :
    Tells w mean mg mb 3 220 [.str d tx, .str y ty] (fun _ => .bool (l.isPrefixOf y.cps.toList)) := by
  subst hd
  exact tells_fits2 l tx hl ha y ty hy
def PairIn (ps : List (Str × Bool)) (i : Nat) (y : Value) (pre : List (Addr × Obj)) : Prop := ∃ a p b t, y = Value.ref a ∧ ps[i]? = some (p, b) ∧ (a, listOf [Value.str p t, .bool b].toArray 0) ∈ pre
def pairD (p : Str × Bool) : PyData := .list [.str p.1, .bool p.2]
theorem pair_reads {h : Heap} (hN : ∀ p ∈ news, h.get? p.1 = some p.2) : ∀ {ys : List Value} {ps : List (Str × Bool)}, ys.length = ps.length → (∀ i y, ys[i]? = some y → PairIn ps i y news) → ∃ as, ReadsAll h ys (ps.map pairD) as
  | [], [], _, _ => ⟨_, .nil⟩
  | y :: ys, p :: ps, hl, hR => by
    obtain ⟨a, q, b, t, h1, h2, h3⟩ := hR 0 y rfl
    cases h2
    subst h1
    obtain ⟨as, ih⟩ := pair_reads hN (ys := ys) (ps := ps) (by simpa using hl) fun i z hz => hR (i + 1) z (by simpa using hz)
    exact ⟨_, .cons (reads_list_at (hN _ h3) rfl rfl (.cons (.str _ _) (.cons (.bool _) .nil))) ih⟩
theorem pairs_lay : ∀ {ps : List (Str × Bool)}, (∀ p ∈ ps, PyData.strOk p.1 = true) → PyData.canLayAll0 (ps.map pairD) = true ∧ PyData.depthAll (ps.map pairD) ≤ 1 ∧ PyData.eqvAll (ps.map pairD) (ps.map pairD) = true
  | [], _ => ⟨rfl, Nat.zero_le _, rfl⟩
  | p :: ps, h => by
    have h1 := h p (.head _)
    have h2 := pairs_lay (ps := ps) fun x hx => h x (.tail _ hx)
    rw [List.map_cons]
    refine ⟨?_, ?_, ?_⟩
    · rw [PyData.canLayAll0, h2.1]
      simp [pairD, PyData.canLay0, PyData.canLayAll0, h1]
    · rw [PyData.depthAll]
      have e : (pairD p).depth = 1 := by simp [pairD, PyData.depth, PyData.depthAll]
      rw [e]
      omega
    · rw [PyData.eqvAll, h2.2.2]
      simp [pairD, PyData.eqv, PyData.eqvAll]
theorem eq_pairs {ps : List (Str × Bool)} (N : News h₀ L s.heap news) (ma : (a, listOf us.toArray ka) ∈ news) (mb : (b, listOf vs.toArray kb) ∈ news) {n₁ n₂ : List (Addr × Obj)} (h1 : us.length = ps.length) (h2 : vs.length = ps.length) (hu : ∀ i y, us[i]? = some y → PairIn ps i y n₁) (hv : ∀ i y, vs[i]? = some y → PairIn ps i y n₂) (s1 : ∀ p ∈ n₁, p ∈ news) (s2 : ∀ p ∈ n₂, p ∈ news)
    (ok : ∀ p ∈ ps, PyData.strOk p.1 = true) (hun : A.units + 64 < cLine) (h : Q (.bool true) s) : wpAny (model prog w) A (compareOp .Eq (.ref a) (.ref b)) Q E s := by
  obtain ⟨as, ra⟩ := pair_reads (fun p hp => (N p (s1 p hp)).1) h1 hu
  obtain ⟨bs, rb⟩ := pair_reads (fun p hp => (N p (s2 p hp)).1) h2 hv
  have l := pairs_lay ok
  have hsh : SeqAt.shaped (.list (ps.map pairD)) = true := by
    unfold SeqAt.shaped
    rw [PyData.canLay0, PyData.depth, l.1, Bool.true_and]
    exact decide_eq_true (by have := l.2.1; omega)
  refine eq_dataH (reads_list_at (N _ ma).1 rfl rfl ra) (reads_list_at (N _ mb).1 rfl rfl rb) hsh hsh hun ?_
  rw [PyData.eqv, l.2.2]
  exact h
end
section
variable {prog : Program} {w : World} {A : Around} {s₁ : Shared} {h₀ : Heap} {L : Addr} {m : Str → Option Value} {env : Env} {elt : Expr} {x : Str} {scope : Scope} {cl : List (Str × Addr)} {news : List (Addr × Obj)}
theorem comp_grow {ax : Addr} {k : Nat} {its : List Value} {Fin : Shared → List Value → List (Addr × Obj) → Prop} (R : Nat → Value → List (Addr × Obj) → Prop) (mono : ∀ i y e pre, R i y pre → R i y (e :: pre)) (hh : A.handled = none) (F : Fr h₀ L s₁.heap m) (N : News h₀ L s₁.heap news) (hm : (ax, listOf its.toArray k) ∈ news) (hsz : its.length ≤ 1000)
    (turn : ∀ i v ys pre s I oI C oC D m₂ h tk (E' : Value → Shared → Prop), its[i]? = some v → LCg.NsObj oC m₂ → m₂ x = some v → Fr h₀ L h m → News h₀ L h ((I, oI) :: (C, oC) :: (D, LCg.lst ys) :: (news ++ pre)) → LCg.Off3 I C D (news ++ pre) → ((@Ne Nat I C) ∧ (@Ne Nat I D) ∧ (@Ne Nat C D)) →
      (∃ g, s = { s₁ with heap := g }) → wpAny (model prog w) A (eval elt (compEnvC scope cl C env)) (LCg.CompEnd h₀ L m { s with heap := h, toks := tk } I oI C oC D (LCg.lst ys) (fun _ => True) (fun y nw' => ∃ e, nw' = news ++ (e :: pre) ∧ R i y (e :: pre))) E' { s with heap := h, toks := tk })
    (fin : ∀ s ys pre, (∃ g, s = { s₁ with heap := g }) → ys.length = its.length → (∀ i y, ys[i]? = some y → R i y pre) → Fin s ys (news ++ pre)) :
    LCg.CompSrc prog w A h₀ L m env elt x scope cl Fin (.ref ax) s₁ := by
  refine LCg.CompSrc.ledger hh F N hm (by rw [List.size_toArray, PySem.sizeLine_eq]; omega) fun g => ?_
  have hS : ∀ pre, LCg.SrcAt h₀ ax its.toArray (news ++ pre) := fun pre => .inr ⟨_, List.mem_append_left _ hm, rfl, _, rfl⟩
  refine rest_inv (n := its.toArray.size) (fun i ys nw => ∃ pre, nw = news ++ pre ∧ ys.length = i ∧ ∀ j y, ys[j]? = some y → R j y pre) ?_ ?_ _ 0 [] news (Nat.zero_add _) ⟨[], by simp, rfl, fun j y e => by cases e⟩
  · rintro i ys nw v I oI C oC D m₂ h tk E' hi ⟨pre, e, hl, hy⟩ hv hC hx F1 N1 off ne
    rw [e] at N1 off
    refine wpAny_mono (turn i v ys pre _ I oI C oC D m₂ h tk E' (by simpa using hv) hC hx F1 N1 off ne ⟨g, rfl⟩) (fun y s' hz => ?_) fun _ _ z => z
    obtain ⟨h', tk', nw', e1, F', N', off', _, e0, e2, hr⟩ := hz
    rw [e2] at N' off'
    refine ⟨h', tk', _, e1, F', N', off', hS _, e0 :: pre, rfl, by rw [List.length_append, hl]; rfl, fun j z hj => ?_⟩
    rcases Nat.lt_or_ge j ys.length with hlt | hge
    · rw [List.getElem?_append_left hlt] at hj
      exact mono _ _ _ _ (hy j z hj)
    · rw [List.getElem?_append_right hge] at hj
      have hj0 : j - ys.length = 0 := by
        rcases Nat.eq_zero_or_pos (j - ys.length) with h | h
        · exact h
        · rw [List.getElem?_eq_none (by rw [List.length_singleton]; exact h)] at hj
          cases hj
      rw [hj0] at hj
      cases hj
      rw [show j = i by omega]
      exact hr
  · rintro ys nw ⟨pre, e, hl, hy⟩
    rw [e]
    exact fin _ ys pre ⟨g, rfl⟩ (by simpa using hl) hy
end
theorem pair_mono (ps : List (Str × Bool)) : ∀ i y e pre, PairIn ps i y pre → PairIn ps i y (e :: pre) := by
  rintro i y e pre ⟨a, p, b, t, h1, h2, h3⟩
  exact ⟨a, p, b, t, h1, h2, .tail _ h3⟩
end
section
local macro_rules | `(tactic| walk_at $s:str) => `(tactic| k_extra $s)
abbrev allOf (ns : List Int) : List Str := ns.map rowOf ++ ns.map fun n => gOf (rowOf n)
theorem all_len {us : List Value} {ns : List Int} (h : StrsAre us (allOf ns)) : us.length = ns.length + ns.length := by
  rw [h.length]
  simp [allOf]
theorem all_size (ns : List Int) : (allOf ns).length = ns.length + ns.length := by simp [allOf]
theorem all_ok {ns : List Int} {i : Nat} {x : Str} (h : (allOf ns)[i]? = some x) : x.length ≤ 12 ∧ AllA x.cps.toList := by
  have hm := List.mem_of_getElem? h
  rcases List.mem_append.mp hm with hm | hm
  · obtain ⟨n, _, rfl⟩ := List.mem_map.mp hm
    have := (row_ok n).2.2
    exact ⟨by omega, row_all' n⟩
  · obtain ⟨n, _, rfl⟩ := List.mem_map.mp hm
    have := (row_ok n).2.2
    have h2 := gOf_len (rowOf n)
    exact ⟨by omega, gOf_all (row_all' n)⟩
theorem texts_at {us : List Value} {ws : List Str} {i : Nat} {v : Value} (h : StrsAre us ws) (hv : us[i]? = some v) : ∃ x t, v = .str x t ∧ ws[i]? = some x := by
  have hi : i < us.length := (List.getElem?_eq_some_iff.1 hv).1
  obtain ⟨x, t, h1, h2⟩ := str_at h hi
  rw [h1] at hv
  cases hv
  exact ⟨x, t, rfl, h2⟩
theorem texts_of {f : Str → Str} : ∀ {ys : List Value} {ws : List Str}, ys.length = ws.length → (∀ (i : Nat) (y : Value), ys[i]? = some y → ∃ (x : Str) (t : Tok), ws[i]? = some x ∧ y = Value.str (f x) t) → StrsAre ys (ws.map f)
  | [], [], _, _ => .nil
  | y :: ys, n :: ns, h, hR => by
    obtain ⟨m, t, h1, h2⟩ := hR 0 y rfl
    cases h1
    subst h2
    exact .cons _ _ (texts_of (by simpa using h) fun i z hz => hR (i + 1) z (by simpa using hz))
theorem first_len {x : Str} (h : x.length ≤ 19) : x.cps.toList.length ≤ 1000 := by
  have : x.cps.toList.length = x.length := by simp [Str.length]
  omega
def pairsOf (first : Str) (ns : List Int) : List (Str × Bool) := (allOf ns).map fun x => (placeOf x, first.cps.toList.isPrefixOf (placeOf x).cps.toList)
theorem place_at {us : List Value} {ns : List Int} {i : Nat} {v : Value} (h : StrsAre us ((allOf ns).map placeOf)) (hv : us[i]? = some v) : ∃ x t, v = .str (placeOf x) t ∧ (allOf ns)[i]? = some x := by
  obtain ⟨y, t, h1, h2⟩ := texts_at h hv
  rw [List.getElem?_map] at h2
  obtain ⟨x, hx, rfl⟩ := Option.map_eq_some_iff.mp h2
  exact ⟨x, t, h1, hx⟩
theorem place_len2 {ns : List Int} {i : Nat} {x : Str} (h : (allOf ns)[i]? = some x) : (placeOf x).length ≤ 20 := by
  have h1 := (all_ok h).1
  have h2 := place_len x
  omega
theorem sub_cons {α : Type} {x e : α} {l1 l2 : List α} (h : ∀ p ∈ l1, p ∈ e :: l2) : ∀ p ∈ x :: l1, p ∈ e :: x :: l2 := by
  intro p hp
  rcases List.mem_cons.mp hp with rfl | hp
  · exact .tail _ (.head _)
  · rcases List.mem_cons.mp (h p hp) with rfl | hq
    · exact .head _
    · exact .tail _ (.tail _ hq)
theorem app_sub {α : Type} {e : α} {l1 l2 : List α} : ∀ p ∈ l1 ++ e :: l2, p ∈ e :: (l1 ++ l2) := by
  intro p hp
  rcases List.mem_append.mp hp with hp | hp
  · exact .tail _ (List.mem_append_left _ hp)
  · rcases List.mem_cons.mp hp with rfl | hp
    · exact .head _
    · exact .tail _ (List.mem_append_right _ hp)
theorem off_app {I C D : Addr} {e : Addr × Obj} {l1 l2 : List (Addr × Obj)} (he : e.1 ≠ I ∧ e.1 ≠ C ∧ e.1 ≠ D) (o : LCg.Off3 I C D (l1 ++ l2)) : LCg.Off3 I C D (l1 ++ e :: l2) := by
  refine LCg.Off3.of fun p hp => ?_
  rcases List.mem_cons.mp (app_sub p hp) with rfl | hp
  · exact he
  · exact o.mem p hp
theorem off_go {I C D : Addr} {l l' : List (Addr × Obj)} (h : LCg.Off3 I C D l → LCg.Off3 I C D l') (o : LCg.Off3 I C D l) : LCg.Off3 I C D l' := h o
theorem off_step {I C D : Addr} {x : Addr × Obj} {l l' : List (Addr × Obj)} (h : LCg.Off3 I C D l → LCg.Off3 I C D l') : LCg.Off3 I C D (x :: l) → LCg.Off3 I C D (x :: l') := fun o => ⟨o.1, h o.2⟩
theorem pairs_get {first : Str} {ns : List Int} {i : Nat} {x : Str} (h : (allOf ns)[i]? = some x) : (pairsOf first ns)[i]? = some (placeOf x, first.cps.toList.isPrefixOf (placeOf x).cps.toList) := by
  unfold pairsOf
  rw [List.getElem?_map, h]
  rfl
theorem pre_is2 (first y : Str) : (Txt.slice y none (some (first.length : Int)) == first) = first.cps.toList.isPrefixOf y.cps.toList := by
  have h := pre_is first.cps.toList y
  rw [mkS_eta] at h
  exact h
theorem pairs_get2 {first : Str} {ns : List Int} {i : Nat} {x : Str} (h : (allOf ns)[i]? = some x) : (pairsOf first ns)[i]? = some (placeOf x, Txt.slice (placeOf x) none (some (first.length : Int)) == first) := by
  rw [pre_is2]
  exact pairs_get h
theorem pairs_ok (first : Str) (ns : List Int) : ∀ p ∈ pairsOf first ns, PyData.strOk p.1 = true := by
  intro p hp
  obtain ⟨x, hx, rfl⟩ := List.mem_map.mp hp
  obtain ⟨i, hi⟩ := List.getElem?_of_mem hx
  exact allA_ok (place_all (all_ok hi).2)
theorem first_row {ns : List Int} (h : 6 ≤ ns.length) : ∃ n0, (ns.map rowOf).getD (Int.toNat 0) Str.empty = rowOf n0 := by
  cases ns with
  | nil => simp at h
  | cons n r => exact ⟨n, rfl⟩
theorem alpha46 : ∀ c ∈ [46], Alpha c := fun c h => .inl (List.mem_singleton.mp h)
theorem star_len {x : Str} (h : x.length ≤ 19) : (x ++ Str.ofString "*").length ≤ 1001 := by
  rw [Str.length_append, show (Str.ofString "*").length = 1 by decide +kernel]
  omega
theorem star_cps (x : Str) : (x ++ Str.ofString "*").cps.toList = x.cps.toList ++ [42] := by
  rw [Str.cps_append, Array.toList_append, show (Str.ofString "*").cps.toList = [42] by decide +kernel]
theorem rows_at {us : List Value} {ns : List Int} {g : Int → Str} {i : Nat} {v : Value} (h : StrsAre us (ns.map g)) (hv : us[i]? = some v) : ∃ n t, v = .str (g n) t ∧ ns[i]? = some n := by
  have hi : i < us.length := (List.getElem?_eq_some_iff.1 hv).1
  obtain ⟨x, t, h1, h2⟩ := str_at h hi
  rw [h1] at hv
  cases hv
  rw [List.getElem?_map] at h2
  obtain ⟨n, hn, rfl⟩ := Option.map_eq_some_iff.mp h2
  exact ⟨n, t, rfl, hn⟩
theorem rows_has {us : List Value} {ns : List Int} {g : Int → Str} {i : Nat} (h : StrsAre us (ns.map g)) (hi : i < ns.length) : ∃ n t, us[i]? = some (.str (g n) t) ∧ ns[i]? = some n := by
  have hi2 : i < us.length := by rw [h.length, List.length_map]; exact hi
  obtain ⟨n, t, h1, h2⟩ := rows_at h (List.getElem?_eq_getElem hi2)
  exact ⟨n, t, by rw [List.getElem?_eq_getElem hi2, h1], h2⟩
theorem raw_has {us : List Value} {ns : List Int} {i : Nat} {n : Int} (h : StrsAre us (rawOf ns)) (hn : ns[i]? = some n) : ∃ t, us[i]? = some (.str (gOf (rowOf n)) t) := by
  have hi : i < ns.length := (List.getElem?_eq_some_iff.1 hn).1
  have hi2 : i < us.length := by rw [h.length]; simp [rawOf]; omega
  obtain ⟨v, t, h1, h2⟩ := str_at h hi2
  have e : (rawOf ns)[i]? = some (gOf (rowOf n)) := by
    unfold rawOf
    rw [List.getElem?_append_left (by simpa using hi), List.getElem?_map, hn]
    rfl
  rw [e] at h2
  cases h2
  exact ⟨t, h1⟩
theorem ne_raw {ns : List Int} {i : Nat} {n : Int} (hn : ns[i]? = some n) : ((rawOf ns).getD ((i : Int)).toNat Str.empty != rowOf n) = isDot (rowOf n) := by
  have hi : i < ns.length := (List.getElem?_eq_some_iff.1 hn).1
  have e : (rawOf ns)[i]? = some (gOf (rowOf n)) := by
    unfold rawOf
    rw [List.getElem?_append_left (by simpa using hi), List.getElem?_map, hn]
    rfl
  rw [Int.toNat_natCast, List.getD_eq_getElem?_getD, e]
  exact ne_g (rowOf n)
theorem row_pos (n : Int) : 1 ≤ (rowOf n).length := by
  have h := (row_ok n).1
  have h5 : (rowOf n).cps.toList.length = (rowOf n).length := by simp [Str.length]
  cases hc : (rowOf n).cps.toList with
  | nil => exact absurd hc h
  | cons c r =>
    rw [hc, List.length_cons] at h5
    omega
noncomputable def kDoc : DefRec := match kSt 36 with
  | .FunctionDef n a b _ _ _ sc _ _ p => { name := n, params := a, body := b, scope := sc, pos := p }
  | s => { name := Str.ofString "", params := { posonlyargs := [], args := [], vararg := none, kwonlyargs := [], kw_defaults := [], kwarg := none, defaults := [] }, body := [], scope := { kind := .function, names := [], isGenerator := false, isCoroutine := false }, pos := s.pos }
abbrev WalkLaw : Prop := WalkO kView [Str.ofString "twin_re_1_smtplib", Str.ofString "_twin_re_2", Str.ofString "twin_re_1_fnmatch", Str.ofString "_special_chars_map"] (XL kView []) (kmHook kFrag [2, 3, 32, 34, 35, 37, 38, 42, 43, 47, 48, 49, 51, 52, 54, 55, 59, 60, 61, 63, 64, 66, 67, 69, 73, 75, 76, 78, 79, 80, 82, 83, 85, 86, 87, 89, 90, 92, 93, 94, 96, 97, 99, 100, 101, 108, 110, 111, 113, 114, 115, 116, 117, 120, 127, 129, 130, 132, 133, 134, 136, 137, 139, 140, 141, 143, 144, 146, 147, 148, 149, 150, 153, 155, 156, 158, 159, 160, 162, 163, 165, 166, 167, 169, 170, 172, 173, 174, 176, 177, 179, 180, 181, 183, 184, 186, 187, 188, 190, 191, 193, 194, 195, 197, 198, 200, 201, 202, 205, 206, 207, 209, 210, 212, 213, 214, 216, 217, 219, 220, 221, 224, 225] (fun _ => by kernel_rfl) [81]).says PySem.Challenge.rw_in0073_01.row.toRowW kDoc [] (fun f vs => call f vs)
theorem tt : WalkLaw := by
  k_with_none
  k_with "CompSrc" => (k_here; refine Hold.out ?_)
  k_with "CompEnd" => (k_here; refine Hold.out ?_)
  k_with "call ref" => (k_here; (with_reducible show wpAny _ _ (call (Value.ref _) _) _ _ _); refine Hold.out ?_)
  k_with "call builtin:len" => (k_here; (with_reducible show wpAny _ _ (call (Value.builtin "len") [Value.ref _]) _ _ _); k_dflt (refine' len_at ?N ?m ?z ?_; (case N => k_asm); (case m => k_mem); (case z => first | assumption | omega)); intro tpKw tkpKw)
  k_with "eval ListComp" => (k_here; k_dflt (refine LCg.ListComp_U (F₀ := by k_asm) (by with_unfolding_all rfl) (by decide) (by rfl) (by decide) (by rfl) ?_))
  k_with "subscriptTail" => (k_here; (with_reducible show wpAny _ _ (subscriptTail _ _ (Value.ref _) (Value.int _ _)) _ _ _); k_dflt (refine' item_at ?N ?m ?v ?z ?_ ?s; (case N => k_asm); (case m => k_mem); (case v => assumption); (case z => first | assumption | omega); (case s => with_unfolding_all rfl)))
  k_with "subscriptTail" => (k_here; (with_reducible show wpAny _ _ (subscriptTail (PySem.Expr.List _ _) _ (Value.ref _) (Value.int _ _)) _ _ _); k_dflt (refine' item_tab ?N ?m ?v ?z ?_ ?s; (case N => k_asm); (case m => k_mem); (case v => exact Int.fmod_nonneg_of_pos _ (by decide)); (case z => exact Int.fmod_lt_of_pos _ (by decide)); (case s => with_unfolding_all rfl); k_whole); intro e9Kw t9Kw he9Kw hz9Kw)
  k_with "binaryOp Add str str" => (k_here; (with_reducible show wpAny _ _ (binaryOp Operator.Add (Value.str _ _) (Value.str _ _)) _ _ _); k_dflt (refine' add_str ?h ?z; (case z => (rw [PySem.sizeLine_eq]; omega))); intro t9Kw k9Kw)
  k_with "call builtin:str.join" => (k_here; (with_reducible show wpAny _ _ (call (Value.builtin _) [Value.str _ _, Value.ref _]) _ _ _); k_dflt (refine' join_nil ?N ?m ?u ?z ?_; (case N => k_asm); (case m => k_mem); (case u => with_reducible assumption); (case z => assumption); k_whole); intro t8Kw k8Kw z8Kw)
  k_with "call builtin:str.split" => (k_here; (with_reducible show wpAny _ _ (call (Value.builtin _) [Value.str _ _, Value.str _ _]) _ _ _); k_dflt (refine' call_split ?F ?N ?m ?z ?_; (case F => k_asm); (case N => k_asm); (case m => omega); (case z => omega); k_whole); intro D8Kw us8Kw h8Kw k8Kw u8Kw ul8Kw F8Kw N8Kw l8Kw; (try k_lt l8Kw))
  k_with "binaryOp Add ref ref" => (k_here; (with_reducible show wpAny _ _ (binaryOp Operator.Add (Value.ref _) (Value.ref _)) _ _ _); k_dflt (refine' add_strLists ?F ?N ?m ?m2 ?u (.cons _ _ .nil) ?z ?_; (case F => k_asm); (case N => k_asm); (case m => k_mem); (case m2 => k_mem); (case u => with_reducible assumption); (case z => (simp only [List.length_map, List.length_singleton]; omega)); k_whole); intro DpKw uspKw hpKw FpKw NpKw l1Kw hupKw; (try k_lt l1Kw))
  k_with "compareOp NotEq ref ref" => (k_here; (with_reducible show wpAny _ _ (compareOp CmpOp.NotEq (Value.ref _) (Value.ref _)) _ _ _); k_dflt (refine' ne_texts ?qN ?qA ?qB ?qU ?qV ?qF ?qn ?_; (case qN => k_asm); (case qA => k_mem); (case qB => k_mem); (case qU => with_reducible assumption); (case qV => with_reducible assumption); (case qF => first | exact ok_rows _ | exact ok_raw _); (case qn => k_units)))
  k_with "subscriptTail Name Slice ref ref" => (k_here; (with_reducible show wpAny _ _ (subscriptTail _ (PySem.Expr.Slice _ _ none _) (Value.ref _) (Value.ref _)) _ _ _); k_dflt (refine' slice_raw ?qF ?qN ?qM ?qU ?qZ ?_ ?qS ?qT; (case qF => k_asm); (case qN => k_asm); (case qM => k_mem); (case qU => with_reducible assumption); (case qZ => omega); (case qS => with_unfolding_all rfl); (case qT => (intro _; with_unfolding_all rfl)); k_whole); intro DpKw uspKw hpKw FpKw NpKw l1Kw hupKw hulpKw; (try k_lt l1Kw))
  k_with "compareOp NotEq ref ref" => (k_here; (with_reducible show wpAny _ _ (compareOp CmpOp.NotEq (Value.ref _) (Value.ref _)) _ _ _); k_dflt (refine' ne_flat ?qN ?qA ?qB ?qU ?qV ?qF ?qn ?_; (case qN => k_asm); (case qA => k_mem); (case qB => k_mem); (case qU => with_reducible assumption); (case qV => with_reducible assumption); (case qF => exact ok_bools _); (case qn => k_units)))
  k_with "binaryOp Add ref ref" => (k_here; (with_reducible show wpAny _ _ (binaryOp Operator.Add (Value.ref _) (Value.ref _)) _ _ _); k_dflt (refine' add_strLists ?qF ?qN ?qM ?qM2 ?qU ?qU2 ?qZ ?_; (case qF => k_asm); (case qN => k_asm); (case qM => k_mem); (case qM2 => k_mem); (case qU => with_reducible assumption); (case qU2 => with_reducible assumption); (case qZ => (simp only [List.length_map]; omega)); k_whole); intro DpKw uspKw hpKw FpKw NpKw l1Kw hupKw; (try k_lt l1Kw))
  k_with "exec Assign cons ListComp" => (k_here; k_dflt (refine LCg.Assign_ListComp_U (F₀ := by k_asm) (by rfl) (by with_unfolding_all rfl) (by with_unfolding_all rfl) (by decide) (by rfl) (by decide) (by rfl) (by rfl) (by rfl) ?_))
  k_with "compareOp Eq ref ref" => (k_here; (with_reducible show wpAny _ _ (compareOp CmpOp.Eq (Value.ref _) (Value.ref _)) _ _ _); refine Hold.out ?_)
  unfold WalkLaw
  conv in kDoc => whnf
  k_go0
  k_steps
  refine Hold.of ?_
  with_reducible rename IntsAre _ (_ ++ _) => hI
  generalize hns : (List.take 3 _ ++ [350, 724, 1727, 0, 3, 23] : List Int) = ns at *
  have hIl := hI.length
  have hnl : ns.length ≤ 9 ∧ 6 ≤ ns.length := by
    rw [← hns, List.length_append, List.length_take]
    simp only [List.length_cons, List.length_nil]
    omega
  refine comp_list (fun i y => ∃ n t, ns[i]? = some n ∧ y = .str (rowOf n) t) (by rfl) (by k_asm) (by k_asm) (by k_mem) ?hz ?turn ?fin
  case hz => omega
  case turn =>
    intro i v ys s I oI C oC D m₂ h tk E' hv hC hx F1 N1 off ne hs
    obtain ⟨g, hs⟩ := hs
    rw [hs]
    obtain ⟨n, t, hvn, hn⟩ := ints_at hI hv
    rw [hvn] at hx
    k_steps
    refine Hold.of ?_
    k_dflt (refine' tells_use (tells_row n t) ?k1 ?k2 ?k3 ?k4 ?k5 ?kd ?ku ?_)
    case k1 => k_asm
    case k2 => k_asm
    case k3 => k_asm
    case k4 => k_asm
    case k5 => k_asm
    case kd => k_room
    case ku => k_units
    intro t8 h8 tk8 F8 N8
    k_steps
    refine Hold.of ?_
    exact LCg.CompEnd.intro (by assumption) (by assumption) _ (fun _ hq => hq) (by assumption) trivial ⟨rfl, n, _, hn, rfl⟩
  case fin =>
    intro s ys hs hl hR
    obtain ⟨g, hs⟩ := hs
    rw [hs]
    have hys := strs_of (g := rowOf) (hl.trans hIl) hR
    clear hR
    have hl2 : ys.length = ns.length := hl.trans hIl
    k_steps
    refine Hold.of ?_
    refine comp_range (n := ys.length) (fun i y => ∃ r e t, (ns.map rowOf)[i]? = some r ∧ EndS e ∧ y = .str (r ++ e) t) (by rfl) (by k_asm) (by k_asm) (by assumption) rfl (by omega) ?turn2 ?fin2
    case turn2 =>
      intro i ti zs s I oI C oC D m₂ h tk E' hi hC hx F1 N1 off ne hs
      obtain ⟨g, hs⟩ := hs
      rw [hs]
      rw [Int.zero_add] at hx
      obtain ⟨r, tr, hvr, hr⟩ := str_at hys hi
      have hrl := row_len hr
      k_steps
      refine Hold.of ?_
      exact LCg.CompEnd.intro (by assumption) (by assumption) _ (fun _ hq => .tail _ hq) (by assumption) trivial ⟨rfl, r, _, _, hr, by assumption, rfl⟩
    case fin2 =>
      intro s2 ys2 hs2 hl3 hR2
      obtain ⟨g2, hs2⟩ := hs2
      rw [hs2]
      obtain ⟨ts, hts, hend, hcz⟩ := ended_of (rs := ns.map rowOf) (by rw [List.length_map]; omega) hR2
      have hcr := cat_rows ns
      rw [List.length_map] at hcz
      have hcz2 : (cat ts).length ≤ 10000 := by omega
      have hcz3 : (cat ts).length ≤ 2000 := by omega
      clear hR2 hcr hcz
      k_steps
      refine Hold.of ?_
      k_dflt (refine' tells_use (tells_quote2 _ hend hcz3) ?k1 ?k2 ?k3 ?k4 ?k5 ?kd ?ku ?_)
      case k1 => k_asm
      case k2 => k_asm
      case k3 => k_asm
      case k4 => k_asm
      case k5 => k_asm
      case kd => k_room
      case ku => k_units
      intro t8 h8 tk8 F8 N8
      k_steps
      obtain ⟨n0, hn0⟩ := first_row hnl.2
      rw [hn0]
      have hrl0 := (row_ok n0).2.2
      refine Hold.of ?_
      k_dflt (refine' tells_use (tells_place (rowOf n0) _ (by omega)) ?k1 ?k2 ?k3 ?k4 ?k5 ?kd ?ku ?_)
      case k1 => k_asm
      case k2 => k_asm
      case k3 => k_asm
      case k4 => k_asm
      case k5 => k_asm
      case kd => k_room
      case ku => k_units
      intro t8 h8 tk8 F8 N8
      have hpA := place_all (row_ok n0).2.1
      have hpl := place_len (rowOf n0)
      generalize placeOf (rowOf n0) = first at *
      have hfl : first.length ≤ 19 := by omega
      clear hn0 hrl0 hpl
      k_steps
      refine Hold.of ?_
      k_dflt (refine' tells_use (tells_translate (Str.ofString ".*") [46] _ (by decide +kernel) (by decide +kernel) alpha46) ?k1 ?k2 ?k3 ?k4 ?k5 ?kd ?ku ?_)
      case k1 => k_asm
      case k2 => k_asm
      case k3 => k_asm
      case k4 => k_asm
      case k5 => k_asm
      case kd => k_room
      case ku => k_units
      intro t8 h8 tk8 F8 N8
      generalize hdot : glue ([46].map escS) = dotted
      k_steps
      refine Hold.of ?_
      k_dflt (refine' tells_use (tells_translate (first ++ Str.ofString "*") first.cps.toList _ (star_len hfl) (star_cps first) hpA) ?k1 ?k2 ?k3 ?k4 ?k5 ?kd ?ku ?_)
      case k1 => k_asm
      case k2 => k_asm
      case k3 => k_asm
      case k4 => k_asm
      case k5 => k_asm
      case kd => k_room
      case ku => k_units
      intro t8 h8 tk8 F8 N8
      generalize hbel : glue (first.cps.toList.map escS) = below
      k_steps
      refine Hold.of ?_
      refine comp_list (fun i y => ∃ n t, ns[i]? = some n ∧ y = .str (gOf (rowOf n)) t) (by rfl) (by k_asm) (by k_asm) (by k_mem) ?hz3 ?turn3 ?fin3
      case hz3 => omega
      case turn3 =>
        intro i v zs s I oI C oC D m₂ h tk E' hv hC hx F1 N1 off ne hs
        obtain ⟨g, hs⟩ := hs
        rw [hs]
        obtain ⟨n, t, hvn, hn⟩ := rows_at hys hv
        rw [hvn] at hx
        have hrl := (row_ok n).2.2
        have hr1 := row_pos n
        k_steps
        · refine Hold.of ?_
          exact LCg.CompEnd.intro (by assumption) (by assumption) _ (fun _ hq => hq) (by assumption) trivial ⟨rfl, n, _, hn, congrArg (fun z => Value.str z _) (g_dot hr1 (by assumption))⟩
        · refine Hold.of ?_
          exact LCg.CompEnd.intro (by assumption) (by assumption) _ (fun _ hq => hq) (by assumption) trivial ⟨rfl, n, _, hn, congrArg (fun z => Value.str z _) (g_plain hr1 (by assumption))⟩
      case fin3 =>
        intro s3 ys3 hs3 hl3 hR3
        obtain ⟨g3, hs3⟩ := hs3
        rw [hs3]
        have hl32 := hl3.trans hl2
        have hys3 := strs_of (g := fun n => gOf (rowOf n)) hl32 hR3
        clear hR3
        k_steps
        refine Hold.of ?_
        refine comp_list (fun i y => ∃ n t, ns[i]? = some n ∧ y = .str (rowOf n) t) (by rfl) (by k_asm) (by k_asm) (by k_mem) ?hz4 ?turn4 ?fin4
        case hz4 => omega
        case turn4 =>
          intro i v zs s I oI C oC D m₂ h tk E' hv hC hx F1 N1 off ne hs
          obtain ⟨g, hs⟩ := hs
          rw [hs]
          obtain ⟨n, t, hvn, hn⟩ := rows_at (g := fun n => gOf (rowOf n)) (by assumption) hv
          rw [hvn] at hx
          have hrl := (row_ok n).2.2
          have hrg := gOf_len (rowOf n)
          k_steps
          · refine Hold.of ?_
            exact LCg.CompEnd.intro (by assumption) (by assumption) _ (fun _ hq => hq) (by assumption) trivial ⟨rfl, n, _, hn, congrArg (fun z => Value.str z _) (strip_g (by assumption))⟩
          · refine Hold.of ?_
            exact LCg.CompEnd.intro (by assumption) (by assumption) _ (fun _ hq => hq) (by assumption) trivial ⟨rfl, n, _, hn, congrArg (fun z => Value.str z _) (keep_g (by assumption))⟩
        case fin4 =>
          intro s4 ys4 hs4 hl4 hR4
          obtain ⟨g4, hs4⟩ := hs4
          rw [hs4]
          have hl42 : ys4.length = ns.length := by omega
          have hys4 := strs_of (g := rowOf) hl42 hR4
          clear hR4
          k_steps
          refine Hold.of ?_
          refine comp_range (n := ys.length) (fun i y => ∃ n, ns[i]? = some n ∧ y = .bool (isDot (rowOf n))) (by rfl) (by k_asm) (by k_asm) (by assumption) rfl (by omega) ?turn5 ?fin5
          case turn5 =>
            intro i ti zs s I oI C oC D m₂ h tk E' hi hC hx F1 N1 off ne hs
            obtain ⟨g, hs⟩ := hs
            rw [hs]
            rw [Int.zero_add] at hx
            obtain ⟨n, tr, hvr, hn⟩ := rows_has hys (show i < ns.length by omega)
            have hrl := (row_ok n).2.2
            k_steps
            refine Hold.of ?_
            k_dflt (refine' tells_use (tells_fits3 hdot _ (by decide) alpha46 (rowOf n) _ (by omega)) ?k1 ?k2 ?k3 ?k4 ?k5 ?kd ?ku ?_)
            case k1 => k_asm
            case k2 => k_asm
            case k3 => k_asm
            case k4 => k_asm
            case k5 => k_asm
            case kd => k_room
            case ku => k_units
            intro t8 h8 tk8 F8 N8
            k_steps
            refine Hold.of ?_
            exact LCg.CompEnd.intro (by assumption) (by assumption) _ (fun _ hq => hq) (by assumption) trivial ⟨rfl, n, hn, rfl⟩
          case fin5 =>
            intro s5 ys5 hs5 hl5 hR5
            obtain ⟨g5, hs5⟩ := hs5
            rw [hs5]
            have hl52 : ys5.length = ns.length := by omega
            have hys5 := bools_of (g := fun n => isDot (rowOf n)) hl52 hR5
            clear hR5
            k_steps
            refine Hold.of ?_
            refine comp_range (n := ys.length) (fun i y => ∃ n, ns[i]? = some n ∧ y = .bool (isDot (rowOf n))) (by rfl) (by k_asm) (by k_asm) (by assumption) rfl (by omega) ?turn6 ?fin6
            case turn6 =>
              intro i ti zs s I oI C oC D m₂ h tk E' hi hC hx F1 N1 off ne hs
              obtain ⟨g, hs⟩ := hs
              rw [hs]
              rw [Int.zero_add] at hx
              obtain ⟨n, tr, hvr, hn⟩ := rows_has hys (show i < ns.length by omega)
              obtain ⟨tr2, hvr2⟩ := raw_has (by assumption) hn
              k_steps
              refine Hold.of ?_
              exact LCg.CompEnd.intro (by assumption) (by assumption) _ (fun _ hq => hq) (by assumption) trivial ⟨rfl, n, hn, congrArg Value.bool (ne_raw hn)⟩
            case fin6 =>
              intro s6 ys6 hs6 hl6 hR6
              obtain ⟨g6, hs6⟩ := hs6
              rw [hs6]
              have hl62 : ys6.length = ns.length := by omega
              have hys6 := bools_of (g := fun n => isDot (rowOf n)) hl62 hR6
              clear hR6
              k_steps
              refine Hold.of ?_
              refine comp_list (fun i y => ∃ x t, (allOf ns)[i]? = some x ∧ y = .str (placeOf x) t) (by rfl) (by k_asm) (by k_asm) (by k_mem) ?hz7 ?turn7 ?fin7
              case hz7 =>
                have := all_len (ns := ns) (by assumption)
                omega
              case turn7 =>
                intro i v zs s I oI C oC D m₂ h tk E' hv hC hx F1 N1 off ne hs
                obtain ⟨g, hs⟩ := hs
                rw [hs]
                obtain ⟨x, t, hvn, hn⟩ := texts_at (ws := allOf ns) (by assumption) hv
                rw [hvn] at hx
                have hxl := (all_ok hn).1
                k_steps
                refine Hold.of ?_
                k_dflt (refine' tells_use (tells_join _ x _ (by omega)) ?k1 ?k2 ?k3 ?k4 ?k5 ?kd ?ku ?_)
                case k1 => k_asm
                case k2 => k_asm
                case k3 => k_asm
                case k4 => k_asm
                case k5 => k_asm
                case kd => k_room
                case ku => k_units
                intro t8 h8 tk8 F8 N8
                k_steps
                refine Hold.of ?_
                k_dflt (refine' tells_use (tells_np x _ (by omega)) ?k1 ?k2 ?k3 ?k4 ?k5 ?kd ?ku ?_)
                case k1 => k_asm
                case k2 => k_asm
                case k3 => k_asm
                case k4 => k_asm
                case k5 => k_asm
                case kd => k_room
                case ku => k_units
                intro t8 h8 tk8 F8 N8
                k_steps
                refine Hold.of ?_
                exact LCg.CompEnd.intro (by assumption) (by assumption) _ (fun _ hq => hq) (by assumption) trivial ⟨rfl, x, _, hn, rfl⟩
              case fin7 =>
                intro s7 ys7 hs7 hl7 hR7
                obtain ⟨g7, hs7⟩ := hs7
                rw [hs7]
                have hal := all_len (ns := ns) (by assumption)
                have hl72 : ys7.length = (allOf ns).length := by rw [hl7, hal, all_size]
                have hys7 := texts_of (ws := allOf ns) (f := placeOf) hl72 hR7
                clear hR7
                k_steps
                refine Hold.of ?_
                refine comp_list (fun i y => ∃ x t, (allOf ns)[i]? = some x ∧ y = .str (placeOf x) t) (by rfl) (by k_asm) (by k_asm) (by k_mem) ?hz8 ?turn8 ?fin8
                case hz8 =>
                  have := all_len (ns := ns) (by assumption)
                  omega
                case turn8 =>
                  intro i v zs s I oI C oC D m₂ h tk E' hv hC hx F1 N1 off ne hs
                  obtain ⟨g, hs⟩ := hs
                  rw [hs]
                  obtain ⟨x, t, hvn, hn⟩ := texts_at (ws := allOf ns) (by assumption) hv
                  rw [hvn] at hx
                  have hxl := (all_ok hn).1
                  k_steps
                  refine Hold.of ?_
                  k_dflt (refine' tells_use (tells_place x _ (by omega)) ?k1 ?k2 ?k3 ?k4 ?k5 ?kd ?ku ?_)
                  case k1 => k_asm
                  case k2 => k_asm
                  case k3 => k_asm
                  case k4 => k_asm
                  case k5 => k_asm
                  case kd => k_room
                  case ku => k_units
                  intro t8 h8 tk8 F8 N8
                  k_steps
                  refine Hold.of ?_
                  exact LCg.CompEnd.intro (by assumption) (by assumption) _ (fun _ hq => hq) (by assumption) trivial ⟨rfl, x, _, hn, rfl⟩
                case fin8 =>
                  intro s8 ys8 hs8 hl8 hR8
                  obtain ⟨g8, hs8⟩ := hs8
                  rw [hs8]
                  have hal2 := all_len (ns := ns) (by assumption)
                  have hl82 : ys8.length = (allOf ns).length := by rw [hl8, hal2, all_size]
                  have hys8 := texts_of (ws := allOf ns) (f := placeOf) hl82 hR8
                  clear hR8
                  k_steps
                  refine Hold.of ?_
                  refine comp_grow (PairIn (pairsOf first ns)) (pair_mono _) (by rfl) (by k_asm) (by k_asm) (by k_mem) ?hz9 ?turn9 ?fin9
                  case hz9 =>
                    have := all_size ns
                    omega
                  case turn9 =>
                    intro i v zs pre s I oI C oC D m₂ h tk E' hv hC hx F1 N1 off ne hs
                    obtain ⟨g, hs⟩ := hs
                    rw [hs]
                    obtain ⟨x, t, hvn, hn⟩ := place_at hys7 hv
                    rw [hvn] at hx
                    have hxl := place_len2 hn
                    dsimp only [List.cons_append, List.nil_append] at N1 off ⊢
                    k_steps
                    refine Hold.of ?_
                    k_dflt (refine' tells_use (tells_fits3 hbel _ (first_len hfl) hpA (placeOf x) _ (by omega)) ?k1 ?k2 ?k3 ?k4 ?k5 ?kd ?ku ?_)
                    case k1 => k_asm
                    case k2 => k_asm
                    case k3 => k_asm
                    case k4 => k_asm
                    case k5 => k_asm
                    case kd => k_room
                    case ku => k_units
                    intro t8 h8 tk8 F8 N8
                    k_steps
                    refine Hold.of ?_
                    with_reducible rename I < _ ∧ C < _ ∧ D < _ ∧ _ => hlt
                    refine LCg.CompEnd.intro (by assumption) (by assumption) _ ?sub9 ?off9 trivial ⟨_, rfl, _, placeOf x, _, t, rfl, pairs_get hn, .head _⟩
                    case sub9 =>
                      (repeat refine sub_cons ?_)
                      exact fun _ hq => hq
                    case off9 =>
                      refine off_go ?_ off
                      (repeat refine off_step ?_)
                      exact fun hq => ⟨⟨Nat.ne_of_gt hlt.1, Nat.ne_of_gt hlt.2.1, Nat.ne_of_gt hlt.2.2.1⟩, hq⟩
                  case fin9 =>
                    intro s9 ys9 pre9 hs9 hl9 hR9
                    obtain ⟨g9, hs9⟩ := hs9
                    rw [hs9]
                    dsimp only [List.cons_append, List.nil_append]
                    have hl92 : ys9.length = (allOf ns).length := by rw [hl9, hl72]
                    k_steps
                    refine Hold.of ?_
                    refine comp_grow (PairIn (pairsOf first ns)) (pair_mono _) (by rfl) (by k_asm) (by k_asm) (by k_mem) ?hz10 ?turn10 ?fin10
                    case hz10 =>
                      have := all_size ns
                      omega
                    case turn10 =>
                      intro i v zs pre s I oI C oC D m₂ h tk E' hv hC hx F1 N1 off ne hs
                      obtain ⟨g, hs⟩ := hs
                      rw [hs]
                      obtain ⟨x, t, hvn, hn⟩ := place_at hys8 hv
                      rw [hvn] at hx
                      have hxl := place_len2 hn
                      dsimp only [List.cons_append, List.nil_append] at N1 off ⊢
                      k_steps
                      refine Hold.of ?_
                      with_reducible rename I < _ ∧ C < _ ∧ D < _ ∧ _ => hlt
                      refine LCg.CompEnd.intro (by assumption) (by assumption) _ ?sub9 ?off9 trivial ⟨_, rfl, _, placeOf x, _, t, rfl, pairs_get2 hn, .head _⟩
                      case sub9 =>
                        (repeat refine sub_cons ?_)
                        exact app_sub
                      case off9 =>
                        refine off_go ?_ off
                        (repeat refine off_step ?_)
                        exact off_app ⟨Nat.ne_of_gt hlt.1, Nat.ne_of_gt hlt.2.1, Nat.ne_of_gt hlt.2.2.1⟩
                    case fin10 =>
                      intro s10 ys10 pre10 hs10 hl10 hR10
                      obtain ⟨g10, hs10⟩ := hs10
                      rw [hs10]
                      dsimp only [List.cons_append, List.nil_append]
                      have hl102 : ys10.length = (allOf ns).length := by rw [hl10, hl82]
                      k_steps
                      refine Hold.of ?_
                      k_dflt (refine' eq_pairs (ps := pairsOf first ns) (n₁ := pre9) (n₂ := pre10) ?qN ?qA ?qB ?qU ?qV hR9 hR10 ?qS ?qT (pairs_ok first ns) ?qn ?_)
                      case qN => k_asm
                      case qA => k_mem
                      case qB => k_mem
                      case qU => rw [hl92, pairsOf, List.length_map]
                      case qV => rw [hl102, pairsOf, List.length_map]
                      case qS =>
                        intro p hp
                        (repeat refine List.mem_cons_of_mem _ ?_)
                        exact List.mem_append_left _ hp
                      case qT =>
                        intro p hp
                        (repeat refine List.mem_cons_of_mem _ ?_)
                        exact List.mem_append_right _ hp
                      case qn => k_units
                      k_steps
end
-- the kit makes no twin of a constant whose twin's name is taken: without these the compiled head alone is over the lid
def main.tw11156056980113079860 : Unit := ()
def main.tw14510055921401542917 : Unit := ()
def main.tw7751025194823839400 : Unit := ()
def main.tw16766586330939601796 : Unit := ()
def main.tw16826212616301561204 : Unit := ()
def main.tw3055549443584115620 : Unit := ()
def main.tw3810599057463578550 : Unit := ()
def main.tw10979384154580513333 : Unit := ()
def main.tw5759965000878340481 : Unit := ()
def main.tw3893045249132586119 : Unit := ()
def main.tw16502563530920929011 : Unit := ()
def main.tw11982392923317675503 : Unit := ()
def main.tw7186131708394509389 : Unit := ()
def main.tw15643365686152983790 : Unit := ()
def main.tw5061512775090418087 : Unit := ()
def main.tw14437343929415594154 : Unit := ()
def main.tw826715711578717668 : Unit := ()
def main.tw7828199335439531826 : Unit := ()
def main.tw18395943939669218033 : Unit := ()
def main.tw17760185653835241220 : Unit := ()
def main.tw10861254023225830624 : Unit := ()
def main.tw17286089631180046979 : Unit := ()
def main.tw16138396744621940715 : Unit := ()
def main.tw1414890596213149585 : Unit := ()
def main.tw7008153826215325649 : Unit := ()
def main.tw14221348316032609933 : Unit := ()
def main.tw17336282652733537790 : Unit := ()
def main.tw2729793432009153956 : Unit := ()
def main.tw2759098988195820126 : Unit := ()
def main.tw9986019674649008433 : Unit := ()
def main.tw3562595001068472590 : Unit := ()
def main.tw7761410557224570781 : Unit := ()
def main.tw17715262827843222689 : Unit := ()
def main.tw7268301785047649679 : Unit := ()
def main.tw17052023290607921161 : Unit := ()
def main.tw15467891735981029475 : Unit := ()
def main.tw10363585996791799541 : Unit := ()
def main.tw2724176850512262202 : Unit := ()
def main.tw16629339528299215175 : Unit := ()
def main.tw17725498274588495791 : Unit := ()
def main.tw13355152605343272895 : Unit := ()
def main.tw14439473939278146460 : Unit := ()
def main.tw12590340796369385619 : Unit := ()
def main.tw18284262389922463811 : Unit := ()
def main.tw17272174723667511238 : Unit := ()
def main.tw5240536507193477226 : Unit := ()
def main.tw2524017781993486291 : Unit := ()
def main.tw6511744376749373798 : Unit := ()
def main.tw18431692314602308842 : Unit := ()
def main.tw10896356407431480244 : Unit := ()
def main.tw5613160597433933154 : Unit := ()
def main.tw15131278010643852716 : Unit := ()
def main.tw750237026923860459 : Unit := ()
def main.tw6912675738884088206 : Unit := ()
def main.tw2354262462317623899 : Unit := ()
def main.tw2852251193174398662 : Unit := ()
def main.tw6877560268529008848 : Unit := ()
def main.tw16187894506366716058 : Unit := ()
def main.tw7436448052282571913 : Unit := ()
def main.tw18234761425742761375 : Unit := ()
def main.tw3532412968194664532 : Unit := ()
def main.tw3491332818749588091 : Unit := ()
def main.tw7293298908176781663 : Unit := ()
def main.tw10114013102757674387 : Unit := ()
def main.tw15803610866087392283 : Unit := ()
def main.tw12298629886278197574 : Unit := ()
def main.tw16054675910591980869 : Unit := ()
def main.tw13772215383292975044 : Unit := ()
def main.tw2629084897520917108 : Unit := ()
def main.tw15514936471743626214 : Unit := ()
def main.tw11785714552879321826 : Unit := ()
def main.tw9268297945177815525 : Unit := ()
def main.tw5084117380071580128 : Unit := ()
def main.tw16833934730148084282 : Unit := ()
def main.tw1120264589727278449 : Unit := ()
def main.tw970773181175786467 : Unit := ()
def main.tw66260789543402106 : Unit := ()
def main.tw9840939614602229412 : Unit := ()
def main.tw16008252555379753968 : Unit := ()
def main.tw18218335207050127959 : Unit := ()
def main.tw15017983477296125989 : Unit := ()
def main.tw14106445559736802775 : Unit := ()
def main.tw7380652910202371479 : Unit := ()
def main.tw14759895335926876869 : Unit := ()
def main.tw1886488596296156277 : Unit := ()
def main.tw12431561837914552411 : Unit := ()
def main.tw10234815189450012239 : Unit := ()
def main.tw9302470337196694018 : Unit := ()
def main.tw13777938177461255882 : Unit := ()
def main.tw16710147508514199302 : Unit := ()
def main.tw15595112118272840620 : Unit := ()
def main.tw979501456738626862 : Unit := ()
def main.tw18063282731904131703 : Unit := ()
def main.tw6696893160125735727 : Unit := ()
def main.tw18190005008629794160 : Unit := ()
def main.tw5127751686995613262 : Unit := ()
def main.tw9376575566392132001 : Unit := ()
def main.tw765107192605250810 : Unit := ()
def main.tw302440914744352476 : Unit := ()
def main.tw12077450504624328385 : Unit := ()
def main.tw4573282807186111410 : Unit := ()
def main.tw1363464937288350761 : Unit := ()
def main.tw15737690656516749961 : Unit := ()
def main.tw11181722664286889309 : Unit := ()
def main.tw65644731488775911 : Unit := ()
def main.tw13724616953566380437 : Unit := ()
def main.tw11815829001073249272 : Unit := ()
def main.tw16251939892948500945 : Unit := ()
def main.tw14161005256144132680 : Unit := ()
def main.tw4297412468100583042 : Unit := ()
def main.tw5649967823195072380 : Unit := ()
def main.tw10609540516017602915 : Unit := ()
def main.tw1920180009587919529 : Unit := ()
def main.tw1130211791997205004 : Unit := ()
def main.tw15554039934745177238 : Unit := ()
def main.tw8278394305814214361 : Unit := ()
set_option Elab.async true in
theorem main : PySem.Challenge.rw_in0073_01.Holds := by
  w_on
  o_law
  k_head
  case hw => w_witness2
  refine Eq.mpr (β := WalkLaw) ?same tt
  kernel_rfl!
end Mine
theorem PySem.Challenge.cw_in0073_01_holds : PySem.Challenge.rw_in0073_01.Holds := by
  exact Mine.main
