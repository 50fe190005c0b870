import PyProof.Rows.All
import Wide.All
import OpenK.AllK
import Wide.FinOn
import KE.LcTurns
import KE.KLcTest
import PySem.Challenge.RW_in0213_01
set_option Elab.async false
set_option pp.maxSteps 6000
set_option pp.deepTerms false
section
open PySem PySem.W PyProof.Rows
set_option maxRecDepth 100000
namespace Mine
/-- a statement of the text, by its place -/
noncomputable def stT (i : Nat) : Stmt := PySem.Challenge.pw_in0213_01.main.body.getD i (.Pass ⟨0, 0, 0, 0⟩)
/-- a statement of the class's body -/
noncomputable def stC (i : Nat) : Stmt := match stT 3 with
  | .ClassDef _ _ _ b _ _ _ _ _ _ _ => b.getD i (.Pass ⟨0, 0, 0, 0⟩)
  | _ => .Pass ⟨0, 0, 0, 0⟩
/-- the function that a def makes -/
noncomputable def fO (s : Stmt) (q m : String) (t c : Nat) : Obj := match s with
  | .FunctionDef n a b _ _ _ sc _ _ _ => { cls := .type "function", data := .func { name := n, qualname := Str.ofString q, params := a, body := .stmts b, scope := sc, globals := 3, closure := [], defaults := .none, kwdefaults := .none, pyModule := .str (Str.ofString m) t, code := .ref c } }
  | _ => { cls := .none, data := .cell none }
noncomputable def o38 : Obj := by
  refine (?g : fO (stT 1) "_wall" "__main__" 164 37 = ?o → Obj) ?h
  case h => (conv => lhs; whnf)
  case g => exact fun _ => ?o
noncomputable def o52 : Obj := by
  refine (?g : fO (stC 0) "_netrclex.__init__" "cpy313.netrc" 289 51 = ?o → Obj) ?h
  case h => (conv => lhs; whnf)
  case g => exact fun _ => ?o
noncomputable def o59 : Obj := by
  refine (?g : fO (stC 1) "_netrclex._read_char" "cpy313.netrc" 289 58 = ?o → Obj) ?h
  case h => (conv => lhs; whnf)
  case g => exact fun _ => ?o
noncomputable def o66 : Obj := by
  refine (?g : fO (stC 2) "_netrclex.get_token" "cpy313.netrc" 289 65 = ?o → Obj) ?h
  case h => (conv => lhs; whnf)
  case g => exact fun _ => ?o
noncomputable def o73 : Obj := by
  refine (?g : fO (stC 3) "_netrclex.push_token" "cpy313.netrc" 289 72 = ?o → Obj) ?h
  case h => (conv => lhs; whnf)
  case g => exact fun _ => ?o
noncomputable def o97 : Obj := by
  refine (?g : fO (stT 7) "escape" "re" 387 96 = ?o → Obj) ?h
  case h => (conv => lhs; whnf)
  case g => exact fun _ => ?o
noncomputable def o104 : Obj := by
  refine (?g : fO (stT 9) "_translate" "cpy313.fnmatch" 542 103 = ?o → Obj) ?h
  case h => (conv => lhs; whnf)
  case g => exact fun _ => ?o
noncomputable def o111 : Obj := by
  refine (?g : fO (stT 11) "unorderable_list_difference" "cpy313.unittest.util" 563 110 = ?o → Obj) ?h
  case h => (conv => lhs; whnf)
  case g => exact fun _ => ?o
noncomputable def o118 : Obj := by
  refine (?g : fO (stT 13) "_law_stream" "law_in0213_01" 575 117 = ?o → Obj) ?h
  case h => (conv => lhs; whnf)
  case g => exact fun _ => ?o
noncomputable def o125 : Obj := by
  refine (?g : fO (stT 14) "_law_word" "law_in0213_01" 575 124 = ?o → Obj) ?h
  case h => (conv => lhs; whnf)
  case g => exact fun _ => ?o
noncomputable def o130 : Obj := by
  refine (?g : fO (stT 15) "_law_written" "law_in0213_01" 575 129 = ?o → Obj) ?h
  case h => (conv => lhs; whnf)
  case g => exact fun _ => ?o
noncomputable def o135 : Obj := by
  refine (?g : fO (stT 16) "_law_takes" "law_in0213_01" 575 134 = ?o → Obj) ?h
  case h => (conv => lhs; whnf)
  case g => exact fun _ => ?o
noncomputable def o140 : Obj := by
  refine (?g : fO (stT 17) "_law_fits" "law_in0213_01" 575 139 = ?o → Obj) ?h
  case h => (conv => lhs; whnf)
  case g => exact fun _ => ?o
noncomputable def o145 : Obj := by
  refine (?g : fO (stT 18) "_law_read" "law_in0213_01" 575 144 = ?o → Obj) ?h
  case h => (conv => lhs; whnf)
  case g => exact fun _ => ?o
noncomputable def o150 : Obj := by
  refine (?g : fO (stT 19) "_law_told" "law_in0213_01" 575 149 = ?o → Obj) ?h
  case h => (conv => lhs; whnf)
  case g => exact fun _ => ?o
noncomputable def o155 : Obj := by
  refine (?g : fO (stT 20) "_law_more" "law_in0213_01" 575 154 = ?o → Obj) ?h
  case h => (conv => lhs; whnf)
  case g => exact fun _ => ?o
noncomputable def o160 : Obj := by
  refine (?g : fO (stT 21) "_law_due" "law_in0213_01" 575 159 = ?o → Obj) ?h
  case h => (conv => lhs; whnf)
  case g => exact fun _ => ?o
noncomputable def o167 : Obj := by
  refine (?g : fO (stT 22) "law" "law_in0213_01" 575 166 = ?o → Obj) ?h
  case h => (conv => lhs; whnf)
  case g => exact fun _ => ?o
/-- the part of the heap that the top leaves -/
noncomputable def K0 : Params → Frag := fun P => ((nat_lit 2, { cls := Value.none, data := Data.dict #[{ hash := PyData.keyHash P (Str.ofString "\x69mport.loaded._sre"), key := Value.str (Str.ofString "\x69mport.loaded._sre") 183, val := Value.bool Bool.true }, { hash := PyData.keyHash P (Str.ofString "class._frozen_\x69mportlib.BuiltinImporter"), key := Value.str (Str.ofString "class._frozen_\x69mportlib.BuiltinImporter") 185, val := Value.ref 14 }, { hash := PyData.keyHash P (Str.ofString "watched.\x69mport"), key := Value.str (Str.ofString "watched.\x69mport") 206, val := Value.ref 18 }, { hash := PyData.keyHash P (Str.ofString "class._frozen_\x69mportlib.ModuleSpec"), key := Value.str (Str.ofString "class._frozen_\x69mportlib.ModuleSpec") 216, val := Value.ref 22 }, { hash := PyData.keyHash P (Str.ofString "sys.modules.booked-epoch"), key := Value.str (Str.ofString "sys.modules.booked-epoch") 245, val := Value.int 3 0 }, { hash := PyData.keyHash P (Str.ofString "\x69mport.later-laid._sre"), key := Value.str (Str.ofString "\x69mport.later-laid._sre") 270, val := Value.bool Bool.true }, { hash := PyData.keyHash P (Str.ofString "watched.library"), key := Value.str (Str.ofString "watched.library") 272, val := Value.ref 27 }, { hash := PyData.keyHash P (Str.ofString "watched.library-objects"), key := Value.str (Str.ofString "watched.library-objects") 0, val := Value.str (Str.ofString "\x0c") 0 }, { hash := PyData.keyHash P (Str.ofString "watched.library-deep._sre"), key := Value.str (Str.ofString "watched.library-deep._sre") 273, val := Value.str (Str.ofString "\x04\x00\x00\x0b\x04\x00\x00\x0b\x04\x00\x00\x03\x04\x00\x00\x0b\x08\x04dict\x02") 0 }] 9 }) ::
   (nat_lit 3, { cls := Value.type "dict", data := Data.dict #[{ hash := PyData.keyHash P (Str.ofString "__name__"), key := Value.str (Str.ofString "__name__") 165, val := Value.str (Str.ofString "law_in0213_01") 575 }, { hash := PyData.keyHash P (Str.ofString "__doc__"), key := Value.str (Str.ofString "__doc__") 166, val := Value.none }, { hash := PyData.keyHash P (Str.ofString "__package__"), key := Value.str (Str.ofString "__package__") 167, val := Value.none }, { hash := PyData.keyHash P (Str.ofString "__loader__"), key := Value.str (Str.ofString "__loader__") 168, val := Value.builtin "__main__.__loader__#opaque" }, { hash := PyData.keyHash P (Str.ofString "__spec__"), key := Value.str (Str.ofString "__spec__") 169, val := Value.none }, { hash := PyData.keyHash P (Str.ofString "__annotations__"), key := Value.str (Str.ofString "__annotations__") 170, val := Value.ref 6 }, { hash := PyData.keyHash P (Str.ofString "__builtins__"), key := Value.str (Str.ofString "__builtins__") 171, val := Value.ref 4 }, { hash := PyData.keyHash P (Str.ofString "__file__"), key := Value.str (Str.ofString "__file__") 173, val := Value.str (Str.ofString "/claim/cut.py") 172 }, { hash := PyData.keyHash P (Str.ofString "__cached__"), key := Value.str (Str.ofString "__cached__") 174, val := Value.none }, { hash := PyData.keyHash P (Str.ofString "_sre"), key := Value.str (Str.ofString "_sre") 275, val := Value.ref 12 }, { hash := PyData.keyHash P (Str.ofString "_wall"), key := Value.str (Str.ofString "_wall") 288, val := Value.ref 38 }, { hash := PyData.keyHash P (Str.ofString "_netrclex"), key := Value.str (Str.ofString "_netrclex") 348, val := Value.ref 76 }, { hash := PyData.keyHash P (Str.ofString "_twin_re_1"), key := Value.str (Str.ofString "_twin_re_1") 386, val := Value.ref 85 }, { hash := PyData.keyHash P (Str.ofString "_special_chars_map"), key := Value.str (Str.ofString "_special_chars_map") 534, val := Value.ref 87 }, { hash := PyData.keyHash P (Str.ofString "escape"), key := Value.str (Str.ofString "escape") 541, val := Value.ref 97 }, { hash := PyData.keyHash P (Str.ofString "_translate"), key := Value.str (Str.ofString "_translate") 562, val := Value.ref 104 }, { hash := PyData.keyHash P (Str.ofString "unorderable_list_difference"), key := Value.str (Str.ofString "unorderable_list_difference") 574, val := Value.ref 111 }, { hash := PyData.keyHash P (Str.ofString "_law_stream"), key := Value.str (Str.ofString "_law_stream") 585, val := Value.ref 118 }, { hash := PyData.keyHash P (Str.ofString "_law_word"), key := Value.str (Str.ofString "_law_word") 593, val := Value.ref 125 }, { hash := PyData.keyHash P (Str.ofString "_law_written"), key := Value.str (Str.ofString "_law_written") 599, val := Value.ref 130 }, { hash := PyData.keyHash P (Str.ofString "_law_takes"), key := Value.str (Str.ofString "_law_takes") 605, val := Value.ref 135 }, { hash := PyData.keyHash P (Str.ofString "_law_fits"), key := Value.str (Str.ofString "_law_fits") 611, val := Value.ref 140 }, { hash := PyData.keyHash P (Str.ofString "_law_read"), key := Value.str (Str.ofString "_law_read") 617, val := Value.ref 145 }, { hash := PyData.keyHash P (Str.ofString "_law_told"), key := Value.str (Str.ofString "_law_told") 623, val := Value.ref 150 }, { hash := PyData.keyHash P (Str.ofString "_law_more"), key := Value.str (Str.ofString "_law_more") 629, val := Value.ref 155 }, { hash := PyData.keyHash P (Str.ofString "_law_due"), key := Value.str (Str.ofString "_law_due") 635, val := Value.ref 160 }, { hash := PyData.keyHash P (Str.ofString "law"), key := Value.str (Str.ofString "law") 646, val := Value.ref 167 }] 27 }) ::
   (nat_lit 32, { cls := Value.type "tuple", data := Data.seq #[] }) ::
   (nat_lit 34, { cls := Value.type "tuple", data := Data.seq #[Value.str (Str.ofString "k") 285] }) ::
   (nat_lit 35, { cls := Value.type "tuple", data := Data.seq #[] }) ::
   (nat_lit 37, { cls := Value.type "code", data := Data.fields #[Value.str (Str.ofString "_wall") 282, Value.str (Str.ofString "_wall") 283, Value.str (Str.ofString "/claim/cut.py") 284, Value.int 2 0, Value.int 1 0, Value.int 0 0, Value.int 0 0, Value.int 3 0, Value.ref 32, Value.bool Bool.true, Value.int 276 0, Value.ref 33, Value.none, Value.ref 34, Value.ref 35, Value.ref 36, Value.int 286 0, Value.int 2 0, Value.str (Str.ofString "/claim/cut.py") 287] }) ::
   (nat_lit 38, o38) ::
   (nat_lit 46, { cls := Value.type "tuple", data := Data.seq #[] }) ::
   (nat_lit 48, { cls := Value.type "tuple", data := Data.seq #[Value.str (Str.ofString "self") 306, Value.str (Str.ofString "fp") 307] }) ::
   (nat_lit 49, { cls := Value.type "tuple", data := Data.seq #[] }) ::
   (nat_lit 51, { cls := Value.type "code", data := Data.fields #[Value.str (Str.ofString "__init__") 303, Value.str (Str.ofString "_netrclex.__init__") 304, Value.str (Str.ofString "/claim/cut.py") 305, Value.int 8 0, Value.int 2 0, Value.int 0 0, Value.int 0 0, Value.int 3 0, Value.ref 46, Value.bool Bool.true, Value.int 276 0, Value.ref 47, Value.none, Value.ref 48, Value.ref 49, Value.ref 50, Value.int 308 0, Value.int 8 0, Value.str (Str.ofString "/claim/cut.py") 309] }) ::
   (nat_lit 52, o52) ::
   (nat_lit 53, { cls := Value.type "tuple", data := Data.seq #[] }) ::
   (nat_lit 55, { cls := Value.type "tuple", data := Data.seq #[Value.str (Str.ofString "self") 314, Value.str (Str.ofString "ch") 315] }) ::
   (nat_lit 56, { cls := Value.type "tuple", data := Data.seq #[] }) ::
   (nat_lit 58, { cls := Value.type "code", data := Data.fields #[Value.str (Str.ofString "_read_char") 311, Value.str (Str.ofString "_netrclex._read_char") 312, Value.str (Str.ofString "/claim/cut.py") 313, Value.int 14 0, Value.int 1 0, Value.int 0 0, Value.int 0 0, Value.int 3 0, Value.ref 53, Value.bool Bool.true, Value.int 276 0, Value.ref 54, Value.none, Value.ref 55, Value.ref 56, Value.ref 57, Value.int 316 0, Value.int 14 0, Value.str (Str.ofString "/claim/cut.py") 317] }) ::
   (nat_lit 59, o59) ::
   (nat_lit 60, { cls := Value.type "tuple", data := Data.seq #[] }) ::
   (nat_lit 62, { cls := Value.type "tuple", data := Data.seq #[Value.str (Str.ofString "self") 322, Value.str (Str.ofString "token") 323, Value.str (Str.ofString "fiter") 324, Value.str (Str.ofString "ch") 325] }) ::
   (nat_lit 63, { cls := Value.type "tuple", data := Data.seq #[] }) ::
   (nat_lit 65, { cls := Value.type "code", data := Data.fields #[Value.str (Str.ofString "get_token") 319, Value.str (Str.ofString "_netrclex.get_token") 320, Value.str (Str.ofString "/claim/cut.py") 321, Value.int 20 0, Value.int 1 0, Value.int 0 0, Value.int 0 0, Value.int 3 0, Value.ref 60, Value.bool Bool.true, Value.int 276 0, Value.ref 61, Value.none, Value.ref 62, Value.ref 63, Value.ref 64, Value.int 326 0, Value.int 20 0, Value.str (Str.ofString "/claim/cut.py") 327] }) ::
   (nat_lit 66, o66) ::
   (nat_lit 67, { cls := Value.type "tuple", data := Data.seq #[] }) ::
   (nat_lit 69, { cls := Value.type "tuple", data := Data.seq #[Value.str (Str.ofString "self") 332, Value.str (Str.ofString "token") 333] }) ::
   (nat_lit 70, { cls := Value.type "tuple", data := Data.seq #[] }) ::
   (nat_lit 72, { cls := Value.type "code", data := Data.fields #[Value.str (Str.ofString "push_token") 329, Value.str (Str.ofString "_netrclex.push_token") 330, Value.str (Str.ofString "/claim/cut.py") 331, Value.int 47 0, Value.int 2 0, Value.int 0 0, Value.int 0 0, Value.int 3 0, Value.ref 67, Value.bool Bool.true, Value.int 276 0, Value.ref 68, Value.none, Value.ref 69, Value.ref 70, Value.ref 71, Value.int 334 0, Value.int 47 0, Value.str (Str.ofString "/claim/cut.py") 335] }) ::
   (nat_lit 73, o73) ::
   (nat_lit 74, { cls := Value.type "tuple", data := Data.seq #[Value.str (Str.ofString "instream") 337, Value.str (Str.ofString "lineno") 338, Value.str (Str.ofString "pushback") 339, Value.str (Str.ofString "whitespace") 340] }) ::
   (nat_lit 75, { cls := Value.type "dict", data := Data.dict #[{ hash := PyData.keyHash P (Str.ofString "__module__"), key := Value.str (Str.ofString "__module__") 298, val := Value.str (Str.ofString "cpy313.netrc") 289 }, { hash := PyData.keyHash P (Str.ofString "__firstlineno__"), key := Value.str (Str.ofString "__firstlineno__") 302, val := Value.int 6 301 }, { hash := PyData.keyHash P (Str.ofString "__init__"), key := Value.str (Str.ofString "__init__") 310, val := Value.ref 52 }, { hash := PyData.keyHash P (Str.ofString "_read_char"), key := Value.str (Str.ofString "_read_char") 318, val := Value.ref 59 }, { hash := PyData.keyHash P (Str.ofString "get_token"), key := Value.str (Str.ofString "get_token") 328, val := Value.ref 66 }, { hash := PyData.keyHash P (Str.ofString "push_token"), key := Value.str (Str.ofString "push_token") 336, val := Value.ref 73 }, { hash := PyData.keyHash P (Str.ofString "__static_attributes__"), key := Value.str (Str.ofString "__static_attributes__") 341, val := Value.ref 74 }, { hash := PyData.keyHash P (Str.ofString "__dict__"), key := Value.str (Str.ofString "__dict__") 343, val := Value.ref 77 }, { hash := PyData.keyHash P (Str.ofString "__weakref__"), key := Value.str (Str.ofString "__weakref__") 345, val := Value.ref 78 }, { hash := PyData.keyHash P (Str.ofString "__doc__"), key := Value.str (Str.ofString "__doc__") 346, val := Value.none }] 4 }) ::
   (nat_lit 76, { cls := Value.type "type", data := Data.cls { name := Str.ofString "_netrclex", bases := [Value.type "object"], mro := [Value.ref 76, Value.type "object"], ns := 75, qualname := Str.ofString "_netrclex" }, slots := #[Option.none, Option.none, Option.some (Value.str (Str.ofString "_netrclex") 291), Option.some (Value.str (Str.ofString "_netrclex") 299), Option.some (Value.builtin "object.__new__"), Option.some (Value.bool Bool.true)] }) ::
   (nat_lit 77, { cls := Value.type "getset_descriptor", data := Data.fields #[Value.str (Str.ofString "__dict__") 342, Value.ref 76, Value.builtin "function.__dict__", Value.builtin "function.__dict__#set"] }) ::
   (nat_lit 78, { cls := Value.type "getset_descriptor", data := Data.fields #[Value.str (Str.ofString "__weakref__") 344, Value.ref 76, Value.builtin "ExceptionGroup.__weakref__", Value.none] }) ::
   (nat_lit 84, { cls := Value.type "tuple", data := Data.seq #[Value.int 14 0, Value.int 14 0, Value.int 4 0, Value.int 1 0, Value.int 1 0, Value.int 9 0, Value.int 0 0, Value.int 64 0, Value.int 0 0, Value.int 1342177280 0, Value.int 0 0, Value.int 0 0, Value.int 0 0, Value.int 0 0, Value.int 0 0, Value.int 17 0, Value.int 0 0, Value.int 13 0, Value.int 11 0, Value.int 9 0, Value.int 0 0, Value.int 64 0, Value.int 0 0, Value.int 1342177280 0, Value.int 0 0, Value.int 0 0, Value.int 0 0, Value.int 0 0, Value.int 0 0, Value.int 17 0, Value.int 1 0, Value.int 1 0] }) ::
   (nat_lit 85, { cls := Value.type "re.Pattern", data := Data.fields #[Value.str (Str.ofString "([&~|])") 350, Value.int 32 385, Value.int 1 0, Value.none, Value.none, Value.ref 84, Value.int 0 0] }) ::
   (nat_lit 87, { cls := Value.type "dict", data := Data.dict #[{ hash := 40, key := Value.int 40 390, val := Value.str (Str.ofString "\\(") 394 }, { hash := 41, key := Value.int 41 396, val := Value.str (Str.ofString "\\)") 400 }, { hash := 91, key := Value.int 91 402, val := Value.str (Str.ofString "\\[") 406 }, { hash := 93, key := Value.int 93 408, val := Value.str (Str.ofString "\\]") 412 }, { hash := 123, key := Value.int 123 414, val := Value.str (Str.ofString "\\{") 418 }, { hash := 125, key := Value.int 125 420, val := Value.str (Str.ofString "\\}") 424 }, { hash := 63, key := Value.int 63 426, val := Value.str (Str.ofString "\\?") 430 }, { hash := 42, key := Value.int 42 432, val := Value.str (Str.ofString "\\*") 436 }, { hash := 43, key := Value.int 43 438, val := Value.str (Str.ofString "\\+") 442 }, { hash := 45, key := Value.int 45 444, val := Value.str (Str.ofString "\\-") 448 }, { hash := 124, key := Value.int 124 450, val := Value.str (Str.ofString "\\|") 454 }, { hash := 94, key := Value.int 94 456, val := Value.str (Str.ofString "\\^") 460 }, { hash := 36, key := Value.int 36 462, val := Value.str (Str.ofString "\\$") 466 }, { hash := 92, key := Value.int 92 468, val := Value.str (Str.ofString "\\\\") 472 }, { hash := 46, key := Value.int 46 474, val := Value.str (Str.ofString "\\.") 478 }, { hash := 38, key := Value.int 38 480, val := Value.str (Str.ofString "\\&") 484 }, { hash := 126, key := Value.int 126 486, val := Value.str (Str.ofString "\\~") 490 }, { hash := 35, key := Value.int 35 492, val := Value.str (Str.ofString "\\#") 496 }, { hash := 32, key := Value.int 32 498, val := Value.str (Str.ofString "\\ ") 502 }, { hash := 9, key := Value.int 9 504, val := Value.str (Str.ofString "\\\t") 508 }, { hash := 10, key := Value.int 10 510, val := Value.str (Str.ofString "\\\n") 514 }, { hash := 13, key := Value.int 13 516, val := Value.str (Str.ofString "\\\x0d") 520 }, { hash := 11, key := Value.int 11 522, val := Value.str (Str.ofString "\\\x0b") 526 }, { hash := 12, key := Value.int 12 528, val := Value.str (Str.ofString "\\\x0c") 532 }] 24 }) ::
   (nat_lit 91, { cls := Value.type "tuple", data := Data.seq #[] }) ::
   (nat_lit 93, { cls := Value.type "tuple", data := Data.seq #[Value.str (Str.ofString "pattern") 538] }) ::
   (nat_lit 94, { cls := Value.type "tuple", data := Data.seq #[] }) ::
   (nat_lit 96, { cls := Value.type "code", data := Data.fields #[Value.str (Str.ofString "escape") 535, Value.str (Str.ofString "escape") 536, Value.str (Str.ofString "/claim/cut.py") 537, Value.int 52 0, Value.int 1 0, Value.int 0 0, Value.int 0 0, Value.int 3 0, Value.ref 91, Value.bool Bool.true, Value.int 276 0, Value.ref 92, Value.none, Value.ref 93, Value.ref 94, Value.ref 95, Value.int 539 0, Value.int 52 0, Value.str (Str.ofString "/claim/cut.py") 540] }) ::
   (nat_lit 97, o97) ::
   (nat_lit 98, { cls := Value.type "tuple", data := Data.seq #[] }) ::
   (nat_lit 100, { cls := Value.type "tuple", data := Data.seq #[Value.str (Str.ofString "pat") 547, Value.str (Str.ofString "STAR") 548, Value.str (Str.ofString "QUESTION_MARK") 549, Value.str (Str.ofString "res") 550, Value.str (Str.ofString "add") 551, Value.str (Str.ofString "i") 552, Value.str (Str.ofString "n") 553, Value.str (Str.ofString "c") 554, Value.str (Str.ofString "j") 555, Value.str (Str.ofString "stuff") 556, Value.str (Str.ofString "chunks") 557, Value.str (Str.ofString "k") 558, Value.str (Str.ofString "chunk") 559] }) ::
   (nat_lit 101, { cls := Value.type "tuple", data := Data.seq #[] }) ::
   (nat_lit 103, { cls := Value.type "code", data := Data.fields #[Value.str (Str.ofString "_translate") 544, Value.str (Str.ofString "_translate") 545, Value.str (Str.ofString "/claim/cut.py") 546, Value.int 59 0, Value.int 3 0, Value.int 0 0, Value.int 0 0, Value.int 3 0, Value.ref 98, Value.bool Bool.true, Value.int 276 0, Value.ref 99, Value.none, Value.ref 100, Value.ref 101, Value.ref 102, Value.int 560 0, Value.int 59 0, Value.str (Str.ofString "/claim/cut.py") 561] }) ::
   (nat_lit 104, o104) ::
   (nat_lit 105, { cls := Value.type "tuple", data := Data.seq #[] }) ::
   (nat_lit 107, { cls := Value.type "tuple", data := Data.seq #[Value.str (Str.ofString "expected") 568, Value.str (Str.ofString "actual") 569, Value.str (Str.ofString "missing") 570, Value.str (Str.ofString "item") 571] }) ::
   (nat_lit 108, { cls := Value.type "tuple", data := Data.seq #[] }) ::
   (nat_lit 110, { cls := Value.type "code", data := Data.fields #[Value.str (Str.ofString "unorderable_list_difference") 565, Value.str (Str.ofString "unorderable_list_difference") 566, Value.str (Str.ofString "/claim/cut.py") 567, Value.int 122 0, Value.int 2 0, Value.int 0 0, Value.int 0 0, Value.int 3 0, Value.ref 105, Value.bool Bool.true, Value.int 276 0, Value.ref 106, Value.none, Value.ref 107, Value.ref 108, Value.ref 109, Value.int 572 0, Value.int 122 0, Value.str (Str.ofString "/claim/cut.py") 573] }) ::
   (nat_lit 111, o111) ::
   (nat_lit 112, { cls := Value.type "tuple", data := Data.seq #[] }) ::
   (nat_lit 114, { cls := Value.type "tuple", data := Data.seq #[Value.str (Str.ofString "text") 580, Value.str (Str.ofString "stream") 581] }) ::
   (nat_lit 115, { cls := Value.type "tuple", data := Data.seq #[Value.str (Str.ofString "left") 582] }) ::
   (nat_lit 117, { cls := Value.type "code", data := Data.fields #[Value.str (Str.ofString "_law_stream") 577, Value.str (Str.ofString "_law_stream") 578, Value.str (Str.ofString "/claim/cut.py") 579, Value.int 132 0, Value.int 1 0, Value.int 0 0, Value.int 0 0, Value.int 3 0, Value.ref 112, Value.bool Bool.true, Value.int 276 0, Value.ref 113, Value.none, Value.ref 114, Value.ref 115, Value.ref 116, Value.int 583 0, Value.int 132 0, Value.str (Str.ofString "/claim/cut.py") 584] }) ::
   (nat_lit 118, o118) ::
   (nat_lit 119, { cls := Value.type "tuple", data := Data.seq #[] }) ::
   (nat_lit 121, { cls := Value.type "tuple", data := Data.seq #[Value.str (Str.ofString "n") 589, Value.str (Str.ofString "signs") 590] }) ::
   (nat_lit 122, { cls := Value.type "tuple", data := Data.seq #[] }) ::
   (nat_lit 124, { cls := Value.type "code", data := Data.fields #[Value.str (Str.ofString "_law_word") 586, Value.str (Str.ofString "_law_word") 587, Value.str (Str.ofString "/claim/cut.py") 588, Value.int 137 0, Value.int 1 0, Value.int 0 0, Value.int 0 0, Value.int 3 0, Value.ref 119, Value.bool Bool.true, Value.int 276 0, Value.ref 120, Value.none, Value.ref 121, Value.ref 122, Value.ref 123, Value.int 591 0, Value.int 137 0, Value.str (Str.ofString "/claim/cut.py") 592] }) ::
   (nat_lit 125, o125) ::
   (nat_lit 126, { cls := Value.type "tuple", data := Data.seq #[] }) ::
   (nat_lit 129, { cls := Value.type "code", data := Data.fields #[Value.str (Str.ofString "_law_written") 594, Value.str (Str.ofString "_law_written") 595, Value.str (Str.ofString "/claim/cut.py") 596, Value.int 140 0, Value.int 1 0, Value.int 0 0, Value.int 0 0, Value.int 3 0, Value.ref 126, Value.bool Bool.true, Value.int 276 0, Value.ref 127, Value.none, Value.none, Value.none, Value.ref 128, Value.int 597 0, Value.int 140 0, Value.str (Str.ofString "/claim/cut.py") 598] }) ::
   (nat_lit 130, o130) ::
   (nat_lit 131, { cls := Value.type "tuple", data := Data.seq #[] }) ::
   (nat_lit 134, { cls := Value.type "code", data := Data.fields #[Value.str (Str.ofString "_law_takes") 600, Value.str (Str.ofString "_law_takes") 601, Value.str (Str.ofString "/claim/cut.py") 602, Value.int 149 0, Value.int 2 0, Value.int 0 0, Value.int 0 0, Value.int 3 0, Value.ref 131, Value.bool Bool.true, Value.int 276 0, Value.ref 132, Value.none, Value.none, Value.none, Value.ref 133, Value.int 603 0, Value.int 149 0, Value.str (Str.ofString "/claim/cut.py") 604] }) ::
   (nat_lit 135, o135) ::
   (nat_lit 136, { cls := Value.type "tuple", data := Data.seq #[] }) ::
   (nat_lit 139, { cls := Value.type "code", data := Data.fields #[Value.str (Str.ofString "_law_fits") 606, Value.str (Str.ofString "_law_fits") 607, Value.str (Str.ofString "/claim/cut.py") 608, Value.int 161 0, Value.int 2 0, Value.int 0 0, Value.int 0 0, Value.int 3 0, Value.ref 136, Value.bool Bool.true, Value.int 276 0, Value.ref 137, Value.none, Value.none, Value.none, Value.ref 138, Value.int 609 0, Value.int 161 0, Value.str (Str.ofString "/claim/cut.py") 610] }) ::
   (nat_lit 140, o140) ::
   (nat_lit 141, { cls := Value.type "tuple", data := Data.seq #[] }) ::
   (nat_lit 144, { cls := Value.type "code", data := Data.fields #[Value.str (Str.ofString "_law_read") 612, Value.str (Str.ofString "_law_read") 613, Value.str (Str.ofString "/claim/cut.py") 614, Value.int 167 0, Value.int 2 0, Value.int 0 0, Value.int 0 0, Value.int 3 0, Value.ref 141, Value.bool Bool.true, Value.int 276 0, Value.ref 142, Value.none, Value.none, Value.none, Value.ref 143, Value.int 615 0, Value.int 167 0, Value.str (Str.ofString "/claim/cut.py") 616] }) ::
   (nat_lit 145, o145) ::
   (nat_lit 146, { cls := Value.type "tuple", data := Data.seq #[] }) ::
   (nat_lit 149, { cls := Value.type "code", data := Data.fields #[Value.str (Str.ofString "_law_told") 618, Value.str (Str.ofString "_law_told") 619, Value.str (Str.ofString "/claim/cut.py") 620, Value.int 170 0, Value.int 2 0, Value.int 0 0, Value.int 0 0, Value.int 3 0, Value.ref 146, Value.bool Bool.true, Value.int 276 0, Value.ref 147, Value.none, Value.none, Value.none, Value.ref 148, Value.int 621 0, Value.int 170 0, Value.str (Str.ofString "/claim/cut.py") 622] }) ::
   (nat_lit 150, o150) ::
   (nat_lit 151, { cls := Value.type "tuple", data := Data.seq #[] }) ::
   (nat_lit 154, { cls := Value.type "code", data := Data.fields #[Value.str (Str.ofString "_law_more") 624, Value.str (Str.ofString "_law_more") 625, Value.str (Str.ofString "/claim/cut.py") 626, Value.int 178 0, Value.int 2 0, Value.int 0 0, Value.int 0 0, Value.int 3 0, Value.ref 151, Value.bool Bool.true, Value.int 276 0, Value.ref 152, Value.none, Value.none, Value.none, Value.ref 153, Value.int 627 0, Value.int 178 0, Value.str (Str.ofString "/claim/cut.py") 628] }) ::
   (nat_lit 155, o155) ::
   (nat_lit 156, { cls := Value.type "tuple", data := Data.seq #[] }) ::
   (nat_lit 159, { cls := Value.type "code", data := Data.fields #[Value.str (Str.ofString "_law_due") 630, Value.str (Str.ofString "_law_due") 631, Value.str (Str.ofString "/claim/cut.py") 632, Value.int 180 0, Value.int 2 0, Value.int 0 0, Value.int 0 0, Value.int 3 0, Value.ref 156, Value.bool Bool.true, Value.int 276 0, Value.ref 157, Value.none, Value.none, Value.none, Value.ref 158, Value.int 633 0, Value.int 180 0, Value.str (Str.ofString "/claim/cut.py") 634] }) ::
   (nat_lit 160, o160) ::
   (nat_lit 161, { cls := Value.type "tuple", data := Data.seq #[] }) ::
   (nat_lit 163, { cls := Value.type "tuple", data := Data.seq #[Value.str (Str.ofString "script") 639, Value.str (Str.ofString "patterns") 640, Value.str (Str.ofString "pattern") 641, Value.str (Str.ofString "items") 642, Value.str (Str.ofString "files") 643] }) ::
   (nat_lit 164, { cls := Value.type "tuple", data := Data.seq #[] }) ::
   (nat_lit 166, { cls := Value.type "code", data := Data.fields #[Value.str (Str.ofString "law") 636, Value.str (Str.ofString "law") 637, Value.str (Str.ofString "/claim/cut.py") 638, Value.int 189 0, Value.int 1 0, Value.int 0 0, Value.int 0 0, Value.int 3 0, Value.ref 161, Value.bool Bool.true, Value.int 276 0, Value.ref 162, Value.none, Value.ref 163, Value.ref 164, Value.ref 165, Value.int 644 0, Value.int 189 0, Value.str (Str.ofString "/claim/cut.py") 645] }) ::
   (nat_lit 167, o167) :: [] : List (Nat × Obj))
/-- the same, written out -/
noncomputable def K : Params → Frag := by
  refine (?g : K0 = ?k → Params → Frag) ?h
  case h => (conv => lhs; delta K0 o38 o52 o59 o66 o73 o97 o104 o111 o118 o125 o130 o135 o140 o145 o150 o155 o160 o167)
  case g => exact fun _ => ?k
end Mine
end
section
open PySem PySem.W PyProof.Rows
namespace Mine
theorem ln1 {u a b L : Nat} (h : u + a < L) (k : Nat.ble b a = true) : u + b < L := Nat.lt_of_le_of_lt (Nat.add_le_add_left (Nat.le_of_ble_eq_true k) u) h
theorem ln2 {u a b c L : Nat} (h : u + a < L) (k : Nat.ble (b + c) a = true) : u + b + c < L := by
  rw [Nat.add_assoc]
  exact ln1 h k
theorem ne_c1 {a b x : Nat} {P : Prop} (h : x < b ∧ P) (k : x < b ∧ P → a < b) : a ≠ b := Nat.ne_of_lt (k h)
theorem ne_c2 {a b x : Nat} {P : Prop} (h : x < b ∧ P) (k : x < b ∧ P → a < b) : b ≠ a := Nat.ne_of_gt (k h)
theorem ne_c3 {a b x : Nat} {P : Prop} (h : x < b ∧ P) (k : x < b ∧ P → a < b) : a ≠ b + 1 := Nat.ne_of_lt (Nat.lt_succ_of_lt (k h))
theorem ne_c4 {a b x : Nat} {P : Prop} (h : x < b ∧ P) (k : x < b ∧ P → a < b) : b + 1 ≠ a := Nat.ne_of_gt (Nat.lt_succ_of_lt (k h))
theorem ne_d1 {a b c x : Nat} {P : Prop} (h2 : b < c) (h : x < b ∧ P) (k : x < b ∧ P → a < b) : a ≠ c := Nat.ne_of_lt (Nat.lt_trans (k h) h2)
theorem ne_d2 {a b c x : Nat} {P : Prop} (h2 : b < c) (h : x < b ∧ P) (k : x < b ∧ P → a < b) : c ≠ a := Nat.ne_of_gt (Nat.lt_trans (k h) h2)
theorem ne_f1 {a b x : Nat} {P : Prop} (h : x < b ∧ P) (k : x < b ∧ P → a < b) : a ≠ b + 1 + 1 := Nat.ne_of_lt (Nat.lt_succ_of_lt (Nat.lt_succ_of_lt (k h)))
theorem ne_f2 {a b x : Nat} {P : Prop} (h : x < b ∧ P) (k : x < b ∧ P → a < b) : b + 1 + 1 ≠ a := Nat.ne_of_gt (Nat.lt_succ_of_lt (Nat.lt_succ_of_lt (k h)))
theorem lt_room {d n L : Nat} (h : d + n < L) : d < L := Nat.lt_of_le_of_lt (Nat.le_add_right d n) h
theorem two {i : Nat} (h : i < 2) : i = 0 ∨ i = 1 := by
  cases i with
  | zero => exact .inl rfl
  | succ i => cases i with
    | zero => exact .inr rfl
    | succ i => exact absurd h (Nat.not_lt.mpr (Nat.le_add_left 2 i))
theorem le_n {x a b : Nat} (h : x ≤ a) (k : Nat.ble a b = true) : x ≤ b := Nat.le_trans h (Nat.le_of_ble_eq_true k)
theorem q2 {p a b : Nat} (h : p < a) (k : a + 1 < b) : p ≠ b + 1 := Nat.ne_of_lt (Nat.lt_trans h (Nat.lt_succ_of_lt (Nat.lt_of_succ_lt k)))
abbrev Led := List (Addr × Obj)
/-- a place from which a def of the text may be called: the frame at L above h₀ -/
inductive Site (w : World) (dN uN : Nat) (A : Around) (h₀ : Heap) (L : Addr) : Prop
  | intro : ∀ (p : Program) (loose : List Str) (mean : ExcName → Option Value) (mg mb : Str → Option Value) (dp un : Nat) (gd : Option (List Code)) (cn : Str) (cs : Scope) (a : Addr) (ccd : Value) (cl : List (Str × Addr)) (outer : List Env) (A₀ : Around) (base : Heap), A = ktrTop dp un gd cn cs L a ccd cl outer → Below A₀ base outer h₀ → (Mine.K w.params).In h₀ → Top p loose mean mg mb h₀ → cs.kind = .function → dp + dN < recursionLimit → un + uN < cLine → Site w dN uN A h₀ L
theorem Site.mk {w : World} {dN uN : Nat} {h₀ : Heap} {L : Addr} {p : Program} {loose : List Str} {mean : ExcName → Option Value} {mg mb : Str → Option Value} {dp un : Nat} {gd : Option (List Code)} {cn : Str} {cs : Scope} {a : Addr} {ccd : Value} {cl : List (Str × Addr)} {outer : List Env} {A₀ : Around} {base : Heap}
    (B : Below A₀ base outer h₀) (X : (Mine.K w.params).In h₀) (T : Top p loose mean mg mb h₀) (hk : cs.kind = .function) (hd : dp + dN < recursionLimit) (hu : un + uN < cLine) :
    Site w dN uN (ktrTop dp un gd cn cs L a ccd cl outer) h₀ L := ⟨p, loose, mean, mg, mb, dp, un, gd, cn, cs, a, ccd, cl, outer, A₀, base, rfl, B, X, T, hk, hd, hu⟩
theorem Site.le {w : World} {dN uN dN' uN' : Nat} {A : Around} {h₀ : Heap} {L : Addr} (S : Site w dN uN A h₀ L) (h1 : dN' ≤ dN) (h2 : uN' ≤ uN) : Site w dN' uN' A h₀ L := by
  obtain ⟨p, loose, mean, mg, mb, dp, un, gd, cn, cs, a, ccd, cl, outer, A₀, base, rfl, B, X, T, hk, hd, hu⟩ := S
  exact .mk B X T hk (Nat.lt_of_le_of_lt (Nat.add_le_add_left h1 _) hd) (Nat.lt_of_le_of_lt (Nat.add_le_add_left h2 _) hu)
theorem Site.in1 {w : World} {dN uN : Nat} {A : Around} {h₀ : Heap} {L : Addr} (S : Site w dN (uN + 1) A h₀ L) : Site w dN uN A.in1 h₀ L := by
  obtain ⟨p, loose, mean, mg, mb, dp, un, gd, cn, cs, a, ccd, cl, outer, A₀, base, rfl, B, X, T, hk, hd, hu⟩ := S
  exact .mk (un := un + 1) B X T hk hd (by rw [Nat.add_assoc, Nat.add_comm 1]; exact hu)
theorem Site.handled {w : World} {dN uN : Nat} {A : Around} {h₀ : Heap} {L : Addr} (S : Site w dN uN A h₀ L) : A.handled = none := by
  obtain ⟨p, loose, mean, mg, mb, dp, un, gd, cn, cs, a, ccd, cl, outer, A₀, base, rfl, B, X, T, hk, hd, hu⟩ := S
  rfl
theorem Site.units {w : World} {dN uN : Nat} {A : Around} {h₀ : Heap} {L : Addr} (S : Site w dN uN A h₀ L) : A.units + uN < cLine := by
  obtain ⟨p, loose, mean, mg, mb, dp, un, gd, cn, cs, a, ccd, cl, outer, A₀, base, rfl, B, X, T, hk, hd, hu⟩ := S
  exact hu
theorem Site.part {w : World} {dN uN : Nat} {A : Around} {h₀ : Heap} {L : Addr} (S : Site w dN uN A h₀ L) : (Mine.K w.params).In h₀ := by
  obtain ⟨p, loose, mean, mg, mb, dp, un, gd, cn, cs, a, ccd, cl, outer, A₀, base, rfl, B, X, T, hk, hd, hu⟩ := S
  exact X
/-- what a call of the def at f does, told over the ledger -/
def Con (w : World) (f : Addr) (args : List Value) (led : Led) (dN uN : Nat) (P : Value → Led → Prop) : Prop :=
  ∀ (A : Around) (h₀ : Heap) (L : Addr) (m : Str → Option Value) (s : Shared) (R : Result → Shared → Prop),
    Site w dN uN A h₀ L → Fr h₀ L s.heap m → News h₀ L s.heap led →
    (∀ v led' h' tk', P v led' → Fr h₀ L h' m → News h₀ L h' led' → R (.ok (.ret v)) { s with heap := h', toks := tk' }) →
    codeAny (model PySem.Challenge.rw_in0213_01.row.prog w) A (.call (.ref f) ⟨args, []⟩) R s
theorem Con.call {w : World} {f : Addr} {args : List Value} {led : Led} {dN uN : Nat} {P : Value → Led → Prop} (c : Con w f args led dN uN P) {A : Around} {h₀ : Heap} {L : Addr} {m : Str → Option Value} {s : Shared} {Q E : Value → Shared → Prop}
    (S : Site w dN uN A h₀ L) (F : Fr h₀ L s.heap m) (N : News h₀ L s.heap led)
    (h : ∀ v led' h' tk', P v led' → Fr h₀ L h' m → News h₀ L h' led' → Q v { s with heap := h', toks := tk' }) :
    wpAny (model PySem.Challenge.rw_in0213_01.row.prog w) A (PySem.call (.ref f) args) Q E s := wpAny_call (c A h₀ L m s _ S F N h)
theorem news_of {h₀ h : Heap} {L : Addr} {l l' : Led} (N : News h₀ L h l) (hs : ∀ p ∈ l', p ∈ l) : News h₀ L h l' := fun p hp => N p (hs p hp)
theorem news_swap {h₀ h : Heap} {L : Addr} {a b : Addr × Obj} {l : Led} (N : News h₀ L h (a :: b :: l)) : News h₀ L h (b :: a :: l) := news_of N fun p hp => by
  simp only [List.mem_cons] at hp ⊢
  rcases hp with h | h | h
  · exact .inr (.inl h)
  · exact .inl h
  · exact .inr (.inr h)
theorem allLt_ne {d b : Nat} : ∀ {l : Led}, AllLt d l → @LE.le Nat _ d b → ∀ p ∈ l, p.1 ≠ b
  | [], _, _, _, hp => nomatch hp
  | q :: r, h, hb, p, hp => by
    rcases List.mem_cons.mp hp with rfl | hp
    · have h1 : p.1 < d := h.1
      intro e
      subst e
      exact absurd h1 (Nat.not_lt.mpr hb)
    · exact allLt_ne h.2 hb p hp
theorem tl_eq {b x : Nat} {l : Led} {P : Prop} (h : x < b ∧ P) (k : x < b ∧ P → AllLt b l) : ∀ p ∈ l, p.1 ≠ b := allLt_ne (k h) (Nat.le_refl b)
theorem tl_s {b x : Nat} {l : Led} {P : Prop} (h : x < b ∧ P) (k : x < b ∧ P → AllLt b l) : ∀ p ∈ l, p.1 ≠ b + 1 := allLt_ne (k h) (Nat.le_succ b)
theorem tl_t {b x : Nat} {l : Led} {P : Prop} (h : x < b ∧ P) (k : x < b ∧ P → AllLt b l) : ∀ p ∈ l, p.1 ≠ b + 1 + 1 := allLt_ne (k h) (Nat.le_succ_of_le (Nat.le_succ b))
set_option maxRecDepth 100000 in
theorem codeHd117 {w : World} {h : Heap} (X : (Mine.K w.params).In h) : CodeHd h 117 113 := by
  have e : ∃ o, (Mine.K w.params).lookup 117 = some o ∧ ∃ vs file tf flags tg inF text tt, o.cls = .type "code" ∧ o.data = .fields vs ∧ vs[11]? = some (.ref 113) ∧ vs.getD 11 .none = .ref 113 ∧ vs.getD 18 .none = .str file tf ∧
    vs.getD 7 .none = .int flags tg ∧ vs.getD 9 .none = .bool inF ∧ vs.getD 10 .none = .int text tt := ⟨_, rfl, _, _, _, _, _, _, _, _, rfl, rfl, rfl, rfl, rfl, rfl, rfl, rfl⟩
  obtain ⟨o, ho, vs, file, tf, flags, tg, inF, text, tt, e⟩ := e
  exact ⟨o, vs, file, tf, flags, tg, inF, text, tt, X _ _ ho, e.1, e.2.1, e.2.2.1, e.2.2.2.1, e.2.2.2.2.1, e.2.2.2.2.2.1, e.2.2.2.2.2.2.1, e.2.2.2.2.2.2.2, by decide⟩
set_option maxRecDepth 100000 in
theorem codeHd103 {w : World} {h : Heap} (X : (Mine.K w.params).In h) : CodeHd h 103 99 := by
  have e : ∃ o, (Mine.K w.params).lookup 103 = some o ∧ ∃ vs file tf flags tg inF text tt, o.cls = .type "code" ∧ o.data = .fields vs ∧ vs[11]? = some (.ref 99) ∧ vs.getD 11 .none = .ref 99 ∧ vs.getD 18 .none = .str file tf ∧
    vs.getD 7 .none = .int flags tg ∧ vs.getD 9 .none = .bool inF ∧ vs.getD 10 .none = .int text tt := ⟨_, rfl, _, _, _, _, _, _, _, _, rfl, rfl, rfl, rfl, rfl, rfl, rfl, rfl⟩
  obtain ⟨o, ho, vs, file, tf, flags, tg, inF, text, tt, e⟩ := e
  exact ⟨o, vs, file, tf, flags, tg, inF, text, tt, X _ _ ho, e.1, e.2.1, e.2.2.1, e.2.2.2.1, e.2.2.2.2.1, e.2.2.2.2.2.1, e.2.2.2.2.2.2.1, e.2.2.2.2.2.2.2, by decide⟩
end Mine
end
section
open PySem PySem.W PyProof.Rows
namespace Mine
structure Hkw (k : Nat) (α : Type) (Φ : α → Prop) : Type where
  v : α
  h : Φ v → ∀ x, Φ x
theorem hkne {α : Type} (k : Nat) (d : α) (Φ : α → Prop) : Nonempty (Hkw k α Φ) := (Classical.em (∃ x, ¬ Φ x)).elim (fun ⟨x, c⟩ => ⟨⟨x, fun h => absurd h c⟩⟩) fun c => ⟨⟨d, fun _ x => Classical.byContradiction fun n => c ⟨x, n⟩⟩⟩
noncomputable def hkc {α : Type} (k : Nat) (d : α) (Φ : α → Prop) : α := (Classical.choice (hkne k d Φ)).v
theorem hkc_spec {α : Type} (k : Nat) (d : α) (Φ : α → Prop) (h : Φ (hkc k d Φ)) (x : α) : Φ x := (Classical.choice (hkne k d Φ)).h h x
def dWorld : World := ⟨fun _ _ => 0, { strHash := fun _ => 0, shareClass := fun _ => 0, mergeTok := id, idOf := fun _ => 0, idOfShared := fun _ _ => 0, followText := fun _ => false, idOfImm := fun _ => 0 }⟩
def dObj : Obj := { cls := .none, data := .cell none }
section
variable {α0 α1 α2 α3 α4 α5 α6 α7 α8 α9 α10 α11 α12 α13 α14 α15 α16 α17 α18 α19 α20 α21 α22 α23 α24 α25 α26 α27 α28 : Type}
noncomputable def hkc29 (k : Nat) (d : α0 × α1 × α2 × α3 × α4 × α5 × α6 × α7 × α8 × α9 × α10 × α11 × α12 × α13 × α14 × α15 × α16 × α17 × α18 × α19 × α20 × α21 × α22 × α23 × α24 × α25 × α26 × α27 × α28) (Φ : α0 → α1 → α2 → α3 → α4 → α5 → α6 → α7 → α8 → α9 → α10 → α11 → α12 → α13 → α14 → α15 → α16 → α17 → α18 → α19 → α20 → α21 → α22 → α23 → α24 → α25 → α26 → α27 → α28 → Prop) : α0 × α1 × α2 × α3 × α4 × α5 × α6 × α7 × α8 × α9 × α10 × α11 × α12 × α13 × α14 × α15 × α16 × α17 × α18 × α19 × α20 × α21 × α22 × α23 × α24 × α25 × α26 × α27 × α28 := hkc k d fun c => Φ c.1 c.2.1 c.2.2.1 c.2.2.2.1 c.2.2.2.2.1 c.2.2.2.2.2.1 c.2.2.2.2.2.2.1 c.2.2.2.2.2.2.2.1 c.2.2.2.2.2.2.2.2.1 c.2.2.2.2.2.2.2.2.2.1 c.2.2.2.2.2.2.2.2.2.2.1 c.2.2.2.2.2.2.2.2.2.2.2.1 c.2.2.2.2.2.2.2.2.2.2.2.2.1 c.2.2.2.2.2.2.2.2.2.2.2.2.2.1 c.2.2.2.2.2.2.2.2.2.2.2.2.2.2.1 c.2.2.2.2.2.2.2.2.2.2.2.2.2.2.2.1 c.2.2.2.2.2.2.2.2.2.2.2.2.2.2.2.2.1 c.2.2.2.2.2.2.2.2.2.2.2.2.2.2.2.2.2.1 c.2.2.2.2.2.2.2.2.2.2.2.2.2.2.2.2.2.2.1 c.2.2.2.2.2.2.2.2.2.2.2.2.2.2.2.2.2.2.2.1 c.2.2.2.2.2.2.2.2.2.2.2.2.2.2.2.2.2.2.2.2.1 c.2.2.2.2.2.2.2.2.2.2.2.2.2.2.2.2.2.2.2.2.2.1 c.2.2.2.2.2.2.2.2.2.2.2.2.2.2.2.2.2.2.2.2.2.2.1 c.2.2.2.2.2.2.2.2.2.2.2.2.2.2.2.2.2.2.2.2.2.2.2.1 c.2.2.2.2.2.2.2.2.2.2.2.2.2.2.2.2.2.2.2.2.2.2.2.2.1 c.2.2.2.2.2.2.2.2.2.2.2.2.2.2.2.2.2.2.2.2.2.2.2.2.2.1 c.2.2.2.2.2.2.2.2.2.2.2.2.2.2.2.2.2.2.2.2.2.2.2.2.2.2.1 c.2.2.2.2.2.2.2.2.2.2.2.2.2.2.2.2.2.2.2.2.2.2.2.2.2.2.2.1 c.2.2.2.2.2.2.2.2.2.2.2.2.2.2.2.2.2.2.2.2.2.2.2.2.2.2.2.2
theorem hk29 (k : Nat) (d : α0 × α1 × α2 × α3 × α4 × α5 × α6 × α7 × α8 × α9 × α10 × α11 × α12 × α13 × α14 × α15 × α16 × α17 × α18 × α19 × α20 × α21 × α22 × α23 × α24 × α25 × α26 × α27 × α28) (Φ : α0 → α1 → α2 → α3 → α4 → α5 → α6 → α7 → α8 → α9 → α10 → α11 → α12 → α13 → α14 → α15 → α16 → α17 → α18 → α19 → α20 → α21 → α22 → α23 → α24 → α25 → α26 → α27 → α28 → Prop) (h : Φ (hkc29 k d Φ).1 (hkc29 k d Φ).2.1 (hkc29 k d Φ).2.2.1 (hkc29 k d Φ).2.2.2.1 (hkc29 k d Φ).2.2.2.2.1 (hkc29 k d Φ).2.2.2.2.2.1 (hkc29 k d Φ).2.2.2.2.2.2.1 (hkc29 k d Φ).2.2.2.2.2.2.2.1 (hkc29 k d Φ).2.2.2.2.2.2.2.2.1 (hkc29 k d Φ).2.2.2.2.2.2.2.2.2.1 (hkc29 k d Φ).2.2.2.2.2.2.2.2.2.2.1 (hkc29 k d Φ).2.2.2.2.2.2.2.2.2.2.2.1 (hkc29 k d Φ).2.2.2.2.2.2.2.2.2.2.2.2.1 (hkc29 k d Φ).2.2.2.2.2.2.2.2.2.2.2.2.2.1 (hkc29 k d Φ).2.2.2.2.2.2.2.2.2.2.2.2.2.2.1 (hkc29 k d Φ).2.2.2.2.2.2.2.2.2.2.2.2.2.2.2.1 (hkc29 k d Φ).2.2.2.2.2.2.2.2.2.2.2.2.2.2.2.2.1 (hkc29 k d Φ).2.2.2.2.2.2.2.2.2.2.2.2.2.2.2.2.2.1 (hkc29 k d Φ).2.2.2.2.2.2.2.2.2.2.2.2.2.2.2.2.2.2.1 (hkc29 k d Φ).2.2.2.2.2.2.2.2.2.2.2.2.2.2.2.2.2.2.2.1 (hkc29 k d Φ).2.2.2.2.2.2.2.2.2.2.2.2.2.2.2.2.2.2.2.2.1 (hkc29 k d Φ).2.2.2.2.2.2.2.2.2.2.2.2.2.2.2.2.2.2.2.2.2.1 (hkc29 k d Φ).2.2.2.2.2.2.2.2.2.2.2.2.2.2.2.2.2.2.2.2.2.2.1 (hkc29 k d Φ).2.2.2.2.2.2.2.2.2.2.2.2.2.2.2.2.2.2.2.2.2.2.2.1 (hkc29 k d Φ).2.2.2.2.2.2.2.2.2.2.2.2.2.2.2.2.2.2.2.2.2.2.2.2.1 (hkc29 k d Φ).2.2.2.2.2.2.2.2.2.2.2.2.2.2.2.2.2.2.2.2.2.2.2.2.2.1 (hkc29 k d Φ).2.2.2.2.2.2.2.2.2.2.2.2.2.2.2.2.2.2.2.2.2.2.2.2.2.2.1 (hkc29 k d Φ).2.2.2.2.2.2.2.2.2.2.2.2.2.2.2.2.2.2.2.2.2.2.2.2.2.2.2.1 (hkc29 k d Φ).2.2.2.2.2.2.2.2.2.2.2.2.2.2.2.2.2.2.2.2.2.2.2.2.2.2.2.2) : ∀ x0 x1 x2 x3 x4 x5 x6 x7 x8 x9 x10 x11 x12 x13 x14 x15 x16 x17 x18 x19 x20 x21 x22 x23 x24 x25 x26 x27 x28, Φ x0 x1 x2 x3 x4 x5 x6 x7 x8 x9 x10 x11 x12 x13 x14 x15 x16 x17 x18 x19 x20 x21 x22 x23 x24 x25 x26 x27 x28 := fun x0 x1 x2 x3 x4 x5 x6 x7 x8 x9 x10 x11 x12 x13 x14 x15 x16 x17 x18 x19 x20 x21 x22 x23 x24 x25 x26 x27 x28 => hkc_spec k d (fun c => Φ c.1 c.2.1 c.2.2.1 c.2.2.2.1 c.2.2.2.2.1 c.2.2.2.2.2.1 c.2.2.2.2.2.2.1 c.2.2.2.2.2.2.2.1 c.2.2.2.2.2.2.2.2.1 c.2.2.2.2.2.2.2.2.2.1 c.2.2.2.2.2.2.2.2.2.2.1 c.2.2.2.2.2.2.2.2.2.2.2.1 c.2.2.2.2.2.2.2.2.2.2.2.2.1 c.2.2.2.2.2.2.2.2.2.2.2.2.2.1 c.2.2.2.2.2.2.2.2.2.2.2.2.2.2.1 c.2.2.2.2.2.2.2.2.2.2.2.2.2.2.2.1 c.2.2.2.2.2.2.2.2.2.2.2.2.2.2.2.2.1 c.2.2.2.2.2.2.2.2.2.2.2.2.2.2.2.2.2.1 c.2.2.2.2.2.2.2.2.2.2.2.2.2.2.2.2.2.2.1 c.2.2.2.2.2.2.2.2.2.2.2.2.2.2.2.2.2.2.2.1 c.2.2.2.2.2.2.2.2.2.2.2.2.2.2.2.2.2.2.2.2.1 c.2.2.2.2.2.2.2.2.2.2.2.2.2.2.2.2.2.2.2.2.2.1 c.2.2.2.2.2.2.2.2.2.2.2.2.2.2.2.2.2.2.2.2.2.2.1 c.2.2.2.2.2.2.2.2.2.2.2.2.2.2.2.2.2.2.2.2.2.2.2.1 c.2.2.2.2.2.2.2.2.2.2.2.2.2.2.2.2.2.2.2.2.2.2.2.2.1 c.2.2.2.2.2.2.2.2.2.2.2.2.2.2.2.2.2.2.2.2.2.2.2.2.2.1 c.2.2.2.2.2.2.2.2.2.2.2.2.2.2.2.2.2.2.2.2.2.2.2.2.2.2.1 c.2.2.2.2.2.2.2.2.2.2.2.2.2.2.2.2.2.2.2.2.2.2.2.2.2.2.2.1 c.2.2.2.2.2.2.2.2.2.2.2.2.2.2.2.2.2.2.2.2.2.2.2.2.2.2.2.2) h (x0, x1, x2, x3, x4, x5, x6, x7, x8, x9, x10, x11, x12, x13, x14, x15, x16, x17, x18, x19, x20, x21, x22, x23, x24, x25, x26, x27, x28)
end
section
variable {α0 α1 α2 α3 α4 α5 α6 α7 α8 α9 α10 α11 α12 α13 α14 α15 α16 α17 α18 α19 α20 α21 α22 α23 α24 α25 α26 α27 α28 α29 α30 α31 α32 α33 α34 α35 : Type}
noncomputable def hkc36 (k : Nat) (d : α0 × α1 × α2 × α3 × α4 × α5 × α6 × α7 × α8 × α9 × α10 × α11 × α12 × α13 × α14 × α15 × α16 × α17 × α18 × α19 × α20 × α21 × α22 × α23 × α24 × α25 × α26 × α27 × α28 × α29 × α30 × α31 × α32 × α33 × α34 × α35) (Φ : α0 → α1 → α2 → α3 → α4 → α5 → α6 → α7 → α8 → α9 → α10 → α11 → α12 → α13 → α14 → α15 → α16 → α17 → α18 → α19 → α20 → α21 → α22 → α23 → α24 → α25 → α26 → α27 → α28 → α29 → α30 → α31 → α32 → α33 → α34 → α35 → Prop) : α0 × α1 × α2 × α3 × α4 × α5 × α6 × α7 × α8 × α9 × α10 × α11 × α12 × α13 × α14 × α15 × α16 × α17 × α18 × α19 × α20 × α21 × α22 × α23 × α24 × α25 × α26 × α27 × α28 × α29 × α30 × α31 × α32 × α33 × α34 × α35 := hkc k d fun c => Φ c.1 c.2.1 c.2.2.1 c.2.2.2.1 c.2.2.2.2.1 c.2.2.2.2.2.1 c.2.2.2.2.2.2.1 c.2.2.2.2.2.2.2.1 c.2.2.2.2.2.2.2.2.1 c.2.2.2.2.2.2.2.2.2.1 c.2.2.2.2.2.2.2.2.2.2.1 c.2.2.2.2.2.2.2.2.2.2.2.1 c.2.2.2.2.2.2.2.2.2.2.2.2.1 c.2.2.2.2.2.2.2.2.2.2.2.2.2.1 c.2.2.2.2.2.2.2.2.2.2.2.2.2.2.1 c.2.2.2.2.2.2.2.2.2.2.2.2.2.2.2.1 c.2.2.2.2.2.2.2.2.2.2.2.2.2.2.2.2.1 c.2.2.2.2.2.2.2.2.2.2.2.2.2.2.2.2.2.1 c.2.2.2.2.2.2.2.2.2.2.2.2.2.2.2.2.2.2.1 c.2.2.2.2.2.2.2.2.2.2.2.2.2.2.2.2.2.2.2.1 c.2.2.2.2.2.2.2.2.2.2.2.2.2.2.2.2.2.2.2.2.1 c.2.2.2.2.2.2.2.2.2.2.2.2.2.2.2.2.2.2.2.2.2.1 c.2.2.2.2.2.2.2.2.2.2.2.2.2.2.2.2.2.2.2.2.2.2.1 c.2.2.2.2.2.2.2.2.2.2.2.2.2.2.2.2.2.2.2.2.2.2.2.1 c.2.2.2.2.2.2.2.2.2.2.2.2.2.2.2.2.2.2.2.2.2.2.2.2.1 c.2.2.2.2.2.2.2.2.2.2.2.2.2.2.2.2.2.2.2.2.2.2.2.2.2.1 c.2.2.2.2.2.2.2.2.2.2.2.2.2.2.2.2.2.2.2.2.2.2.2.2.2.2.1 c.2.2.2.2.2.2.2.2.2.2.2.2.2.2.2.2.2.2.2.2.2.2.2.2.2.2.2.1 c.2.2.2.2.2.2.2.2.2.2.2.2.2.2.2.2.2.2.2.2.2.2.2.2.2.2.2.2.1 c.2.2.2.2.2.2.2.2.2.2.2.2.2.2.2.2.2.2.2.2.2.2.2.2.2.2.2.2.2.1 c.2.2.2.2.2.2.2.2.2.2.2.2.2.2.2.2.2.2.2.2.2.2.2.2.2.2.2.2.2.2.1 c.2.2.2.2.2.2.2.2.2.2.2.2.2.2.2.2.2.2.2.2.2.2.2.2.2.2.2.2.2.2.2.1 c.2.2.2.2.2.2.2.2.2.2.2.2.2.2.2.2.2.2.2.2.2.2.2.2.2.2.2.2.2.2.2.2.1 c.2.2.2.2.2.2.2.2.2.2.2.2.2.2.2.2.2.2.2.2.2.2.2.2.2.2.2.2.2.2.2.2.2.1 c.2.2.2.2.2.2.2.2.2.2.2.2.2.2.2.2.2.2.2.2.2.2.2.2.2.2.2.2.2.2.2.2.2.2.1 c.2.2.2.2.2.2.2.2.2.2.2.2.2.2.2.2.2.2.2.2.2.2.2.2.2.2.2.2.2.2.2.2.2.2.2
theorem hk36 (k : Nat) (d : α0 × α1 × α2 × α3 × α4 × α5 × α6 × α7 × α8 × α9 × α10 × α11 × α12 × α13 × α14 × α15 × α16 × α17 × α18 × α19 × α20 × α21 × α22 × α23 × α24 × α25 × α26 × α27 × α28 × α29 × α30 × α31 × α32 × α33 × α34 × α35) (Φ : α0 → α1 → α2 → α3 → α4 → α5 → α6 → α7 → α8 → α9 → α10 → α11 → α12 → α13 → α14 → α15 → α16 → α17 → α18 → α19 → α20 → α21 → α22 → α23 → α24 → α25 → α26 → α27 → α28 → α29 → α30 → α31 → α32 → α33 → α34 → α35 → Prop) (h : Φ (hkc36 k d Φ).1 (hkc36 k d Φ).2.1 (hkc36 k d Φ).2.2.1 (hkc36 k d Φ).2.2.2.1 (hkc36 k d Φ).2.2.2.2.1 (hkc36 k d Φ).2.2.2.2.2.1 (hkc36 k d Φ).2.2.2.2.2.2.1 (hkc36 k d Φ).2.2.2.2.2.2.2.1 (hkc36 k d Φ).2.2.2.2.2.2.2.2.1 (hkc36 k d Φ).2.2.2.2.2.2.2.2.2.1 (hkc36 k d Φ).2.2.2.2.2.2.2.2.2.2.1 (hkc36 k d Φ).2.2.2.2.2.2.2.2.2.2.2.1 (hkc36 k d Φ).2.2.2.2.2.2.2.2.2.2.2.2.1 (hkc36 k d Φ).2.2.2.2.2.2.2.2.2.2.2.2.2.1 (hkc36 k d Φ).2.2.2.2.2.2.2.2.2.2.2.2.2.2.1 (hkc36 k d Φ).2.2.2.2.2.2.2.2.2.2.2.2.2.2.2.1 (hkc36 k d Φ).2.2.2.2.2.2.2.2.2.2.2.2.2.2.2.2.1 (hkc36 k d Φ).2.2.2.2.2.2.2.2.2.2.2.2.2.2.2.2.2.1 (hkc36 k d Φ).2.2.2.2.2.2.2.2.2.2.2.2.2.2.2.2.2.2.1 (hkc36 k d Φ).2.2.2.2.2.2.2.2.2.2.2.2.2.2.2.2.2.2.2.1 (hkc36 k d Φ).2.2.2.2.2.2.2.2.2.2.2.2.2.2.2.2.2.2.2.2.1 (hkc36 k d Φ).2.2.2.2.2.2.2.2.2.2.2.2.2.2.2.2.2.2.2.2.2.1 (hkc36 k d Φ).2.2.2.2.2.2.2.2.2.2.2.2.2.2.2.2.2.2.2.2.2.2.1 (hkc36 k d Φ).2.2.2.2.2.2.2.2.2.2.2.2.2.2.2.2.2.2.2.2.2.2.2.1 (hkc36 k d Φ).2.2.2.2.2.2.2.2.2.2.2.2.2.2.2.2.2.2.2.2.2.2.2.2.1 (hkc36 k d Φ).2.2.2.2.2.2.2.2.2.2.2.2.2.2.2.2.2.2.2.2.2.2.2.2.2.1 (hkc36 k d Φ).2.2.2.2.2.2.2.2.2.2.2.2.2.2.2.2.2.2.2.2.2.2.2.2.2.2.1 (hkc36 k d Φ).2.2.2.2.2.2.2.2.2.2.2.2.2.2.2.2.2.2.2.2.2.2.2.2.2.2.2.1 (hkc36 k d Φ).2.2.2.2.2.2.2.2.2.2.2.2.2.2.2.2.2.2.2.2.2.2.2.2.2.2.2.2.1 (hkc36 k d Φ).2.2.2.2.2.2.2.2.2.2.2.2.2.2.2.2.2.2.2.2.2.2.2.2.2.2.2.2.2.1 (hkc36 k d Φ).2.2.2.2.2.2.2.2.2.2.2.2.2.2.2.2.2.2.2.2.2.2.2.2.2.2.2.2.2.2.1 (hkc36 k d Φ).2.2.2.2.2.2.2.2.2.2.2.2.2.2.2.2.2.2.2.2.2.2.2.2.2.2.2.2.2.2.2.1 (hkc36 k d Φ).2.2.2.2.2.2.2.2.2.2.2.2.2.2.2.2.2.2.2.2.2.2.2.2.2.2.2.2.2.2.2.2.1 (hkc36 k d Φ).2.2.2.2.2.2.2.2.2.2.2.2.2.2.2.2.2.2.2.2.2.2.2.2.2.2.2.2.2.2.2.2.2.1 (hkc36 k d Φ).2.2.2.2.2.2.2.2.2.2.2.2.2.2.2.2.2.2.2.2.2.2.2.2.2.2.2.2.2.2.2.2.2.2.1 (hkc36 k d Φ).2.2.2.2.2.2.2.2.2.2.2.2.2.2.2.2.2.2.2.2.2.2.2.2.2.2.2.2.2.2.2.2.2.2.2) : ∀ x0 x1 x2 x3 x4 x5 x6 x7 x8 x9 x10 x11 x12 x13 x14 x15 x16 x17 x18 x19 x20 x21 x22 x23 x24 x25 x26 x27 x28 x29 x30 x31 x32 x33 x34 x35, Φ x0 x1 x2 x3 x4 x5 x6 x7 x8 x9 x10 x11 x12 x13 x14 x15 x16 x17 x18 x19 x20 x21 x22 x23 x24 x25 x26 x27 x28 x29 x30 x31 x32 x33 x34 x35 := fun x0 x1 x2 x3 x4 x5 x6 x7 x8 x9 x10 x11 x12 x13 x14 x15 x16 x17 x18 x19 x20 x21 x22 x23 x24 x25 x26 x27 x28 x29 x30 x31 x32 x33 x34 x35 => hkc_spec k d (fun c => Φ c.1 c.2.1 c.2.2.1 c.2.2.2.1 c.2.2.2.2.1 c.2.2.2.2.2.1 c.2.2.2.2.2.2.1 c.2.2.2.2.2.2.2.1 c.2.2.2.2.2.2.2.2.1 c.2.2.2.2.2.2.2.2.2.1 c.2.2.2.2.2.2.2.2.2.2.1 c.2.2.2.2.2.2.2.2.2.2.2.1 c.2.2.2.2.2.2.2.2.2.2.2.2.1 c.2.2.2.2.2.2.2.2.2.2.2.2.2.1 c.2.2.2.2.2.2.2.2.2.2.2.2.2.2.1 c.2.2.2.2.2.2.2.2.2.2.2.2.2.2.2.1 c.2.2.2.2.2.2.2.2.2.2.2.2.2.2.2.2.1 c.2.2.2.2.2.2.2.2.2.2.2.2.2.2.2.2.2.1 c.2.2.2.2.2.2.2.2.2.2.2.2.2.2.2.2.2.2.1 c.2.2.2.2.2.2.2.2.2.2.2.2.2.2.2.2.2.2.2.1 c.2.2.2.2.2.2.2.2.2.2.2.2.2.2.2.2.2.2.2.2.1 c.2.2.2.2.2.2.2.2.2.2.2.2.2.2.2.2.2.2.2.2.2.1 c.2.2.2.2.2.2.2.2.2.2.2.2.2.2.2.2.2.2.2.2.2.2.1 c.2.2.2.2.2.2.2.2.2.2.2.2.2.2.2.2.2.2.2.2.2.2.2.1 c.2.2.2.2.2.2.2.2.2.2.2.2.2.2.2.2.2.2.2.2.2.2.2.2.1 c.2.2.2.2.2.2.2.2.2.2.2.2.2.2.2.2.2.2.2.2.2.2.2.2.2.1 c.2.2.2.2.2.2.2.2.2.2.2.2.2.2.2.2.2.2.2.2.2.2.2.2.2.2.1 c.2.2.2.2.2.2.2.2.2.2.2.2.2.2.2.2.2.2.2.2.2.2.2.2.2.2.2.1 c.2.2.2.2.2.2.2.2.2.2.2.2.2.2.2.2.2.2.2.2.2.2.2.2.2.2.2.2.1 c.2.2.2.2.2.2.2.2.2.2.2.2.2.2.2.2.2.2.2.2.2.2.2.2.2.2.2.2.2.1 c.2.2.2.2.2.2.2.2.2.2.2.2.2.2.2.2.2.2.2.2.2.2.2.2.2.2.2.2.2.2.1 c.2.2.2.2.2.2.2.2.2.2.2.2.2.2.2.2.2.2.2.2.2.2.2.2.2.2.2.2.2.2.2.1 c.2.2.2.2.2.2.2.2.2.2.2.2.2.2.2.2.2.2.2.2.2.2.2.2.2.2.2.2.2.2.2.2.1 c.2.2.2.2.2.2.2.2.2.2.2.2.2.2.2.2.2.2.2.2.2.2.2.2.2.2.2.2.2.2.2.2.2.1 c.2.2.2.2.2.2.2.2.2.2.2.2.2.2.2.2.2.2.2.2.2.2.2.2.2.2.2.2.2.2.2.2.2.2.1 c.2.2.2.2.2.2.2.2.2.2.2.2.2.2.2.2.2.2.2.2.2.2.2.2.2.2.2.2.2.2.2.2.2.2.2) h (x0, x1, x2, x3, x4, x5, x6, x7, x8, x9, x10, x11, x12, x13, x14, x15, x16, x17, x18, x19, x20, x21, x22, x23, x24, x25, x26, x27, x28, x29, x30, x31, x32, x33, x34, x35)
end
section
variable {α0 α1 α2 α3 α4 α5 α6 α7 α8 α9 α10 α11 α12 α13 α14 α15 α16 α17 α18 α19 α20 α21 α22 α23 α24 α25 α26 α27 α28 α29 α30 α31 α32 α33 α34 α35 α36 α37 α38 α39 α40 α41 α42 α43 α44 α45 : Type}
noncomputable def hkc46 (k : Nat) (d : α0 × α1 × α2 × α3 × α4 × α5 × α6 × α7 × α8 × α9 × α10 × α11 × α12 × α13 × α14 × α15 × α16 × α17 × α18 × α19 × α20 × α21 × α22 × α23 × α24 × α25 × α26 × α27 × α28 × α29 × α30 × α31 × α32 × α33 × α34 × α35 × α36 × α37 × α38 × α39 × α40 × α41 × α42 × α43 × α44 × α45) (Φ : α0 → α1 → α2 → α3 → α4 → α5 → α6 → α7 → α8 → α9 → α10 → α11 → α12 → α13 → α14 → α15 → α16 → α17 → α18 → α19 → α20 → α21 → α22 → α23 → α24 → α25 → α26 → α27 → α28 → α29 → α30 → α31 → α32 → α33 → α34 → α35 → α36 → α37 → α38 → α39 → α40 → α41 → α42 → α43 → α44 → α45 → Prop) : α0 × α1 × α2 × α3 × α4 × α5 × α6 × α7 × α8 × α9 × α10 × α11 × α12 × α13 × α14 × α15 × α16 × α17 × α18 × α19 × α20 × α21 × α22 × α23 × α24 × α25 × α26 × α27 × α28 × α29 × α30 × α31 × α32 × α33 × α34 × α35 × α36 × α37 × α38 × α39 × α40 × α41 × α42 × α43 × α44 × α45 := hkc k d fun c => Φ c.1 c.2.1 c.2.2.1 c.2.2.2.1 c.2.2.2.2.1 c.2.2.2.2.2.1 c.2.2.2.2.2.2.1 c.2.2.2.2.2.2.2.1 c.2.2.2.2.2.2.2.2.1 c.2.2.2.2.2.2.2.2.2.1 c.2.2.2.2.2.2.2.2.2.2.1 c.2.2.2.2.2.2.2.2.2.2.2.1 c.2.2.2.2.2.2.2.2.2.2.2.2.1 c.2.2.2.2.2.2.2.2.2.2.2.2.2.1 c.2.2.2.2.2.2.2.2.2.2.2.2.2.2.1 c.2.2.2.2.2.2.2.2.2.2.2.2.2.2.2.1 c.2.2.2.2.2.2.2.2.2.2.2.2.2.2.2.2.1 c.2.2.2.2.2.2.2.2.2.2.2.2.2.2.2.2.2.1 c.2.2.2.2.2.2.2.2.2.2.2.2.2.2.2.2.2.2.1 c.2.2.2.2.2.2.2.2.2.2.2.2.2.2.2.2.2.2.2.1 c.2.2.2.2.2.2.2.2.2.2.2.2.2.2.2.2.2.2.2.2.1 c.2.2.2.2.2.2.2.2.2.2.2.2.2.2.2.2.2.2.2.2.2.1 c.2.2.2.2.2.2.2.2.2.2.2.2.2.2.2.2.2.2.2.2.2.2.1 c.2.2.2.2.2.2.2.2.2.2.2.2.2.2.2.2.2.2.2.2.2.2.2.1 c.2.2.2.2.2.2.2.2.2.2.2.2.2.2.2.2.2.2.2.2.2.2.2.2.1 c.2.2.2.2.2.2.2.2.2.2.2.2.2.2.2.2.2.2.2.2.2.2.2.2.2.1 c.2.2.2.2.2.2.2.2.2.2.2.2.2.2.2.2.2.2.2.2.2.2.2.2.2.2.1 c.2.2.2.2.2.2.2.2.2.2.2.2.2.2.2.2.2.2.2.2.2.2.2.2.2.2.2.1 c.2.2.2.2.2.2.2.2.2.2.2.2.2.2.2.2.2.2.2.2.2.2.2.2.2.2.2.2.1 c.2.2.2.2.2.2.2.2.2.2.2.2.2.2.2.2.2.2.2.2.2.2.2.2.2.2.2.2.2.1 c.2.2.2.2.2.2.2.2.2.2.2.2.2.2.2.2.2.2.2.2.2.2.2.2.2.2.2.2.2.2.1 c.2.2.2.2.2.2.2.2.2.2.2.2.2.2.2.2.2.2.2.2.2.2.2.2.2.2.2.2.2.2.2.1 c.2.2.2.2.2.2.2.2.2.2.2.2.2.2.2.2.2.2.2.2.2.2.2.2.2.2.2.2.2.2.2.2.1 c.2.2.2.2.2.2.2.2.2.2.2.2.2.2.2.2.2.2.2.2.2.2.2.2.2.2.2.2.2.2.2.2.2.1 c.2.2.2.2.2.2.2.2.2.2.2.2.2.2.2.2.2.2.2.2.2.2.2.2.2.2.2.2.2.2.2.2.2.2.1 c.2.2.2.2.2.2.2.2.2.2.2.2.2.2.2.2.2.2.2.2.2.2.2.2.2.2.2.2.2.2.2.2.2.2.2.1 c.2.2.2.2.2.2.2.2.2.2.2.2.2.2.2.2.2.2.2.2.2.2.2.2.2.2.2.2.2.2.2.2.2.2.2.2.1 c.2.2.2.2.2.2.2.2.2.2.2.2.2.2.2.2.2.2.2.2.2.2.2.2.2.2.2.2.2.2.2.2.2.2.2.2.2.1 c.2.2.2.2.2.2.2.2.2.2.2.2.2.2.2.2.2.2.2.2.2.2.2.2.2.2.2.2.2.2.2.2.2.2.2.2.2.2.1 c.2.2.2.2.2.2.2.2.2.2.2.2.2.2.2.2.2.2.2.2.2.2.2.2.2.2.2.2.2.2.2.2.2.2.2.2.2.2.2.1 c.2.2.2.2.2.2.2.2.2.2.2.2.2.2.2.2.2.2.2.2.2.2.2.2.2.2.2.2.2.2.2.2.2.2.2.2.2.2.2.2.1 c.2.2.2.2.2.2.2.2.2.2.2.2.2.2.2.2.2.2.2.2.2.2.2.2.2.2.2.2.2.2.2.2.2.2.2.2.2.2.2.2.2.1 c.2.2.2.2.2.2.2.2.2.2.2.2.2.2.2.2.2.2.2.2.2.2.2.2.2.2.2.2.2.2.2.2.2.2.2.2.2.2.2.2.2.2.1 c.2.2.2.2.2.2.2.2.2.2.2.2.2.2.2.2.2.2.2.2.2.2.2.2.2.2.2.2.2.2.2.2.2.2.2.2.2.2.2.2.2.2.2.1 c.2.2.2.2.2.2.2.2.2.2.2.2.2.2.2.2.2.2.2.2.2.2.2.2.2.2.2.2.2.2.2.2.2.2.2.2.2.2.2.2.2.2.2.2.1 c.2.2.2.2.2.2.2.2.2.2.2.2.2.2.2.2.2.2.2.2.2.2.2.2.2.2.2.2.2.2.2.2.2.2.2.2.2.2.2.2.2.2.2.2.2
theorem hk46 (k : Nat) (d : α0 × α1 × α2 × α3 × α4 × α5 × α6 × α7 × α8 × α9 × α10 × α11 × α12 × α13 × α14 × α15 × α16 × α17 × α18 × α19 × α20 × α21 × α22 × α23 × α24 × α25 × α26 × α27 × α28 × α29 × α30 × α31 × α32 × α33 × α34 × α35 × α36 × α37 × α38 × α39 × α40 × α41 × α42 × α43 × α44 × α45) (Φ : α0 → α1 → α2 → α3 → α4 → α5 → α6 → α7 → α8 → α9 → α10 → α11 → α12 → α13 → α14 → α15 → α16 → α17 → α18 → α19 → α20 → α21 → α22 → α23 → α24 → α25 → α26 → α27 → α28 → α29 → α30 → α31 → α32 → α33 → α34 → α35 → α36 → α37 → α38 → α39 → α40 → α41 → α42 → α43 → α44 → α45 → Prop) (h : Φ (hkc46 k d Φ).1 (hkc46 k d Φ).2.1 (hkc46 k d Φ).2.2.1 (hkc46 k d Φ).2.2.2.1 (hkc46 k d Φ).2.2.2.2.1 (hkc46 k d Φ).2.2.2.2.2.1 (hkc46 k d Φ).2.2.2.2.2.2.1 (hkc46 k d Φ).2.2.2.2.2.2.2.1 (hkc46 k d Φ).2.2.2.2.2.2.2.2.1 (hkc46 k d Φ).2.2.2.2.2.2.2.2.2.1 (hkc46 k d Φ).2.2.2.2.2.2.2.2.2.2.1 (hkc46 k d Φ).2.2.2.2.2.2.2.2.2.2.2.1 (hkc46 k d Φ).2.2.2.2.2.2.2.2.2.2.2.2.1 (hkc46 k d Φ).2.2.2.2.2.2.2.2.2.2.2.2.2.1 (hkc46 k d Φ).2.2.2.2.2.2.2.2.2.2.2.2.2.2.1 (hkc46 k d Φ).2.2.2.2.2.2.2.2.2.2.2.2.2.2.2.1 (hkc46 k d Φ).2.2.2.2.2.2.2.2.2.2.2.2.2.2.2.2.1 (hkc46 k d Φ).2.2.2.2.2.2.2.2.2.2.2.2.2.2.2.2.2.1 (hkc46 k d Φ).2.2.2.2.2.2.2.2.2.2.2.2.2.2.2.2.2.2.1 (hkc46 k d Φ).2.2.2.2.2.2.2.2.2.2.2.2.2.2.2.2.2.2.2.1 (hkc46 k d Φ).2.2.2.2.2.2.2.2.2.2.2.2.2.2.2.2.2.2.2.2.1 (hkc46 k d Φ).2.2.2.2.2.2.2.2.2.2.2.2.2.2.2.2.2.2.2.2.2.1 (hkc46 k d Φ).2.2.2.2.2.2.2.2.2.2.2.2.2.2.2.2.2.2.2.2.2.2.1 (hkc46 k d Φ).2.2.2.2.2.2.2.2.2.2.2.2.2.2.2.2.2.2.2.2.2.2.2.1 (hkc46 k d Φ).2.2.2.2.2.2.2.2.2.2.2.2.2.2.2.2.2.2.2.2.2.2.2.2.1 (hkc46 k d Φ).2.2.2.2.2.2.2.2.2.2.2.2.2.2.2.2.2.2.2.2.2.2.2.2.2.1 (hkc46 k d Φ).2.2.2.2.2.2.2.2.2.2.2.2.2.2.2.2.2.2.2.2.2.2.2.2.2.2.1 (hkc46 k d Φ).2.2.2.2.2.2.2.2.2.2.2.2.2.2.2.2.2.2.2.2.2.2.2.2.2.2.2.1 (hkc46 k d Φ).2.2.2.2.2.2.2.2.2.2.2.2.2.2.2.2.2.2.2.2.2.2.2.2.2.2.2.2.1 (hkc46 k d Φ).2.2.2.2.2.2.2.2.2.2.2.2.2.2.2.2.2.2.2.2.2.2.2.2.2.2.2.2.2.1 (hkc46 k d Φ).2.2.2.2.2.2.2.2.2.2.2.2.2.2.2.2.2.2.2.2.2.2.2.2.2.2.2.2.2.2.1 (hkc46 k d Φ).2.2.2.2.2.2.2.2.2.2.2.2.2.2.2.2.2.2.2.2.2.2.2.2.2.2.2.2.2.2.2.1 (hkc46 k d Φ).2.2.2.2.2.2.2.2.2.2.2.2.2.2.2.2.2.2.2.2.2.2.2.2.2.2.2.2.2.2.2.2.1 (hkc46 k d Φ).2.2.2.2.2.2.2.2.2.2.2.2.2.2.2.2.2.2.2.2.2.2.2.2.2.2.2.2.2.2.2.2.2.1 (hkc46 k d Φ).2.2.2.2.2.2.2.2.2.2.2.2.2.2.2.2.2.2.2.2.2.2.2.2.2.2.2.2.2.2.2.2.2.2.1 (hkc46 k d Φ).2.2.2.2.2.2.2.2.2.2.2.2.2.2.2.2.2.2.2.2.2.2.2.2.2.2.2.2.2.2.2.2.2.2.2.1 (hkc46 k d Φ).2.2.2.2.2.2.2.2.2.2.2.2.2.2.2.2.2.2.2.2.2.2.2.2.2.2.2.2.2.2.2.2.2.2.2.2.1 (hkc46 k d Φ).2.2.2.2.2.2.2.2.2.2.2.2.2.2.2.2.2.2.2.2.2.2.2.2.2.2.2.2.2.2.2.2.2.2.2.2.2.1 (hkc46 k d Φ).2.2.2.2.2.2.2.2.2.2.2.2.2.2.2.2.2.2.2.2.2.2.2.2.2.2.2.2.2.2.2.2.2.2.2.2.2.2.1 (hkc46 k d Φ).2.2.2.2.2.2.2.2.2.2.2.2.2.2.2.2.2.2.2.2.2.2.2.2.2.2.2.2.2.2.2.2.2.2.2.2.2.2.2.1 (hkc46 k d Φ).2.2.2.2.2.2.2.2.2.2.2.2.2.2.2.2.2.2.2.2.2.2.2.2.2.2.2.2.2.2.2.2.2.2.2.2.2.2.2.2.1 (hkc46 k d Φ).2.2.2.2.2.2.2.2.2.2.2.2.2.2.2.2.2.2.2.2.2.2.2.2.2.2.2.2.2.2.2.2.2.2.2.2.2.2.2.2.2.1 (hkc46 k d Φ).2.2.2.2.2.2.2.2.2.2.2.2.2.2.2.2.2.2.2.2.2.2.2.2.2.2.2.2.2.2.2.2.2.2.2.2.2.2.2.2.2.2.1 (hkc46 k d Φ).2.2.2.2.2.2.2.2.2.2.2.2.2.2.2.2.2.2.2.2.2.2.2.2.2.2.2.2.2.2.2.2.2.2.2.2.2.2.2.2.2.2.2.1 (hkc46 k d Φ).2.2.2.2.2.2.2.2.2.2.2.2.2.2.2.2.2.2.2.2.2.2.2.2.2.2.2.2.2.2.2.2.2.2.2.2.2.2.2.2.2.2.2.2.1 (hkc46 k d Φ).2.2.2.2.2.2.2.2.2.2.2.2.2.2.2.2.2.2.2.2.2.2.2.2.2.2.2.2.2.2.2.2.2.2.2.2.2.2.2.2.2.2.2.2.2) : ∀ x0 x1 x2 x3 x4 x5 x6 x7 x8 x9 x10 x11 x12 x13 x14 x15 x16 x17 x18 x19 x20 x21 x22 x23 x24 x25 x26 x27 x28 x29 x30 x31 x32 x33 x34 x35 x36 x37 x38 x39 x40 x41 x42 x43 x44 x45, Φ x0 x1 x2 x3 x4 x5 x6 x7 x8 x9 x10 x11 x12 x13 x14 x15 x16 x17 x18 x19 x20 x21 x22 x23 x24 x25 x26 x27 x28 x29 x30 x31 x32 x33 x34 x35 x36 x37 x38 x39 x40 x41 x42 x43 x44 x45 := fun x0 x1 x2 x3 x4 x5 x6 x7 x8 x9 x10 x11 x12 x13 x14 x15 x16 x17 x18 x19 x20 x21 x22 x23 x24 x25 x26 x27 x28 x29 x30 x31 x32 x33 x34 x35 x36 x37 x38 x39 x40 x41 x42 x43 x44 x45 => hkc_spec k d (fun c => Φ c.1 c.2.1 c.2.2.1 c.2.2.2.1 c.2.2.2.2.1 c.2.2.2.2.2.1 c.2.2.2.2.2.2.1 c.2.2.2.2.2.2.2.1 c.2.2.2.2.2.2.2.2.1 c.2.2.2.2.2.2.2.2.2.1 c.2.2.2.2.2.2.2.2.2.2.1 c.2.2.2.2.2.2.2.2.2.2.2.1 c.2.2.2.2.2.2.2.2.2.2.2.2.1 c.2.2.2.2.2.2.2.2.2.2.2.2.2.1 c.2.2.2.2.2.2.2.2.2.2.2.2.2.2.1 c.2.2.2.2.2.2.2.2.2.2.2.2.2.2.2.1 c.2.2.2.2.2.2.2.2.2.2.2.2.2.2.2.2.1 c.2.2.2.2.2.2.2.2.2.2.2.2.2.2.2.2.2.1 c.2.2.2.2.2.2.2.2.2.2.2.2.2.2.2.2.2.2.1 c.2.2.2.2.2.2.2.2.2.2.2.2.2.2.2.2.2.2.2.1 c.2.2.2.2.2.2.2.2.2.2.2.2.2.2.2.2.2.2.2.2.1 c.2.2.2.2.2.2.2.2.2.2.2.2.2.2.2.2.2.2.2.2.2.1 c.2.2.2.2.2.2.2.2.2.2.2.2.2.2.2.2.2.2.2.2.2.2.1 c.2.2.2.2.2.2.2.2.2.2.2.2.2.2.2.2.2.2.2.2.2.2.2.1 c.2.2.2.2.2.2.2.2.2.2.2.2.2.2.2.2.2.2.2.2.2.2.2.2.1 c.2.2.2.2.2.2.2.2.2.2.2.2.2.2.2.2.2.2.2.2.2.2.2.2.2.1 c.2.2.2.2.2.2.2.2.2.2.2.2.2.2.2.2.2.2.2.2.2.2.2.2.2.2.1 c.2.2.2.2.2.2.2.2.2.2.2.2.2.2.2.2.2.2.2.2.2.2.2.2.2.2.2.1 c.2.2.2.2.2.2.2.2.2.2.2.2.2.2.2.2.2.2.2.2.2.2.2.2.2.2.2.2.1 c.2.2.2.2.2.2.2.2.2.2.2.2.2.2.2.2.2.2.2.2.2.2.2.2.2.2.2.2.2.1 c.2.2.2.2.2.2.2.2.2.2.2.2.2.2.2.2.2.2.2.2.2.2.2.2.2.2.2.2.2.2.1 c.2.2.2.2.2.2.2.2.2.2.2.2.2.2.2.2.2.2.2.2.2.2.2.2.2.2.2.2.2.2.2.1 c.2.2.2.2.2.2.2.2.2.2.2.2.2.2.2.2.2.2.2.2.2.2.2.2.2.2.2.2.2.2.2.2.1 c.2.2.2.2.2.2.2.2.2.2.2.2.2.2.2.2.2.2.2.2.2.2.2.2.2.2.2.2.2.2.2.2.2.1 c.2.2.2.2.2.2.2.2.2.2.2.2.2.2.2.2.2.2.2.2.2.2.2.2.2.2.2.2.2.2.2.2.2.2.1 c.2.2.2.2.2.2.2.2.2.2.2.2.2.2.2.2.2.2.2.2.2.2.2.2.2.2.2.2.2.2.2.2.2.2.2.1 c.2.2.2.2.2.2.2.2.2.2.2.2.2.2.2.2.2.2.2.2.2.2.2.2.2.2.2.2.2.2.2.2.2.2.2.2.1 c.2.2.2.2.2.2.2.2.2.2.2.2.2.2.2.2.2.2.2.2.2.2.2.2.2.2.2.2.2.2.2.2.2.2.2.2.2.1 c.2.2.2.2.2.2.2.2.2.2.2.2.2.2.2.2.2.2.2.2.2.2.2.2.2.2.2.2.2.2.2.2.2.2.2.2.2.2.1 c.2.2.2.2.2.2.2.2.2.2.2.2.2.2.2.2.2.2.2.2.2.2.2.2.2.2.2.2.2.2.2.2.2.2.2.2.2.2.2.1 c.2.2.2.2.2.2.2.2.2.2.2.2.2.2.2.2.2.2.2.2.2.2.2.2.2.2.2.2.2.2.2.2.2.2.2.2.2.2.2.2.1 c.2.2.2.2.2.2.2.2.2.2.2.2.2.2.2.2.2.2.2.2.2.2.2.2.2.2.2.2.2.2.2.2.2.2.2.2.2.2.2.2.2.1 c.2.2.2.2.2.2.2.2.2.2.2.2.2.2.2.2.2.2.2.2.2.2.2.2.2.2.2.2.2.2.2.2.2.2.2.2.2.2.2.2.2.2.1 c.2.2.2.2.2.2.2.2.2.2.2.2.2.2.2.2.2.2.2.2.2.2.2.2.2.2.2.2.2.2.2.2.2.2.2.2.2.2.2.2.2.2.2.1 c.2.2.2.2.2.2.2.2.2.2.2.2.2.2.2.2.2.2.2.2.2.2.2.2.2.2.2.2.2.2.2.2.2.2.2.2.2.2.2.2.2.2.2.2.1 c.2.2.2.2.2.2.2.2.2.2.2.2.2.2.2.2.2.2.2.2.2.2.2.2.2.2.2.2.2.2.2.2.2.2.2.2.2.2.2.2.2.2.2.2.2) h (x0, x1, x2, x3, x4, x5, x6, x7, x8, x9, x10, x11, x12, x13, x14, x15, x16, x17, x18, x19, x20, x21, x22, x23, x24, x25, x26, x27, x28, x29, x30, x31, x32, x33, x34, x35, x36, x37, x38, x39, x40, x41, x42, x43, x44, x45)
end
section
variable {α0 α1 α2 α3 α4 α5 α6 α7 α8 α9 α10 α11 α12 α13 α14 α15 α16 α17 α18 α19 α20 α21 α22 α23 α24 α25 α26 α27 α28 α29 α30 α31 α32 α33 α34 α35 α36 α37 α38 α39 α40 α41 α42 α43 α44 α45 α46 α47 α48 α49 α50 α51 α52 α53 α54 α55 α56 : Type}
noncomputable def hkc57 (k : Nat) (d : α0 × α1 × α2 × α3 × α4 × α5 × α6 × α7 × α8 × α9 × α10 × α11 × α12 × α13 × α14 × α15 × α16 × α17 × α18 × α19 × α20 × α21 × α22 × α23 × α24 × α25 × α26 × α27 × α28 × α29 × α30 × α31 × α32 × α33 × α34 × α35 × α36 × α37 × α38 × α39 × α40 × α41 × α42 × α43 × α44 × α45 × α46 × α47 × α48 × α49 × α50 × α51 × α52 × α53 × α54 × α55 × α56) (Φ : α0 → α1 → α2 → α3 → α4 → α5 → α6 → α7 → α8 → α9 → α10 → α11 → α12 → α13 → α14 → α15 → α16 → α17 → α18 → α19 → α20 → α21 → α22 → α23 → α24 → α25 → α26 → α27 → α28 → α29 → α30 → α31 → α32 → α33 → α34 → α35 → α36 → α37 → α38 → α39 → α40 → α41 → α42 → α43 → α44 → α45 → α46 → α47 → α48 → α49 → α50 → α51 → α52 → α53 → α54 → α55 → α56 → Prop) : α0 × α1 × α2 × α3 × α4 × α5 × α6 × α7 × α8 × α9 × α10 × α11 × α12 × α13 × α14 × α15 × α16 × α17 × α18 × α19 × α20 × α21 × α22 × α23 × α24 × α25 × α26 × α27 × α28 × α29 × α30 × α31 × α32 × α33 × α34 × α35 × α36 × α37 × α38 × α39 × α40 × α41 × α42 × α43 × α44 × α45 × α46 × α47 × α48 × α49 × α50 × α51 × α52 × α53 × α54 × α55 × α56 := hkc k d fun c => Φ c.1 c.2.1 c.2.2.1 c.2.2.2.1 c.2.2.2.2.1 c.2.2.2.2.2.1 c.2.2.2.2.2.2.1 c.2.2.2.2.2.2.2.1 c.2.2.2.2.2.2.2.2.1 c.2.2.2.2.2.2.2.2.2.1 c.2.2.2.2.2.2.2.2.2.2.1 c.2.2.2.2.2.2.2.2.2.2.2.1 c.2.2.2.2.2.2.2.2.2.2.2.2.1 c.2.2.2.2.2.2.2.2.2.2.2.2.2.1 c.2.2.2.2.2.2.2.2.2.2.2.2.2.2.1 c.2.2.2.2.2.2.2.2.2.2.2.2.2.2.2.1 c.2.2.2.2.2.2.2.2.2.2.2.2.2.2.2.2.1 c.2.2.2.2.2.2.2.2.2.2.2.2.2.2.2.2.2.1 c.2.2.2.2.2.2.2.2.2.2.2.2.2.2.2.2.2.2.1 c.2.2.2.2.2.2.2.2.2.2.2.2.2.2.2.2.2.2.2.1 c.2.2.2.2.2.2.2.2.2.2.2.2.2.2.2.2.2.2.2.2.1 c.2.2.2.2.2.2.2.2.2.2.2.2.2.2.2.2.2.2.2.2.2.1 c.2.2.2.2.2.2.2.2.2.2.2.2.2.2.2.2.2.2.2.2.2.2.1 c.2.2.2.2.2.2.2.2.2.2.2.2.2.2.2.2.2.2.2.2.2.2.2.1 c.2.2.2.2.2.2.2.2.2.2.2.2.2.2.2.2.2.2.2.2.2.2.2.2.1 c.2.2.2.2.2.2.2.2.2.2.2.2.2.2.2.2.2.2.2.2.2.2.2.2.2.1 c.2.2.2.2.2.2.2.2.2.2.2.2.2.2.2.2.2.2.2.2.2.2.2.2.2.2.1 c.2.2.2.2.2.2.2.2.2.2.2.2.2.2.2.2.2.2.2.2.2.2.2.2.2.2.2.1 c.2.2.2.2.2.2.2.2.2.2.2.2.2.2.2.2.2.2.2.2.2.2.2.2.2.2.2.2.1 c.2.2.2.2.2.2.2.2.2.2.2.2.2.2.2.2.2.2.2.2.2.2.2.2.2.2.2.2.2.1 c.2.2.2.2.2.2.2.2.2.2.2.2.2.2.2.2.2.2.2.2.2.2.2.2.2.2.2.2.2.2.1 c.2.2.2.2.2.2.2.2.2.2.2.2.2.2.2.2.2.2.2.2.2.2.2.2.2.2.2.2.2.2.2.1 c.2.2.2.2.2.2.2.2.2.2.2.2.2.2.2.2.2.2.2.2.2.2.2.2.2.2.2.2.2.2.2.2.1 c.2.2.2.2.2.2.2.2.2.2.2.2.2.2.2.2.2.2.2.2.2.2.2.2.2.2.2.2.2.2.2.2.2.1 c.2.2.2.2.2.2.2.2.2.2.2.2.2.2.2.2.2.2.2.2.2.2.2.2.2.2.2.2.2.2.2.2.2.2.1 c.2.2.2.2.2.2.2.2.2.2.2.2.2.2.2.2.2.2.2.2.2.2.2.2.2.2.2.2.2.2.2.2.2.2.2.1 c.2.2.2.2.2.2.2.2.2.2.2.2.2.2.2.2.2.2.2.2.2.2.2.2.2.2.2.2.2.2.2.2.2.2.2.2.1 c.2.2.2.2.2.2.2.2.2.2.2.2.2.2.2.2.2.2.2.2.2.2.2.2.2.2.2.2.2.2.2.2.2.2.2.2.2.1 c.2.2.2.2.2.2.2.2.2.2.2.2.2.2.2.2.2.2.2.2.2.2.2.2.2.2.2.2.2.2.2.2.2.2.2.2.2.2.1 c.2.2.2.2.2.2.2.2.2.2.2.2.2.2.2.2.2.2.2.2.2.2.2.2.2.2.2.2.2.2.2.2.2.2.2.2.2.2.2.1 c.2.2.2.2.2.2.2.2.2.2.2.2.2.2.2.2.2.2.2.2.2.2.2.2.2.2.2.2.2.2.2.2.2.2.2.2.2.2.2.2.1 c.2.2.2.2.2.2.2.2.2.2.2.2.2.2.2.2.2.2.2.2.2.2.2.2.2.2.2.2.2.2.2.2.2.2.2.2.2.2.2.2.2.1 c.2.2.2.2.2.2.2.2.2.2.2.2.2.2.2.2.2.2.2.2.2.2.2.2.2.2.2.2.2.2.2.2.2.2.2.2.2.2.2.2.2.2.1 c.2.2.2.2.2.2.2.2.2.2.2.2.2.2.2.2.2.2.2.2.2.2.2.2.2.2.2.2.2.2.2.2.2.2.2.2.2.2.2.2.2.2.2.1 c.2.2.2.2.2.2.2.2.2.2.2.2.2.2.2.2.2.2.2.2.2.2.2.2.2.2.2.2.2.2.2.2.2.2.2.2.2.2.2.2.2.2.2.2.1 c.2.2.2.2.2.2.2.2.2.2.2.2.2.2.2.2.2.2.2.2.2.2.2.2.2.2.2.2.2.2.2.2.2.2.2.2.2.2.2.2.2.2.2.2.2.1 c.2.2.2.2.2.2.2.2.2.2.2.2.2.2.2.2.2.2.2.2.2.2.2.2.2.2.2.2.2.2.2.2.2.2.2.2.2.2.2.2.2.2.2.2.2.2.1 c.2.2.2.2.2.2.2.2.2.2.2.2.2.2.2.2.2.2.2.2.2.2.2.2.2.2.2.2.2.2.2.2.2.2.2.2.2.2.2.2.2.2.2.2.2.2.2.1 c.2.2.2.2.2.2.2.2.2.2.2.2.2.2.2.2.2.2.2.2.2.2.2.2.2.2.2.2.2.2.2.2.2.2.2.2.2.2.2.2.2.2.2.2.2.2.2.2.1 c.2.2.2.2.2.2.2.2.2.2.2.2.2.2.2.2.2.2.2.2.2.2.2.2.2.2.2.2.2.2.2.2.2.2.2.2.2.2.2.2.2.2.2.2.2.2.2.2.2.1 c.2.2.2.2.2.2.2.2.2.2.2.2.2.2.2.2.2.2.2.2.2.2.2.2.2.2.2.2.2.2.2.2.2.2.2.2.2.2.2.2.2.2.2.2.2.2.2.2.2.2.1 c.2.2.2.2.2.2.2.2.2.2.2.2.2.2.2.2.2.2.2.2.2.2.2.2.2.2.2.2.2.2.2.2.2.2.2.2.2.2.2.2.2.2.2.2.2.2.2.2.2.2.2.1 c.2.2.2.2.2.2.2.2.2.2.2.2.2.2.2.2.2.2.2.2.2.2.2.2.2.2.2.2.2.2.2.2.2.2.2.2.2.2.2.2.2.2.2.2.2.2.2.2.2.2.2.2.1 c.2.2.2.2.2.2.2.2.2.2.2.2.2.2.2.2.2.2.2.2.2.2.2.2.2.2.2.2.2.2.2.2.2.2.2.2.2.2.2.2.2.2.2.2.2.2.2.2.2.2.2.2.2.1 c.2.2.2.2.2.2.2.2.2.2.2.2.2.2.2.2.2.2.2.2.2.2.2.2.2.2.2.2.2.2.2.2.2.2.2.2.2.2.2.2.2.2.2.2.2.2.2.2.2.2.2.2.2.2.1 c.2.2.2.2.2.2.2.2.2.2.2.2.2.2.2.2.2.2.2.2.2.2.2.2.2.2.2.2.2.2.2.2.2.2.2.2.2.2.2.2.2.2.2.2.2.2.2.2.2.2.2.2.2.2.2.1 c.2.2.2.2.2.2.2.2.2.2.2.2.2.2.2.2.2.2.2.2.2.2.2.2.2.2.2.2.2.2.2.2.2.2.2.2.2.2.2.2.2.2.2.2.2.2.2.2.2.2.2.2.2.2.2.2
theorem hk57 (k : Nat) (d : α0 × α1 × α2 × α3 × α4 × α5 × α6 × α7 × α8 × α9 × α10 × α11 × α12 × α13 × α14 × α15 × α16 × α17 × α18 × α19 × α20 × α21 × α22 × α23 × α24 × α25 × α26 × α27 × α28 × α29 × α30 × α31 × α32 × α33 × α34 × α35 × α36 × α37 × α38 × α39 × α40 × α41 × α42 × α43 × α44 × α45 × α46 × α47 × α48 × α49 × α50 × α51 × α52 × α53 × α54 × α55 × α56) (Φ : α0 → α1 → α2 → α3 → α4 → α5 → α6 → α7 → α8 → α9 → α10 → α11 → α12 → α13 → α14 → α15 → α16 → α17 → α18 → α19 → α20 → α21 → α22 → α23 → α24 → α25 → α26 → α27 → α28 → α29 → α30 → α31 → α32 → α33 → α34 → α35 → α36 → α37 → α38 → α39 → α40 → α41 → α42 → α43 → α44 → α45 → α46 → α47 → α48 → α49 → α50 → α51 → α52 → α53 → α54 → α55 → α56 → Prop) (h : Φ (hkc57 k d Φ).1 (hkc57 k d Φ).2.1 (hkc57 k d Φ).2.2.1 (hkc57 k d Φ).2.2.2.1 (hkc57 k d Φ).2.2.2.2.1 (hkc57 k d Φ).2.2.2.2.2.1 (hkc57 k d Φ).2.2.2.2.2.2.1 (hkc57 k d Φ).2.2.2.2.2.2.2.1 (hkc57 k d Φ).2.2.2.2.2.2.2.2.1 (hkc57 k d Φ).2.2.2.2.2.2.2.2.2.1 (hkc57 k d Φ).2.2.2.2.2.2.2.2.2.2.1 (hkc57 k d Φ).2.2.2.2.2.2.2.2.2.2.2.1 (hkc57 k d Φ).2.2.2.2.2.2.2.2.2.2.2.2.1 (hkc57 k d Φ).2.2.2.2.2.2.2.2.2.2.2.2.2.1 (hkc57 k d Φ).2.2.2.2.2.2.2.2.2.2.2.2.2.2.1 (hkc57 k d Φ).2.2.2.2.2.2.2.2.2.2.2.2.2.2.2.1 (hkc57 k d Φ).2.2.2.2.2.2.2.2.2.2.2.2.2.2.2.2.1 (hkc57 k d Φ).2.2.2.2.2.2.2.2.2.2.2.2.2.2.2.2.2.1 (hkc57 k d Φ).2.2.2.2.2.2.2.2.2.2.2.2.2.2.2.2.2.2.1 (hkc57 k d Φ).2.2.2.2.2.2.2.2.2.2.2.2.2.2.2.2.2.2.2.1 (hkc57 k d Φ).2.2.2.2.2.2.2.2.2.2.2.2.2.2.2.2.2.2.2.2.1 (hkc57 k d Φ).2.2.2.2.2.2.2.2.2.2.2.2.2.2.2.2.2.2.2.2.2.1 (hkc57 k d Φ).2.2.2.2.2.2.2.2.2.2.2.2.2.2.2.2.2.2.2.2.2.2.1 (hkc57 k d Φ).2.2.2.2.2.2.2.2.2.2.2.2.2.2.2.2.2.2.2.2.2.2.2.1 (hkc57 k d Φ).2.2.2.2.2.2.2.2.2.2.2.2.2.2.2.2.2.2.2.2.2.2.2.2.1 (hkc57 k d Φ).2.2.2.2.2.2.2.2.2.2.2.2.2.2.2.2.2.2.2.2.2.2.2.2.2.1 (hkc57 k d Φ).2.2.2.2.2.2.2.2.2.2.2.2.2.2.2.2.2.2.2.2.2.2.2.2.2.2.1 (hkc57 k d Φ).2.2.2.2.2.2.2.2.2.2.2.2.2.2.2.2.2.2.2.2.2.2.2.2.2.2.2.1 (hkc57 k d Φ).2.2.2.2.2.2.2.2.2.2.2.2.2.2.2.2.2.2.2.2.2.2.2.2.2.2.2.2.1 (hkc57 k d Φ).2.2.2.2.2.2.2.2.2.2.2.2.2.2.2.2.2.2.2.2.2.2.2.2.2.2.2.2.2.1 (hkc57 k d Φ).2.2.2.2.2.2.2.2.2.2.2.2.2.2.2.2.2.2.2.2.2.2.2.2.2.2.2.2.2.2.1 (hkc57 k d Φ).2.2.2.2.2.2.2.2.2.2.2.2.2.2.2.2.2.2.2.2.2.2.2.2.2.2.2.2.2.2.2.1 (hkc57 k d Φ).2.2.2.2.2.2.2.2.2.2.2.2.2.2.2.2.2.2.2.2.2.2.2.2.2.2.2.2.2.2.2.2.1 (hkc57 k d Φ).2.2.2.2.2.2.2.2.2.2.2.2.2.2.2.2.2.2.2.2.2.2.2.2.2.2.2.2.2.2.2.2.2.1 (hkc57 k d Φ).2.2.2.2.2.2.2.2.2.2.2.2.2.2.2.2.2.2.2.2.2.2.2.2.2.2.2.2.2.2.2.2.2.2.1 (hkc57 k d Φ).2.2.2.2.2.2.2.2.2.2.2.2.2.2.2.2.2.2.2.2.2.2.2.2.2.2.2.2.2.2.2.2.2.2.2.1 (hkc57 k d Φ).2.2.2.2.2.2.2.2.2.2.2.2.2.2.2.2.2.2.2.2.2.2.2.2.2.2.2.2.2.2.2.2.2.2.2.2.1 (hkc57 k d Φ).2.2.2.2.2.2.2.2.2.2.2.2.2.2.2.2.2.2.2.2.2.2.2.2.2.2.2.2.2.2.2.2.2.2.2.2.2.1 (hkc57 k d Φ).2.2.2.2.2.2.2.2.2.2.2.2.2.2.2.2.2.2.2.2.2.2.2.2.2.2.2.2.2.2.2.2.2.2.2.2.2.2.1 (hkc57 k d Φ).2.2.2.2.2.2.2.2.2.2.2.2.2.2.2.2.2.2.2.2.2.2.2.2.2.2.2.2.2.2.2.2.2.2.2.2.2.2.2.1 (hkc57 k d Φ).2.2.2.2.2.2.2.2.2.2.2.2.2.2.2.2.2.2.2.2.2.2.2.2.2.2.2.2.2.2.2.2.2.2.2.2.2.2.2.2.1 (hkc57 k d Φ).2.2.2.2.2.2.2.2.2.2.2.2.2.2.2.2.2.2.2.2.2.2.2.2.2.2.2.2.2.2.2.2.2.2.2.2.2.2.2.2.2.1 (hkc57 k d Φ).2.2.2.2.2.2.2.2.2.2.2.2.2.2.2.2.2.2.2.2.2.2.2.2.2.2.2.2.2.2.2.2.2.2.2.2.2.2.2.2.2.2.1 (hkc57 k d Φ).2.2.2.2.2.2.2.2.2.2.2.2.2.2.2.2.2.2.2.2.2.2.2.2.2.2.2.2.2.2.2.2.2.2.2.2.2.2.2.2.2.2.2.1 (hkc57 k d Φ).2.2.2.2.2.2.2.2.2.2.2.2.2.2.2.2.2.2.2.2.2.2.2.2.2.2.2.2.2.2.2.2.2.2.2.2.2.2.2.2.2.2.2.2.1 (hkc57 k d Φ).2.2.2.2.2.2.2.2.2.2.2.2.2.2.2.2.2.2.2.2.2.2.2.2.2.2.2.2.2.2.2.2.2.2.2.2.2.2.2.2.2.2.2.2.2.1 (hkc57 k d Φ).2.2.2.2.2.2.2.2.2.2.2.2.2.2.2.2.2.2.2.2.2.2.2.2.2.2.2.2.2.2.2.2.2.2.2.2.2.2.2.2.2.2.2.2.2.2.1 (hkc57 k d Φ).2.2.2.2.2.2.2.2.2.2.2.2.2.2.2.2.2.2.2.2.2.2.2.2.2.2.2.2.2.2.2.2.2.2.2.2.2.2.2.2.2.2.2.2.2.2.2.1 (hkc57 k d Φ).2.2.2.2.2.2.2.2.2.2.2.2.2.2.2.2.2.2.2.2.2.2.2.2.2.2.2.2.2.2.2.2.2.2.2.2.2.2.2.2.2.2.2.2.2.2.2.2.1 (hkc57 k d Φ).2.2.2.2.2.2.2.2.2.2.2.2.2.2.2.2.2.2.2.2.2.2.2.2.2.2.2.2.2.2.2.2.2.2.2.2.2.2.2.2.2.2.2.2.2.2.2.2.2.1 (hkc57 k d Φ).2.2.2.2.2.2.2.2.2.2.2.2.2.2.2.2.2.2.2.2.2.2.2.2.2.2.2.2.2.2.2.2.2.2.2.2.2.2.2.2.2.2.2.2.2.2.2.2.2.2.1 (hkc57 k d Φ).2.2.2.2.2.2.2.2.2.2.2.2.2.2.2.2.2.2.2.2.2.2.2.2.2.2.2.2.2.2.2.2.2.2.2.2.2.2.2.2.2.2.2.2.2.2.2.2.2.2.2.1 (hkc57 k d Φ).2.2.2.2.2.2.2.2.2.2.2.2.2.2.2.2.2.2.2.2.2.2.2.2.2.2.2.2.2.2.2.2.2.2.2.2.2.2.2.2.2.2.2.2.2.2.2.2.2.2.2.2.1 (hkc57 k d Φ).2.2.2.2.2.2.2.2.2.2.2.2.2.2.2.2.2.2.2.2.2.2.2.2.2.2.2.2.2.2.2.2.2.2.2.2.2.2.2.2.2.2.2.2.2.2.2.2.2.2.2.2.2.1 (hkc57 k d Φ).2.2.2.2.2.2.2.2.2.2.2.2.2.2.2.2.2.2.2.2.2.2.2.2.2.2.2.2.2.2.2.2.2.2.2.2.2.2.2.2.2.2.2.2.2.2.2.2.2.2.2.2.2.2.1 (hkc57 k d Φ).2.2.2.2.2.2.2.2.2.2.2.2.2.2.2.2.2.2.2.2.2.2.2.2.2.2.2.2.2.2.2.2.2.2.2.2.2.2.2.2.2.2.2.2.2.2.2.2.2.2.2.2.2.2.2.1 (hkc57 k d Φ).2.2.2.2.2.2.2.2.2.2.2.2.2.2.2.2.2.2.2.2.2.2.2.2.2.2.2.2.2.2.2.2.2.2.2.2.2.2.2.2.2.2.2.2.2.2.2.2.2.2.2.2.2.2.2.2) : ∀ x0 x1 x2 x3 x4 x5 x6 x7 x8 x9 x10 x11 x12 x13 x14 x15 x16 x17 x18 x19 x20 x21 x22 x23 x24 x25 x26 x27 x28 x29 x30 x31 x32 x33 x34 x35 x36 x37 x38 x39 x40 x41 x42 x43 x44 x45 x46 x47 x48 x49 x50 x51 x52 x53 x54 x55 x56, Φ x0 x1 x2 x3 x4 x5 x6 x7 x8 x9 x10 x11 x12 x13 x14 x15 x16 x17 x18 x19 x20 x21 x22 x23 x24 x25 x26 x27 x28 x29 x30 x31 x32 x33 x34 x35 x36 x37 x38 x39 x40 x41 x42 x43 x44 x45 x46 x47 x48 x49 x50 x51 x52 x53 x54 x55 x56 := fun x0 x1 x2 x3 x4 x5 x6 x7 x8 x9 x10 x11 x12 x13 x14 x15 x16 x17 x18 x19 x20 x21 x22 x23 x24 x25 x26 x27 x28 x29 x30 x31 x32 x33 x34 x35 x36 x37 x38 x39 x40 x41 x42 x43 x44 x45 x46 x47 x48 x49 x50 x51 x52 x53 x54 x55 x56 => hkc_spec k d (fun c => Φ c.1 c.2.1 c.2.2.1 c.2.2.2.1 c.2.2.2.2.1 c.2.2.2.2.2.1 c.2.2.2.2.2.2.1 c.2.2.2.2.2.2.2.1 c.2.2.2.2.2.2.2.2.1 c.2.2.2.2.2.2.2.2.2.1 c.2.2.2.2.2.2.2.2.2.2.1 c.2.2.2.2.2.2.2.2.2.2.2.1 c.2.2.2.2.2.2.2.2.2.2.2.2.1 c.2.2.2.2.2.2.2.2.2.2.2.2.2.1 c.2.2.2.2.2.2.2.2.2.2.2.2.2.2.1 c.2.2.2.2.2.2.2.2.2.2.2.2.2.2.2.1 c.2.2.2.2.2.2.2.2.2.2.2.2.2.2.2.2.1 c.2.2.2.2.2.2.2.2.2.2.2.2.2.2.2.2.2.1 c.2.2.2.2.2.2.2.2.2.2.2.2.2.2.2.2.2.2.1 c.2.2.2.2.2.2.2.2.2.2.2.2.2.2.2.2.2.2.2.1 c.2.2.2.2.2.2.2.2.2.2.2.2.2.2.2.2.2.2.2.2.1 c.2.2.2.2.2.2.2.2.2.2.2.2.2.2.2.2.2.2.2.2.2.1 c.2.2.2.2.2.2.2.2.2.2.2.2.2.2.2.2.2.2.2.2.2.2.1 c.2.2.2.2.2.2.2.2.2.2.2.2.2.2.2.2.2.2.2.2.2.2.2.1 c.2.2.2.2.2.2.2.2.2.2.2.2.2.2.2.2.2.2.2.2.2.2.2.2.1 c.2.2.2.2.2.2.2.2.2.2.2.2.2.2.2.2.2.2.2.2.2.2.2.2.2.1 c.2.2.2.2.2.2.2.2.2.2.2.2.2.2.2.2.2.2.2.2.2.2.2.2.2.2.1 c.2.2.2.2.2.2.2.2.2.2.2.2.2.2.2.2.2.2.2.2.2.2.2.2.2.2.2.1 c.2.2.2.2.2.2.2.2.2.2.2.2.2.2.2.2.2.2.2.2.2.2.2.2.2.2.2.2.1 c.2.2.2.2.2.2.2.2.2.2.2.2.2.2.2.2.2.2.2.2.2.2.2.2.2.2.2.2.2.1 c.2.2.2.2.2.2.2.2.2.2.2.2.2.2.2.2.2.2.2.2.2.2.2.2.2.2.2.2.2.2.1 c.2.2.2.2.2.2.2.2.2.2.2.2.2.2.2.2.2.2.2.2.2.2.2.2.2.2.2.2.2.2.2.1 c.2.2.2.2.2.2.2.2.2.2.2.2.2.2.2.2.2.2.2.2.2.2.2.2.2.2.2.2.2.2.2.2.1 c.2.2.2.2.2.2.2.2.2.2.2.2.2.2.2.2.2.2.2.2.2.2.2.2.2.2.2.2.2.2.2.2.2.1 c.2.2.2.2.2.2.2.2.2.2.2.2.2.2.2.2.2.2.2.2.2.2.2.2.2.2.2.2.2.2.2.2.2.2.1 c.2.2.2.2.2.2.2.2.2.2.2.2.2.2.2.2.2.2.2.2.2.2.2.2.2.2.2.2.2.2.2.2.2.2.2.1 c.2.2.2.2.2.2.2.2.2.2.2.2.2.2.2.2.2.2.2.2.2.2.2.2.2.2.2.2.2.2.2.2.2.2.2.2.1 c.2.2.2.2.2.2.2.2.2.2.2.2.2.2.2.2.2.2.2.2.2.2.2.2.2.2.2.2.2.2.2.2.2.2.2.2.2.1 c.2.2.2.2.2.2.2.2.2.2.2.2.2.2.2.2.2.2.2.2.2.2.2.2.2.2.2.2.2.2.2.2.2.2.2.2.2.2.1 c.2.2.2.2.2.2.2.2.2.2.2.2.2.2.2.2.2.2.2.2.2.2.2.2.2.2.2.2.2.2.2.2.2.2.2.2.2.2.2.1 c.2.2.2.2.2.2.2.2.2.2.2.2.2.2.2.2.2.2.2.2.2.2.2.2.2.2.2.2.2.2.2.2.2.2.2.2.2.2.2.2.1 c.2.2.2.2.2.2.2.2.2.2.2.2.2.2.2.2.2.2.2.2.2.2.2.2.2.2.2.2.2.2.2.2.2.2.2.2.2.2.2.2.2.1 c.2.2.2.2.2.2.2.2.2.2.2.2.2.2.2.2.2.2.2.2.2.2.2.2.2.2.2.2.2.2.2.2.2.2.2.2.2.2.2.2.2.2.1 c.2.2.2.2.2.2.2.2.2.2.2.2.2.2.2.2.2.2.2.2.2.2.2.2.2.2.2.2.2.2.2.2.2.2.2.2.2.2.2.2.2.2.2.1 c.2.2.2.2.2.2.2.2.2.2.2.2.2.2.2.2.2.2.2.2.2.2.2.2.2.2.2.2.2.2.2.2.2.2.2.2.2.2.2.2.2.2.2.2.1 c.2.2.2.2.2.2.2.2.2.2.2.2.2.2.2.2.2.2.2.2.2.2.2.2.2.2.2.2.2.2.2.2.2.2.2.2.2.2.2.2.2.2.2.2.2.1 c.2.2.2.2.2.2.2.2.2.2.2.2.2.2.2.2.2.2.2.2.2.2.2.2.2.2.2.2.2.2.2.2.2.2.2.2.2.2.2.2.2.2.2.2.2.2.1 c.2.2.2.2.2.2.2.2.2.2.2.2.2.2.2.2.2.2.2.2.2.2.2.2.2.2.2.2.2.2.2.2.2.2.2.2.2.2.2.2.2.2.2.2.2.2.2.1 c.2.2.2.2.2.2.2.2.2.2.2.2.2.2.2.2.2.2.2.2.2.2.2.2.2.2.2.2.2.2.2.2.2.2.2.2.2.2.2.2.2.2.2.2.2.2.2.2.1 c.2.2.2.2.2.2.2.2.2.2.2.2.2.2.2.2.2.2.2.2.2.2.2.2.2.2.2.2.2.2.2.2.2.2.2.2.2.2.2.2.2.2.2.2.2.2.2.2.2.1 c.2.2.2.2.2.2.2.2.2.2.2.2.2.2.2.2.2.2.2.2.2.2.2.2.2.2.2.2.2.2.2.2.2.2.2.2.2.2.2.2.2.2.2.2.2.2.2.2.2.2.1 c.2.2.2.2.2.2.2.2.2.2.2.2.2.2.2.2.2.2.2.2.2.2.2.2.2.2.2.2.2.2.2.2.2.2.2.2.2.2.2.2.2.2.2.2.2.2.2.2.2.2.2.1 c.2.2.2.2.2.2.2.2.2.2.2.2.2.2.2.2.2.2.2.2.2.2.2.2.2.2.2.2.2.2.2.2.2.2.2.2.2.2.2.2.2.2.2.2.2.2.2.2.2.2.2.2.1 c.2.2.2.2.2.2.2.2.2.2.2.2.2.2.2.2.2.2.2.2.2.2.2.2.2.2.2.2.2.2.2.2.2.2.2.2.2.2.2.2.2.2.2.2.2.2.2.2.2.2.2.2.2.1 c.2.2.2.2.2.2.2.2.2.2.2.2.2.2.2.2.2.2.2.2.2.2.2.2.2.2.2.2.2.2.2.2.2.2.2.2.2.2.2.2.2.2.2.2.2.2.2.2.2.2.2.2.2.2.1 c.2.2.2.2.2.2.2.2.2.2.2.2.2.2.2.2.2.2.2.2.2.2.2.2.2.2.2.2.2.2.2.2.2.2.2.2.2.2.2.2.2.2.2.2.2.2.2.2.2.2.2.2.2.2.2.1 c.2.2.2.2.2.2.2.2.2.2.2.2.2.2.2.2.2.2.2.2.2.2.2.2.2.2.2.2.2.2.2.2.2.2.2.2.2.2.2.2.2.2.2.2.2.2.2.2.2.2.2.2.2.2.2.2) h (x0, x1, x2, x3, x4, x5, x6, x7, x8, x9, x10, x11, x12, x13, x14, x15, x16, x17, x18, x19, x20, x21, x22, x23, x24, x25, x26, x27, x28, x29, x30, x31, x32, x33, x34, x35, x36, x37, x38, x39, x40, x41, x42, x43, x44, x45, x46, x47, x48, x49, x50, x51, x52, x53, x54, x55, x56)
end
section
variable {α0 α1 α2 α3 α4 α5 α6 α7 α8 α9 α10 α11 α12 α13 α14 α15 α16 α17 α18 α19 α20 α21 α22 α23 α24 α25 α26 α27 α28 α29 α30 α31 α32 α33 α34 α35 α36 α37 α38 α39 α40 α41 α42 α43 α44 α45 α46 α47 α48 α49 α50 α51 α52 α53 α54 α55 α56 α57 α58 α59 α60 α61 α62 α63 α64 α65 : Type}
noncomputable def hkc66 (k : Nat) (d : α0 × α1 × α2 × α3 × α4 × α5 × α6 × α7 × α8 × α9 × α10 × α11 × α12 × α13 × α14 × α15 × α16 × α17 × α18 × α19 × α20 × α21 × α22 × α23 × α24 × α25 × α26 × α27 × α28 × α29 × α30 × α31 × α32 × α33 × α34 × α35 × α36 × α37 × α38 × α39 × α40 × α41 × α42 × α43 × α44 × α45 × α46 × α47 × α48 × α49 × α50 × α51 × α52 × α53 × α54 × α55 × α56 × α57 × α58 × α59 × α60 × α61 × α62 × α63 × α64 × α65) (Φ : α0 → α1 → α2 → α3 → α4 → α5 → α6 → α7 → α8 → α9 → α10 → α11 → α12 → α13 → α14 → α15 → α16 → α17 → α18 → α19 → α20 → α21 → α22 → α23 → α24 → α25 → α26 → α27 → α28 → α29 → α30 → α31 → α32 → α33 → α34 → α35 → α36 → α37 → α38 → α39 → α40 → α41 → α42 → α43 → α44 → α45 → α46 → α47 → α48 → α49 → α50 → α51 → α52 → α53 → α54 → α55 → α56 → α57 → α58 → α59 → α60 → α61 → α62 → α63 → α64 → α65 → Prop) : α0 × α1 × α2 × α3 × α4 × α5 × α6 × α7 × α8 × α9 × α10 × α11 × α12 × α13 × α14 × α15 × α16 × α17 × α18 × α19 × α20 × α21 × α22 × α23 × α24 × α25 × α26 × α27 × α28 × α29 × α30 × α31 × α32 × α33 × α34 × α35 × α36 × α37 × α38 × α39 × α40 × α41 × α42 × α43 × α44 × α45 × α46 × α47 × α48 × α49 × α50 × α51 × α52 × α53 × α54 × α55 × α56 × α57 × α58 × α59 × α60 × α61 × α62 × α63 × α64 × α65 := hkc k d fun c => Φ c.1 c.2.1 c.2.2.1 c.2.2.2.1 c.2.2.2.2.1 c.2.2.2.2.2.1 c.2.2.2.2.2.2.1 c.2.2.2.2.2.2.2.1 c.2.2.2.2.2.2.2.2.1 c.2.2.2.2.2.2.2.2.2.1 c.2.2.2.2.2.2.2.2.2.2.1 c.2.2.2.2.2.2.2.2.2.2.2.1 c.2.2.2.2.2.2.2.2.2.2.2.2.1 c.2.2.2.2.2.2.2.2.2.2.2.2.2.1 c.2.2.2.2.2.2.2.2.2.2.2.2.2.2.1 c.2.2.2.2.2.2.2.2.2.2.2.2.2.2.2.1 c.2.2.2.2.2.2.2.2.2.2.2.2.2.2.2.2.1 c.2.2.2.2.2.2.2.2.2.2.2.2.2.2.2.2.2.1 c.2.2.2.2.2.2.2.2.2.2.2.2.2.2.2.2.2.2.1 c.2.2.2.2.2.2.2.2.2.2.2.2.2.2.2.2.2.2.2.1 c.2.2.2.2.2.2.2.2.2.2.2.2.2.2.2.2.2.2.2.2.1 c.2.2.2.2.2.2.2.2.2.2.2.2.2.2.2.2.2.2.2.2.2.1 c.2.2.2.2.2.2.2.2.2.2.2.2.2.2.2.2.2.2.2.2.2.2.1 c.2.2.2.2.2.2.2.2.2.2.2.2.2.2.2.2.2.2.2.2.2.2.2.1 c.2.2.2.2.2.2.2.2.2.2.2.2.2.2.2.2.2.2.2.2.2.2.2.2.1 c.2.2.2.2.2.2.2.2.2.2.2.2.2.2.2.2.2.2.2.2.2.2.2.2.2.1 c.2.2.2.2.2.2.2.2.2.2.2.2.2.2.2.2.2.2.2.2.2.2.2.2.2.2.1 c.2.2.2.2.2.2.2.2.2.2.2.2.2.2.2.2.2.2.2.2.2.2.2.2.2.2.2.1 c.2.2.2.2.2.2.2.2.2.2.2.2.2.2.2.2.2.2.2.2.2.2.2.2.2.2.2.2.1 c.2.2.2.2.2.2.2.2.2.2.2.2.2.2.2.2.2.2.2.2.2.2.2.2.2.2.2.2.2.1 c.2.2.2.2.2.2.2.2.2.2.2.2.2.2.2.2.2.2.2.2.2.2.2.2.2.2.2.2.2.2.1 c.2.2.2.2.2.2.2.2.2.2.2.2.2.2.2.2.2.2.2.2.2.2.2.2.2.2.2.2.2.2.2.1 c.2.2.2.2.2.2.2.2.2.2.2.2.2.2.2.2.2.2.2.2.2.2.2.2.2.2.2.2.2.2.2.2.1 c.2.2.2.2.2.2.2.2.2.2.2.2.2.2.2.2.2.2.2.2.2.2.2.2.2.2.2.2.2.2.2.2.2.1 c.2.2.2.2.2.2.2.2.2.2.2.2.2.2.2.2.2.2.2.2.2.2.2.2.2.2.2.2.2.2.2.2.2.2.1 c.2.2.2.2.2.2.2.2.2.2.2.2.2.2.2.2.2.2.2.2.2.2.2.2.2.2.2.2.2.2.2.2.2.2.2.1 c.2.2.2.2.2.2.2.2.2.2.2.2.2.2.2.2.2.2.2.2.2.2.2.2.2.2.2.2.2.2.2.2.2.2.2.2.1 c.2.2.2.2.2.2.2.2.2.2.2.2.2.2.2.2.2.2.2.2.2.2.2.2.2.2.2.2.2.2.2.2.2.2.2.2.2.1 c.2.2.2.2.2.2.2.2.2.2.2.2.2.2.2.2.2.2.2.2.2.2.2.2.2.2.2.2.2.2.2.2.2.2.2.2.2.2.1 c.2.2.2.2.2.2.2.2.2.2.2.2.2.2.2.2.2.2.2.2.2.2.2.2.2.2.2.2.2.2.2.2.2.2.2.2.2.2.2.1 c.2.2.2.2.2.2.2.2.2.2.2.2.2.2.2.2.2.2.2.2.2.2.2.2.2.2.2.2.2.2.2.2.2.2.2.2.2.2.2.2.1 c.2.2.2.2.2.2.2.2.2.2.2.2.2.2.2.2.2.2.2.2.2.2.2.2.2.2.2.2.2.2.2.2.2.2.2.2.2.2.2.2.2.1 c.2.2.2.2.2.2.2.2.2.2.2.2.2.2.2.2.2.2.2.2.2.2.2.2.2.2.2.2.2.2.2.2.2.2.2.2.2.2.2.2.2.2.1 c.2.2.2.2.2.2.2.2.2.2.2.2.2.2.2.2.2.2.2.2.2.2.2.2.2.2.2.2.2.2.2.2.2.2.2.2.2.2.2.2.2.2.2.1 c.2.2.2.2.2.2.2.2.2.2.2.2.2.2.2.2.2.2.2.2.2.2.2.2.2.2.2.2.2.2.2.2.2.2.2.2.2.2.2.2.2.2.2.2.1 c.2.2.2.2.2.2.2.2.2.2.2.2.2.2.2.2.2.2.2.2.2.2.2.2.2.2.2.2.2.2.2.2.2.2.2.2.2.2.2.2.2.2.2.2.2.1 c.2.2.2.2.2.2.2.2.2.2.2.2.2.2.2.2.2.2.2.2.2.2.2.2.2.2.2.2.2.2.2.2.2.2.2.2.2.2.2.2.2.2.2.2.2.2.1 c.2.2.2.2.2.2.2.2.2.2.2.2.2.2.2.2.2.2.2.2.2.2.2.2.2.2.2.2.2.2.2.2.2.2.2.2.2.2.2.2.2.2.2.2.2.2.2.1 c.2.2.2.2.2.2.2.2.2.2.2.2.2.2.2.2.2.2.2.2.2.2.2.2.2.2.2.2.2.2.2.2.2.2.2.2.2.2.2.2.2.2.2.2.2.2.2.2.1 c.2.2.2.2.2.2.2.2.2.2.2.2.2.2.2.2.2.2.2.2.2.2.2.2.2.2.2.2.2.2.2.2.2.2.2.2.2.2.2.2.2.2.2.2.2.2.2.2.2.1 c.2.2.2.2.2.2.2.2.2.2.2.2.2.2.2.2.2.2.2.2.2.2.2.2.2.2.2.2.2.2.2.2.2.2.2.2.2.2.2.2.2.2.2.2.2.2.2.2.2.2.1 c.2.2.2.2.2.2.2.2.2.2.2.2.2.2.2.2.2.2.2.2.2.2.2.2.2.2.2.2.2.2.2.2.2.2.2.2.2.2.2.2.2.2.2.2.2.2.2.2.2.2.2.1 c.2.2.2.2.2.2.2.2.2.2.2.2.2.2.2.2.2.2.2.2.2.2.2.2.2.2.2.2.2.2.2.2.2.2.2.2.2.2.2.2.2.2.2.2.2.2.2.2.2.2.2.2.1 c.2.2.2.2.2.2.2.2.2.2.2.2.2.2.2.2.2.2.2.2.2.2.2.2.2.2.2.2.2.2.2.2.2.2.2.2.2.2.2.2.2.2.2.2.2.2.2.2.2.2.2.2.2.1 c.2.2.2.2.2.2.2.2.2.2.2.2.2.2.2.2.2.2.2.2.2.2.2.2.2.2.2.2.2.2.2.2.2.2.2.2.2.2.2.2.2.2.2.2.2.2.2.2.2.2.2.2.2.2.1 c.2.2.2.2.2.2.2.2.2.2.2.2.2.2.2.2.2.2.2.2.2.2.2.2.2.2.2.2.2.2.2.2.2.2.2.2.2.2.2.2.2.2.2.2.2.2.2.2.2.2.2.2.2.2.2.1 c.2.2.2.2.2.2.2.2.2.2.2.2.2.2.2.2.2.2.2.2.2.2.2.2.2.2.2.2.2.2.2.2.2.2.2.2.2.2.2.2.2.2.2.2.2.2.2.2.2.2.2.2.2.2.2.2.1 c.2.2.2.2.2.2.2.2.2.2.2.2.2.2.2.2.2.2.2.2.2.2.2.2.2.2.2.2.2.2.2.2.2.2.2.2.2.2.2.2.2.2.2.2.2.2.2.2.2.2.2.2.2.2.2.2.2.1 c.2.2.2.2.2.2.2.2.2.2.2.2.2.2.2.2.2.2.2.2.2.2.2.2.2.2.2.2.2.2.2.2.2.2.2.2.2.2.2.2.2.2.2.2.2.2.2.2.2.2.2.2.2.2.2.2.2.2.1 c.2.2.2.2.2.2.2.2.2.2.2.2.2.2.2.2.2.2.2.2.2.2.2.2.2.2.2.2.2.2.2.2.2.2.2.2.2.2.2.2.2.2.2.2.2.2.2.2.2.2.2.2.2.2.2.2.2.2.2.1 c.2.2.2.2.2.2.2.2.2.2.2.2.2.2.2.2.2.2.2.2.2.2.2.2.2.2.2.2.2.2.2.2.2.2.2.2.2.2.2.2.2.2.2.2.2.2.2.2.2.2.2.2.2.2.2.2.2.2.2.2.1 c.2.2.2.2.2.2.2.2.2.2.2.2.2.2.2.2.2.2.2.2.2.2.2.2.2.2.2.2.2.2.2.2.2.2.2.2.2.2.2.2.2.2.2.2.2.2.2.2.2.2.2.2.2.2.2.2.2.2.2.2.2.1 c.2.2.2.2.2.2.2.2.2.2.2.2.2.2.2.2.2.2.2.2.2.2.2.2.2.2.2.2.2.2.2.2.2.2.2.2.2.2.2.2.2.2.2.2.2.2.2.2.2.2.2.2.2.2.2.2.2.2.2.2.2.2.1 c.2.2.2.2.2.2.2.2.2.2.2.2.2.2.2.2.2.2.2.2.2.2.2.2.2.2.2.2.2.2.2.2.2.2.2.2.2.2.2.2.2.2.2.2.2.2.2.2.2.2.2.2.2.2.2.2.2.2.2.2.2.2.2.1 c.2.2.2.2.2.2.2.2.2.2.2.2.2.2.2.2.2.2.2.2.2.2.2.2.2.2.2.2.2.2.2.2.2.2.2.2.2.2.2.2.2.2.2.2.2.2.2.2.2.2.2.2.2.2.2.2.2.2.2.2.2.2.2.2.1 c.2.2.2.2.2.2.2.2.2.2.2.2.2.2.2.2.2.2.2.2.2.2.2.2.2.2.2.2.2.2.2.2.2.2.2.2.2.2.2.2.2.2.2.2.2.2.2.2.2.2.2.2.2.2.2.2.2.2.2.2.2.2.2.2.2
theorem hk66 (k : Nat) (d : α0 × α1 × α2 × α3 × α4 × α5 × α6 × α7 × α8 × α9 × α10 × α11 × α12 × α13 × α14 × α15 × α16 × α17 × α18 × α19 × α20 × α21 × α22 × α23 × α24 × α25 × α26 × α27 × α28 × α29 × α30 × α31 × α32 × α33 × α34 × α35 × α36 × α37 × α38 × α39 × α40 × α41 × α42 × α43 × α44 × α45 × α46 × α47 × α48 × α49 × α50 × α51 × α52 × α53 × α54 × α55 × α56 × α57 × α58 × α59 × α60 × α61 × α62 × α63 × α64 × α65) (Φ : α0 → α1 → α2 → α3 → α4 → α5 → α6 → α7 → α8 → α9 → α10 → α11 → α12 → α13 → α14 → α15 → α16 → α17 → α18 → α19 → α20 → α21 → α22 → α23 → α24 → α25 → α26 → α27 → α28 → α29 → α30 → α31 → α32 → α33 → α34 → α35 → α36 → α37 → α38 → α39 → α40 → α41 → α42 → α43 → α44 → α45 → α46 → α47 → α48 → α49 → α50 → α51 → α52 → α53 → α54 → α55 → α56 → α57 → α58 → α59 → α60 → α61 → α62 → α63 → α64 → α65 → Prop) (h : Φ (hkc66 k d Φ).1 (hkc66 k d Φ).2.1 (hkc66 k d Φ).2.2.1 (hkc66 k d Φ).2.2.2.1 (hkc66 k d Φ).2.2.2.2.1 (hkc66 k d Φ).2.2.2.2.2.1 (hkc66 k d Φ).2.2.2.2.2.2.1 (hkc66 k d Φ).2.2.2.2.2.2.2.1 (hkc66 k d Φ).2.2.2.2.2.2.2.2.1 (hkc66 k d Φ).2.2.2.2.2.2.2.2.2.1 (hkc66 k d Φ).2.2.2.2.2.2.2.2.2.2.1 (hkc66 k d Φ).2.2.2.2.2.2.2.2.2.2.2.1 (hkc66 k d Φ).2.2.2.2.2.2.2.2.2.2.2.2.1 (hkc66 k d Φ).2.2.2.2.2.2.2.2.2.2.2.2.2.1 (hkc66 k d Φ).2.2.2.2.2.2.2.2.2.2.2.2.2.2.1 (hkc66 k d Φ).2.2.2.2.2.2.2.2.2.2.2.2.2.2.2.1 (hkc66 k d Φ).2.2.2.2.2.2.2.2.2.2.2.2.2.2.2.2.1 (hkc66 k d Φ).2.2.2.2.2.2.2.2.2.2.2.2.2.2.2.2.2.1 (hkc66 k d Φ).2.2.2.2.2.2.2.2.2.2.2.2.2.2.2.2.2.2.1 (hkc66 k d Φ).2.2.2.2.2.2.2.2.2.2.2.2.2.2.2.2.2.2.2.1 (hkc66 k d Φ).2.2.2.2.2.2.2.2.2.2.2.2.2.2.2.2.2.2.2.2.1 (hkc66 k d Φ).2.2.2.2.2.2.2.2.2.2.2.2.2.2.2.2.2.2.2.2.2.1 (hkc66 k d Φ).2.2.2.2.2.2.2.2.2.2.2.2.2.2.2.2.2.2.2.2.2.2.1 (hkc66 k d Φ).2.2.2.2.2.2.2.2.2.2.2.2.2.2.2.2.2.2.2.2.2.2.2.1 (hkc66 k d Φ).2.2.2.2.2.2.2.2.2.2.2.2.2.2.2.2.2.2.2.2.2.2.2.2.1 (hkc66 k d Φ).2.2.2.2.2.2.2.2.2.2.2.2.2.2.2.2.2.2.2.2.2.2.2.2.2.1 (hkc66 k d Φ).2.2.2.2.2.2.2.2.2.2.2.2.2.2.2.2.2.2.2.2.2.2.2.2.2.2.1 (hkc66 k d Φ).2.2.2.2.2.2.2.2.2.2.2.2.2.2.2.2.2.2.2.2.2.2.2.2.2.2.2.1 (hkc66 k d Φ).2.2.2.2.2.2.2.2.2.2.2.2.2.2.2.2.2.2.2.2.2.2.2.2.2.2.2.2.1 (hkc66 k d Φ).2.2.2.2.2.2.2.2.2.2.2.2.2.2.2.2.2.2.2.2.2.2.2.2.2.2.2.2.2.1 (hkc66 k d Φ).2.2.2.2.2.2.2.2.2.2.2.2.2.2.2.2.2.2.2.2.2.2.2.2.2.2.2.2.2.2.1 (hkc66 k d Φ).2.2.2.2.2.2.2.2.2.2.2.2.2.2.2.2.2.2.2.2.2.2.2.2.2.2.2.2.2.2.2.1 (hkc66 k d Φ).2.2.2.2.2.2.2.2.2.2.2.2.2.2.2.2.2.2.2.2.2.2.2.2.2.2.2.2.2.2.2.2.1 (hkc66 k d Φ).2.2.2.2.2.2.2.2.2.2.2.2.2.2.2.2.2.2.2.2.2.2.2.2.2.2.2.2.2.2.2.2.2.1 (hkc66 k d Φ).2.2.2.2.2.2.2.2.2.2.2.2.2.2.2.2.2.2.2.2.2.2.2.2.2.2.2.2.2.2.2.2.2.2.1 (hkc66 k d Φ).2.2.2.2.2.2.2.2.2.2.2.2.2.2.2.2.2.2.2.2.2.2.2.2.2.2.2.2.2.2.2.2.2.2.2.1 (hkc66 k d Φ).2.2.2.2.2.2.2.2.2.2.2.2.2.2.2.2.2.2.2.2.2.2.2.2.2.2.2.2.2.2.2.2.2.2.2.2.1 (hkc66 k d Φ).2.2.2.2.2.2.2.2.2.2.2.2.2.2.2.2.2.2.2.2.2.2.2.2.2.2.2.2.2.2.2.2.2.2.2.2.2.1 (hkc66 k d Φ).2.2.2.2.2.2.2.2.2.2.2.2.2.2.2.2.2.2.2.2.2.2.2.2.2.2.2.2.2.2.2.2.2.2.2.2.2.2.1 (hkc66 k d Φ).2.2.2.2.2.2.2.2.2.2.2.2.2.2.2.2.2.2.2.2.2.2.2.2.2.2.2.2.2.2.2.2.2.2.2.2.2.2.2.1 (hkc66 k d Φ).2.2.2.2.2.2.2.2.2.2.2.2.2.2.2.2.2.2.2.2.2.2.2.2.2.2.2.2.2.2.2.2.2.2.2.2.2.2.2.2.1 (hkc66 k d Φ).2.2.2.2.2.2.2.2.2.2.2.2.2.2.2.2.2.2.2.2.2.2.2.2.2.2.2.2.2.2.2.2.2.2.2.2.2.2.2.2.2.1 (hkc66 k d Φ).2.2.2.2.2.2.2.2.2.2.2.2.2.2.2.2.2.2.2.2.2.2.2.2.2.2.2.2.2.2.2.2.2.2.2.2.2.2.2.2.2.2.1 (hkc66 k d Φ).2.2.2.2.2.2.2.2.2.2.2.2.2.2.2.2.2.2.2.2.2.2.2.2.2.2.2.2.2.2.2.2.2.2.2.2.2.2.2.2.2.2.2.1 (hkc66 k d Φ).2.2.2.2.2.2.2.2.2.2.2.2.2.2.2.2.2.2.2.2.2.2.2.2.2.2.2.2.2.2.2.2.2.2.2.2.2.2.2.2.2.2.2.2.1 (hkc66 k d Φ).2.2.2.2.2.2.2.2.2.2.2.2.2.2.2.2.2.2.2.2.2.2.2.2.2.2.2.2.2.2.2.2.2.2.2.2.2.2.2.2.2.2.2.2.2.1 (hkc66 k d Φ).2.2.2.2.2.2.2.2.2.2.2.2.2.2.2.2.2.2.2.2.2.2.2.2.2.2.2.2.2.2.2.2.2.2.2.2.2.2.2.2.2.2.2.2.2.2.1 (hkc66 k d Φ).2.2.2.2.2.2.2.2.2.2.2.2.2.2.2.2.2.2.2.2.2.2.2.2.2.2.2.2.2.2.2.2.2.2.2.2.2.2.2.2.2.2.2.2.2.2.2.1 (hkc66 k d Φ).2.2.2.2.2.2.2.2.2.2.2.2.2.2.2.2.2.2.2.2.2.2.2.2.2.2.2.2.2.2.2.2.2.2.2.2.2.2.2.2.2.2.2.2.2.2.2.2.1 (hkc66 k d Φ).2.2.2.2.2.2.2.2.2.2.2.2.2.2.2.2.2.2.2.2.2.2.2.2.2.2.2.2.2.2.2.2.2.2.2.2.2.2.2.2.2.2.2.2.2.2.2.2.2.1 (hkc66 k d Φ).2.2.2.2.2.2.2.2.2.2.2.2.2.2.2.2.2.2.2.2.2.2.2.2.2.2.2.2.2.2.2.2.2.2.2.2.2.2.2.2.2.2.2.2.2.2.2.2.2.2.1 (hkc66 k d Φ).2.2.2.2.2.2.2.2.2.2.2.2.2.2.2.2.2.2.2.2.2.2.2.2.2.2.2.2.2.2.2.2.2.2.2.2.2.2.2.2.2.2.2.2.2.2.2.2.2.2.2.1 (hkc66 k d Φ).2.2.2.2.2.2.2.2.2.2.2.2.2.2.2.2.2.2.2.2.2.2.2.2.2.2.2.2.2.2.2.2.2.2.2.2.2.2.2.2.2.2.2.2.2.2.2.2.2.2.2.2.1 (hkc66 k d Φ).2.2.2.2.2.2.2.2.2.2.2.2.2.2.2.2.2.2.2.2.2.2.2.2.2.2.2.2.2.2.2.2.2.2.2.2.2.2.2.2.2.2.2.2.2.2.2.2.2.2.2.2.2.1 (hkc66 k d Φ).2.2.2.2.2.2.2.2.2.2.2.2.2.2.2.2.2.2.2.2.2.2.2.2.2.2.2.2.2.2.2.2.2.2.2.2.2.2.2.2.2.2.2.2.2.2.2.2.2.2.2.2.2.2.1 (hkc66 k d Φ).2.2.2.2.2.2.2.2.2.2.2.2.2.2.2.2.2.2.2.2.2.2.2.2.2.2.2.2.2.2.2.2.2.2.2.2.2.2.2.2.2.2.2.2.2.2.2.2.2.2.2.2.2.2.2.1 (hkc66 k d Φ).2.2.2.2.2.2.2.2.2.2.2.2.2.2.2.2.2.2.2.2.2.2.2.2.2.2.2.2.2.2.2.2.2.2.2.2.2.2.2.2.2.2.2.2.2.2.2.2.2.2.2.2.2.2.2.2.1 (hkc66 k d Φ).2.2.2.2.2.2.2.2.2.2.2.2.2.2.2.2.2.2.2.2.2.2.2.2.2.2.2.2.2.2.2.2.2.2.2.2.2.2.2.2.2.2.2.2.2.2.2.2.2.2.2.2.2.2.2.2.2.1 (hkc66 k d Φ).2.2.2.2.2.2.2.2.2.2.2.2.2.2.2.2.2.2.2.2.2.2.2.2.2.2.2.2.2.2.2.2.2.2.2.2.2.2.2.2.2.2.2.2.2.2.2.2.2.2.2.2.2.2.2.2.2.2.1 (hkc66 k d Φ).2.2.2.2.2.2.2.2.2.2.2.2.2.2.2.2.2.2.2.2.2.2.2.2.2.2.2.2.2.2.2.2.2.2.2.2.2.2.2.2.2.2.2.2.2.2.2.2.2.2.2.2.2.2.2.2.2.2.2.1 (hkc66 k d Φ).2.2.2.2.2.2.2.2.2.2.2.2.2.2.2.2.2.2.2.2.2.2.2.2.2.2.2.2.2.2.2.2.2.2.2.2.2.2.2.2.2.2.2.2.2.2.2.2.2.2.2.2.2.2.2.2.2.2.2.2.1 (hkc66 k d Φ).2.2.2.2.2.2.2.2.2.2.2.2.2.2.2.2.2.2.2.2.2.2.2.2.2.2.2.2.2.2.2.2.2.2.2.2.2.2.2.2.2.2.2.2.2.2.2.2.2.2.2.2.2.2.2.2.2.2.2.2.2.1 (hkc66 k d Φ).2.2.2.2.2.2.2.2.2.2.2.2.2.2.2.2.2.2.2.2.2.2.2.2.2.2.2.2.2.2.2.2.2.2.2.2.2.2.2.2.2.2.2.2.2.2.2.2.2.2.2.2.2.2.2.2.2.2.2.2.2.2.1 (hkc66 k d Φ).2.2.2.2.2.2.2.2.2.2.2.2.2.2.2.2.2.2.2.2.2.2.2.2.2.2.2.2.2.2.2.2.2.2.2.2.2.2.2.2.2.2.2.2.2.2.2.2.2.2.2.2.2.2.2.2.2.2.2.2.2.2.2.1 (hkc66 k d Φ).2.2.2.2.2.2.2.2.2.2.2.2.2.2.2.2.2.2.2.2.2.2.2.2.2.2.2.2.2.2.2.2.2.2.2.2.2.2.2.2.2.2.2.2.2.2.2.2.2.2.2.2.2.2.2.2.2.2.2.2.2.2.2.2.1 (hkc66 k d Φ).2.2.2.2.2.2.2.2.2.2.2.2.2.2.2.2.2.2.2.2.2.2.2.2.2.2.2.2.2.2.2.2.2.2.2.2.2.2.2.2.2.2.2.2.2.2.2.2.2.2.2.2.2.2.2.2.2.2.2.2.2.2.2.2.2) : ∀ x0 x1 x2 x3 x4 x5 x6 x7 x8 x9 x10 x11 x12 x13 x14 x15 x16 x17 x18 x19 x20 x21 x22 x23 x24 x25 x26 x27 x28 x29 x30 x31 x32 x33 x34 x35 x36 x37 x38 x39 x40 x41 x42 x43 x44 x45 x46 x47 x48 x49 x50 x51 x52 x53 x54 x55 x56 x57 x58 x59 x60 x61 x62 x63 x64 x65, Φ x0 x1 x2 x3 x4 x5 x6 x7 x8 x9 x10 x11 x12 x13 x14 x15 x16 x17 x18 x19 x20 x21 x22 x23 x24 x25 x26 x27 x28 x29 x30 x31 x32 x33 x34 x35 x36 x37 x38 x39 x40 x41 x42 x43 x44 x45 x46 x47 x48 x49 x50 x51 x52 x53 x54 x55 x56 x57 x58 x59 x60 x61 x62 x63 x64 x65 := fun x0 x1 x2 x3 x4 x5 x6 x7 x8 x9 x10 x11 x12 x13 x14 x15 x16 x17 x18 x19 x20 x21 x22 x23 x24 x25 x26 x27 x28 x29 x30 x31 x32 x33 x34 x35 x36 x37 x38 x39 x40 x41 x42 x43 x44 x45 x46 x47 x48 x49 x50 x51 x52 x53 x54 x55 x56 x57 x58 x59 x60 x61 x62 x63 x64 x65 => hkc_spec k d (fun c => Φ c.1 c.2.1 c.2.2.1 c.2.2.2.1 c.2.2.2.2.1 c.2.2.2.2.2.1 c.2.2.2.2.2.2.1 c.2.2.2.2.2.2.2.1 c.2.2.2.2.2.2.2.2.1 c.2.2.2.2.2.2.2.2.2.1 c.2.2.2.2.2.2.2.2.2.2.1 c.2.2.2.2.2.2.2.2.2.2.2.1 c.2.2.2.2.2.2.2.2.2.2.2.2.1 c.2.2.2.2.2.2.2.2.2.2.2.2.2.1 c.2.2.2.2.2.2.2.2.2.2.2.2.2.2.1 c.2.2.2.2.2.2.2.2.2.2.2.2.2.2.2.1 c.2.2.2.2.2.2.2.2.2.2.2.2.2.2.2.2.1 c.2.2.2.2.2.2.2.2.2.2.2.2.2.2.2.2.2.1 c.2.2.2.2.2.2.2.2.2.2.2.2.2.2.2.2.2.2.1 c.2.2.2.2.2.2.2.2.2.2.2.2.2.2.2.2.2.2.2.1 c.2.2.2.2.2.2.2.2.2.2.2.2.2.2.2.2.2.2.2.2.1 c.2.2.2.2.2.2.2.2.2.2.2.2.2.2.2.2.2.2.2.2.2.1 c.2.2.2.2.2.2.2.2.2.2.2.2.2.2.2.2.2.2.2.2.2.2.1 c.2.2.2.2.2.2.2.2.2.2.2.2.2.2.2.2.2.2.2.2.2.2.2.1 c.2.2.2.2.2.2.2.2.2.2.2.2.2.2.2.2.2.2.2.2.2.2.2.2.1 c.2.2.2.2.2.2.2.2.2.2.2.2.2.2.2.2.2.2.2.2.2.2.2.2.2.1 c.2.2.2.2.2.2.2.2.2.2.2.2.2.2.2.2.2.2.2.2.2.2.2.2.2.2.1 c.2.2.2.2.2.2.2.2.2.2.2.2.2.2.2.2.2.2.2.2.2.2.2.2.2.2.2.1 c.2.2.2.2.2.2.2.2.2.2.2.2.2.2.2.2.2.2.2.2.2.2.2.2.2.2.2.2.1 c.2.2.2.2.2.2.2.2.2.2.2.2.2.2.2.2.2.2.2.2.2.2.2.2.2.2.2.2.2.1 c.2.2.2.2.2.2.2.2.2.2.2.2.2.2.2.2.2.2.2.2.2.2.2.2.2.2.2.2.2.2.1 c.2.2.2.2.2.2.2.2.2.2.2.2.2.2.2.2.2.2.2.2.2.2.2.2.2.2.2.2.2.2.2.1 c.2.2.2.2.2.2.2.2.2.2.2.2.2.2.2.2.2.2.2.2.2.2.2.2.2.2.2.2.2.2.2.2.1 c.2.2.2.2.2.2.2.2.2.2.2.2.2.2.2.2.2.2.2.2.2.2.2.2.2.2.2.2.2.2.2.2.2.1 c.2.2.2.2.2.2.2.2.2.2.2.2.2.2.2.2.2.2.2.2.2.2.2.2.2.2.2.2.2.2.2.2.2.2.1 c.2.2.2.2.2.2.2.2.2.2.2.2.2.2.2.2.2.2.2.2.2.2.2.2.2.2.2.2.2.2.2.2.2.2.2.1 c.2.2.2.2.2.2.2.2.2.2.2.2.2.2.2.2.2.2.2.2.2.2.2.2.2.2.2.2.2.2.2.2.2.2.2.2.1 c.2.2.2.2.2.2.2.2.2.2.2.2.2.2.2.2.2.2.2.2.2.2.2.2.2.2.2.2.2.2.2.2.2.2.2.2.2.1 c.2.2.2.2.2.2.2.2.2.2.2.2.2.2.2.2.2.2.2.2.2.2.2.2.2.2.2.2.2.2.2.2.2.2.2.2.2.2.1 c.2.2.2.2.2.2.2.2.2.2.2.2.2.2.2.2.2.2.2.2.2.2.2.2.2.2.2.2.2.2.2.2.2.2.2.2.2.2.2.1 c.2.2.2.2.2.2.2.2.2.2.2.2.2.2.2.2.2.2.2.2.2.2.2.2.2.2.2.2.2.2.2.2.2.2.2.2.2.2.2.2.1 c.2.2.2.2.2.2.2.2.2.2.2.2.2.2.2.2.2.2.2.2.2.2.2.2.2.2.2.2.2.2.2.2.2.2.2.2.2.2.2.2.2.1 c.2.2.2.2.2.2.2.2.2.2.2.2.2.2.2.2.2.2.2.2.2.2.2.2.2.2.2.2.2.2.2.2.2.2.2.2.2.2.2.2.2.2.1 c.2.2.2.2.2.2.2.2.2.2.2.2.2.2.2.2.2.2.2.2.2.2.2.2.2.2.2.2.2.2.2.2.2.2.2.2.2.2.2.2.2.2.2.1 c.2.2.2.2.2.2.2.2.2.2.2.2.2.2.2.2.2.2.2.2.2.2.2.2.2.2.2.2.2.2.2.2.2.2.2.2.2.2.2.2.2.2.2.2.1 c.2.2.2.2.2.2.2.2.2.2.2.2.2.2.2.2.2.2.2.2.2.2.2.2.2.2.2.2.2.2.2.2.2.2.2.2.2.2.2.2.2.2.2.2.2.1 c.2.2.2.2.2.2.2.2.2.2.2.2.2.2.2.2.2.2.2.2.2.2.2.2.2.2.2.2.2.2.2.2.2.2.2.2.2.2.2.2.2.2.2.2.2.2.1 c.2.2.2.2.2.2.2.2.2.2.2.2.2.2.2.2.2.2.2.2.2.2.2.2.2.2.2.2.2.2.2.2.2.2.2.2.2.2.2.2.2.2.2.2.2.2.2.1 c.2.2.2.2.2.2.2.2.2.2.2.2.2.2.2.2.2.2.2.2.2.2.2.2.2.2.2.2.2.2.2.2.2.2.2.2.2.2.2.2.2.2.2.2.2.2.2.2.1 c.2.2.2.2.2.2.2.2.2.2.2.2.2.2.2.2.2.2.2.2.2.2.2.2.2.2.2.2.2.2.2.2.2.2.2.2.2.2.2.2.2.2.2.2.2.2.2.2.2.1 c.2.2.2.2.2.2.2.2.2.2.2.2.2.2.2.2.2.2.2.2.2.2.2.2.2.2.2.2.2.2.2.2.2.2.2.2.2.2.2.2.2.2.2.2.2.2.2.2.2.2.1 c.2.2.2.2.2.2.2.2.2.2.2.2.2.2.2.2.2.2.2.2.2.2.2.2.2.2.2.2.2.2.2.2.2.2.2.2.2.2.2.2.2.2.2.2.2.2.2.2.2.2.2.1 c.2.2.2.2.2.2.2.2.2.2.2.2.2.2.2.2.2.2.2.2.2.2.2.2.2.2.2.2.2.2.2.2.2.2.2.2.2.2.2.2.2.2.2.2.2.2.2.2.2.2.2.2.1 c.2.2.2.2.2.2.2.2.2.2.2.2.2.2.2.2.2.2.2.2.2.2.2.2.2.2.2.2.2.2.2.2.2.2.2.2.2.2.2.2.2.2.2.2.2.2.2.2.2.2.2.2.2.1 c.2.2.2.2.2.2.2.2.2.2.2.2.2.2.2.2.2.2.2.2.2.2.2.2.2.2.2.2.2.2.2.2.2.2.2.2.2.2.2.2.2.2.2.2.2.2.2.2.2.2.2.2.2.2.1 c.2.2.2.2.2.2.2.2.2.2.2.2.2.2.2.2.2.2.2.2.2.2.2.2.2.2.2.2.2.2.2.2.2.2.2.2.2.2.2.2.2.2.2.2.2.2.2.2.2.2.2.2.2.2.2.1 c.2.2.2.2.2.2.2.2.2.2.2.2.2.2.2.2.2.2.2.2.2.2.2.2.2.2.2.2.2.2.2.2.2.2.2.2.2.2.2.2.2.2.2.2.2.2.2.2.2.2.2.2.2.2.2.2.1 c.2.2.2.2.2.2.2.2.2.2.2.2.2.2.2.2.2.2.2.2.2.2.2.2.2.2.2.2.2.2.2.2.2.2.2.2.2.2.2.2.2.2.2.2.2.2.2.2.2.2.2.2.2.2.2.2.2.1 c.2.2.2.2.2.2.2.2.2.2.2.2.2.2.2.2.2.2.2.2.2.2.2.2.2.2.2.2.2.2.2.2.2.2.2.2.2.2.2.2.2.2.2.2.2.2.2.2.2.2.2.2.2.2.2.2.2.2.1 c.2.2.2.2.2.2.2.2.2.2.2.2.2.2.2.2.2.2.2.2.2.2.2.2.2.2.2.2.2.2.2.2.2.2.2.2.2.2.2.2.2.2.2.2.2.2.2.2.2.2.2.2.2.2.2.2.2.2.2.1 c.2.2.2.2.2.2.2.2.2.2.2.2.2.2.2.2.2.2.2.2.2.2.2.2.2.2.2.2.2.2.2.2.2.2.2.2.2.2.2.2.2.2.2.2.2.2.2.2.2.2.2.2.2.2.2.2.2.2.2.2.1 c.2.2.2.2.2.2.2.2.2.2.2.2.2.2.2.2.2.2.2.2.2.2.2.2.2.2.2.2.2.2.2.2.2.2.2.2.2.2.2.2.2.2.2.2.2.2.2.2.2.2.2.2.2.2.2.2.2.2.2.2.2.1 c.2.2.2.2.2.2.2.2.2.2.2.2.2.2.2.2.2.2.2.2.2.2.2.2.2.2.2.2.2.2.2.2.2.2.2.2.2.2.2.2.2.2.2.2.2.2.2.2.2.2.2.2.2.2.2.2.2.2.2.2.2.2.1 c.2.2.2.2.2.2.2.2.2.2.2.2.2.2.2.2.2.2.2.2.2.2.2.2.2.2.2.2.2.2.2.2.2.2.2.2.2.2.2.2.2.2.2.2.2.2.2.2.2.2.2.2.2.2.2.2.2.2.2.2.2.2.2.1 c.2.2.2.2.2.2.2.2.2.2.2.2.2.2.2.2.2.2.2.2.2.2.2.2.2.2.2.2.2.2.2.2.2.2.2.2.2.2.2.2.2.2.2.2.2.2.2.2.2.2.2.2.2.2.2.2.2.2.2.2.2.2.2.2.1 c.2.2.2.2.2.2.2.2.2.2.2.2.2.2.2.2.2.2.2.2.2.2.2.2.2.2.2.2.2.2.2.2.2.2.2.2.2.2.2.2.2.2.2.2.2.2.2.2.2.2.2.2.2.2.2.2.2.2.2.2.2.2.2.2.2) h (x0, x1, x2, x3, x4, x5, x6, x7, x8, x9, x10, x11, x12, x13, x14, x15, x16, x17, x18, x19, x20, x21, x22, x23, x24, x25, x26, x27, x28, x29, x30, x31, x32, x33, x34, x35, x36, x37, x38, x39, x40, x41, x42, x43, x44, x45, x46, x47, x48, x49, x50, x51, x52, x53, x54, x55, x56, x57, x58, x59, x60, x61, x62, x63, x64, x65)
end
section
variable {α0 α1 α2 α3 α4 α5 α6 α7 α8 α9 α10 α11 α12 α13 α14 α15 α16 α17 α18 α19 α20 α21 α22 α23 α24 α25 α26 α27 α28 α29 α30 α31 α32 α33 α34 α35 α36 α37 α38 α39 α40 α41 α42 α43 α44 α45 α46 α47 α48 α49 α50 α51 α52 α53 α54 α55 α56 α57 α58 α59 α60 α61 α62 α63 α64 α65 α66 α67 α68 α69 α70 α71 α72 α73 α74 α75 α76 α77 α78 α79 α80 α81 α82 α83 : Type}
noncomputable def hkc84 (k : Nat) (d : α0 × α1 × α2 × α3 × α4 × α5 × α6 × α7 × α8 × α9 × α10 × α11 × α12 × α13 × α14 × α15 × α16 × α17 × α18 × α19 × α20 × α21 × α22 × α23 × α24 × α25 × α26 × α27 × α28 × α29 × α30 × α31 × α32 × α33 × α34 × α35 × α36 × α37 × α38 × α39 × α40 × α41 × α42 × α43 × α44 × α45 × α46 × α47 × α48 × α49 × α50 × α51 × α52 × α53 × α54 × α55 × α56 × α57 × α58 × α59 × α60 × α61 × α62 × α63 × α64 × α65 × α66 × α67 × α68 × α69 × α70 × α71 × α72 × α73 × α74 × α75 × α76 × α77 × α78 × α79 × α80 × α81 × α82 × α83) (Φ : α0 → α1 → α2 → α3 → α4 → α5 → α6 → α7 → α8 → α9 → α10 → α11 → α12 → α13 → α14 → α15 → α16 → α17 → α18 → α19 → α20 → α21 → α22 → α23 → α24 → α25 → α26 → α27 → α28 → α29 → α30 → α31 → α32 → α33 → α34 → α35 → α36 → α37 → α38 → α39 → α40 → α41 → α42 → α43 → α44 → α45 → α46 → α47 → α48 → α49 → α50 → α51 → α52 → α53 → α54 → α55 → α56 → α57 → α58 → α59 → α60 → α61 → α62 → α63 → α64 → α65 → α66 → α67 → α68 → α69 → α70 → α71 → α72 → α73 → α74 → α75 → α76 → α77 → α78 → α79 → α80 → α81 → α82 → α83 → Prop) : α0 × α1 × α2 × α3 × α4 × α5 × α6 × α7 × α8 × α9 × α10 × α11 × α12 × α13 × α14 × α15 × α16 × α17 × α18 × α19 × α20 × α21 × α22 × α23 × α24 × α25 × α26 × α27 × α28 × α29 × α30 × α31 × α32 × α33 × α34 × α35 × α36 × α37 × α38 × α39 × α40 × α41 × α42 × α43 × α44 × α45 × α46 × α47 × α48 × α49 × α50 × α51 × α52 × α53 × α54 × α55 × α56 × α57 × α58 × α59 × α60 × α61 × α62 × α63 × α64 × α65 × α66 × α67 × α68 × α69 × α70 × α71 × α72 × α73 × α74 × α75 × α76 × α77 × α78 × α79 × α80 × α81 × α82 × α83 := hkc k d fun c => Φ c.1 c.2.1 c.2.2.1 c.2.2.2.1 c.2.2.2.2.1 c.2.2.2.2.2.1 c.2.2.2.2.2.2.1 c.2.2.2.2.2.2.2.1 c.2.2.2.2.2.2.2.2.1 c.2.2.2.2.2.2.2.2.2.1 c.2.2.2.2.2.2.2.2.2.2.1 c.2.2.2.2.2.2.2.2.2.2.2.1 c.2.2.2.2.2.2.2.2.2.2.2.2.1 c.2.2.2.2.2.2.2.2.2.2.2.2.2.1 c.2.2.2.2.2.2.2.2.2.2.2.2.2.2.1 c.2.2.2.2.2.2.2.2.2.2.2.2.2.2.2.1 c.2.2.2.2.2.2.2.2.2.2.2.2.2.2.2.2.1 c.2.2.2.2.2.2.2.2.2.2.2.2.2.2.2.2.2.1 c.2.2.2.2.2.2.2.2.2.2.2.2.2.2.2.2.2.2.1 c.2.2.2.2.2.2.2.2.2.2.2.2.2.2.2.2.2.2.2.1 c.2.2.2.2.2.2.2.2.2.2.2.2.2.2.2.2.2.2.2.2.1 c.2.2.2.2.2.2.2.2.2.2.2.2.2.2.2.2.2.2.2.2.2.1 c.2.2.2.2.2.2.2.2.2.2.2.2.2.2.2.2.2.2.2.2.2.2.1 c.2.2.2.2.2.2.2.2.2.2.2.2.2.2.2.2.2.2.2.2.2.2.2.1 c.2.2.2.2.2.2.2.2.2.2.2.2.2.2.2.2.2.2.2.2.2.2.2.2.1 c.2.2.2.2.2.2.2.2.2.2.2.2.2.2.2.2.2.2.2.2.2.2.2.2.2.1 c.2.2.2.2.2.2.2.2.2.2.2.2.2.2.2.2.2.2.2.2.2.2.2.2.2.2.1 c.2.2.2.2.2.2.2.2.2.2.2.2.2.2.2.2.2.2.2.2.2.2.2.2.2.2.2.1 c.2.2.2.2.2.2.2.2.2.2.2.2.2.2.2.2.2.2.2.2.2.2.2.2.2.2.2.2.1 c.2.2.2.2.2.2.2.2.2.2.2.2.2.2.2.2.2.2.2.2.2.2.2.2.2.2.2.2.2.1 c.2.2.2.2.2.2.2.2.2.2.2.2.2.2.2.2.2.2.2.2.2.2.2.2.2.2.2.2.2.2.1 c.2.2.2.2.2.2.2.2.2.2.2.2.2.2.2.2.2.2.2.2.2.2.2.2.2.2.2.2.2.2.2.1 c.2.2.2.2.2.2.2.2.2.2.2.2.2.2.2.2.2.2.2.2.2.2.2.2.2.2.2.2.2.2.2.2.1 c.2.2.2.2.2.2.2.2.2.2.2.2.2.2.2.2.2.2.2.2.2.2.2.2.2.2.2.2.2.2.2.2.2.1 c.2.2.2.2.2.2.2.2.2.2.2.2.2.2.2.2.2.2.2.2.2.2.2.2.2.2.2.2.2.2.2.2.2.2.1 c.2.2.2.2.2.2.2.2.2.2.2.2.2.2.2.2.2.2.2.2.2.2.2.2.2.2.2.2.2.2.2.2.2.2.2.1 c.2.2.2.2.2.2.2.2.2.2.2.2.2.2.2.2.2.2.2.2.2.2.2.2.2.2.2.2.2.2.2.2.2.2.2.2.1 c.2.2.2.2.2.2.2.2.2.2.2.2.2.2.2.2.2.2.2.2.2.2.2.2.2.2.2.2.2.2.2.2.2.2.2.2.2.1 c.2.2.2.2.2.2.2.2.2.2.2.2.2.2.2.2.2.2.2.2.2.2.2.2.2.2.2.2.2.2.2.2.2.2.2.2.2.2.1 c.2.2.2.2.2.2.2.2.2.2.2.2.2.2.2.2.2.2.2.2.2.2.2.2.2.2.2.2.2.2.2.2.2.2.2.2.2.2.2.1 c.2.2.2.2.2.2.2.2.2.2.2.2.2.2.2.2.2.2.2.2.2.2.2.2.2.2.2.2.2.2.2.2.2.2.2.2.2.2.2.2.1 c.2.2.2.2.2.2.2.2.2.2.2.2.2.2.2.2.2.2.2.2.2.2.2.2.2.2.2.2.2.2.2.2.2.2.2.2.2.2.2.2.2.1 c.2.2.2.2.2.2.2.2.2.2.2.2.2.2.2.2.2.2.2.2.2.2.2.2.2.2.2.2.2.2.2.2.2.2.2.2.2.2.2.2.2.2.1 c.2.2.2.2.2.2.2.2.2.2.2.2.2.2.2.2.2.2.2.2.2.2.2.2.2.2.2.2.2.2.2.2.2.2.2.2.2.2.2.2.2.2.2.1 c.2.2.2.2.2.2.2.2.2.2.2.2.2.2.2.2.2.2.2.2.2.2.2.2.2.2.2.2.2.2.2.2.2.2.2.2.2.2.2.2.2.2.2.2.1 c.2.2.2.2.2.2.2.2.2.2.2.2.2.2.2.2.2.2.2.2.2.2.2.2.2.2.2.2.2.2.2.2.2.2.2.2.2.2.2.2.2.2.2.2.2.1 c.2.2.2.2.2.2.2.2.2.2.2.2.2.2.2.2.2.2.2.2.2.2.2.2.2.2.2.2.2.2.2.2.2.2.2.2.2.2.2.2.2.2.2.2.2.2.1 c.2.2.2.2.2.2.2.2.2.2.2.2.2.2.2.2.2.2.2.2.2.2.2.2.2.2.2.2.2.2.2.2.2.2.2.2.2.2.2.2.2.2.2.2.2.2.2.1 c.2.2.2.2.2.2.2.2.2.2.2.2.2.2.2.2.2.2.2.2.2.2.2.2.2.2.2.2.2.2.2.2.2.2.2.2.2.2.2.2.2.2.2.2.2.2.2.2.1 c.2.2.2.2.2.2.2.2.2.2.2.2.2.2.2.2.2.2.2.2.2.2.2.2.2.2.2.2.2.2.2.2.2.2.2.2.2.2.2.2.2.2.2.2.2.2.2.2.2.1 c.2.2.2.2.2.2.2.2.2.2.2.2.2.2.2.2.2.2.2.2.2.2.2.2.2.2.2.2.2.2.2.2.2.2.2.2.2.2.2.2.2.2.2.2.2.2.2.2.2.2.1 c.2.2.2.2.2.2.2.2.2.2.2.2.2.2.2.2.2.2.2.2.2.2.2.2.2.2.2.2.2.2.2.2.2.2.2.2.2.2.2.2.2.2.2.2.2.2.2.2.2.2.2.1 c.2.2.2.2.2.2.2.2.2.2.2.2.2.2.2.2.2.2.2.2.2.2.2.2.2.2.2.2.2.2.2.2.2.2.2.2.2.2.2.2.2.2.2.2.2.2.2.2.2.2.2.2.1 c.2.2.2.2.2.2.2.2.2.2.2.2.2.2.2.2.2.2.2.2.2.2.2.2.2.2.2.2.2.2.2.2.2.2.2.2.2.2.2.2.2.2.2.2.2.2.2.2.2.2.2.2.2.1 c.2.2.2.2.2.2.2.2.2.2.2.2.2.2.2.2.2.2.2.2.2.2.2.2.2.2.2.2.2.2.2.2.2.2.2.2.2.2.2.2.2.2.2.2.2.2.2.2.2.2.2.2.2.2.1 c.2.2.2.2.2.2.2.2.2.2.2.2.2.2.2.2.2.2.2.2.2.2.2.2.2.2.2.2.2.2.2.2.2.2.2.2.2.2.2.2.2.2.2.2.2.2.2.2.2.2.2.2.2.2.2.1 c.2.2.2.2.2.2.2.2.2.2.2.2.2.2.2.2.2.2.2.2.2.2.2.2.2.2.2.2.2.2.2.2.2.2.2.2.2.2.2.2.2.2.2.2.2.2.2.2.2.2.2.2.2.2.2.2.1 c.2.2.2.2.2.2.2.2.2.2.2.2.2.2.2.2.2.2.2.2.2.2.2.2.2.2.2.2.2.2.2.2.2.2.2.2.2.2.2.2.2.2.2.2.2.2.2.2.2.2.2.2.2.2.2.2.2.1 c.2.2.2.2.2.2.2.2.2.2.2.2.2.2.2.2.2.2.2.2.2.2.2.2.2.2.2.2.2.2.2.2.2.2.2.2.2.2.2.2.2.2.2.2.2.2.2.2.2.2.2.2.2.2.2.2.2.2.1 c.2.2.2.2.2.2.2.2.2.2.2.2.2.2.2.2.2.2.2.2.2.2.2.2.2.2.2.2.2.2.2.2.2.2.2.2.2.2.2.2.2.2.2.2.2.2.2.2.2.2.2.2.2.2.2.2.2.2.2.1 c.2.2.2.2.2.2.2.2.2.2.2.2.2.2.2.2.2.2.2.2.2.2.2.2.2.2.2.2.2.2.2.2.2.2.2.2.2.2.2.2.2.2.2.2.2.2.2.2.2.2.2.2.2.2.2.2.2.2.2.2.1 c.2.2.2.2.2.2.2.2.2.2.2.2.2.2.2.2.2.2.2.2.2.2.2.2.2.2.2.2.2.2.2.2.2.2.2.2.2.2.2.2.2.2.2.2.2.2.2.2.2.2.2.2.2.2.2.2.2.2.2.2.2.1 c.2.2.2.2.2.2.2.2.2.2.2.2.2.2.2.2.2.2.2.2.2.2.2.2.2.2.2.2.2.2.2.2.2.2.2.2.2.2.2.2.2.2.2.2.2.2.2.2.2.2.2.2.2.2.2.2.2.2.2.2.2.2.1 c.2.2.2.2.2.2.2.2.2.2.2.2.2.2.2.2.2.2.2.2.2.2.2.2.2.2.2.2.2.2.2.2.2.2.2.2.2.2.2.2.2.2.2.2.2.2.2.2.2.2.2.2.2.2.2.2.2.2.2.2.2.2.2.1 c.2.2.2.2.2.2.2.2.2.2.2.2.2.2.2.2.2.2.2.2.2.2.2.2.2.2.2.2.2.2.2.2.2.2.2.2.2.2.2.2.2.2.2.2.2.2.2.2.2.2.2.2.2.2.2.2.2.2.2.2.2.2.2.2.1 c.2.2.2.2.2.2.2.2.2.2.2.2.2.2.2.2.2.2.2.2.2.2.2.2.2.2.2.2.2.2.2.2.2.2.2.2.2.2.2.2.2.2.2.2.2.2.2.2.2.2.2.2.2.2.2.2.2.2.2.2.2.2.2.2.2.1 c.2.2.2.2.2.2.2.2.2.2.2.2.2.2.2.2.2.2.2.2.2.2.2.2.2.2.2.2.2.2.2.2.2.2.2.2.2.2.2.2.2.2.2.2.2.2.2.2.2.2.2.2.2.2.2.2.2.2.2.2.2.2.2.2.2.2.1 c.2.2.2.2.2.2.2.2.2.2.2.2.2.2.2.2.2.2.2.2.2.2.2.2.2.2.2.2.2.2.2.2.2.2.2.2.2.2.2.2.2.2.2.2.2.2.2.2.2.2.2.2.2.2.2.2.2.2.2.2.2.2.2.2.2.2.2.1 c.2.2.2.2.2.2.2.2.2.2.2.2.2.2.2.2.2.2.2.2.2.2.2.2.2.2.2.2.2.2.2.2.2.2.2.2.2.2.2.2.2.2.2.2.2.2.2.2.2.2.2.2.2.2.2.2.2.2.2.2.2.2.2.2.2.2.2.2.1 c.2.2.2.2.2.2.2.2.2.2.2.2.2.2.2.2.2.2.2.2.2.2.2.2.2.2.2.2.2.2.2.2.2.2.2.2.2.2.2.2.2.2.2.2.2.2.2.2.2.2.2.2.2.2.2.2.2.2.2.2.2.2.2.2.2.2.2.2.2.1 c.2.2.2.2.2.2.2.2.2.2.2.2.2.2.2.2.2.2.2.2.2.2.2.2.2.2.2.2.2.2.2.2.2.2.2.2.2.2.2.2.2.2.2.2.2.2.2.2.2.2.2.2.2.2.2.2.2.2.2.2.2.2.2.2.2.2.2.2.2.2.1 c.2.2.2.2.2.2.2.2.2.2.2.2.2.2.2.2.2.2.2.2.2.2.2.2.2.2.2.2.2.2.2.2.2.2.2.2.2.2.2.2.2.2.2.2.2.2.2.2.2.2.2.2.2.2.2.2.2.2.2.2.2.2.2.2.2.2.2.2.2.2.2.1 c.2.2.2.2.2.2.2.2.2.2.2.2.2.2.2.2.2.2.2.2.2.2.2.2.2.2.2.2.2.2.2.2.2.2.2.2.2.2.2.2.2.2.2.2.2.2.2.2.2.2.2.2.2.2.2.2.2.2.2.2.2.2.2.2.2.2.2.2.2.2.2.2.1 c.2.2.2.2.2.2.2.2.2.2.2.2.2.2.2.2.2.2.2.2.2.2.2.2.2.2.2.2.2.2.2.2.2.2.2.2.2.2.2.2.2.2.2.2.2.2.2.2.2.2.2.2.2.2.2.2.2.2.2.2.2.2.2.2.2.2.2.2.2.2.2.2.2.1 c.2.2.2.2.2.2.2.2.2.2.2.2.2.2.2.2.2.2.2.2.2.2.2.2.2.2.2.2.2.2.2.2.2.2.2.2.2.2.2.2.2.2.2.2.2.2.2.2.2.2.2.2.2.2.2.2.2.2.2.2.2.2.2.2.2.2.2.2.2.2.2.2.2.2.1 c.2.2.2.2.2.2.2.2.2.2.2.2.2.2.2.2.2.2.2.2.2.2.2.2.2.2.2.2.2.2.2.2.2.2.2.2.2.2.2.2.2.2.2.2.2.2.2.2.2.2.2.2.2.2.2.2.2.2.2.2.2.2.2.2.2.2.2.2.2.2.2.2.2.2.2.1 c.2.2.2.2.2.2.2.2.2.2.2.2.2.2.2.2.2.2.2.2.2.2.2.2.2.2.2.2.2.2.2.2.2.2.2.2.2.2.2.2.2.2.2.2.2.2.2.2.2.2.2.2.2.2.2.2.2.2.2.2.2.2.2.2.2.2.2.2.2.2.2.2.2.2.2.2.1 c.2.2.2.2.2.2.2.2.2.2.2.2.2.2.2.2.2.2.2.2.2.2.2.2.2.2.2.2.2.2.2.2.2.2.2.2.2.2.2.2.2.2.2.2.2.2.2.2.2.2.2.2.2.2.2.2.2.2.2.2.2.2.2.2.2.2.2.2.2.2.2.2.2.2.2.2.2.1 c.2.2.2.2.2.2.2.2.2.2.2.2.2.2.2.2.2.2.2.2.2.2.2.2.2.2.2.2.2.2.2.2.2.2.2.2.2.2.2.2.2.2.2.2.2.2.2.2.2.2.2.2.2.2.2.2.2.2.2.2.2.2.2.2.2.2.2.2.2.2.2.2.2.2.2.2.2.2.1 c.2.2.2.2.2.2.2.2.2.2.2.2.2.2.2.2.2.2.2.2.2.2.2.2.2.2.2.2.2.2.2.2.2.2.2.2.2.2.2.2.2.2.2.2.2.2.2.2.2.2.2.2.2.2.2.2.2.2.2.2.2.2.2.2.2.2.2.2.2.2.2.2.2.2.2.2.2.2.2.1 c.2.2.2.2.2.2.2.2.2.2.2.2.2.2.2.2.2.2.2.2.2.2.2.2.2.2.2.2.2.2.2.2.2.2.2.2.2.2.2.2.2.2.2.2.2.2.2.2.2.2.2.2.2.2.2.2.2.2.2.2.2.2.2.2.2.2.2.2.2.2.2.2.2.2.2.2.2.2.2.2.1 c.2.2.2.2.2.2.2.2.2.2.2.2.2.2.2.2.2.2.2.2.2.2.2.2.2.2.2.2.2.2.2.2.2.2.2.2.2.2.2.2.2.2.2.2.2.2.2.2.2.2.2.2.2.2.2.2.2.2.2.2.2.2.2.2.2.2.2.2.2.2.2.2.2.2.2.2.2.2.2.2.2.1 c.2.2.2.2.2.2.2.2.2.2.2.2.2.2.2.2.2.2.2.2.2.2.2.2.2.2.2.2.2.2.2.2.2.2.2.2.2.2.2.2.2.2.2.2.2.2.2.2.2.2.2.2.2.2.2.2.2.2.2.2.2.2.2.2.2.2.2.2.2.2.2.2.2.2.2.2.2.2.2.2.2.2.1 c.2.2.2.2.2.2.2.2.2.2.2.2.2.2.2.2.2.2.2.2.2.2.2.2.2.2.2.2.2.2.2.2.2.2.2.2.2.2.2.2.2.2.2.2.2.2.2.2.2.2.2.2.2.2.2.2.2.2.2.2.2.2.2.2.2.2.2.2.2.2.2.2.2.2.2.2.2.2.2.2.2.2.2
theorem hk84 (k : Nat) (d : α0 × α1 × α2 × α3 × α4 × α5 × α6 × α7 × α8 × α9 × α10 × α11 × α12 × α13 × α14 × α15 × α16 × α17 × α18 × α19 × α20 × α21 × α22 × α23 × α24 × α25 × α26 × α27 × α28 × α29 × α30 × α31 × α32 × α33 × α34 × α35 × α36 × α37 × α38 × α39 × α40 × α41 × α42 × α43 × α44 × α45 × α46 × α47 × α48 × α49 × α50 × α51 × α52 × α53 × α54 × α55 × α56 × α57 × α58 × α59 × α60 × α61 × α62 × α63 × α64 × α65 × α66 × α67 × α68 × α69 × α70 × α71 × α72 × α73 × α74 × α75 × α76 × α77 × α78 × α79 × α80 × α81 × α82 × α83) (Φ : α0 → α1 → α2 → α3 → α4 → α5 → α6 → α7 → α8 → α9 → α10 → α11 → α12 → α13 → α14 → α15 → α16 → α17 → α18 → α19 → α20 → α21 → α22 → α23 → α24 → α25 → α26 → α27 → α28 → α29 → α30 → α31 → α32 → α33 → α34 → α35 → α36 → α37 → α38 → α39 → α40 → α41 → α42 → α43 → α44 → α45 → α46 → α47 → α48 → α49 → α50 → α51 → α52 → α53 → α54 → α55 → α56 → α57 → α58 → α59 → α60 → α61 → α62 → α63 → α64 → α65 → α66 → α67 → α68 → α69 → α70 → α71 → α72 → α73 → α74 → α75 → α76 → α77 → α78 → α79 → α80 → α81 → α82 → α83 → Prop) (h : Φ (hkc84 k d Φ).1 (hkc84 k d Φ).2.1 (hkc84 k d Φ).2.2.1 (hkc84 k d Φ).2.2.2.1 (hkc84 k d Φ).2.2.2.2.1 (hkc84 k d Φ).2.2.2.2.2.1 (hkc84 k d Φ).2.2.2.2.2.2.1 (hkc84 k d Φ).2.2.2.2.2.2.2.1 (hkc84 k d Φ).2.2.2.2.2.2.2.2.1 (hkc84 k d Φ).2.2.2.2.2.2.2.2.2.1 (hkc84 k d Φ).2.2.2.2.2.2.2.2.2.2.1 (hkc84 k d Φ).2.2.2.2.2.2.2.2.2.2.2.1 (hkc84 k d Φ).2.2.2.2.2.2.2.2.2.2.2.2.1 (hkc84 k d Φ).2.2.2.2.2.2.2.2.2.2.2.2.2.1 (hkc84 k d Φ).2.2.2.2.2.2.2.2.2.2.2.2.2.2.1 (hkc84 k d Φ).2.2.2.2.2.2.2.2.2.2.2.2.2.2.2.1 (hkc84 k d Φ).2.2.2.2.2.2.2.2.2.2.2.2.2.2.2.2.1 (hkc84 k d Φ).2.2.2.2.2.2.2.2.2.2.2.2.2.2.2.2.2.1 (hkc84 k d Φ).2.2.2.2.2.2.2.2.2.2.2.2.2.2.2.2.2.2.1 (hkc84 k d Φ).2.2.2.2.2.2.2.2.2.2.2.2.2.2.2.2.2.2.2.1 (hkc84 k d Φ).2.2.2.2.2.2.2.2.2.2.2.2.2.2.2.2.2.2.2.2.1 (hkc84 k d Φ).2.2.2.2.2.2.2.2.2.2.2.2.2.2.2.2.2.2.2.2.2.1 (hkc84 k d Φ).2.2.2.2.2.2.2.2.2.2.2.2.2.2.2.2.2.2.2.2.2.2.1 (hkc84 k d Φ).2.2.2.2.2.2.2.2.2.2.2.2.2.2.2.2.2.2.2.2.2.2.2.1 (hkc84 k d Φ).2.2.2.2.2.2.2.2.2.2.2.2.2.2.2.2.2.2.2.2.2.2.2.2.1 (hkc84 k d Φ).2.2.2.2.2.2.2.2.2.2.2.2.2.2.2.2.2.2.2.2.2.2.2.2.2.1 (hkc84 k d Φ).2.2.2.2.2.2.2.2.2.2.2.2.2.2.2.2.2.2.2.2.2.2.2.2.2.2.1 (hkc84 k d Φ).2.2.2.2.2.2.2.2.2.2.2.2.2.2.2.2.2.2.2.2.2.2.2.2.2.2.2.1 (hkc84 k d Φ).2.2.2.2.2.2.2.2.2.2.2.2.2.2.2.2.2.2.2.2.2.2.2.2.2.2.2.2.1 (hkc84 k d Φ).2.2.2.2.2.2.2.2.2.2.2.2.2.2.2.2.2.2.2.2.2.2.2.2.2.2.2.2.2.1 (hkc84 k d Φ).2.2.2.2.2.2.2.2.2.2.2.2.2.2.2.2.2.2.2.2.2.2.2.2.2.2.2.2.2.2.1 (hkc84 k d Φ).2.2.2.2.2.2.2.2.2.2.2.2.2.2.2.2.2.2.2.2.2.2.2.2.2.2.2.2.2.2.2.1 (hkc84 k d Φ).2.2.2.2.2.2.2.2.2.2.2.2.2.2.2.2.2.2.2.2.2.2.2.2.2.2.2.2.2.2.2.2.1 (hkc84 k d Φ).2.2.2.2.2.2.2.2.2.2.2.2.2.2.2.2.2.2.2.2.2.2.2.2.2.2.2.2.2.2.2.2.2.1 (hkc84 k d Φ).2.2.2.2.2.2.2.2.2.2.2.2.2.2.2.2.2.2.2.2.2.2.2.2.2.2.2.2.2.2.2.2.2.2.1 (hkc84 k d Φ).2.2.2.2.2.2.2.2.2.2.2.2.2.2.2.2.2.2.2.2.2.2.2.2.2.2.2.2.2.2.2.2.2.2.2.1 (hkc84 k d Φ).2.2.2.2.2.2.2.2.2.2.2.2.2.2.2.2.2.2.2.2.2.2.2.2.2.2.2.2.2.2.2.2.2.2.2.2.1 (hkc84 k d Φ).2.2.2.2.2.2.2.2.2.2.2.2.2.2.2.2.2.2.2.2.2.2.2.2.2.2.2.2.2.2.2.2.2.2.2.2.2.1 (hkc84 k d Φ).2.2.2.2.2.2.2.2.2.2.2.2.2.2.2.2.2.2.2.2.2.2.2.2.2.2.2.2.2.2.2.2.2.2.2.2.2.2.1 (hkc84 k d Φ).2.2.2.2.2.2.2.2.2.2.2.2.2.2.2.2.2.2.2.2.2.2.2.2.2.2.2.2.2.2.2.2.2.2.2.2.2.2.2.1 (hkc84 k d Φ).2.2.2.2.2.2.2.2.2.2.2.2.2.2.2.2.2.2.2.2.2.2.2.2.2.2.2.2.2.2.2.2.2.2.2.2.2.2.2.2.1 (hkc84 k d Φ).2.2.2.2.2.2.2.2.2.2.2.2.2.2.2.2.2.2.2.2.2.2.2.2.2.2.2.2.2.2.2.2.2.2.2.2.2.2.2.2.2.1 (hkc84 k d Φ).2.2.2.2.2.2.2.2.2.2.2.2.2.2.2.2.2.2.2.2.2.2.2.2.2.2.2.2.2.2.2.2.2.2.2.2.2.2.2.2.2.2.1 (hkc84 k d Φ).2.2.2.2.2.2.2.2.2.2.2.2.2.2.2.2.2.2.2.2.2.2.2.2.2.2.2.2.2.2.2.2.2.2.2.2.2.2.2.2.2.2.2.1 (hkc84 k d Φ).2.2.2.2.2.2.2.2.2.2.2.2.2.2.2.2.2.2.2.2.2.2.2.2.2.2.2.2.2.2.2.2.2.2.2.2.2.2.2.2.2.2.2.2.1 (hkc84 k d Φ).2.2.2.2.2.2.2.2.2.2.2.2.2.2.2.2.2.2.2.2.2.2.2.2.2.2.2.2.2.2.2.2.2.2.2.2.2.2.2.2.2.2.2.2.2.1 (hkc84 k d Φ).2.2.2.2.2.2.2.2.2.2.2.2.2.2.2.2.2.2.2.2.2.2.2.2.2.2.2.2.2.2.2.2.2.2.2.2.2.2.2.2.2.2.2.2.2.2.1 (hkc84 k d Φ).2.2.2.2.2.2.2.2.2.2.2.2.2.2.2.2.2.2.2.2.2.2.2.2.2.2.2.2.2.2.2.2.2.2.2.2.2.2.2.2.2.2.2.2.2.2.2.1 (hkc84 k d Φ).2.2.2.2.2.2.2.2.2.2.2.2.2.2.2.2.2.2.2.2.2.2.2.2.2.2.2.2.2.2.2.2.2.2.2.2.2.2.2.2.2.2.2.2.2.2.2.2.1 (hkc84 k d Φ).2.2.2.2.2.2.2.2.2.2.2.2.2.2.2.2.2.2.2.2.2.2.2.2.2.2.2.2.2.2.2.2.2.2.2.2.2.2.2.2.2.2.2.2.2.2.2.2.2.1 (hkc84 k d Φ).2.2.2.2.2.2.2.2.2.2.2.2.2.2.2.2.2.2.2.2.2.2.2.2.2.2.2.2.2.2.2.2.2.2.2.2.2.2.2.2.2.2.2.2.2.2.2.2.2.2.1 (hkc84 k d Φ).2.2.2.2.2.2.2.2.2.2.2.2.2.2.2.2.2.2.2.2.2.2.2.2.2.2.2.2.2.2.2.2.2.2.2.2.2.2.2.2.2.2.2.2.2.2.2.2.2.2.2.1 (hkc84 k d Φ).2.2.2.2.2.2.2.2.2.2.2.2.2.2.2.2.2.2.2.2.2.2.2.2.2.2.2.2.2.2.2.2.2.2.2.2.2.2.2.2.2.2.2.2.2.2.2.2.2.2.2.2.1 (hkc84 k d Φ).2.2.2.2.2.2.2.2.2.2.2.2.2.2.2.2.2.2.2.2.2.2.2.2.2.2.2.2.2.2.2.2.2.2.2.2.2.2.2.2.2.2.2.2.2.2.2.2.2.2.2.2.2.1 (hkc84 k d Φ).2.2.2.2.2.2.2.2.2.2.2.2.2.2.2.2.2.2.2.2.2.2.2.2.2.2.2.2.2.2.2.2.2.2.2.2.2.2.2.2.2.2.2.2.2.2.2.2.2.2.2.2.2.2.1 (hkc84 k d Φ).2.2.2.2.2.2.2.2.2.2.2.2.2.2.2.2.2.2.2.2.2.2.2.2.2.2.2.2.2.2.2.2.2.2.2.2.2.2.2.2.2.2.2.2.2.2.2.2.2.2.2.2.2.2.2.1 (hkc84 k d Φ).2.2.2.2.2.2.2.2.2.2.2.2.2.2.2.2.2.2.2.2.2.2.2.2.2.2.2.2.2.2.2.2.2.2.2.2.2.2.2.2.2.2.2.2.2.2.2.2.2.2.2.2.2.2.2.2.1 (hkc84 k d Φ).2.2.2.2.2.2.2.2.2.2.2.2.2.2.2.2.2.2.2.2.2.2.2.2.2.2.2.2.2.2.2.2.2.2.2.2.2.2.2.2.2.2.2.2.2.2.2.2.2.2.2.2.2.2.2.2.2.1 (hkc84 k d Φ).2.2.2.2.2.2.2.2.2.2.2.2.2.2.2.2.2.2.2.2.2.2.2.2.2.2.2.2.2.2.2.2.2.2.2.2.2.2.2.2.2.2.2.2.2.2.2.2.2.2.2.2.2.2.2.2.2.2.1 (hkc84 k d Φ).2.2.2.2.2.2.2.2.2.2.2.2.2.2.2.2.2.2.2.2.2.2.2.2.2.2.2.2.2.2.2.2.2.2.2.2.2.2.2.2.2.2.2.2.2.2.2.2.2.2.2.2.2.2.2.2.2.2.2.1 (hkc84 k d Φ).2.2.2.2.2.2.2.2.2.2.2.2.2.2.2.2.2.2.2.2.2.2.2.2.2.2.2.2.2.2.2.2.2.2.2.2.2.2.2.2.2.2.2.2.2.2.2.2.2.2.2.2.2.2.2.2.2.2.2.2.1 (hkc84 k d Φ).2.2.2.2.2.2.2.2.2.2.2.2.2.2.2.2.2.2.2.2.2.2.2.2.2.2.2.2.2.2.2.2.2.2.2.2.2.2.2.2.2.2.2.2.2.2.2.2.2.2.2.2.2.2.2.2.2.2.2.2.2.1 (hkc84 k d Φ).2.2.2.2.2.2.2.2.2.2.2.2.2.2.2.2.2.2.2.2.2.2.2.2.2.2.2.2.2.2.2.2.2.2.2.2.2.2.2.2.2.2.2.2.2.2.2.2.2.2.2.2.2.2.2.2.2.2.2.2.2.2.1 (hkc84 k d Φ).2.2.2.2.2.2.2.2.2.2.2.2.2.2.2.2.2.2.2.2.2.2.2.2.2.2.2.2.2.2.2.2.2.2.2.2.2.2.2.2.2.2.2.2.2.2.2.2.2.2.2.2.2.2.2.2.2.2.2.2.2.2.2.1 (hkc84 k d Φ).2.2.2.2.2.2.2.2.2.2.2.2.2.2.2.2.2.2.2.2.2.2.2.2.2.2.2.2.2.2.2.2.2.2.2.2.2.2.2.2.2.2.2.2.2.2.2.2.2.2.2.2.2.2.2.2.2.2.2.2.2.2.2.2.1 (hkc84 k d Φ).2.2.2.2.2.2.2.2.2.2.2.2.2.2.2.2.2.2.2.2.2.2.2.2.2.2.2.2.2.2.2.2.2.2.2.2.2.2.2.2.2.2.2.2.2.2.2.2.2.2.2.2.2.2.2.2.2.2.2.2.2.2.2.2.2.1 (hkc84 k d Φ).2.2.2.2.2.2.2.2.2.2.2.2.2.2.2.2.2.2.2.2.2.2.2.2.2.2.2.2.2.2.2.2.2.2.2.2.2.2.2.2.2.2.2.2.2.2.2.2.2.2.2.2.2.2.2.2.2.2.2.2.2.2.2.2.2.2.1 (hkc84 k d Φ).2.2.2.2.2.2.2.2.2.2.2.2.2.2.2.2.2.2.2.2.2.2.2.2.2.2.2.2.2.2.2.2.2.2.2.2.2.2.2.2.2.2.2.2.2.2.2.2.2.2.2.2.2.2.2.2.2.2.2.2.2.2.2.2.2.2.2.1 (hkc84 k d Φ).2.2.2.2.2.2.2.2.2.2.2.2.2.2.2.2.2.2.2.2.2.2.2.2.2.2.2.2.2.2.2.2.2.2.2.2.2.2.2.2.2.2.2.2.2.2.2.2.2.2.2.2.2.2.2.2.2.2.2.2.2.2.2.2.2.2.2.2.1 (hkc84 k d Φ).2.2.2.2.2.2.2.2.2.2.2.2.2.2.2.2.2.2.2.2.2.2.2.2.2.2.2.2.2.2.2.2.2.2.2.2.2.2.2.2.2.2.2.2.2.2.2.2.2.2.2.2.2.2.2.2.2.2.2.2.2.2.2.2.2.2.2.2.2.1 (hkc84 k d Φ).2.2.2.2.2.2.2.2.2.2.2.2.2.2.2.2.2.2.2.2.2.2.2.2.2.2.2.2.2.2.2.2.2.2.2.2.2.2.2.2.2.2.2.2.2.2.2.2.2.2.2.2.2.2.2.2.2.2.2.2.2.2.2.2.2.2.2.2.2.2.1 (hkc84 k d Φ).2.2.2.2.2.2.2.2.2.2.2.2.2.2.2.2.2.2.2.2.2.2.2.2.2.2.2.2.2.2.2.2.2.2.2.2.2.2.2.2.2.2.2.2.2.2.2.2.2.2.2.2.2.2.2.2.2.2.2.2.2.2.2.2.2.2.2.2.2.2.2.1 (hkc84 k d Φ).2.2.2.2.2.2.2.2.2.2.2.2.2.2.2.2.2.2.2.2.2.2.2.2.2.2.2.2.2.2.2.2.2.2.2.2.2.2.2.2.2.2.2.2.2.2.2.2.2.2.2.2.2.2.2.2.2.2.2.2.2.2.2.2.2.2.2.2.2.2.2.2.1 (hkc84 k d Φ).2.2.2.2.2.2.2.2.2.2.2.2.2.2.2.2.2.2.2.2.2.2.2.2.2.2.2.2.2.2.2.2.2.2.2.2.2.2.2.2.2.2.2.2.2.2.2.2.2.2.2.2.2.2.2.2.2.2.2.2.2.2.2.2.2.2.2.2.2.2.2.2.2.1 (hkc84 k d Φ).2.2.2.2.2.2.2.2.2.2.2.2.2.2.2.2.2.2.2.2.2.2.2.2.2.2.2.2.2.2.2.2.2.2.2.2.2.2.2.2.2.2.2.2.2.2.2.2.2.2.2.2.2.2.2.2.2.2.2.2.2.2.2.2.2.2.2.2.2.2.2.2.2.2.1 (hkc84 k d Φ).2.2.2.2.2.2.2.2.2.2.2.2.2.2.2.2.2.2.2.2.2.2.2.2.2.2.2.2.2.2.2.2.2.2.2.2.2.2.2.2.2.2.2.2.2.2.2.2.2.2.2.2.2.2.2.2.2.2.2.2.2.2.2.2.2.2.2.2.2.2.2.2.2.2.2.1 (hkc84 k d Φ).2.2.2.2.2.2.2.2.2.2.2.2.2.2.2.2.2.2.2.2.2.2.2.2.2.2.2.2.2.2.2.2.2.2.2.2.2.2.2.2.2.2.2.2.2.2.2.2.2.2.2.2.2.2.2.2.2.2.2.2.2.2.2.2.2.2.2.2.2.2.2.2.2.2.2.2.1 (hkc84 k d Φ).2.2.2.2.2.2.2.2.2.2.2.2.2.2.2.2.2.2.2.2.2.2.2.2.2.2.2.2.2.2.2.2.2.2.2.2.2.2.2.2.2.2.2.2.2.2.2.2.2.2.2.2.2.2.2.2.2.2.2.2.2.2.2.2.2.2.2.2.2.2.2.2.2.2.2.2.2.1 (hkc84 k d Φ).2.2.2.2.2.2.2.2.2.2.2.2.2.2.2.2.2.2.2.2.2.2.2.2.2.2.2.2.2.2.2.2.2.2.2.2.2.2.2.2.2.2.2.2.2.2.2.2.2.2.2.2.2.2.2.2.2.2.2.2.2.2.2.2.2.2.2.2.2.2.2.2.2.2.2.2.2.2.1 (hkc84 k d Φ).2.2.2.2.2.2.2.2.2.2.2.2.2.2.2.2.2.2.2.2.2.2.2.2.2.2.2.2.2.2.2.2.2.2.2.2.2.2.2.2.2.2.2.2.2.2.2.2.2.2.2.2.2.2.2.2.2.2.2.2.2.2.2.2.2.2.2.2.2.2.2.2.2.2.2.2.2.2.2.1 (hkc84 k d Φ).2.2.2.2.2.2.2.2.2.2.2.2.2.2.2.2.2.2.2.2.2.2.2.2.2.2.2.2.2.2.2.2.2.2.2.2.2.2.2.2.2.2.2.2.2.2.2.2.2.2.2.2.2.2.2.2.2.2.2.2.2.2.2.2.2.2.2.2.2.2.2.2.2.2.2.2.2.2.2.2.1 (hkc84 k d Φ).2.2.2.2.2.2.2.2.2.2.2.2.2.2.2.2.2.2.2.2.2.2.2.2.2.2.2.2.2.2.2.2.2.2.2.2.2.2.2.2.2.2.2.2.2.2.2.2.2.2.2.2.2.2.2.2.2.2.2.2.2.2.2.2.2.2.2.2.2.2.2.2.2.2.2.2.2.2.2.2.2.1 (hkc84 k d Φ).2.2.2.2.2.2.2.2.2.2.2.2.2.2.2.2.2.2.2.2.2.2.2.2.2.2.2.2.2.2.2.2.2.2.2.2.2.2.2.2.2.2.2.2.2.2.2.2.2.2.2.2.2.2.2.2.2.2.2.2.2.2.2.2.2.2.2.2.2.2.2.2.2.2.2.2.2.2.2.2.2.2.1 (hkc84 k d Φ).2.2.2.2.2.2.2.2.2.2.2.2.2.2.2.2.2.2.2.2.2.2.2.2.2.2.2.2.2.2.2.2.2.2.2.2.2.2.2.2.2.2.2.2.2.2.2.2.2.2.2.2.2.2.2.2.2.2.2.2.2.2.2.2.2.2.2.2.2.2.2.2.2.2.2.2.2.2.2.2.2.2.2) : ∀ x0 x1 x2 x3 x4 x5 x6 x7 x8 x9 x10 x11 x12 x13 x14 x15 x16 x17 x18 x19 x20 x21 x22 x23 x24 x25 x26 x27 x28 x29 x30 x31 x32 x33 x34 x35 x36 x37 x38 x39 x40 x41 x42 x43 x44 x45 x46 x47 x48 x49 x50 x51 x52 x53 x54 x55 x56 x57 x58 x59 x60 x61 x62 x63 x64 x65 x66 x67 x68 x69 x70 x71 x72 x73 x74 x75 x76 x77 x78 x79 x80 x81 x82 x83, Φ x0 x1 x2 x3 x4 x5 x6 x7 x8 x9 x10 x11 x12 x13 x14 x15 x16 x17 x18 x19 x20 x21 x22 x23 x24 x25 x26 x27 x28 x29 x30 x31 x32 x33 x34 x35 x36 x37 x38 x39 x40 x41 x42 x43 x44 x45 x46 x47 x48 x49 x50 x51 x52 x53 x54 x55 x56 x57 x58 x59 x60 x61 x62 x63 x64 x65 x66 x67 x68 x69 x70 x71 x72 x73 x74 x75 x76 x77 x78 x79 x80 x81 x82 x83 := fun x0 x1 x2 x3 x4 x5 x6 x7 x8 x9 x10 x11 x12 x13 x14 x15 x16 x17 x18 x19 x20 x21 x22 x23 x24 x25 x26 x27 x28 x29 x30 x31 x32 x33 x34 x35 x36 x37 x38 x39 x40 x41 x42 x43 x44 x45 x46 x47 x48 x49 x50 x51 x52 x53 x54 x55 x56 x57 x58 x59 x60 x61 x62 x63 x64 x65 x66 x67 x68 x69 x70 x71 x72 x73 x74 x75 x76 x77 x78 x79 x80 x81 x82 x83 => hkc_spec k d (fun c => Φ c.1 c.2.1 c.2.2.1 c.2.2.2.1 c.2.2.2.2.1 c.2.2.2.2.2.1 c.2.2.2.2.2.2.1 c.2.2.2.2.2.2.2.1 c.2.2.2.2.2.2.2.2.1 c.2.2.2.2.2.2.2.2.2.1 c.2.2.2.2.2.2.2.2.2.2.1 c.2.2.2.2.2.2.2.2.2.2.2.1 c.2.2.2.2.2.2.2.2.2.2.2.2.1 c.2.2.2.2.2.2.2.2.2.2.2.2.2.1 c.2.2.2.2.2.2.2.2.2.2.2.2.2.2.1 c.2.2.2.2.2.2.2.2.2.2.2.2.2.2.2.1 c.2.2.2.2.2.2.2.2.2.2.2.2.2.2.2.2.1 c.2.2.2.2.2.2.2.2.2.2.2.2.2.2.2.2.2.1 c.2.2.2.2.2.2.2.2.2.2.2.2.2.2.2.2.2.2.1 c.2.2.2.2.2.2.2.2.2.2.2.2.2.2.2.2.2.2.2.1 c.2.2.2.2.2.2.2.2.2.2.2.2.2.2.2.2.2.2.2.2.1 c.2.2.2.2.2.2.2.2.2.2.2.2.2.2.2.2.2.2.2.2.2.1 c.2.2.2.2.2.2.2.2.2.2.2.2.2.2.2.2.2.2.2.2.2.2.1 c.2.2.2.2.2.2.2.2.2.2.2.2.2.2.2.2.2.2.2.2.2.2.2.1 c.2.2.2.2.2.2.2.2.2.2.2.2.2.2.2.2.2.2.2.2.2.2.2.2.1 c.2.2.2.2.2.2.2.2.2.2.2.2.2.2.2.2.2.2.2.2.2.2.2.2.2.1 c.2.2.2.2.2.2.2.2.2.2.2.2.2.2.2.2.2.2.2.2.2.2.2.2.2.2.1 c.2.2.2.2.2.2.2.2.2.2.2.2.2.2.2.2.2.2.2.2.2.2.2.2.2.2.2.1 c.2.2.2.2.2.2.2.2.2.2.2.2.2.2.2.2.2.2.2.2.2.2.2.2.2.2.2.2.1 c.2.2.2.2.2.2.2.2.2.2.2.2.2.2.2.2.2.2.2.2.2.2.2.2.2.2.2.2.2.1 c.2.2.2.2.2.2.2.2.2.2.2.2.2.2.2.2.2.2.2.2.2.2.2.2.2.2.2.2.2.2.1 c.2.2.2.2.2.2.2.2.2.2.2.2.2.2.2.2.2.2.2.2.2.2.2.2.2.2.2.2.2.2.2.1 c.2.2.2.2.2.2.2.2.2.2.2.2.2.2.2.2.2.2.2.2.2.2.2.2.2.2.2.2.2.2.2.2.1 c.2.2.2.2.2.2.2.2.2.2.2.2.2.2.2.2.2.2.2.2.2.2.2.2.2.2.2.2.2.2.2.2.2.1 c.2.2.2.2.2.2.2.2.2.2.2.2.2.2.2.2.2.2.2.2.2.2.2.2.2.2.2.2.2.2.2.2.2.2.1 c.2.2.2.2.2.2.2.2.2.2.2.2.2.2.2.2.2.2.2.2.2.2.2.2.2.2.2.2.2.2.2.2.2.2.2.1 c.2.2.2.2.2.2.2.2.2.2.2.2.2.2.2.2.2.2.2.2.2.2.2.2.2.2.2.2.2.2.2.2.2.2.2.2.1 c.2.2.2.2.2.2.2.2.2.2.2.2.2.2.2.2.2.2.2.2.2.2.2.2.2.2.2.2.2.2.2.2.2.2.2.2.2.1 c.2.2.2.2.2.2.2.2.2.2.2.2.2.2.2.2.2.2.2.2.2.2.2.2.2.2.2.2.2.2.2.2.2.2.2.2.2.2.1 c.2.2.2.2.2.2.2.2.2.2.2.2.2.2.2.2.2.2.2.2.2.2.2.2.2.2.2.2.2.2.2.2.2.2.2.2.2.2.2.1 c.2.2.2.2.2.2.2.2.2.2.2.2.2.2.2.2.2.2.2.2.2.2.2.2.2.2.2.2.2.2.2.2.2.2.2.2.2.2.2.2.1 c.2.2.2.2.2.2.2.2.2.2.2.2.2.2.2.2.2.2.2.2.2.2.2.2.2.2.2.2.2.2.2.2.2.2.2.2.2.2.2.2.2.1 c.2.2.2.2.2.2.2.2.2.2.2.2.2.2.2.2.2.2.2.2.2.2.2.2.2.2.2.2.2.2.2.2.2.2.2.2.2.2.2.2.2.2.1 c.2.2.2.2.2.2.2.2.2.2.2.2.2.2.2.2.2.2.2.2.2.2.2.2.2.2.2.2.2.2.2.2.2.2.2.2.2.2.2.2.2.2.2.1 c.2.2.2.2.2.2.2.2.2.2.2.2.2.2.2.2.2.2.2.2.2.2.2.2.2.2.2.2.2.2.2.2.2.2.2.2.2.2.2.2.2.2.2.2.1 c.2.2.2.2.2.2.2.2.2.2.2.2.2.2.2.2.2.2.2.2.2.2.2.2.2.2.2.2.2.2.2.2.2.2.2.2.2.2.2.2.2.2.2.2.2.1 c.2.2.2.2.2.2.2.2.2.2.2.2.2.2.2.2.2.2.2.2.2.2.2.2.2.2.2.2.2.2.2.2.2.2.2.2.2.2.2.2.2.2.2.2.2.2.1 c.2.2.2.2.2.2.2.2.2.2.2.2.2.2.2.2.2.2.2.2.2.2.2.2.2.2.2.2.2.2.2.2.2.2.2.2.2.2.2.2.2.2.2.2.2.2.2.1 c.2.2.2.2.2.2.2.2.2.2.2.2.2.2.2.2.2.2.2.2.2.2.2.2.2.2.2.2.2.2.2.2.2.2.2.2.2.2.2.2.2.2.2.2.2.2.2.2.1 c.2.2.2.2.2.2.2.2.2.2.2.2.2.2.2.2.2.2.2.2.2.2.2.2.2.2.2.2.2.2.2.2.2.2.2.2.2.2.2.2.2.2.2.2.2.2.2.2.2.1 c.2.2.2.2.2.2.2.2.2.2.2.2.2.2.2.2.2.2.2.2.2.2.2.2.2.2.2.2.2.2.2.2.2.2.2.2.2.2.2.2.2.2.2.2.2.2.2.2.2.2.1 c.2.2.2.2.2.2.2.2.2.2.2.2.2.2.2.2.2.2.2.2.2.2.2.2.2.2.2.2.2.2.2.2.2.2.2.2.2.2.2.2.2.2.2.2.2.2.2.2.2.2.2.1 c.2.2.2.2.2.2.2.2.2.2.2.2.2.2.2.2.2.2.2.2.2.2.2.2.2.2.2.2.2.2.2.2.2.2.2.2.2.2.2.2.2.2.2.2.2.2.2.2.2.2.2.2.1 c.2.2.2.2.2.2.2.2.2.2.2.2.2.2.2.2.2.2.2.2.2.2.2.2.2.2.2.2.2.2.2.2.2.2.2.2.2.2.2.2.2.2.2.2.2.2.2.2.2.2.2.2.2.1 c.2.2.2.2.2.2.2.2.2.2.2.2.2.2.2.2.2.2.2.2.2.2.2.2.2.2.2.2.2.2.2.2.2.2.2.2.2.2.2.2.2.2.2.2.2.2.2.2.2.2.2.2.2.2.1 c.2.2.2.2.2.2.2.2.2.2.2.2.2.2.2.2.2.2.2.2.2.2.2.2.2.2.2.2.2.2.2.2.2.2.2.2.2.2.2.2.2.2.2.2.2.2.2.2.2.2.2.2.2.2.2.1 c.2.2.2.2.2.2.2.2.2.2.2.2.2.2.2.2.2.2.2.2.2.2.2.2.2.2.2.2.2.2.2.2.2.2.2.2.2.2.2.2.2.2.2.2.2.2.2.2.2.2.2.2.2.2.2.2.1 c.2.2.2.2.2.2.2.2.2.2.2.2.2.2.2.2.2.2.2.2.2.2.2.2.2.2.2.2.2.2.2.2.2.2.2.2.2.2.2.2.2.2.2.2.2.2.2.2.2.2.2.2.2.2.2.2.2.1 c.2.2.2.2.2.2.2.2.2.2.2.2.2.2.2.2.2.2.2.2.2.2.2.2.2.2.2.2.2.2.2.2.2.2.2.2.2.2.2.2.2.2.2.2.2.2.2.2.2.2.2.2.2.2.2.2.2.2.1 c.2.2.2.2.2.2.2.2.2.2.2.2.2.2.2.2.2.2.2.2.2.2.2.2.2.2.2.2.2.2.2.2.2.2.2.2.2.2.2.2.2.2.2.2.2.2.2.2.2.2.2.2.2.2.2.2.2.2.2.1 c.2.2.2.2.2.2.2.2.2.2.2.2.2.2.2.2.2.2.2.2.2.2.2.2.2.2.2.2.2.2.2.2.2.2.2.2.2.2.2.2.2.2.2.2.2.2.2.2.2.2.2.2.2.2.2.2.2.2.2.2.1 c.2.2.2.2.2.2.2.2.2.2.2.2.2.2.2.2.2.2.2.2.2.2.2.2.2.2.2.2.2.2.2.2.2.2.2.2.2.2.2.2.2.2.2.2.2.2.2.2.2.2.2.2.2.2.2.2.2.2.2.2.2.1 c.2.2.2.2.2.2.2.2.2.2.2.2.2.2.2.2.2.2.2.2.2.2.2.2.2.2.2.2.2.2.2.2.2.2.2.2.2.2.2.2.2.2.2.2.2.2.2.2.2.2.2.2.2.2.2.2.2.2.2.2.2.2.1 c.2.2.2.2.2.2.2.2.2.2.2.2.2.2.2.2.2.2.2.2.2.2.2.2.2.2.2.2.2.2.2.2.2.2.2.2.2.2.2.2.2.2.2.2.2.2.2.2.2.2.2.2.2.2.2.2.2.2.2.2.2.2.2.1 c.2.2.2.2.2.2.2.2.2.2.2.2.2.2.2.2.2.2.2.2.2.2.2.2.2.2.2.2.2.2.2.2.2.2.2.2.2.2.2.2.2.2.2.2.2.2.2.2.2.2.2.2.2.2.2.2.2.2.2.2.2.2.2.2.1 c.2.2.2.2.2.2.2.2.2.2.2.2.2.2.2.2.2.2.2.2.2.2.2.2.2.2.2.2.2.2.2.2.2.2.2.2.2.2.2.2.2.2.2.2.2.2.2.2.2.2.2.2.2.2.2.2.2.2.2.2.2.2.2.2.2.1 c.2.2.2.2.2.2.2.2.2.2.2.2.2.2.2.2.2.2.2.2.2.2.2.2.2.2.2.2.2.2.2.2.2.2.2.2.2.2.2.2.2.2.2.2.2.2.2.2.2.2.2.2.2.2.2.2.2.2.2.2.2.2.2.2.2.2.1 c.2.2.2.2.2.2.2.2.2.2.2.2.2.2.2.2.2.2.2.2.2.2.2.2.2.2.2.2.2.2.2.2.2.2.2.2.2.2.2.2.2.2.2.2.2.2.2.2.2.2.2.2.2.2.2.2.2.2.2.2.2.2.2.2.2.2.2.1 c.2.2.2.2.2.2.2.2.2.2.2.2.2.2.2.2.2.2.2.2.2.2.2.2.2.2.2.2.2.2.2.2.2.2.2.2.2.2.2.2.2.2.2.2.2.2.2.2.2.2.2.2.2.2.2.2.2.2.2.2.2.2.2.2.2.2.2.2.1 c.2.2.2.2.2.2.2.2.2.2.2.2.2.2.2.2.2.2.2.2.2.2.2.2.2.2.2.2.2.2.2.2.2.2.2.2.2.2.2.2.2.2.2.2.2.2.2.2.2.2.2.2.2.2.2.2.2.2.2.2.2.2.2.2.2.2.2.2.2.1 c.2.2.2.2.2.2.2.2.2.2.2.2.2.2.2.2.2.2.2.2.2.2.2.2.2.2.2.2.2.2.2.2.2.2.2.2.2.2.2.2.2.2.2.2.2.2.2.2.2.2.2.2.2.2.2.2.2.2.2.2.2.2.2.2.2.2.2.2.2.2.1 c.2.2.2.2.2.2.2.2.2.2.2.2.2.2.2.2.2.2.2.2.2.2.2.2.2.2.2.2.2.2.2.2.2.2.2.2.2.2.2.2.2.2.2.2.2.2.2.2.2.2.2.2.2.2.2.2.2.2.2.2.2.2.2.2.2.2.2.2.2.2.2.1 c.2.2.2.2.2.2.2.2.2.2.2.2.2.2.2.2.2.2.2.2.2.2.2.2.2.2.2.2.2.2.2.2.2.2.2.2.2.2.2.2.2.2.2.2.2.2.2.2.2.2.2.2.2.2.2.2.2.2.2.2.2.2.2.2.2.2.2.2.2.2.2.2.1 c.2.2.2.2.2.2.2.2.2.2.2.2.2.2.2.2.2.2.2.2.2.2.2.2.2.2.2.2.2.2.2.2.2.2.2.2.2.2.2.2.2.2.2.2.2.2.2.2.2.2.2.2.2.2.2.2.2.2.2.2.2.2.2.2.2.2.2.2.2.2.2.2.2.1 c.2.2.2.2.2.2.2.2.2.2.2.2.2.2.2.2.2.2.2.2.2.2.2.2.2.2.2.2.2.2.2.2.2.2.2.2.2.2.2.2.2.2.2.2.2.2.2.2.2.2.2.2.2.2.2.2.2.2.2.2.2.2.2.2.2.2.2.2.2.2.2.2.2.2.1 c.2.2.2.2.2.2.2.2.2.2.2.2.2.2.2.2.2.2.2.2.2.2.2.2.2.2.2.2.2.2.2.2.2.2.2.2.2.2.2.2.2.2.2.2.2.2.2.2.2.2.2.2.2.2.2.2.2.2.2.2.2.2.2.2.2.2.2.2.2.2.2.2.2.2.2.1 c.2.2.2.2.2.2.2.2.2.2.2.2.2.2.2.2.2.2.2.2.2.2.2.2.2.2.2.2.2.2.2.2.2.2.2.2.2.2.2.2.2.2.2.2.2.2.2.2.2.2.2.2.2.2.2.2.2.2.2.2.2.2.2.2.2.2.2.2.2.2.2.2.2.2.2.2.1 c.2.2.2.2.2.2.2.2.2.2.2.2.2.2.2.2.2.2.2.2.2.2.2.2.2.2.2.2.2.2.2.2.2.2.2.2.2.2.2.2.2.2.2.2.2.2.2.2.2.2.2.2.2.2.2.2.2.2.2.2.2.2.2.2.2.2.2.2.2.2.2.2.2.2.2.2.2.1 c.2.2.2.2.2.2.2.2.2.2.2.2.2.2.2.2.2.2.2.2.2.2.2.2.2.2.2.2.2.2.2.2.2.2.2.2.2.2.2.2.2.2.2.2.2.2.2.2.2.2.2.2.2.2.2.2.2.2.2.2.2.2.2.2.2.2.2.2.2.2.2.2.2.2.2.2.2.2.1 c.2.2.2.2.2.2.2.2.2.2.2.2.2.2.2.2.2.2.2.2.2.2.2.2.2.2.2.2.2.2.2.2.2.2.2.2.2.2.2.2.2.2.2.2.2.2.2.2.2.2.2.2.2.2.2.2.2.2.2.2.2.2.2.2.2.2.2.2.2.2.2.2.2.2.2.2.2.2.2.1 c.2.2.2.2.2.2.2.2.2.2.2.2.2.2.2.2.2.2.2.2.2.2.2.2.2.2.2.2.2.2.2.2.2.2.2.2.2.2.2.2.2.2.2.2.2.2.2.2.2.2.2.2.2.2.2.2.2.2.2.2.2.2.2.2.2.2.2.2.2.2.2.2.2.2.2.2.2.2.2.2.1 c.2.2.2.2.2.2.2.2.2.2.2.2.2.2.2.2.2.2.2.2.2.2.2.2.2.2.2.2.2.2.2.2.2.2.2.2.2.2.2.2.2.2.2.2.2.2.2.2.2.2.2.2.2.2.2.2.2.2.2.2.2.2.2.2.2.2.2.2.2.2.2.2.2.2.2.2.2.2.2.2.2.1 c.2.2.2.2.2.2.2.2.2.2.2.2.2.2.2.2.2.2.2.2.2.2.2.2.2.2.2.2.2.2.2.2.2.2.2.2.2.2.2.2.2.2.2.2.2.2.2.2.2.2.2.2.2.2.2.2.2.2.2.2.2.2.2.2.2.2.2.2.2.2.2.2.2.2.2.2.2.2.2.2.2.2.1 c.2.2.2.2.2.2.2.2.2.2.2.2.2.2.2.2.2.2.2.2.2.2.2.2.2.2.2.2.2.2.2.2.2.2.2.2.2.2.2.2.2.2.2.2.2.2.2.2.2.2.2.2.2.2.2.2.2.2.2.2.2.2.2.2.2.2.2.2.2.2.2.2.2.2.2.2.2.2.2.2.2.2.2) h (x0, x1, x2, x3, x4, x5, x6, x7, x8, x9, x10, x11, x12, x13, x14, x15, x16, x17, x18, x19, x20, x21, x22, x23, x24, x25, x26, x27, x28, x29, x30, x31, x32, x33, x34, x35, x36, x37, x38, x39, x40, x41, x42, x43, x44, x45, x46, x47, x48, x49, x50, x51, x52, x53, x54, x55, x56, x57, x58, x59, x60, x61, x62, x63, x64, x65, x66, x67, x68, x69, x70, x71, x72, x73, x74, x75, x76, x77, x78, x79, x80, x81, x82, x83)
end
section
variable {α0 α1 α2 α3 α4 α5 α6 α7 α8 α9 α10 α11 α12 α13 α14 α15 α16 α17 α18 α19 α20 α21 α22 α23 α24 α25 α26 α27 α28 α29 α30 α31 α32 α33 α34 α35 α36 α37 α38 α39 α40 α41 α42 α43 α44 α45 α46 α47 α48 α49 α50 α51 α52 α53 α54 α55 α56 α57 α58 α59 α60 α61 α62 α63 α64 α65 α66 α67 α68 α69 α70 α71 α72 α73 α74 α75 α76 α77 α78 α79 α80 α81 α82 α83 α84 α85 α86 α87 α88 α89 α90 α91 α92 α93 α94 α95 α96 α97 α98 α99 α100 α101 α102 α103 α104 α105 α106 : Type}
noncomputable def hkc107 (k : Nat) (d : α0 × α1 × α2 × α3 × α4 × α5 × α6 × α7 × α8 × α9 × α10 × α11 × α12 × α13 × α14 × α15 × α16 × α17 × α18 × α19 × α20 × α21 × α22 × α23 × α24 × α25 × α26 × α27 × α28 × α29 × α30 × α31 × α32 × α33 × α34 × α35 × α36 × α37 × α38 × α39 × α40 × α41 × α42 × α43 × α44 × α45 × α46 × α47 × α48 × α49 × α50 × α51 × α52 × α53 × α54 × α55 × α56 × α57 × α58 × α59 × α60 × α61 × α62 × α63 × α64 × α65 × α66 × α67 × α68 × α69 × α70 × α71 × α72 × α73 × α74 × α75 × α76 × α77 × α78 × α79 × α80 × α81 × α82 × α83 × α84 × α85 × α86 × α87 × α88 × α89 × α90 × α91 × α92 × α93 × α94 × α95 × α96 × α97 × α98 × α99 × α100 × α101 × α102 × α103 × α104 × α105 × α106) (Φ : α0 → α1 → α2 → α3 → α4 → α5 → α6 → α7 → α8 → α9 → α10 → α11 → α12 → α13 → α14 → α15 → α16 → α17 → α18 → α19 → α20 → α21 → α22 → α23 → α24 → α25 → α26 → α27 → α28 → α29 → α30 → α31 → α32 → α33 → α34 → α35 → α36 → α37 → α38 → α39 → α40 → α41 → α42 → α43 → α44 → α45 → α46 → α47 → α48 → α49 → α50 → α51 → α52 → α53 → α54 → α55 → α56 → α57 → α58 → α59 → α60 → α61 → α62 → α63 → α64 → α65 → α66 → α67 → α68 → α69 → α70 → α71 → α72 → α73 → α74 → α75 → α76 → α77 → α78 → α79 → α80 → α81 → α82 → α83 → α84 → α85 → α86 → α87 → α88 → α89 → α90 → α91 → α92 → α93 → α94 → α95 → α96 → α97 → α98 → α99 → α100 → α101 → α102 → α103 → α104 → α105 → α106 → Prop) : α0 × α1 × α2 × α3 × α4 × α5 × α6 × α7 × α8 × α9 × α10 × α11 × α12 × α13 × α14 × α15 × α16 × α17 × α18 × α19 × α20 × α21 × α22 × α23 × α24 × α25 × α26 × α27 × α28 × α29 × α30 × α31 × α32 × α33 × α34 × α35 × α36 × α37 × α38 × α39 × α40 × α41 × α42 × α43 × α44 × α45 × α46 × α47 × α48 × α49 × α50 × α51 × α52 × α53 × α54 × α55 × α56 × α57 × α58 × α59 × α60 × α61 × α62 × α63 × α64 × α65 × α66 × α67 × α68 × α69 × α70 × α71 × α72 × α73 × α74 × α75 × α76 × α77 × α78 × α79 × α80 × α81 × α82 × α83 × α84 × α85 × α86 × α87 × α88 × α89 × α90 × α91 × α92 × α93 × α94 × α95 × α96 × α97 × α98 × α99 × α100 × α101 × α102 × α103 × α104 × α105 × α106 := hkc k d fun c => Φ c.1 c.2.1 c.2.2.1 c.2.2.2.1 c.2.2.2.2.1 c.2.2.2.2.2.1 c.2.2.2.2.2.2.1 c.2.2.2.2.2.2.2.1 c.2.2.2.2.2.2.2.2.1 c.2.2.2.2.2.2.2.2.2.1 c.2.2.2.2.2.2.2.2.2.2.1 c.2.2.2.2.2.2.2.2.2.2.2.1 c.2.2.2.2.2.2.2.2.2.2.2.2.1 c.2.2.2.2.2.2.2.2.2.2.2.2.2.1 c.2.2.2.2.2.2.2.2.2.2.2.2.2.2.1 c.2.2.2.2.2.2.2.2.2.2.2.2.2.2.2.1 c.2.2.2.2.2.2.2.2.2.2.2.2.2.2.2.2.1 c.2.2.2.2.2.2.2.2.2.2.2.2.2.2.2.2.2.1 c.2.2.2.2.2.2.2.2.2.2.2.2.2.2.2.2.2.2.1 c.2.2.2.2.2.2.2.2.2.2.2.2.2.2.2.2.2.2.2.1 c.2.2.2.2.2.2.2.2.2.2.2.2.2.2.2.2.2.2.2.2.1 c.2.2.2.2.2.2.2.2.2.2.2.2.2.2.2.2.2.2.2.2.2.1 c.2.2.2.2.2.2.2.2.2.2.2.2.2.2.2.2.2.2.2.2.2.2.1 c.2.2.2.2.2.2.2.2.2.2.2.2.2.2.2.2.2.2.2.2.2.2.2.1 c.2.2.2.2.2.2.2.2.2.2.2.2.2.2.2.2.2.2.2.2.2.2.2.2.1 c.2.2.2.2.2.2.2.2.2.2.2.2.2.2.2.2.2.2.2.2.2.2.2.2.2.1 c.2.2.2.2.2.2.2.2.2.2.2.2.2.2.2.2.2.2.2.2.2.2.2.2.2.2.1 c.2.2.2.2.2.2.2.2.2.2.2.2.2.2.2.2.2.2.2.2.2.2.2.2.2.2.2.1 c.2.2.2.2.2.2.2.2.2.2.2.2.2.2.2.2.2.2.2.2.2.2.2.2.2.2.2.2.1 c.2.2.2.2.2.2.2.2.2.2.2.2.2.2.2.2.2.2.2.2.2.2.2.2.2.2.2.2.2.1 c.2.2.2.2.2.2.2.2.2.2.2.2.2.2.2.2.2.2.2.2.2.2.2.2.2.2.2.2.2.2.1 c.2.2.2.2.2.2.2.2.2.2.2.2.2.2.2.2.2.2.2.2.2.2.2.2.2.2.2.2.2.2.2.1 c.2.2.2.2.2.2.2.2.2.2.2.2.2.2.2.2.2.2.2.2.2.2.2.2.2.2.2.2.2.2.2.2.1 c.2.2.2.2.2.2.2.2.2.2.2.2.2.2.2.2.2.2.2.2.2.2.2.2.2.2.2.2.2.2.2.2.2.1 c.2.2.2.2.2.2.2.2.2.2.2.2.2.2.2.2.2.2.2.2.2.2.2.2.2.2.2.2.2.2.2.2.2.2.1 c.2.2.2.2.2.2.2.2.2.2.2.2.2.2.2.2.2.2.2.2.2.2.2.2.2.2.2.2.2.2.2.2.2.2.2.1 c.2.2.2.2.2.2.2.2.2.2.2.2.2.2.2.2.2.2.2.2.2.2.2.2.2.2.2.2.2.2.2.2.2.2.2.2.1 c.2.2.2.2.2.2.2.2.2.2.2.2.2.2.2.2.2.2.2.2.2.2.2.2.2.2.2.2.2.2.2.2.2.2.2.2.2.1 c.2.2.2.2.2.2.2.2.2.2.2.2.2.2.2.2.2.2.2.2.2.2.2.2.2.2.2.2.2.2.2.2.2.2.2.2.2.2.1 c.2.2.2.2.2.2.2.2.2.2.2.2.2.2.2.2.2.2.2.2.2.2.2.2.2.2.2.2.2.2.2.2.2.2.2.2.2.2.2.1 c.2.2.2.2.2.2.2.2.2.2.2.2.2.2.2.2.2.2.2.2.2.2.2.2.2.2.2.2.2.2.2.2.2.2.2.2.2.2.2.2.1 c.2.2.2.2.2.2.2.2.2.2.2.2.2.2.2.2.2.2.2.2.2.2.2.2.2.2.2.2.2.2.2.2.2.2.2.2.2.2.2.2.2.1 c.2.2.2.2.2.2.2.2.2.2.2.2.2.2.2.2.2.2.2.2.2.2.2.2.2.2.2.2.2.2.2.2.2.2.2.2.2.2.2.2.2.2.1 c.2.2.2.2.2.2.2.2.2.2.2.2.2.2.2.2.2.2.2.2.2.2.2.2.2.2.2.2.2.2.2.2.2.2.2.2.2.2.2.2.2.2.2.1 c.2.2.2.2.2.2.2.2.2.2.2.2.2.2.2.2.2.2.2.2.2.2.2.2.2.2.2.2.2.2.2.2.2.2.2.2.2.2.2.2.2.2.2.2.1 c.2.2.2.2.2.2.2.2.2.2.2.2.2.2.2.2.2.2.2.2.2.2.2.2.2.2.2.2.2.2.2.2.2.2.2.2.2.2.2.2.2.2.2.2.2.1 c.2.2.2.2.2.2.2.2.2.2.2.2.2.2.2.2.2.2.2.2.2.2.2.2.2.2.2.2.2.2.2.2.2.2.2.2.2.2.2.2.2.2.2.2.2.2.1 c.2.2.2.2.2.2.2.2.2.2.2.2.2.2.2.2.2.2.2.2.2.2.2.2.2.2.2.2.2.2.2.2.2.2.2.2.2.2.2.2.2.2.2.2.2.2.2.1 c.2.2.2.2.2.2.2.2.2.2.2.2.2.2.2.2.2.2.2.2.2.2.2.2.2.2.2.2.2.2.2.2.2.2.2.2.2.2.2.2.2.2.2.2.2.2.2.2.1 c.2.2.2.2.2.2.2.2.2.2.2.2.2.2.2.2.2.2.2.2.2.2.2.2.2.2.2.2.2.2.2.2.2.2.2.2.2.2.2.2.2.2.2.2.2.2.2.2.2.1 c.2.2.2.2.2.2.2.2.2.2.2.2.2.2.2.2.2.2.2.2.2.2.2.2.2.2.2.2.2.2.2.2.2.2.2.2.2.2.2.2.2.2.2.2.2.2.2.2.2.2.1 c.2.2.2.2.2.2.2.2.2.2.2.2.2.2.2.2.2.2.2.2.2.2.2.2.2.2.2.2.2.2.2.2.2.2.2.2.2.2.2.2.2.2.2.2.2.2.2.2.2.2.2.1 c.2.2.2.2.2.2.2.2.2.2.2.2.2.2.2.2.2.2.2.2.2.2.2.2.2.2.2.2.2.2.2.2.2.2.2.2.2.2.2.2.2.2.2.2.2.2.2.2.2.2.2.2.1 c.2.2.2.2.2.2.2.2.2.2.2.2.2.2.2.2.2.2.2.2.2.2.2.2.2.2.2.2.2.2.2.2.2.2.2.2.2.2.2.2.2.2.2.2.2.2.2.2.2.2.2.2.2.1 c.2.2.2.2.2.2.2.2.2.2.2.2.2.2.2.2.2.2.2.2.2.2.2.2.2.2.2.2.2.2.2.2.2.2.2.2.2.2.2.2.2.2.2.2.2.2.2.2.2.2.2.2.2.2.1 c.2.2.2.2.2.2.2.2.2.2.2.2.2.2.2.2.2.2.2.2.2.2.2.2.2.2.2.2.2.2.2.2.2.2.2.2.2.2.2.2.2.2.2.2.2.2.2.2.2.2.2.2.2.2.2.1 c.2.2.2.2.2.2.2.2.2.2.2.2.2.2.2.2.2.2.2.2.2.2.2.2.2.2.2.2.2.2.2.2.2.2.2.2.2.2.2.2.2.2.2.2.2.2.2.2.2.2.2.2.2.2.2.2.1 c.2.2.2.2.2.2.2.2.2.2.2.2.2.2.2.2.2.2.2.2.2.2.2.2.2.2.2.2.2.2.2.2.2.2.2.2.2.2.2.2.2.2.2.2.2.2.2.2.2.2.2.2.2.2.2.2.2.1 c.2.2.2.2.2.2.2.2.2.2.2.2.2.2.2.2.2.2.2.2.2.2.2.2.2.2.2.2.2.2.2.2.2.2.2.2.2.2.2.2.2.2.2.2.2.2.2.2.2.2.2.2.2.2.2.2.2.2.1 c.2.2.2.2.2.2.2.2.2.2.2.2.2.2.2.2.2.2.2.2.2.2.2.2.2.2.2.2.2.2.2.2.2.2.2.2.2.2.2.2.2.2.2.2.2.2.2.2.2.2.2.2.2.2.2.2.2.2.2.1 c.2.2.2.2.2.2.2.2.2.2.2.2.2.2.2.2.2.2.2.2.2.2.2.2.2.2.2.2.2.2.2.2.2.2.2.2.2.2.2.2.2.2.2.2.2.2.2.2.2.2.2.2.2.2.2.2.2.2.2.2.1 c.2.2.2.2.2.2.2.2.2.2.2.2.2.2.2.2.2.2.2.2.2.2.2.2.2.2.2.2.2.2.2.2.2.2.2.2.2.2.2.2.2.2.2.2.2.2.2.2.2.2.2.2.2.2.2.2.2.2.2.2.2.1 c.2.2.2.2.2.2.2.2.2.2.2.2.2.2.2.2.2.2.2.2.2.2.2.2.2.2.2.2.2.2.2.2.2.2.2.2.2.2.2.2.2.2.2.2.2.2.2.2.2.2.2.2.2.2.2.2.2.2.2.2.2.2.1 c.2.2.2.2.2.2.2.2.2.2.2.2.2.2.2.2.2.2.2.2.2.2.2.2.2.2.2.2.2.2.2.2.2.2.2.2.2.2.2.2.2.2.2.2.2.2.2.2.2.2.2.2.2.2.2.2.2.2.2.2.2.2.2.1 c.2.2.2.2.2.2.2.2.2.2.2.2.2.2.2.2.2.2.2.2.2.2.2.2.2.2.2.2.2.2.2.2.2.2.2.2.2.2.2.2.2.2.2.2.2.2.2.2.2.2.2.2.2.2.2.2.2.2.2.2.2.2.2.2.1 c.2.2.2.2.2.2.2.2.2.2.2.2.2.2.2.2.2.2.2.2.2.2.2.2.2.2.2.2.2.2.2.2.2.2.2.2.2.2.2.2.2.2.2.2.2.2.2.2.2.2.2.2.2.2.2.2.2.2.2.2.2.2.2.2.2.1 c.2.2.2.2.2.2.2.2.2.2.2.2.2.2.2.2.2.2.2.2.2.2.2.2.2.2.2.2.2.2.2.2.2.2.2.2.2.2.2.2.2.2.2.2.2.2.2.2.2.2.2.2.2.2.2.2.2.2.2.2.2.2.2.2.2.2.1 c.2.2.2.2.2.2.2.2.2.2.2.2.2.2.2.2.2.2.2.2.2.2.2.2.2.2.2.2.2.2.2.2.2.2.2.2.2.2.2.2.2.2.2.2.2.2.2.2.2.2.2.2.2.2.2.2.2.2.2.2.2.2.2.2.2.2.2.1 c.2.2.2.2.2.2.2.2.2.2.2.2.2.2.2.2.2.2.2.2.2.2.2.2.2.2.2.2.2.2.2.2.2.2.2.2.2.2.2.2.2.2.2.2.2.2.2.2.2.2.2.2.2.2.2.2.2.2.2.2.2.2.2.2.2.2.2.2.1 c.2.2.2.2.2.2.2.2.2.2.2.2.2.2.2.2.2.2.2.2.2.2.2.2.2.2.2.2.2.2.2.2.2.2.2.2.2.2.2.2.2.2.2.2.2.2.2.2.2.2.2.2.2.2.2.2.2.2.2.2.2.2.2.2.2.2.2.2.2.1 c.2.2.2.2.2.2.2.2.2.2.2.2.2.2.2.2.2.2.2.2.2.2.2.2.2.2.2.2.2.2.2.2.2.2.2.2.2.2.2.2.2.2.2.2.2.2.2.2.2.2.2.2.2.2.2.2.2.2.2.2.2.2.2.2.2.2.2.2.2.2.1 c.2.2.2.2.2.2.2.2.2.2.2.2.2.2.2.2.2.2.2.2.2.2.2.2.2.2.2.2.2.2.2.2.2.2.2.2.2.2.2.2.2.2.2.2.2.2.2.2.2.2.2.2.2.2.2.2.2.2.2.2.2.2.2.2.2.2.2.2.2.2.2.1 c.2.2.2.2.2.2.2.2.2.2.2.2.2.2.2.2.2.2.2.2.2.2.2.2.2.2.2.2.2.2.2.2.2.2.2.2.2.2.2.2.2.2.2.2.2.2.2.2.2.2.2.2.2.2.2.2.2.2.2.2.2.2.2.2.2.2.2.2.2.2.2.2.1 c.2.2.2.2.2.2.2.2.2.2.2.2.2.2.2.2.2.2.2.2.2.2.2.2.2.2.2.2.2.2.2.2.2.2.2.2.2.2.2.2.2.2.2.2.2.2.2.2.2.2.2.2.2.2.2.2.2.2.2.2.2.2.2.2.2.2.2.2.2.2.2.2.2.1 c.2.2.2.2.2.2.2.2.2.2.2.2.2.2.2.2.2.2.2.2.2.2.2.2.2.2.2.2.2.2.2.2.2.2.2.2.2.2.2.2.2.2.2.2.2.2.2.2.2.2.2.2.2.2.2.2.2.2.2.2.2.2.2.2.2.2.2.2.2.2.2.2.2.2.1 c.2.2.2.2.2.2.2.2.2.2.2.2.2.2.2.2.2.2.2.2.2.2.2.2.2.2.2.2.2.2.2.2.2.2.2.2.2.2.2.2.2.2.2.2.2.2.2.2.2.2.2.2.2.2.2.2.2.2.2.2.2.2.2.2.2.2.2.2.2.2.2.2.2.2.2.1 c.2.2.2.2.2.2.2.2.2.2.2.2.2.2.2.2.2.2.2.2.2.2.2.2.2.2.2.2.2.2.2.2.2.2.2.2.2.2.2.2.2.2.2.2.2.2.2.2.2.2.2.2.2.2.2.2.2.2.2.2.2.2.2.2.2.2.2.2.2.2.2.2.2.2.2.2.1 c.2.2.2.2.2.2.2.2.2.2.2.2.2.2.2.2.2.2.2.2.2.2.2.2.2.2.2.2.2.2.2.2.2.2.2.2.2.2.2.2.2.2.2.2.2.2.2.2.2.2.2.2.2.2.2.2.2.2.2.2.2.2.2.2.2.2.2.2.2.2.2.2.2.2.2.2.2.1 c.2.2.2.2.2.2.2.2.2.2.2.2.2.2.2.2.2.2.2.2.2.2.2.2.2.2.2.2.2.2.2.2.2.2.2.2.2.2.2.2.2.2.2.2.2.2.2.2.2.2.2.2.2.2.2.2.2.2.2.2.2.2.2.2.2.2.2.2.2.2.2.2.2.2.2.2.2.2.1 c.2.2.2.2.2.2.2.2.2.2.2.2.2.2.2.2.2.2.2.2.2.2.2.2.2.2.2.2.2.2.2.2.2.2.2.2.2.2.2.2.2.2.2.2.2.2.2.2.2.2.2.2.2.2.2.2.2.2.2.2.2.2.2.2.2.2.2.2.2.2.2.2.2.2.2.2.2.2.2.1 c.2.2.2.2.2.2.2.2.2.2.2.2.2.2.2.2.2.2.2.2.2.2.2.2.2.2.2.2.2.2.2.2.2.2.2.2.2.2.2.2.2.2.2.2.2.2.2.2.2.2.2.2.2.2.2.2.2.2.2.2.2.2.2.2.2.2.2.2.2.2.2.2.2.2.2.2.2.2.2.2.1 c.2.2.2.2.2.2.2.2.2.2.2.2.2.2.2.2.2.2.2.2.2.2.2.2.2.2.2.2.2.2.2.2.2.2.2.2.2.2.2.2.2.2.2.2.2.2.2.2.2.2.2.2.2.2.2.2.2.2.2.2.2.2.2.2.2.2.2.2.2.2.2.2.2.2.2.2.2.2.2.2.2.1 c.2.2.2.2.2.2.2.2.2.2.2.2.2.2.2.2.2.2.2.2.2.2.2.2.2.2.2.2.2.2.2.2.2.2.2.2.2.2.2.2.2.2.2.2.2.2.2.2.2.2.2.2.2.2.2.2.2.2.2.2.2.2.2.2.2.2.2.2.2.2.2.2.2.2.2.2.2.2.2.2.2.2.1 c.2.2.2.2.2.2.2.2.2.2.2.2.2.2.2.2.2.2.2.2.2.2.2.2.2.2.2.2.2.2.2.2.2.2.2.2.2.2.2.2.2.2.2.2.2.2.2.2.2.2.2.2.2.2.2.2.2.2.2.2.2.2.2.2.2.2.2.2.2.2.2.2.2.2.2.2.2.2.2.2.2.2.2.1 c.2.2.2.2.2.2.2.2.2.2.2.2.2.2.2.2.2.2.2.2.2.2.2.2.2.2.2.2.2.2.2.2.2.2.2.2.2.2.2.2.2.2.2.2.2.2.2.2.2.2.2.2.2.2.2.2.2.2.2.2.2.2.2.2.2.2.2.2.2.2.2.2.2.2.2.2.2.2.2.2.2.2.2.2.1 c.2.2.2.2.2.2.2.2.2.2.2.2.2.2.2.2.2.2.2.2.2.2.2.2.2.2.2.2.2.2.2.2.2.2.2.2.2.2.2.2.2.2.2.2.2.2.2.2.2.2.2.2.2.2.2.2.2.2.2.2.2.2.2.2.2.2.2.2.2.2.2.2.2.2.2.2.2.2.2.2.2.2.2.2.2.1 c.2.2.2.2.2.2.2.2.2.2.2.2.2.2.2.2.2.2.2.2.2.2.2.2.2.2.2.2.2.2.2.2.2.2.2.2.2.2.2.2.2.2.2.2.2.2.2.2.2.2.2.2.2.2.2.2.2.2.2.2.2.2.2.2.2.2.2.2.2.2.2.2.2.2.2.2.2.2.2.2.2.2.2.2.2.2.1 c.2.2.2.2.2.2.2.2.2.2.2.2.2.2.2.2.2.2.2.2.2.2.2.2.2.2.2.2.2.2.2.2.2.2.2.2.2.2.2.2.2.2.2.2.2.2.2.2.2.2.2.2.2.2.2.2.2.2.2.2.2.2.2.2.2.2.2.2.2.2.2.2.2.2.2.2.2.2.2.2.2.2.2.2.2.2.2.1 c.2.2.2.2.2.2.2.2.2.2.2.2.2.2.2.2.2.2.2.2.2.2.2.2.2.2.2.2.2.2.2.2.2.2.2.2.2.2.2.2.2.2.2.2.2.2.2.2.2.2.2.2.2.2.2.2.2.2.2.2.2.2.2.2.2.2.2.2.2.2.2.2.2.2.2.2.2.2.2.2.2.2.2.2.2.2.2.2.1 c.2.2.2.2.2.2.2.2.2.2.2.2.2.2.2.2.2.2.2.2.2.2.2.2.2.2.2.2.2.2.2.2.2.2.2.2.2.2.2.2.2.2.2.2.2.2.2.2.2.2.2.2.2.2.2.2.2.2.2.2.2.2.2.2.2.2.2.2.2.2.2.2.2.2.2.2.2.2.2.2.2.2.2.2.2.2.2.2.2.1 c.2.2.2.2.2.2.2.2.2.2.2.2.2.2.2.2.2.2.2.2.2.2.2.2.2.2.2.2.2.2.2.2.2.2.2.2.2.2.2.2.2.2.2.2.2.2.2.2.2.2.2.2.2.2.2.2.2.2.2.2.2.2.2.2.2.2.2.2.2.2.2.2.2.2.2.2.2.2.2.2.2.2.2.2.2.2.2.2.2.2.1 c.2.2.2.2.2.2.2.2.2.2.2.2.2.2.2.2.2.2.2.2.2.2.2.2.2.2.2.2.2.2.2.2.2.2.2.2.2.2.2.2.2.2.2.2.2.2.2.2.2.2.2.2.2.2.2.2.2.2.2.2.2.2.2.2.2.2.2.2.2.2.2.2.2.2.2.2.2.2.2.2.2.2.2.2.2.2.2.2.2.2.2.1 c.2.2.2.2.2.2.2.2.2.2.2.2.2.2.2.2.2.2.2.2.2.2.2.2.2.2.2.2.2.2.2.2.2.2.2.2.2.2.2.2.2.2.2.2.2.2.2.2.2.2.2.2.2.2.2.2.2.2.2.2.2.2.2.2.2.2.2.2.2.2.2.2.2.2.2.2.2.2.2.2.2.2.2.2.2.2.2.2.2.2.2.2.1 c.2.2.2.2.2.2.2.2.2.2.2.2.2.2.2.2.2.2.2.2.2.2.2.2.2.2.2.2.2.2.2.2.2.2.2.2.2.2.2.2.2.2.2.2.2.2.2.2.2.2.2.2.2.2.2.2.2.2.2.2.2.2.2.2.2.2.2.2.2.2.2.2.2.2.2.2.2.2.2.2.2.2.2.2.2.2.2.2.2.2.2.2.2.1 c.2.2.2.2.2.2.2.2.2.2.2.2.2.2.2.2.2.2.2.2.2.2.2.2.2.2.2.2.2.2.2.2.2.2.2.2.2.2.2.2.2.2.2.2.2.2.2.2.2.2.2.2.2.2.2.2.2.2.2.2.2.2.2.2.2.2.2.2.2.2.2.2.2.2.2.2.2.2.2.2.2.2.2.2.2.2.2.2.2.2.2.2.2.2.1 c.2.2.2.2.2.2.2.2.2.2.2.2.2.2.2.2.2.2.2.2.2.2.2.2.2.2.2.2.2.2.2.2.2.2.2.2.2.2.2.2.2.2.2.2.2.2.2.2.2.2.2.2.2.2.2.2.2.2.2.2.2.2.2.2.2.2.2.2.2.2.2.2.2.2.2.2.2.2.2.2.2.2.2.2.2.2.2.2.2.2.2.2.2.2.2.1 c.2.2.2.2.2.2.2.2.2.2.2.2.2.2.2.2.2.2.2.2.2.2.2.2.2.2.2.2.2.2.2.2.2.2.2.2.2.2.2.2.2.2.2.2.2.2.2.2.2.2.2.2.2.2.2.2.2.2.2.2.2.2.2.2.2.2.2.2.2.2.2.2.2.2.2.2.2.2.2.2.2.2.2.2.2.2.2.2.2.2.2.2.2.2.2.2.1 c.2.2.2.2.2.2.2.2.2.2.2.2.2.2.2.2.2.2.2.2.2.2.2.2.2.2.2.2.2.2.2.2.2.2.2.2.2.2.2.2.2.2.2.2.2.2.2.2.2.2.2.2.2.2.2.2.2.2.2.2.2.2.2.2.2.2.2.2.2.2.2.2.2.2.2.2.2.2.2.2.2.2.2.2.2.2.2.2.2.2.2.2.2.2.2.2.2.1 c.2.2.2.2.2.2.2.2.2.2.2.2.2.2.2.2.2.2.2.2.2.2.2.2.2.2.2.2.2.2.2.2.2.2.2.2.2.2.2.2.2.2.2.2.2.2.2.2.2.2.2.2.2.2.2.2.2.2.2.2.2.2.2.2.2.2.2.2.2.2.2.2.2.2.2.2.2.2.2.2.2.2.2.2.2.2.2.2.2.2.2.2.2.2.2.2.2.2.1 c.2.2.2.2.2.2.2.2.2.2.2.2.2.2.2.2.2.2.2.2.2.2.2.2.2.2.2.2.2.2.2.2.2.2.2.2.2.2.2.2.2.2.2.2.2.2.2.2.2.2.2.2.2.2.2.2.2.2.2.2.2.2.2.2.2.2.2.2.2.2.2.2.2.2.2.2.2.2.2.2.2.2.2.2.2.2.2.2.2.2.2.2.2.2.2.2.2.2.2.1 c.2.2.2.2.2.2.2.2.2.2.2.2.2.2.2.2.2.2.2.2.2.2.2.2.2.2.2.2.2.2.2.2.2.2.2.2.2.2.2.2.2.2.2.2.2.2.2.2.2.2.2.2.2.2.2.2.2.2.2.2.2.2.2.2.2.2.2.2.2.2.2.2.2.2.2.2.2.2.2.2.2.2.2.2.2.2.2.2.2.2.2.2.2.2.2.2.2.2.2.2.1 c.2.2.2.2.2.2.2.2.2.2.2.2.2.2.2.2.2.2.2.2.2.2.2.2.2.2.2.2.2.2.2.2.2.2.2.2.2.2.2.2.2.2.2.2.2.2.2.2.2.2.2.2.2.2.2.2.2.2.2.2.2.2.2.2.2.2.2.2.2.2.2.2.2.2.2.2.2.2.2.2.2.2.2.2.2.2.2.2.2.2.2.2.2.2.2.2.2.2.2.2.2.1 c.2.2.2.2.2.2.2.2.2.2.2.2.2.2.2.2.2.2.2.2.2.2.2.2.2.2.2.2.2.2.2.2.2.2.2.2.2.2.2.2.2.2.2.2.2.2.2.2.2.2.2.2.2.2.2.2.2.2.2.2.2.2.2.2.2.2.2.2.2.2.2.2.2.2.2.2.2.2.2.2.2.2.2.2.2.2.2.2.2.2.2.2.2.2.2.2.2.2.2.2.2.2.1 c.2.2.2.2.2.2.2.2.2.2.2.2.2.2.2.2.2.2.2.2.2.2.2.2.2.2.2.2.2.2.2.2.2.2.2.2.2.2.2.2.2.2.2.2.2.2.2.2.2.2.2.2.2.2.2.2.2.2.2.2.2.2.2.2.2.2.2.2.2.2.2.2.2.2.2.2.2.2.2.2.2.2.2.2.2.2.2.2.2.2.2.2.2.2.2.2.2.2.2.2.2.2.2.1 c.2.2.2.2.2.2.2.2.2.2.2.2.2.2.2.2.2.2.2.2.2.2.2.2.2.2.2.2.2.2.2.2.2.2.2.2.2.2.2.2.2.2.2.2.2.2.2.2.2.2.2.2.2.2.2.2.2.2.2.2.2.2.2.2.2.2.2.2.2.2.2.2.2.2.2.2.2.2.2.2.2.2.2.2.2.2.2.2.2.2.2.2.2.2.2.2.2.2.2.2.2.2.2.2.1 c.2.2.2.2.2.2.2.2.2.2.2.2.2.2.2.2.2.2.2.2.2.2.2.2.2.2.2.2.2.2.2.2.2.2.2.2.2.2.2.2.2.2.2.2.2.2.2.2.2.2.2.2.2.2.2.2.2.2.2.2.2.2.2.2.2.2.2.2.2.2.2.2.2.2.2.2.2.2.2.2.2.2.2.2.2.2.2.2.2.2.2.2.2.2.2.2.2.2.2.2.2.2.2.2.2.1 c.2.2.2.2.2.2.2.2.2.2.2.2.2.2.2.2.2.2.2.2.2.2.2.2.2.2.2.2.2.2.2.2.2.2.2.2.2.2.2.2.2.2.2.2.2.2.2.2.2.2.2.2.2.2.2.2.2.2.2.2.2.2.2.2.2.2.2.2.2.2.2.2.2.2.2.2.2.2.2.2.2.2.2.2.2.2.2.2.2.2.2.2.2.2.2.2.2.2.2.2.2.2.2.2.2.2
theorem hk107 (k : Nat) (d : α0 × α1 × α2 × α3 × α4 × α5 × α6 × α7 × α8 × α9 × α10 × α11 × α12 × α13 × α14 × α15 × α16 × α17 × α18 × α19 × α20 × α21 × α22 × α23 × α24 × α25 × α26 × α27 × α28 × α29 × α30 × α31 × α32 × α33 × α34 × α35 × α36 × α37 × α38 × α39 × α40 × α41 × α42 × α43 × α44 × α45 × α46 × α47 × α48 × α49 × α50 × α51 × α52 × α53 × α54 × α55 × α56 × α57 × α58 × α59 × α60 × α61 × α62 × α63 × α64 × α65 × α66 × α67 × α68 × α69 × α70 × α71 × α72 × α73 × α74 × α75 × α76 × α77 × α78 × α79 × α80 × α81 × α82 × α83 × α84 × α85 × α86 × α87 × α88 × α89 × α90 × α91 × α92 × α93 × α94 × α95 × α96 × α97 × α98 × α99 × α100 × α101 × α102 × α103 × α104 × α105 × α106) (Φ : α0 → α1 → α2 → α3 → α4 → α5 → α6 → α7 → α8 → α9 → α10 → α11 → α12 → α13 → α14 → α15 → α16 → α17 → α18 → α19 → α20 → α21 → α22 → α23 → α24 → α25 → α26 → α27 → α28 → α29 → α30 → α31 → α32 → α33 → α34 → α35 → α36 → α37 → α38 → α39 → α40 → α41 → α42 → α43 → α44 → α45 → α46 → α47 → α48 → α49 → α50 → α51 → α52 → α53 → α54 → α55 → α56 → α57 → α58 → α59 → α60 → α61 → α62 → α63 → α64 → α65 → α66 → α67 → α68 → α69 → α70 → α71 → α72 → α73 → α74 → α75 → α76 → α77 → α78 → α79 → α80 → α81 → α82 → α83 → α84 → α85 → α86 → α87 → α88 → α89 → α90 → α91 → α92 → α93 → α94 → α95 → α96 → α97 → α98 → α99 → α100 → α101 → α102 → α103 → α104 → α105 → α106 → Prop) (h : Φ (hkc107 k d Φ).1 (hkc107 k d Φ).2.1 (hkc107 k d Φ).2.2.1 (hkc107 k d Φ).2.2.2.1 (hkc107 k d Φ).2.2.2.2.1 (hkc107 k d Φ).2.2.2.2.2.1 (hkc107 k d Φ).2.2.2.2.2.2.1 (hkc107 k d Φ).2.2.2.2.2.2.2.1 (hkc107 k d Φ).2.2.2.2.2.2.2.2.1 (hkc107 k d Φ).2.2.2.2.2.2.2.2.2.1 (hkc107 k d Φ).2.2.2.2.2.2.2.2.2.2.1 (hkc107 k d Φ).2.2.2.2.2.2.2.2.2.2.2.1 (hkc107 k d Φ).2.2.2.2.2.2.2.2.2.2.2.2.1 (hkc107 k d Φ).2.2.2.2.2.2.2.2.2.2.2.2.2.1 (hkc107 k d Φ).2.2.2.2.2.2.2.2.2.2.2.2.2.2.1 (hkc107 k d Φ).2.2.2.2.2.2.2.2.2.2.2.2.2.2.2.1 (hkc107 k d Φ).2.2.2.2.2.2.2.2.2.2.2.2.2.2.2.2.1 (hkc107 k d Φ).2.2.2.2.2.2.2.2.2.2.2.2.2.2.2.2.2.1 (hkc107 k d Φ).2.2.2.2.2.2.2.2.2.2.2.2.2.2.2.2.2.2.1 (hkc107 k d Φ).2.2.2.2.2.2.2.2.2.2.2.2.2.2.2.2.2.2.2.1 (hkc107 k d Φ).2.2.2.2.2.2.2.2.2.2.2.2.2.2.2.2.2.2.2.2.1 (hkc107 k d Φ).2.2.2.2.2.2.2.2.2.2.2.2.2.2.2.2.2.2.2.2.2.1 (hkc107 k d Φ).2.2.2.2.2.2.2.2.2.2.2.2.2.2.2.2.2.2.2.2.2.2.1 (hkc107 k d Φ).2.2.2.2.2.2.2.2.2.2.2.2.2.2.2.2.2.2.2.2.2.2.2.1 (hkc107 k d Φ).2.2.2.2.2.2.2.2.2.2.2.2.2.2.2.2.2.2.2.2.2.2.2.2.1 (hkc107 k d Φ).2.2.2.2.2.2.2.2.2.2.2.2.2.2.2.2.2.2.2.2.2.2.2.2.2.1 (hkc107 k d Φ).2.2.2.2.2.2.2.2.2.2.2.2.2.2.2.2.2.2.2.2.2.2.2.2.2.2.1 (hkc107 k d Φ).2.2.2.2.2.2.2.2.2.2.2.2.2.2.2.2.2.2.2.2.2.2.2.2.2.2.2.1 (hkc107 k d Φ).2.2.2.2.2.2.2.2.2.2.2.2.2.2.2.2.2.2.2.2.2.2.2.2.2.2.2.2.1 (hkc107 k d Φ).2.2.2.2.2.2.2.2.2.2.2.2.2.2.2.2.2.2.2.2.2.2.2.2.2.2.2.2.2.1 (hkc107 k d Φ).2.2.2.2.2.2.2.2.2.2.2.2.2.2.2.2.2.2.2.2.2.2.2.2.2.2.2.2.2.2.1 (hkc107 k d Φ).2.2.2.2.2.2.2.2.2.2.2.2.2.2.2.2.2.2.2.2.2.2.2.2.2.2.2.2.2.2.2.1 (hkc107 k d Φ).2.2.2.2.2.2.2.2.2.2.2.2.2.2.2.2.2.2.2.2.2.2.2.2.2.2.2.2.2.2.2.2.1 (hkc107 k d Φ).2.2.2.2.2.2.2.2.2.2.2.2.2.2.2.2.2.2.2.2.2.2.2.2.2.2.2.2.2.2.2.2.2.1 (hkc107 k d Φ).2.2.2.2.2.2.2.2.2.2.2.2.2.2.2.2.2.2.2.2.2.2.2.2.2.2.2.2.2.2.2.2.2.2.1 (hkc107 k d Φ).2.2.2.2.2.2.2.2.2.2.2.2.2.2.2.2.2.2.2.2.2.2.2.2.2.2.2.2.2.2.2.2.2.2.2.1 (hkc107 k d Φ).2.2.2.2.2.2.2.2.2.2.2.2.2.2.2.2.2.2.2.2.2.2.2.2.2.2.2.2.2.2.2.2.2.2.2.2.1 (hkc107 k d Φ).2.2.2.2.2.2.2.2.2.2.2.2.2.2.2.2.2.2.2.2.2.2.2.2.2.2.2.2.2.2.2.2.2.2.2.2.2.1 (hkc107 k d Φ).2.2.2.2.2.2.2.2.2.2.2.2.2.2.2.2.2.2.2.2.2.2.2.2.2.2.2.2.2.2.2.2.2.2.2.2.2.2.1 (hkc107 k d Φ).2.2.2.2.2.2.2.2.2.2.2.2.2.2.2.2.2.2.2.2.2.2.2.2.2.2.2.2.2.2.2.2.2.2.2.2.2.2.2.1 (hkc107 k d Φ).2.2.2.2.2.2.2.2.2.2.2.2.2.2.2.2.2.2.2.2.2.2.2.2.2.2.2.2.2.2.2.2.2.2.2.2.2.2.2.2.1 (hkc107 k d Φ).2.2.2.2.2.2.2.2.2.2.2.2.2.2.2.2.2.2.2.2.2.2.2.2.2.2.2.2.2.2.2.2.2.2.2.2.2.2.2.2.2.1 (hkc107 k d Φ).2.2.2.2.2.2.2.2.2.2.2.2.2.2.2.2.2.2.2.2.2.2.2.2.2.2.2.2.2.2.2.2.2.2.2.2.2.2.2.2.2.2.1 (hkc107 k d Φ).2.2.2.2.2.2.2.2.2.2.2.2.2.2.2.2.2.2.2.2.2.2.2.2.2.2.2.2.2.2.2.2.2.2.2.2.2.2.2.2.2.2.2.1 (hkc107 k d Φ).2.2.2.2.2.2.2.2.2.2.2.2.2.2.2.2.2.2.2.2.2.2.2.2.2.2.2.2.2.2.2.2.2.2.2.2.2.2.2.2.2.2.2.2.1 (hkc107 k d Φ).2.2.2.2.2.2.2.2.2.2.2.2.2.2.2.2.2.2.2.2.2.2.2.2.2.2.2.2.2.2.2.2.2.2.2.2.2.2.2.2.2.2.2.2.2.1 (hkc107 k d Φ).2.2.2.2.2.2.2.2.2.2.2.2.2.2.2.2.2.2.2.2.2.2.2.2.2.2.2.2.2.2.2.2.2.2.2.2.2.2.2.2.2.2.2.2.2.2.1 (hkc107 k d Φ).2.2.2.2.2.2.2.2.2.2.2.2.2.2.2.2.2.2.2.2.2.2.2.2.2.2.2.2.2.2.2.2.2.2.2.2.2.2.2.2.2.2.2.2.2.2.2.1 (hkc107 k d Φ).2.2.2.2.2.2.2.2.2.2.2.2.2.2.2.2.2.2.2.2.2.2.2.2.2.2.2.2.2.2.2.2.2.2.2.2.2.2.2.2.2.2.2.2.2.2.2.2.1 (hkc107 k d Φ).2.2.2.2.2.2.2.2.2.2.2.2.2.2.2.2.2.2.2.2.2.2.2.2.2.2.2.2.2.2.2.2.2.2.2.2.2.2.2.2.2.2.2.2.2.2.2.2.2.1 (hkc107 k d Φ).2.2.2.2.2.2.2.2.2.2.2.2.2.2.2.2.2.2.2.2.2.2.2.2.2.2.2.2.2.2.2.2.2.2.2.2.2.2.2.2.2.2.2.2.2.2.2.2.2.2.1 (hkc107 k d Φ).2.2.2.2.2.2.2.2.2.2.2.2.2.2.2.2.2.2.2.2.2.2.2.2.2.2.2.2.2.2.2.2.2.2.2.2.2.2.2.2.2.2.2.2.2.2.2.2.2.2.2.1 (hkc107 k d Φ).2.2.2.2.2.2.2.2.2.2.2.2.2.2.2.2.2.2.2.2.2.2.2.2.2.2.2.2.2.2.2.2.2.2.2.2.2.2.2.2.2.2.2.2.2.2.2.2.2.2.2.2.1 (hkc107 k d Φ).2.2.2.2.2.2.2.2.2.2.2.2.2.2.2.2.2.2.2.2.2.2.2.2.2.2.2.2.2.2.2.2.2.2.2.2.2.2.2.2.2.2.2.2.2.2.2.2.2.2.2.2.2.1 (hkc107 k d Φ).2.2.2.2.2.2.2.2.2.2.2.2.2.2.2.2.2.2.2.2.2.2.2.2.2.2.2.2.2.2.2.2.2.2.2.2.2.2.2.2.2.2.2.2.2.2.2.2.2.2.2.2.2.2.1 (hkc107 k d Φ).2.2.2.2.2.2.2.2.2.2.2.2.2.2.2.2.2.2.2.2.2.2.2.2.2.2.2.2.2.2.2.2.2.2.2.2.2.2.2.2.2.2.2.2.2.2.2.2.2.2.2.2.2.2.2.1 (hkc107 k d Φ).2.2.2.2.2.2.2.2.2.2.2.2.2.2.2.2.2.2.2.2.2.2.2.2.2.2.2.2.2.2.2.2.2.2.2.2.2.2.2.2.2.2.2.2.2.2.2.2.2.2.2.2.2.2.2.2.1 (hkc107 k d Φ).2.2.2.2.2.2.2.2.2.2.2.2.2.2.2.2.2.2.2.2.2.2.2.2.2.2.2.2.2.2.2.2.2.2.2.2.2.2.2.2.2.2.2.2.2.2.2.2.2.2.2.2.2.2.2.2.2.1 (hkc107 k d Φ).2.2.2.2.2.2.2.2.2.2.2.2.2.2.2.2.2.2.2.2.2.2.2.2.2.2.2.2.2.2.2.2.2.2.2.2.2.2.2.2.2.2.2.2.2.2.2.2.2.2.2.2.2.2.2.2.2.2.1 (hkc107 k d Φ).2.2.2.2.2.2.2.2.2.2.2.2.2.2.2.2.2.2.2.2.2.2.2.2.2.2.2.2.2.2.2.2.2.2.2.2.2.2.2.2.2.2.2.2.2.2.2.2.2.2.2.2.2.2.2.2.2.2.2.1 (hkc107 k d Φ).2.2.2.2.2.2.2.2.2.2.2.2.2.2.2.2.2.2.2.2.2.2.2.2.2.2.2.2.2.2.2.2.2.2.2.2.2.2.2.2.2.2.2.2.2.2.2.2.2.2.2.2.2.2.2.2.2.2.2.2.1 (hkc107 k d Φ).2.2.2.2.2.2.2.2.2.2.2.2.2.2.2.2.2.2.2.2.2.2.2.2.2.2.2.2.2.2.2.2.2.2.2.2.2.2.2.2.2.2.2.2.2.2.2.2.2.2.2.2.2.2.2.2.2.2.2.2.2.1 (hkc107 k d Φ).2.2.2.2.2.2.2.2.2.2.2.2.2.2.2.2.2.2.2.2.2.2.2.2.2.2.2.2.2.2.2.2.2.2.2.2.2.2.2.2.2.2.2.2.2.2.2.2.2.2.2.2.2.2.2.2.2.2.2.2.2.2.1 (hkc107 k d Φ).2.2.2.2.2.2.2.2.2.2.2.2.2.2.2.2.2.2.2.2.2.2.2.2.2.2.2.2.2.2.2.2.2.2.2.2.2.2.2.2.2.2.2.2.2.2.2.2.2.2.2.2.2.2.2.2.2.2.2.2.2.2.2.1 (hkc107 k d Φ).2.2.2.2.2.2.2.2.2.2.2.2.2.2.2.2.2.2.2.2.2.2.2.2.2.2.2.2.2.2.2.2.2.2.2.2.2.2.2.2.2.2.2.2.2.2.2.2.2.2.2.2.2.2.2.2.2.2.2.2.2.2.2.2.1 (hkc107 k d Φ).2.2.2.2.2.2.2.2.2.2.2.2.2.2.2.2.2.2.2.2.2.2.2.2.2.2.2.2.2.2.2.2.2.2.2.2.2.2.2.2.2.2.2.2.2.2.2.2.2.2.2.2.2.2.2.2.2.2.2.2.2.2.2.2.2.1 (hkc107 k d Φ).2.2.2.2.2.2.2.2.2.2.2.2.2.2.2.2.2.2.2.2.2.2.2.2.2.2.2.2.2.2.2.2.2.2.2.2.2.2.2.2.2.2.2.2.2.2.2.2.2.2.2.2.2.2.2.2.2.2.2.2.2.2.2.2.2.2.1 (hkc107 k d Φ).2.2.2.2.2.2.2.2.2.2.2.2.2.2.2.2.2.2.2.2.2.2.2.2.2.2.2.2.2.2.2.2.2.2.2.2.2.2.2.2.2.2.2.2.2.2.2.2.2.2.2.2.2.2.2.2.2.2.2.2.2.2.2.2.2.2.2.1 (hkc107 k d Φ).2.2.2.2.2.2.2.2.2.2.2.2.2.2.2.2.2.2.2.2.2.2.2.2.2.2.2.2.2.2.2.2.2.2.2.2.2.2.2.2.2.2.2.2.2.2.2.2.2.2.2.2.2.2.2.2.2.2.2.2.2.2.2.2.2.2.2.2.1 (hkc107 k d Φ).2.2.2.2.2.2.2.2.2.2.2.2.2.2.2.2.2.2.2.2.2.2.2.2.2.2.2.2.2.2.2.2.2.2.2.2.2.2.2.2.2.2.2.2.2.2.2.2.2.2.2.2.2.2.2.2.2.2.2.2.2.2.2.2.2.2.2.2.2.1 (hkc107 k d Φ).2.2.2.2.2.2.2.2.2.2.2.2.2.2.2.2.2.2.2.2.2.2.2.2.2.2.2.2.2.2.2.2.2.2.2.2.2.2.2.2.2.2.2.2.2.2.2.2.2.2.2.2.2.2.2.2.2.2.2.2.2.2.2.2.2.2.2.2.2.2.1 (hkc107 k d Φ).2.2.2.2.2.2.2.2.2.2.2.2.2.2.2.2.2.2.2.2.2.2.2.2.2.2.2.2.2.2.2.2.2.2.2.2.2.2.2.2.2.2.2.2.2.2.2.2.2.2.2.2.2.2.2.2.2.2.2.2.2.2.2.2.2.2.2.2.2.2.2.1 (hkc107 k d Φ).2.2.2.2.2.2.2.2.2.2.2.2.2.2.2.2.2.2.2.2.2.2.2.2.2.2.2.2.2.2.2.2.2.2.2.2.2.2.2.2.2.2.2.2.2.2.2.2.2.2.2.2.2.2.2.2.2.2.2.2.2.2.2.2.2.2.2.2.2.2.2.2.1 (hkc107 k d Φ).2.2.2.2.2.2.2.2.2.2.2.2.2.2.2.2.2.2.2.2.2.2.2.2.2.2.2.2.2.2.2.2.2.2.2.2.2.2.2.2.2.2.2.2.2.2.2.2.2.2.2.2.2.2.2.2.2.2.2.2.2.2.2.2.2.2.2.2.2.2.2.2.2.1 (hkc107 k d Φ).2.2.2.2.2.2.2.2.2.2.2.2.2.2.2.2.2.2.2.2.2.2.2.2.2.2.2.2.2.2.2.2.2.2.2.2.2.2.2.2.2.2.2.2.2.2.2.2.2.2.2.2.2.2.2.2.2.2.2.2.2.2.2.2.2.2.2.2.2.2.2.2.2.2.1 (hkc107 k d Φ).2.2.2.2.2.2.2.2.2.2.2.2.2.2.2.2.2.2.2.2.2.2.2.2.2.2.2.2.2.2.2.2.2.2.2.2.2.2.2.2.2.2.2.2.2.2.2.2.2.2.2.2.2.2.2.2.2.2.2.2.2.2.2.2.2.2.2.2.2.2.2.2.2.2.2.1 (hkc107 k d Φ).2.2.2.2.2.2.2.2.2.2.2.2.2.2.2.2.2.2.2.2.2.2.2.2.2.2.2.2.2.2.2.2.2.2.2.2.2.2.2.2.2.2.2.2.2.2.2.2.2.2.2.2.2.2.2.2.2.2.2.2.2.2.2.2.2.2.2.2.2.2.2.2.2.2.2.2.1 (hkc107 k d Φ).2.2.2.2.2.2.2.2.2.2.2.2.2.2.2.2.2.2.2.2.2.2.2.2.2.2.2.2.2.2.2.2.2.2.2.2.2.2.2.2.2.2.2.2.2.2.2.2.2.2.2.2.2.2.2.2.2.2.2.2.2.2.2.2.2.2.2.2.2.2.2.2.2.2.2.2.2.1 (hkc107 k d Φ).2.2.2.2.2.2.2.2.2.2.2.2.2.2.2.2.2.2.2.2.2.2.2.2.2.2.2.2.2.2.2.2.2.2.2.2.2.2.2.2.2.2.2.2.2.2.2.2.2.2.2.2.2.2.2.2.2.2.2.2.2.2.2.2.2.2.2.2.2.2.2.2.2.2.2.2.2.2.1 (hkc107 k d Φ).2.2.2.2.2.2.2.2.2.2.2.2.2.2.2.2.2.2.2.2.2.2.2.2.2.2.2.2.2.2.2.2.2.2.2.2.2.2.2.2.2.2.2.2.2.2.2.2.2.2.2.2.2.2.2.2.2.2.2.2.2.2.2.2.2.2.2.2.2.2.2.2.2.2.2.2.2.2.2.1 (hkc107 k d Φ).2.2.2.2.2.2.2.2.2.2.2.2.2.2.2.2.2.2.2.2.2.2.2.2.2.2.2.2.2.2.2.2.2.2.2.2.2.2.2.2.2.2.2.2.2.2.2.2.2.2.2.2.2.2.2.2.2.2.2.2.2.2.2.2.2.2.2.2.2.2.2.2.2.2.2.2.2.2.2.2.1 (hkc107 k d Φ).2.2.2.2.2.2.2.2.2.2.2.2.2.2.2.2.2.2.2.2.2.2.2.2.2.2.2.2.2.2.2.2.2.2.2.2.2.2.2.2.2.2.2.2.2.2.2.2.2.2.2.2.2.2.2.2.2.2.2.2.2.2.2.2.2.2.2.2.2.2.2.2.2.2.2.2.2.2.2.2.2.1 (hkc107 k d Φ).2.2.2.2.2.2.2.2.2.2.2.2.2.2.2.2.2.2.2.2.2.2.2.2.2.2.2.2.2.2.2.2.2.2.2.2.2.2.2.2.2.2.2.2.2.2.2.2.2.2.2.2.2.2.2.2.2.2.2.2.2.2.2.2.2.2.2.2.2.2.2.2.2.2.2.2.2.2.2.2.2.2.1 (hkc107 k d Φ).2.2.2.2.2.2.2.2.2.2.2.2.2.2.2.2.2.2.2.2.2.2.2.2.2.2.2.2.2.2.2.2.2.2.2.2.2.2.2.2.2.2.2.2.2.2.2.2.2.2.2.2.2.2.2.2.2.2.2.2.2.2.2.2.2.2.2.2.2.2.2.2.2.2.2.2.2.2.2.2.2.2.2.1 (hkc107 k d Φ).2.2.2.2.2.2.2.2.2.2.2.2.2.2.2.2.2.2.2.2.2.2.2.2.2.2.2.2.2.2.2.2.2.2.2.2.2.2.2.2.2.2.2.2.2.2.2.2.2.2.2.2.2.2.2.2.2.2.2.2.2.2.2.2.2.2.2.2.2.2.2.2.2.2.2.2.2.2.2.2.2.2.2.2.1 (hkc107 k d Φ).2.2.2.2.2.2.2.2.2.2.2.2.2.2.2.2.2.2.2.2.2.2.2.2.2.2.2.2.2.2.2.2.2.2.2.2.2.2.2.2.2.2.2.2.2.2.2.2.2.2.2.2.2.2.2.2.2.2.2.2.2.2.2.2.2.2.2.2.2.2.2.2.2.2.2.2.2.2.2.2.2.2.2.2.2.1 (hkc107 k d Φ).2.2.2.2.2.2.2.2.2.2.2.2.2.2.2.2.2.2.2.2.2.2.2.2.2.2.2.2.2.2.2.2.2.2.2.2.2.2.2.2.2.2.2.2.2.2.2.2.2.2.2.2.2.2.2.2.2.2.2.2.2.2.2.2.2.2.2.2.2.2.2.2.2.2.2.2.2.2.2.2.2.2.2.2.2.2.1 (hkc107 k d Φ).2.2.2.2.2.2.2.2.2.2.2.2.2.2.2.2.2.2.2.2.2.2.2.2.2.2.2.2.2.2.2.2.2.2.2.2.2.2.2.2.2.2.2.2.2.2.2.2.2.2.2.2.2.2.2.2.2.2.2.2.2.2.2.2.2.2.2.2.2.2.2.2.2.2.2.2.2.2.2.2.2.2.2.2.2.2.2.1 (hkc107 k d Φ).2.2.2.2.2.2.2.2.2.2.2.2.2.2.2.2.2.2.2.2.2.2.2.2.2.2.2.2.2.2.2.2.2.2.2.2.2.2.2.2.2.2.2.2.2.2.2.2.2.2.2.2.2.2.2.2.2.2.2.2.2.2.2.2.2.2.2.2.2.2.2.2.2.2.2.2.2.2.2.2.2.2.2.2.2.2.2.2.1 (hkc107 k d Φ).2.2.2.2.2.2.2.2.2.2.2.2.2.2.2.2.2.2.2.2.2.2.2.2.2.2.2.2.2.2.2.2.2.2.2.2.2.2.2.2.2.2.2.2.2.2.2.2.2.2.2.2.2.2.2.2.2.2.2.2.2.2.2.2.2.2.2.2.2.2.2.2.2.2.2.2.2.2.2.2.2.2.2.2.2.2.2.2.2.1 (hkc107 k d Φ).2.2.2.2.2.2.2.2.2.2.2.2.2.2.2.2.2.2.2.2.2.2.2.2.2.2.2.2.2.2.2.2.2.2.2.2.2.2.2.2.2.2.2.2.2.2.2.2.2.2.2.2.2.2.2.2.2.2.2.2.2.2.2.2.2.2.2.2.2.2.2.2.2.2.2.2.2.2.2.2.2.2.2.2.2.2.2.2.2.2.1 (hkc107 k d Φ).2.2.2.2.2.2.2.2.2.2.2.2.2.2.2.2.2.2.2.2.2.2.2.2.2.2.2.2.2.2.2.2.2.2.2.2.2.2.2.2.2.2.2.2.2.2.2.2.2.2.2.2.2.2.2.2.2.2.2.2.2.2.2.2.2.2.2.2.2.2.2.2.2.2.2.2.2.2.2.2.2.2.2.2.2.2.2.2.2.2.2.1 (hkc107 k d Φ).2.2.2.2.2.2.2.2.2.2.2.2.2.2.2.2.2.2.2.2.2.2.2.2.2.2.2.2.2.2.2.2.2.2.2.2.2.2.2.2.2.2.2.2.2.2.2.2.2.2.2.2.2.2.2.2.2.2.2.2.2.2.2.2.2.2.2.2.2.2.2.2.2.2.2.2.2.2.2.2.2.2.2.2.2.2.2.2.2.2.2.2.1 (hkc107 k d Φ).2.2.2.2.2.2.2.2.2.2.2.2.2.2.2.2.2.2.2.2.2.2.2.2.2.2.2.2.2.2.2.2.2.2.2.2.2.2.2.2.2.2.2.2.2.2.2.2.2.2.2.2.2.2.2.2.2.2.2.2.2.2.2.2.2.2.2.2.2.2.2.2.2.2.2.2.2.2.2.2.2.2.2.2.2.2.2.2.2.2.2.2.2.1 (hkc107 k d Φ).2.2.2.2.2.2.2.2.2.2.2.2.2.2.2.2.2.2.2.2.2.2.2.2.2.2.2.2.2.2.2.2.2.2.2.2.2.2.2.2.2.2.2.2.2.2.2.2.2.2.2.2.2.2.2.2.2.2.2.2.2.2.2.2.2.2.2.2.2.2.2.2.2.2.2.2.2.2.2.2.2.2.2.2.2.2.2.2.2.2.2.2.2.2.1 (hkc107 k d Φ).2.2.2.2.2.2.2.2.2.2.2.2.2.2.2.2.2.2.2.2.2.2.2.2.2.2.2.2.2.2.2.2.2.2.2.2.2.2.2.2.2.2.2.2.2.2.2.2.2.2.2.2.2.2.2.2.2.2.2.2.2.2.2.2.2.2.2.2.2.2.2.2.2.2.2.2.2.2.2.2.2.2.2.2.2.2.2.2.2.2.2.2.2.2.2.1 (hkc107 k d Φ).2.2.2.2.2.2.2.2.2.2.2.2.2.2.2.2.2.2.2.2.2.2.2.2.2.2.2.2.2.2.2.2.2.2.2.2.2.2.2.2.2.2.2.2.2.2.2.2.2.2.2.2.2.2.2.2.2.2.2.2.2.2.2.2.2.2.2.2.2.2.2.2.2.2.2.2.2.2.2.2.2.2.2.2.2.2.2.2.2.2.2.2.2.2.2.2.1 (hkc107 k d Φ).2.2.2.2.2.2.2.2.2.2.2.2.2.2.2.2.2.2.2.2.2.2.2.2.2.2.2.2.2.2.2.2.2.2.2.2.2.2.2.2.2.2.2.2.2.2.2.2.2.2.2.2.2.2.2.2.2.2.2.2.2.2.2.2.2.2.2.2.2.2.2.2.2.2.2.2.2.2.2.2.2.2.2.2.2.2.2.2.2.2.2.2.2.2.2.2.2.1 (hkc107 k d Φ).2.2.2.2.2.2.2.2.2.2.2.2.2.2.2.2.2.2.2.2.2.2.2.2.2.2.2.2.2.2.2.2.2.2.2.2.2.2.2.2.2.2.2.2.2.2.2.2.2.2.2.2.2.2.2.2.2.2.2.2.2.2.2.2.2.2.2.2.2.2.2.2.2.2.2.2.2.2.2.2.2.2.2.2.2.2.2.2.2.2.2.2.2.2.2.2.2.2.1 (hkc107 k d Φ).2.2.2.2.2.2.2.2.2.2.2.2.2.2.2.2.2.2.2.2.2.2.2.2.2.2.2.2.2.2.2.2.2.2.2.2.2.2.2.2.2.2.2.2.2.2.2.2.2.2.2.2.2.2.2.2.2.2.2.2.2.2.2.2.2.2.2.2.2.2.2.2.2.2.2.2.2.2.2.2.2.2.2.2.2.2.2.2.2.2.2.2.2.2.2.2.2.2.2.1 (hkc107 k d Φ).2.2.2.2.2.2.2.2.2.2.2.2.2.2.2.2.2.2.2.2.2.2.2.2.2.2.2.2.2.2.2.2.2.2.2.2.2.2.2.2.2.2.2.2.2.2.2.2.2.2.2.2.2.2.2.2.2.2.2.2.2.2.2.2.2.2.2.2.2.2.2.2.2.2.2.2.2.2.2.2.2.2.2.2.2.2.2.2.2.2.2.2.2.2.2.2.2.2.2.2.1 (hkc107 k d Φ).2.2.2.2.2.2.2.2.2.2.2.2.2.2.2.2.2.2.2.2.2.2.2.2.2.2.2.2.2.2.2.2.2.2.2.2.2.2.2.2.2.2.2.2.2.2.2.2.2.2.2.2.2.2.2.2.2.2.2.2.2.2.2.2.2.2.2.2.2.2.2.2.2.2.2.2.2.2.2.2.2.2.2.2.2.2.2.2.2.2.2.2.2.2.2.2.2.2.2.2.2.1 (hkc107 k d Φ).2.2.2.2.2.2.2.2.2.2.2.2.2.2.2.2.2.2.2.2.2.2.2.2.2.2.2.2.2.2.2.2.2.2.2.2.2.2.2.2.2.2.2.2.2.2.2.2.2.2.2.2.2.2.2.2.2.2.2.2.2.2.2.2.2.2.2.2.2.2.2.2.2.2.2.2.2.2.2.2.2.2.2.2.2.2.2.2.2.2.2.2.2.2.2.2.2.2.2.2.2.2.1 (hkc107 k d Φ).2.2.2.2.2.2.2.2.2.2.2.2.2.2.2.2.2.2.2.2.2.2.2.2.2.2.2.2.2.2.2.2.2.2.2.2.2.2.2.2.2.2.2.2.2.2.2.2.2.2.2.2.2.2.2.2.2.2.2.2.2.2.2.2.2.2.2.2.2.2.2.2.2.2.2.2.2.2.2.2.2.2.2.2.2.2.2.2.2.2.2.2.2.2.2.2.2.2.2.2.2.2.2.1 (hkc107 k d Φ).2.2.2.2.2.2.2.2.2.2.2.2.2.2.2.2.2.2.2.2.2.2.2.2.2.2.2.2.2.2.2.2.2.2.2.2.2.2.2.2.2.2.2.2.2.2.2.2.2.2.2.2.2.2.2.2.2.2.2.2.2.2.2.2.2.2.2.2.2.2.2.2.2.2.2.2.2.2.2.2.2.2.2.2.2.2.2.2.2.2.2.2.2.2.2.2.2.2.2.2.2.2.2.2.1 (hkc107 k d Φ).2.2.2.2.2.2.2.2.2.2.2.2.2.2.2.2.2.2.2.2.2.2.2.2.2.2.2.2.2.2.2.2.2.2.2.2.2.2.2.2.2.2.2.2.2.2.2.2.2.2.2.2.2.2.2.2.2.2.2.2.2.2.2.2.2.2.2.2.2.2.2.2.2.2.2.2.2.2.2.2.2.2.2.2.2.2.2.2.2.2.2.2.2.2.2.2.2.2.2.2.2.2.2.2.2.1 (hkc107 k d Φ).2.2.2.2.2.2.2.2.2.2.2.2.2.2.2.2.2.2.2.2.2.2.2.2.2.2.2.2.2.2.2.2.2.2.2.2.2.2.2.2.2.2.2.2.2.2.2.2.2.2.2.2.2.2.2.2.2.2.2.2.2.2.2.2.2.2.2.2.2.2.2.2.2.2.2.2.2.2.2.2.2.2.2.2.2.2.2.2.2.2.2.2.2.2.2.2.2.2.2.2.2.2.2.2.2.2) : ∀ x0 x1 x2 x3 x4 x5 x6 x7 x8 x9 x10 x11 x12 x13 x14 x15 x16 x17 x18 x19 x20 x21 x22 x23 x24 x25 x26 x27 x28 x29 x30 x31 x32 x33 x34 x35 x36 x37 x38 x39 x40 x41 x42 x43 x44 x45 x46 x47 x48 x49 x50 x51 x52 x53 x54 x55 x56 x57 x58 x59 x60 x61 x62 x63 x64 x65 x66 x67 x68 x69 x70 x71 x72 x73 x74 x75 x76 x77 x78 x79 x80 x81 x82 x83 x84 x85 x86 x87 x88 x89 x90 x91 x92 x93 x94 x95 x96 x97 x98 x99 x100 x101 x102 x103 x104 x105 x106, Φ x0 x1 x2 x3 x4 x5 x6 x7 x8 x9 x10 x11 x12 x13 x14 x15 x16 x17 x18 x19 x20 x21 x22 x23 x24 x25 x26 x27 x28 x29 x30 x31 x32 x33 x34 x35 x36 x37 x38 x39 x40 x41 x42 x43 x44 x45 x46 x47 x48 x49 x50 x51 x52 x53 x54 x55 x56 x57 x58 x59 x60 x61 x62 x63 x64 x65 x66 x67 x68 x69 x70 x71 x72 x73 x74 x75 x76 x77 x78 x79 x80 x81 x82 x83 x84 x85 x86 x87 x88 x89 x90 x91 x92 x93 x94 x95 x96 x97 x98 x99 x100 x101 x102 x103 x104 x105 x106 := fun x0 x1 x2 x3 x4 x5 x6 x7 x8 x9 x10 x11 x12 x13 x14 x15 x16 x17 x18 x19 x20 x21 x22 x23 x24 x25 x26 x27 x28 x29 x30 x31 x32 x33 x34 x35 x36 x37 x38 x39 x40 x41 x42 x43 x44 x45 x46 x47 x48 x49 x50 x51 x52 x53 x54 x55 x56 x57 x58 x59 x60 x61 x62 x63 x64 x65 x66 x67 x68 x69 x70 x71 x72 x73 x74 x75 x76 x77 x78 x79 x80 x81 x82 x83 x84 x85 x86 x87 x88 x89 x90 x91 x92 x93 x94 x95 x96 x97 x98 x99 x100 x101 x102 x103 x104 x105 x106 => hkc_spec k d (fun c => Φ c.1 c.2.1 c.2.2.1 c.2.2.2.1 c.2.2.2.2.1 c.2.2.2.2.2.1 c.2.2.2.2.2.2.1 c.2.2.2.2.2.2.2.1 c.2.2.2.2.2.2.2.2.1 c.2.2.2.2.2.2.2.2.2.1 c.2.2.2.2.2.2.2.2.2.2.1 c.2.2.2.2.2.2.2.2.2.2.2.1 c.2.2.2.2.2.2.2.2.2.2.2.2.1 c.2.2.2.2.2.2.2.2.2.2.2.2.2.1 c.2.2.2.2.2.2.2.2.2.2.2.2.2.2.1 c.2.2.2.2.2.2.2.2.2.2.2.2.2.2.2.1 c.2.2.2.2.2.2.2.2.2.2.2.2.2.2.2.2.1 c.2.2.2.2.2.2.2.2.2.2.2.2.2.2.2.2.2.1 c.2.2.2.2.2.2.2.2.2.2.2.2.2.2.2.2.2.2.1 c.2.2.2.2.2.2.2.2.2.2.2.2.2.2.2.2.2.2.2.1 c.2.2.2.2.2.2.2.2.2.2.2.2.2.2.2.2.2.2.2.2.1 c.2.2.2.2.2.2.2.2.2.2.2.2.2.2.2.2.2.2.2.2.2.1 c.2.2.2.2.2.2.2.2.2.2.2.2.2.2.2.2.2.2.2.2.2.2.1 c.2.2.2.2.2.2.2.2.2.2.2.2.2.2.2.2.2.2.2.2.2.2.2.1 c.2.2.2.2.2.2.2.2.2.2.2.2.2.2.2.2.2.2.2.2.2.2.2.2.1 c.2.2.2.2.2.2.2.2.2.2.2.2.2.2.2.2.2.2.2.2.2.2.2.2.2.1 c.2.2.2.2.2.2.2.2.2.2.2.2.2.2.2.2.2.2.2.2.2.2.2.2.2.2.1 c.2.2.2.2.2.2.2.2.2.2.2.2.2.2.2.2.2.2.2.2.2.2.2.2.2.2.2.1 c.2.2.2.2.2.2.2.2.2.2.2.2.2.2.2.2.2.2.2.2.2.2.2.2.2.2.2.2.1 c.2.2.2.2.2.2.2.2.2.2.2.2.2.2.2.2.2.2.2.2.2.2.2.2.2.2.2.2.2.1 c.2.2.2.2.2.2.2.2.2.2.2.2.2.2.2.2.2.2.2.2.2.2.2.2.2.2.2.2.2.2.1 c.2.2.2.2.2.2.2.2.2.2.2.2.2.2.2.2.2.2.2.2.2.2.2.2.2.2.2.2.2.2.2.1 c.2.2.2.2.2.2.2.2.2.2.2.2.2.2.2.2.2.2.2.2.2.2.2.2.2.2.2.2.2.2.2.2.1 c.2.2.2.2.2.2.2.2.2.2.2.2.2.2.2.2.2.2.2.2.2.2.2.2.2.2.2.2.2.2.2.2.2.1 c.2.2.2.2.2.2.2.2.2.2.2.2.2.2.2.2.2.2.2.2.2.2.2.2.2.2.2.2.2.2.2.2.2.2.1 c.2.2.2.2.2.2.2.2.2.2.2.2.2.2.2.2.2.2.2.2.2.2.2.2.2.2.2.2.2.2.2.2.2.2.2.1 c.2.2.2.2.2.2.2.2.2.2.2.2.2.2.2.2.2.2.2.2.2.2.2.2.2.2.2.2.2.2.2.2.2.2.2.2.1 c.2.2.2.2.2.2.2.2.2.2.2.2.2.2.2.2.2.2.2.2.2.2.2.2.2.2.2.2.2.2.2.2.2.2.2.2.2.1 c.2.2.2.2.2.2.2.2.2.2.2.2.2.2.2.2.2.2.2.2.2.2.2.2.2.2.2.2.2.2.2.2.2.2.2.2.2.2.1 c.2.2.2.2.2.2.2.2.2.2.2.2.2.2.2.2.2.2.2.2.2.2.2.2.2.2.2.2.2.2.2.2.2.2.2.2.2.2.2.1 c.2.2.2.2.2.2.2.2.2.2.2.2.2.2.2.2.2.2.2.2.2.2.2.2.2.2.2.2.2.2.2.2.2.2.2.2.2.2.2.2.1 c.2.2.2.2.2.2.2.2.2.2.2.2.2.2.2.2.2.2.2.2.2.2.2.2.2.2.2.2.2.2.2.2.2.2.2.2.2.2.2.2.2.1 c.2.2.2.2.2.2.2.2.2.2.2.2.2.2.2.2.2.2.2.2.2.2.2.2.2.2.2.2.2.2.2.2.2.2.2.2.2.2.2.2.2.2.1 c.2.2.2.2.2.2.2.2.2.2.2.2.2.2.2.2.2.2.2.2.2.2.2.2.2.2.2.2.2.2.2.2.2.2.2.2.2.2.2.2.2.2.2.1 c.2.2.2.2.2.2.2.2.2.2.2.2.2.2.2.2.2.2.2.2.2.2.2.2.2.2.2.2.2.2.2.2.2.2.2.2.2.2.2.2.2.2.2.2.1 c.2.2.2.2.2.2.2.2.2.2.2.2.2.2.2.2.2.2.2.2.2.2.2.2.2.2.2.2.2.2.2.2.2.2.2.2.2.2.2.2.2.2.2.2.2.1 c.2.2.2.2.2.2.2.2.2.2.2.2.2.2.2.2.2.2.2.2.2.2.2.2.2.2.2.2.2.2.2.2.2.2.2.2.2.2.2.2.2.2.2.2.2.2.1 c.2.2.2.2.2.2.2.2.2.2.2.2.2.2.2.2.2.2.2.2.2.2.2.2.2.2.2.2.2.2.2.2.2.2.2.2.2.2.2.2.2.2.2.2.2.2.2.1 c.2.2.2.2.2.2.2.2.2.2.2.2.2.2.2.2.2.2.2.2.2.2.2.2.2.2.2.2.2.2.2.2.2.2.2.2.2.2.2.2.2.2.2.2.2.2.2.2.1 c.2.2.2.2.2.2.2.2.2.2.2.2.2.2.2.2.2.2.2.2.2.2.2.2.2.2.2.2.2.2.2.2.2.2.2.2.2.2.2.2.2.2.2.2.2.2.2.2.2.1 c.2.2.2.2.2.2.2.2.2.2.2.2.2.2.2.2.2.2.2.2.2.2.2.2.2.2.2.2.2.2.2.2.2.2.2.2.2.2.2.2.2.2.2.2.2.2.2.2.2.2.1 c.2.2.2.2.2.2.2.2.2.2.2.2.2.2.2.2.2.2.2.2.2.2.2.2.2.2.2.2.2.2.2.2.2.2.2.2.2.2.2.2.2.2.2.2.2.2.2.2.2.2.2.1 c.2.2.2.2.2.2.2.2.2.2.2.2.2.2.2.2.2.2.2.2.2.2.2.2.2.2.2.2.2.2.2.2.2.2.2.2.2.2.2.2.2.2.2.2.2.2.2.2.2.2.2.2.1 c.2.2.2.2.2.2.2.2.2.2.2.2.2.2.2.2.2.2.2.2.2.2.2.2.2.2.2.2.2.2.2.2.2.2.2.2.2.2.2.2.2.2.2.2.2.2.2.2.2.2.2.2.2.1 c.2.2.2.2.2.2.2.2.2.2.2.2.2.2.2.2.2.2.2.2.2.2.2.2.2.2.2.2.2.2.2.2.2.2.2.2.2.2.2.2.2.2.2.2.2.2.2.2.2.2.2.2.2.2.1 c.2.2.2.2.2.2.2.2.2.2.2.2.2.2.2.2.2.2.2.2.2.2.2.2.2.2.2.2.2.2.2.2.2.2.2.2.2.2.2.2.2.2.2.2.2.2.2.2.2.2.2.2.2.2.2.1 c.2.2.2.2.2.2.2.2.2.2.2.2.2.2.2.2.2.2.2.2.2.2.2.2.2.2.2.2.2.2.2.2.2.2.2.2.2.2.2.2.2.2.2.2.2.2.2.2.2.2.2.2.2.2.2.2.1 c.2.2.2.2.2.2.2.2.2.2.2.2.2.2.2.2.2.2.2.2.2.2.2.2.2.2.2.2.2.2.2.2.2.2.2.2.2.2.2.2.2.2.2.2.2.2.2.2.2.2.2.2.2.2.2.2.2.1 c.2.2.2.2.2.2.2.2.2.2.2.2.2.2.2.2.2.2.2.2.2.2.2.2.2.2.2.2.2.2.2.2.2.2.2.2.2.2.2.2.2.2.2.2.2.2.2.2.2.2.2.2.2.2.2.2.2.2.1 c.2.2.2.2.2.2.2.2.2.2.2.2.2.2.2.2.2.2.2.2.2.2.2.2.2.2.2.2.2.2.2.2.2.2.2.2.2.2.2.2.2.2.2.2.2.2.2.2.2.2.2.2.2.2.2.2.2.2.2.1 c.2.2.2.2.2.2.2.2.2.2.2.2.2.2.2.2.2.2.2.2.2.2.2.2.2.2.2.2.2.2.2.2.2.2.2.2.2.2.2.2.2.2.2.2.2.2.2.2.2.2.2.2.2.2.2.2.2.2.2.2.1 c.2.2.2.2.2.2.2.2.2.2.2.2.2.2.2.2.2.2.2.2.2.2.2.2.2.2.2.2.2.2.2.2.2.2.2.2.2.2.2.2.2.2.2.2.2.2.2.2.2.2.2.2.2.2.2.2.2.2.2.2.2.1 c.2.2.2.2.2.2.2.2.2.2.2.2.2.2.2.2.2.2.2.2.2.2.2.2.2.2.2.2.2.2.2.2.2.2.2.2.2.2.2.2.2.2.2.2.2.2.2.2.2.2.2.2.2.2.2.2.2.2.2.2.2.2.1 c.2.2.2.2.2.2.2.2.2.2.2.2.2.2.2.2.2.2.2.2.2.2.2.2.2.2.2.2.2.2.2.2.2.2.2.2.2.2.2.2.2.2.2.2.2.2.2.2.2.2.2.2.2.2.2.2.2.2.2.2.2.2.2.1 c.2.2.2.2.2.2.2.2.2.2.2.2.2.2.2.2.2.2.2.2.2.2.2.2.2.2.2.2.2.2.2.2.2.2.2.2.2.2.2.2.2.2.2.2.2.2.2.2.2.2.2.2.2.2.2.2.2.2.2.2.2.2.2.2.1 c.2.2.2.2.2.2.2.2.2.2.2.2.2.2.2.2.2.2.2.2.2.2.2.2.2.2.2.2.2.2.2.2.2.2.2.2.2.2.2.2.2.2.2.2.2.2.2.2.2.2.2.2.2.2.2.2.2.2.2.2.2.2.2.2.2.1 c.2.2.2.2.2.2.2.2.2.2.2.2.2.2.2.2.2.2.2.2.2.2.2.2.2.2.2.2.2.2.2.2.2.2.2.2.2.2.2.2.2.2.2.2.2.2.2.2.2.2.2.2.2.2.2.2.2.2.2.2.2.2.2.2.2.2.1 c.2.2.2.2.2.2.2.2.2.2.2.2.2.2.2.2.2.2.2.2.2.2.2.2.2.2.2.2.2.2.2.2.2.2.2.2.2.2.2.2.2.2.2.2.2.2.2.2.2.2.2.2.2.2.2.2.2.2.2.2.2.2.2.2.2.2.2.1 c.2.2.2.2.2.2.2.2.2.2.2.2.2.2.2.2.2.2.2.2.2.2.2.2.2.2.2.2.2.2.2.2.2.2.2.2.2.2.2.2.2.2.2.2.2.2.2.2.2.2.2.2.2.2.2.2.2.2.2.2.2.2.2.2.2.2.2.2.1 c.2.2.2.2.2.2.2.2.2.2.2.2.2.2.2.2.2.2.2.2.2.2.2.2.2.2.2.2.2.2.2.2.2.2.2.2.2.2.2.2.2.2.2.2.2.2.2.2.2.2.2.2.2.2.2.2.2.2.2.2.2.2.2.2.2.2.2.2.2.1 c.2.2.2.2.2.2.2.2.2.2.2.2.2.2.2.2.2.2.2.2.2.2.2.2.2.2.2.2.2.2.2.2.2.2.2.2.2.2.2.2.2.2.2.2.2.2.2.2.2.2.2.2.2.2.2.2.2.2.2.2.2.2.2.2.2.2.2.2.2.2.1 c.2.2.2.2.2.2.2.2.2.2.2.2.2.2.2.2.2.2.2.2.2.2.2.2.2.2.2.2.2.2.2.2.2.2.2.2.2.2.2.2.2.2.2.2.2.2.2.2.2.2.2.2.2.2.2.2.2.2.2.2.2.2.2.2.2.2.2.2.2.2.2.1 c.2.2.2.2.2.2.2.2.2.2.2.2.2.2.2.2.2.2.2.2.2.2.2.2.2.2.2.2.2.2.2.2.2.2.2.2.2.2.2.2.2.2.2.2.2.2.2.2.2.2.2.2.2.2.2.2.2.2.2.2.2.2.2.2.2.2.2.2.2.2.2.2.1 c.2.2.2.2.2.2.2.2.2.2.2.2.2.2.2.2.2.2.2.2.2.2.2.2.2.2.2.2.2.2.2.2.2.2.2.2.2.2.2.2.2.2.2.2.2.2.2.2.2.2.2.2.2.2.2.2.2.2.2.2.2.2.2.2.2.2.2.2.2.2.2.2.2.1 c.2.2.2.2.2.2.2.2.2.2.2.2.2.2.2.2.2.2.2.2.2.2.2.2.2.2.2.2.2.2.2.2.2.2.2.2.2.2.2.2.2.2.2.2.2.2.2.2.2.2.2.2.2.2.2.2.2.2.2.2.2.2.2.2.2.2.2.2.2.2.2.2.2.2.1 c.2.2.2.2.2.2.2.2.2.2.2.2.2.2.2.2.2.2.2.2.2.2.2.2.2.2.2.2.2.2.2.2.2.2.2.2.2.2.2.2.2.2.2.2.2.2.2.2.2.2.2.2.2.2.2.2.2.2.2.2.2.2.2.2.2.2.2.2.2.2.2.2.2.2.2.1 c.2.2.2.2.2.2.2.2.2.2.2.2.2.2.2.2.2.2.2.2.2.2.2.2.2.2.2.2.2.2.2.2.2.2.2.2.2.2.2.2.2.2.2.2.2.2.2.2.2.2.2.2.2.2.2.2.2.2.2.2.2.2.2.2.2.2.2.2.2.2.2.2.2.2.2.2.1 c.2.2.2.2.2.2.2.2.2.2.2.2.2.2.2.2.2.2.2.2.2.2.2.2.2.2.2.2.2.2.2.2.2.2.2.2.2.2.2.2.2.2.2.2.2.2.2.2.2.2.2.2.2.2.2.2.2.2.2.2.2.2.2.2.2.2.2.2.2.2.2.2.2.2.2.2.2.1 c.2.2.2.2.2.2.2.2.2.2.2.2.2.2.2.2.2.2.2.2.2.2.2.2.2.2.2.2.2.2.2.2.2.2.2.2.2.2.2.2.2.2.2.2.2.2.2.2.2.2.2.2.2.2.2.2.2.2.2.2.2.2.2.2.2.2.2.2.2.2.2.2.2.2.2.2.2.2.1 c.2.2.2.2.2.2.2.2.2.2.2.2.2.2.2.2.2.2.2.2.2.2.2.2.2.2.2.2.2.2.2.2.2.2.2.2.2.2.2.2.2.2.2.2.2.2.2.2.2.2.2.2.2.2.2.2.2.2.2.2.2.2.2.2.2.2.2.2.2.2.2.2.2.2.2.2.2.2.2.1 c.2.2.2.2.2.2.2.2.2.2.2.2.2.2.2.2.2.2.2.2.2.2.2.2.2.2.2.2.2.2.2.2.2.2.2.2.2.2.2.2.2.2.2.2.2.2.2.2.2.2.2.2.2.2.2.2.2.2.2.2.2.2.2.2.2.2.2.2.2.2.2.2.2.2.2.2.2.2.2.2.1 c.2.2.2.2.2.2.2.2.2.2.2.2.2.2.2.2.2.2.2.2.2.2.2.2.2.2.2.2.2.2.2.2.2.2.2.2.2.2.2.2.2.2.2.2.2.2.2.2.2.2.2.2.2.2.2.2.2.2.2.2.2.2.2.2.2.2.2.2.2.2.2.2.2.2.2.2.2.2.2.2.2.1 c.2.2.2.2.2.2.2.2.2.2.2.2.2.2.2.2.2.2.2.2.2.2.2.2.2.2.2.2.2.2.2.2.2.2.2.2.2.2.2.2.2.2.2.2.2.2.2.2.2.2.2.2.2.2.2.2.2.2.2.2.2.2.2.2.2.2.2.2.2.2.2.2.2.2.2.2.2.2.2.2.2.2.1 c.2.2.2.2.2.2.2.2.2.2.2.2.2.2.2.2.2.2.2.2.2.2.2.2.2.2.2.2.2.2.2.2.2.2.2.2.2.2.2.2.2.2.2.2.2.2.2.2.2.2.2.2.2.2.2.2.2.2.2.2.2.2.2.2.2.2.2.2.2.2.2.2.2.2.2.2.2.2.2.2.2.2.2.1 c.2.2.2.2.2.2.2.2.2.2.2.2.2.2.2.2.2.2.2.2.2.2.2.2.2.2.2.2.2.2.2.2.2.2.2.2.2.2.2.2.2.2.2.2.2.2.2.2.2.2.2.2.2.2.2.2.2.2.2.2.2.2.2.2.2.2.2.2.2.2.2.2.2.2.2.2.2.2.2.2.2.2.2.2.1 c.2.2.2.2.2.2.2.2.2.2.2.2.2.2.2.2.2.2.2.2.2.2.2.2.2.2.2.2.2.2.2.2.2.2.2.2.2.2.2.2.2.2.2.2.2.2.2.2.2.2.2.2.2.2.2.2.2.2.2.2.2.2.2.2.2.2.2.2.2.2.2.2.2.2.2.2.2.2.2.2.2.2.2.2.2.1 c.2.2.2.2.2.2.2.2.2.2.2.2.2.2.2.2.2.2.2.2.2.2.2.2.2.2.2.2.2.2.2.2.2.2.2.2.2.2.2.2.2.2.2.2.2.2.2.2.2.2.2.2.2.2.2.2.2.2.2.2.2.2.2.2.2.2.2.2.2.2.2.2.2.2.2.2.2.2.2.2.2.2.2.2.2.2.1 c.2.2.2.2.2.2.2.2.2.2.2.2.2.2.2.2.2.2.2.2.2.2.2.2.2.2.2.2.2.2.2.2.2.2.2.2.2.2.2.2.2.2.2.2.2.2.2.2.2.2.2.2.2.2.2.2.2.2.2.2.2.2.2.2.2.2.2.2.2.2.2.2.2.2.2.2.2.2.2.2.2.2.2.2.2.2.2.1 c.2.2.2.2.2.2.2.2.2.2.2.2.2.2.2.2.2.2.2.2.2.2.2.2.2.2.2.2.2.2.2.2.2.2.2.2.2.2.2.2.2.2.2.2.2.2.2.2.2.2.2.2.2.2.2.2.2.2.2.2.2.2.2.2.2.2.2.2.2.2.2.2.2.2.2.2.2.2.2.2.2.2.2.2.2.2.2.2.1 c.2.2.2.2.2.2.2.2.2.2.2.2.2.2.2.2.2.2.2.2.2.2.2.2.2.2.2.2.2.2.2.2.2.2.2.2.2.2.2.2.2.2.2.2.2.2.2.2.2.2.2.2.2.2.2.2.2.2.2.2.2.2.2.2.2.2.2.2.2.2.2.2.2.2.2.2.2.2.2.2.2.2.2.2.2.2.2.2.2.1 c.2.2.2.2.2.2.2.2.2.2.2.2.2.2.2.2.2.2.2.2.2.2.2.2.2.2.2.2.2.2.2.2.2.2.2.2.2.2.2.2.2.2.2.2.2.2.2.2.2.2.2.2.2.2.2.2.2.2.2.2.2.2.2.2.2.2.2.2.2.2.2.2.2.2.2.2.2.2.2.2.2.2.2.2.2.2.2.2.2.2.1 c.2.2.2.2.2.2.2.2.2.2.2.2.2.2.2.2.2.2.2.2.2.2.2.2.2.2.2.2.2.2.2.2.2.2.2.2.2.2.2.2.2.2.2.2.2.2.2.2.2.2.2.2.2.2.2.2.2.2.2.2.2.2.2.2.2.2.2.2.2.2.2.2.2.2.2.2.2.2.2.2.2.2.2.2.2.2.2.2.2.2.2.1 c.2.2.2.2.2.2.2.2.2.2.2.2.2.2.2.2.2.2.2.2.2.2.2.2.2.2.2.2.2.2.2.2.2.2.2.2.2.2.2.2.2.2.2.2.2.2.2.2.2.2.2.2.2.2.2.2.2.2.2.2.2.2.2.2.2.2.2.2.2.2.2.2.2.2.2.2.2.2.2.2.2.2.2.2.2.2.2.2.2.2.2.2.1 c.2.2.2.2.2.2.2.2.2.2.2.2.2.2.2.2.2.2.2.2.2.2.2.2.2.2.2.2.2.2.2.2.2.2.2.2.2.2.2.2.2.2.2.2.2.2.2.2.2.2.2.2.2.2.2.2.2.2.2.2.2.2.2.2.2.2.2.2.2.2.2.2.2.2.2.2.2.2.2.2.2.2.2.2.2.2.2.2.2.2.2.2.2.1 c.2.2.2.2.2.2.2.2.2.2.2.2.2.2.2.2.2.2.2.2.2.2.2.2.2.2.2.2.2.2.2.2.2.2.2.2.2.2.2.2.2.2.2.2.2.2.2.2.2.2.2.2.2.2.2.2.2.2.2.2.2.2.2.2.2.2.2.2.2.2.2.2.2.2.2.2.2.2.2.2.2.2.2.2.2.2.2.2.2.2.2.2.2.2.1 c.2.2.2.2.2.2.2.2.2.2.2.2.2.2.2.2.2.2.2.2.2.2.2.2.2.2.2.2.2.2.2.2.2.2.2.2.2.2.2.2.2.2.2.2.2.2.2.2.2.2.2.2.2.2.2.2.2.2.2.2.2.2.2.2.2.2.2.2.2.2.2.2.2.2.2.2.2.2.2.2.2.2.2.2.2.2.2.2.2.2.2.2.2.2.2.1 c.2.2.2.2.2.2.2.2.2.2.2.2.2.2.2.2.2.2.2.2.2.2.2.2.2.2.2.2.2.2.2.2.2.2.2.2.2.2.2.2.2.2.2.2.2.2.2.2.2.2.2.2.2.2.2.2.2.2.2.2.2.2.2.2.2.2.2.2.2.2.2.2.2.2.2.2.2.2.2.2.2.2.2.2.2.2.2.2.2.2.2.2.2.2.2.2.1 c.2.2.2.2.2.2.2.2.2.2.2.2.2.2.2.2.2.2.2.2.2.2.2.2.2.2.2.2.2.2.2.2.2.2.2.2.2.2.2.2.2.2.2.2.2.2.2.2.2.2.2.2.2.2.2.2.2.2.2.2.2.2.2.2.2.2.2.2.2.2.2.2.2.2.2.2.2.2.2.2.2.2.2.2.2.2.2.2.2.2.2.2.2.2.2.2.2.1 c.2.2.2.2.2.2.2.2.2.2.2.2.2.2.2.2.2.2.2.2.2.2.2.2.2.2.2.2.2.2.2.2.2.2.2.2.2.2.2.2.2.2.2.2.2.2.2.2.2.2.2.2.2.2.2.2.2.2.2.2.2.2.2.2.2.2.2.2.2.2.2.2.2.2.2.2.2.2.2.2.2.2.2.2.2.2.2.2.2.2.2.2.2.2.2.2.2.2.1 c.2.2.2.2.2.2.2.2.2.2.2.2.2.2.2.2.2.2.2.2.2.2.2.2.2.2.2.2.2.2.2.2.2.2.2.2.2.2.2.2.2.2.2.2.2.2.2.2.2.2.2.2.2.2.2.2.2.2.2.2.2.2.2.2.2.2.2.2.2.2.2.2.2.2.2.2.2.2.2.2.2.2.2.2.2.2.2.2.2.2.2.2.2.2.2.2.2.2.2.1 c.2.2.2.2.2.2.2.2.2.2.2.2.2.2.2.2.2.2.2.2.2.2.2.2.2.2.2.2.2.2.2.2.2.2.2.2.2.2.2.2.2.2.2.2.2.2.2.2.2.2.2.2.2.2.2.2.2.2.2.2.2.2.2.2.2.2.2.2.2.2.2.2.2.2.2.2.2.2.2.2.2.2.2.2.2.2.2.2.2.2.2.2.2.2.2.2.2.2.2.2.1 c.2.2.2.2.2.2.2.2.2.2.2.2.2.2.2.2.2.2.2.2.2.2.2.2.2.2.2.2.2.2.2.2.2.2.2.2.2.2.2.2.2.2.2.2.2.2.2.2.2.2.2.2.2.2.2.2.2.2.2.2.2.2.2.2.2.2.2.2.2.2.2.2.2.2.2.2.2.2.2.2.2.2.2.2.2.2.2.2.2.2.2.2.2.2.2.2.2.2.2.2.2.1 c.2.2.2.2.2.2.2.2.2.2.2.2.2.2.2.2.2.2.2.2.2.2.2.2.2.2.2.2.2.2.2.2.2.2.2.2.2.2.2.2.2.2.2.2.2.2.2.2.2.2.2.2.2.2.2.2.2.2.2.2.2.2.2.2.2.2.2.2.2.2.2.2.2.2.2.2.2.2.2.2.2.2.2.2.2.2.2.2.2.2.2.2.2.2.2.2.2.2.2.2.2.2.1 c.2.2.2.2.2.2.2.2.2.2.2.2.2.2.2.2.2.2.2.2.2.2.2.2.2.2.2.2.2.2.2.2.2.2.2.2.2.2.2.2.2.2.2.2.2.2.2.2.2.2.2.2.2.2.2.2.2.2.2.2.2.2.2.2.2.2.2.2.2.2.2.2.2.2.2.2.2.2.2.2.2.2.2.2.2.2.2.2.2.2.2.2.2.2.2.2.2.2.2.2.2.2.2.1 c.2.2.2.2.2.2.2.2.2.2.2.2.2.2.2.2.2.2.2.2.2.2.2.2.2.2.2.2.2.2.2.2.2.2.2.2.2.2.2.2.2.2.2.2.2.2.2.2.2.2.2.2.2.2.2.2.2.2.2.2.2.2.2.2.2.2.2.2.2.2.2.2.2.2.2.2.2.2.2.2.2.2.2.2.2.2.2.2.2.2.2.2.2.2.2.2.2.2.2.2.2.2.2.2.1 c.2.2.2.2.2.2.2.2.2.2.2.2.2.2.2.2.2.2.2.2.2.2.2.2.2.2.2.2.2.2.2.2.2.2.2.2.2.2.2.2.2.2.2.2.2.2.2.2.2.2.2.2.2.2.2.2.2.2.2.2.2.2.2.2.2.2.2.2.2.2.2.2.2.2.2.2.2.2.2.2.2.2.2.2.2.2.2.2.2.2.2.2.2.2.2.2.2.2.2.2.2.2.2.2.2.1 c.2.2.2.2.2.2.2.2.2.2.2.2.2.2.2.2.2.2.2.2.2.2.2.2.2.2.2.2.2.2.2.2.2.2.2.2.2.2.2.2.2.2.2.2.2.2.2.2.2.2.2.2.2.2.2.2.2.2.2.2.2.2.2.2.2.2.2.2.2.2.2.2.2.2.2.2.2.2.2.2.2.2.2.2.2.2.2.2.2.2.2.2.2.2.2.2.2.2.2.2.2.2.2.2.2.2) h (x0, x1, x2, x3, x4, x5, x6, x7, x8, x9, x10, x11, x12, x13, x14, x15, x16, x17, x18, x19, x20, x21, x22, x23, x24, x25, x26, x27, x28, x29, x30, x31, x32, x33, x34, x35, x36, x37, x38, x39, x40, x41, x42, x43, x44, x45, x46, x47, x48, x49, x50, x51, x52, x53, x54, x55, x56, x57, x58, x59, x60, x61, x62, x63, x64, x65, x66, x67, x68, x69, x70, x71, x72, x73, x74, x75, x76, x77, x78, x79, x80, x81, x82, x83, x84, x85, x86, x87, x88, x89, x90, x91, x92, x93, x94, x95, x96, x97, x98, x99, x100, x101, x102, x103, x104, x105, x106)
end
end Mine
end
section
open PySem PySem.W PyProof.Rows
namespace Mine
abbrev one (c : Nat) : Str := ⟨#[c]⟩
theorem strsAre_of_get : ∀ (vs : List Value) (ss : List Str), vs.length = ss.length → (∀ (j : Nat) v, vs[j]? = some v → ∃ x t, ss[j]? = some x ∧ v = .str x t) → StrsAre vs ss
  | [], [], _, _ => .nil
  | [], _ :: _, h, _ => by simp at h
  | _ :: _, [], h, _ => by simp at h
  | v :: vs, s :: ss, h, k => by
    obtain ⟨x, t, e1, e2⟩ := k 0 v (by simp)
    simp at e1
    subst e1
    subst e2
    exact .cons _ _ (strsAre_of_get vs ss (by simpa using h) fun j v hv => by simpa using k (j + 1) v (by simpa using hv))
section
variable {prog : Program} {w : World} {A : Around} {E : Value → Shared → Prop} {s : Shared} {h₀ : Heap} {L : Addr} {m : Str → Option Value} {led : Led}
theorem list_str_led {x : Str} {t : Tok} {Q : Value → Shared → Prop} (hh : A.handled = none) (F : Fr h₀ L s.heap m) (N : News h₀ L s.heap led) (hsz : x.length ≤ sizeLine)
    (h : ∀ l h' tk vs n, Fr h₀ L h' m → News h₀ L h' ((l, listOf vs.toArray n) :: led) → (∀ p ∈ led, p.1 < l) → StrsAre vs (x.cps.toList.map one) → Q (.ref l) { s with heap := h', toks := tk }) :
    wpAny (model prog w) A (call (.type "list") [.str x t]) Q E s := by
  refine call_list_str hh x t (hn := hsz) fun h' tk acc' c' hk hS' hacc => ?_
  refine h _ h' tk acc'.toList c' (F.keeps hk) ?_ (fun p hp => Heap.lt_size (N p hp).1) ?_
  · intro p hp
    rcases List.mem_cons.mp hp with rfl | hp
    · refine ⟨by simpa using hS', ?_, ?_⟩
      · intro e
        have := F.ns.lt
        rw [← e] at this
        exact Nat.lt_irrefl _ this
      · cases e : h₀.get? s.heap.objs.size with
        | none => rfl
        | some o => exact absurd (Heap.lt_size (F.keep _ _ e)) (Nat.lt_irrefl _)
    · exact ⟨hk _ _ (N p hp).1, (N p hp).2⟩
  · refine strsAre_of_get _ _ (by simp [hacc.1]) fun j v hv => ?_
    obtain ⟨c, u, hc, rfl⟩ := hacc.2 j v (by simpa using hv)
    exact ⟨_, u, by simp [hc], rfl⟩
theorem listOf_is {a : Addr} {its : Array Value} {n : Nat} (N : News h₀ L s.heap led) (hm : (a, listOf its n) ∈ led) : s.heap.IsList a its := ⟨_, (N _ hm).1, rfl, n, rfl⟩
theorem ne_nil_nil {a b : Addr} {n n2 : Nat} {Q : Value → Shared → Prop} (N : News h₀ L s.heap led) (ha : (a, listOf #[] n) ∈ led) (hb : (b, listOf #[] n2) ∈ led) (hu : A.units < cLine) (h : Q (.bool false) s) :
    wpAny (model prog w) A (compareOp .NotEq (.ref a) (.ref b)) Q E s :=
  cmp_ofNotEq (PySem.SeqAt.RcNeAt.lists (e := fun _ => true) (listOf_is N ha) (listOf_is N hb) rfl hu (fun j h1 => absurd h1 (Nat.not_lt_zero _)) prog w E Q (by simpa using h))
theorem ne_cons_nil {a b : Addr} {n n2 : Nat} {v : Value} {vs : List Value} {Q : Value → Shared → Prop} (N : News h₀ L s.heap led) (ha : (a, listOf (v :: vs).toArray n) ∈ led) (hb : (b, listOf #[] n2) ∈ led) (hu : A.units < cLine) (h : Q (.bool true) s) :
    wpAny (model prog w) A (compareOp .NotEq (.ref a) (.ref b)) Q E s :=
  cmp_ofNotEq (PySem.SeqAt.RcNeAt.lists_lengths (listOf_is N ha) (listOf_is N hb) (by simp) hu prog w E Q h)
theorem pop0_led {D : Addr} {v : Value} {vs : List Value} {n : Nat} {u : Tok} {led' : Led} {Q : Value → Shared → Prop} (F : Fr h₀ L s.heap m) (N : News h₀ L s.heap led) (U : Upd D (listOf (v :: vs).toArray n) (listOf vs.toArray (n + 1)) led led')
    (hz : (v :: vs).length ≤ sizeLine) (h : ∀ h', Fr h₀ L h' m → News h₀ L h' led' → Q v { s with heap := h' }) : wpAny (model prog w) A (call (.builtin "list.pop") [.ref D, .int 0 u]) Q E s :=
  kl_popAt (p := []) (q := vs) (k := 0) F N rfl (by simp [seqIndex?]) rfl U hz h
end
end Mine
end
section
open PySem PySem.W PyProof.Rows PySem.Builtin PySem.Builtin.ObjectAttr PySem.Calls
set_option maxRecDepth 100000
namespace Mine
theorem fn_slot_set : Slot "function" "__setattr__" "object.__setattr__" :=
  .of (owner := "object") (n := "__setattr__") (by rw [typeLookup_type, builtinLookup_eq_fast]; kernel_rfl) (by decide +kernel) (by decide +kernel) (by decide +kernel)
    (by first | exact .inl (by decide +kernel) | exact .inr (by decide +kernel)) (by rw [isSubtype_type]; kernel_rfl)
theorem fn_slot_get : Slot "function" "__getattribute__" "object.__getattribute__" :=
  .of (owner := "object") (n := "__getattribute__") (by rw [typeLookup_type, builtinLookup_eq_fast]; kernel_rfl) (by decide +kernel) (by decide +kernel) (by decide +kernel)
    (by first | exact .inl (by decide +kernel) | exact .inr (by decide +kernel)) (by rw [isSubtype_type]; kernel_rfl)
theorem fn_entry_get : entryFor table "object.__getattribute__" = some Builtin.«object.__getattribute__» := entryFor_of_tree (by kernel_rfl)
theorem fn_no_hook : typeLookup (.type "function") "__getattr__" = pure none := by rw [typeLookup_type, builtinLookup_eq_fast]; kernel_rfl
theorem fn_no_read : typeLookup (.type "function") "read" = pure none := by rw [typeLookup_type, builtinLookup_eq_fast]; kernel_rfl
theorem fn_mro : mroOf (.type "function") = pure [.type "function", .type "object"] := by rw [mroOf_type]; kernel_rfl
theorem fn_passes (self : Value) : refuseLoop self "__setattr__" [.type "function", .type "object"] = pure () := by
  rw [refuseLoop]
  kernel_rfl
section
variable {prog : Program} {w : World} {A : Around} {E : Value → Shared → Prop} {s : Shared} {h₀ : Heap} {L : Addr} {m : Str → Option Value} {led : Led}
theorem fn_setAttr {f : Addr} {fd : FuncData} {sl : Array (Option Value)} {name : Str} {v : Value} {Q : Unit → Shared → Prop}
    (hx : s.heap.get? f = some ⟨.type "function", none, .func fd, sl⟩) (hno : typeLookup (.type "function") name = pure none)
    (h : ∀ h' tk, h'.get? f = some ⟨.type "function", some s.heap.objs.size, .func fd, sl⟩ → h'.get? s.heap.objs.size = some (dictOf [⟨PyData.keyHash w.params name, .str name (s.toks + 1), v⟩] 1) →
      (∀ b o, b ≠ f → s.heap.get? b = some o → h'.get? b = some o) → Q () { s with heap := h', toks := tk }) :
    wpAny (model prog w) A (setAttr (.ref f) name v) Q E s := by
  obtain ⟨hh, g, d, t, os⟩ := s
  dsimp only at hx h
  have hfs : f ≠ hh.objs.size := Nat.ne_of_lt (Heap.lt_size hx)
  unfold setAttr
  refine wpAny_bind (wpAny_mkText (wpAny_bind (wpAny_callSpecial?_slot ⟨_, hx, rfl⟩ fn_slot_set ?_)))
  refine wpAny_call (codeAny_call_builtin fn_slot_set.plain PySem.F.entry_object_sa (fn_slot_set.check _ _ _ _ _ _ _ _ ⟨_, hx, rfl⟩ (by unfold argsOk; kernel_rfl) ?_))
  rw [osa_eq, refuse_eq]
  refine wpAny_bind (wpAny_bind (wpAny_typeOf ⟨_, hx, rfl⟩ ?_))
  rw [fn_mro]
  refine wpAny_bind (wpAny_pure ?_)
  rw [fn_passes]
  refine wpAny_pure (wpAny_bind (wpAny_typeOf ⟨_, hx, rfl⟩ ?_))
  rw [hno]
  refine wpAny_bind (wpAny_pure (wpAny_bind (wpAny_pure ?_)))
  dsimp only [storeInOwnDict]
  rw [show ownStreamTells (.ref f) (.type "function") = pure () from rfl]
  refine wpAny_bind (wpAny_pure ?_)
  rw [if_neg (by decide)]
  have hx₁ : (hh.push { cls := .type "dict", data := .dict #[] }).get? f = some ⟨.type "function", none, .func fd, sl⟩ := Heap.get?_push_of_some _ hx
  have hgd : ((hh.push { cls := .type "dict", data := .dict #[] }).update f fun o => { cls := o.cls, dict := some hh.objs.size, data := o.data, slots := o.slots }).get? hh.objs.size
      = some { cls := .type "dict", data := .dict #[] } :=
    (Heap.get?_update_ne _ _ _ _ hfs.symm).trans (Heap.get?_push_at rfl rfl)
  have hD' : ∀ (hp hq : Heap) (F' : Obj → Obj), hp.get? hh.objs.size = some emptyDict → hq = hp.update hh.objs.size F' → (F' emptyDict).isFreed = false → hq.get? hh.objs.size = some (F' emptyDict) := by
    intro hp hq F' e1 e2 e3
    rw [e2]
    exact Heap.get?_update_self _ e1 e3
  unfold ownDictForStores instanceDict
  refine wpAny_bind (wpAny_bind (wpAny_loadPart hx ?_))
  dsimp only
  rw [show typeHasDict (.type "function") = true from by decide +kernel]
  rw [if_neg (by decide)]
  refine wpAny_bind (wpAny_alloc' (wpAny_bind (wpAny_update' hx₁ ?_)))
  rw [show dictMade (.type "function") f hh.objs.size = pure (some hh.objs.size) from by kernel_rfl]
  refine wpAny_pure ?_
  dsimp only
  have hput : Obj.putName name (PyData.keyHash w.params name) (.str name (t + 1)) v emptyDict = dictOf [⟨PyData.keyHash w.params name, .str name (t + 1), v⟩] 1 := putName_dict name _ _ v [] 0
  unfold storeInDict newKeyGuard
  refine wpAny_bind (wpAny_pure (wpAny_bind ?_))
  unfold nsSet
  refine wpAny_bind (wpAny_bind (wpAny_askSetting (wpAny_pure (wpAny_bind (wpAny_mkText (wpAny_bind (wpAny_loadPart hgd ?_)))))))
  dsimp only
  rw [aRefKeyMayBeTheName_at, show ((!(#[] : Array DictEntry).any (·.key.isStr name)) && (#[] : Array DictEntry).any (·.refKey)) = false from by simp]
  refine wpAny_updatePart hgd ?_
  have hD₂ := Heap.get?_update_self (Obj.putName name (PyData.keyHash w.params name) (.str name (t + 1)) v) hgd (by rw [hput]; rfl)
  rw [hput] at hD₂
  refine wpAny_bind (wpAny_lookBehind hD₂ (pastItsLine_dict (by simp [sizeLine_eq])) (wpAny_pure (wpAny_pure (h _ _ ?_ hD₂ fun b o hb e => ?_))))
  · refine (Heap.get?_update_ne _ _ _ _ hfs).trans (Heap.get?_update_self _ hx₁ rfl)
  · exact (Heap.get?_update_ne _ _ _ _ (Nat.ne_of_lt (Heap.lt_size e))).trans ((Heap.get?_update_ne _ _ _ _ hb).trans (Heap.get?_push_of_some _ e))
theorem fn_setAttr_led {f : Addr} {fd : FuncData} {sl : Array (Option Value)} {name : Str} {v : Value} {Q : Unit → Shared → Prop} {g : Obj → Led}
    (F : Fr h₀ L s.heap m) (N : News h₀ L s.heap led) (U : UpdF f ⟨.type "function", none, .func fd, sl⟩ led g) (hno : typeLookup (.type "function") name = pure none)
    (h : ∀ D h' kt tk, Fr h₀ L h' m → News h₀ L h' ((D, dictOf [⟨PyData.keyHash w.params name, .str name kt, v⟩] 1) :: g ⟨.type "function", some D, .func fd, sl⟩) → (∀ p ∈ led, p.1 < D) → Q () { s with heap := h', toks := tk }) :
    wpAny (model prog w) A (setAttr (.ref f) name v) Q E s := by
  obtain ⟨own, rest, rfl, hg, h1, h2⟩ := U.split
  have hm := N (f, ⟨.type "function", none, .func fd, sl⟩) (List.mem_append_right _ (.head _))
  refine fn_setAttr hm.1 hno fun h' tk hf hD hk => ?_
  have hnone : ∀ b, h₀.get? b = none → True := fun _ _ => trivial
  have F' : Fr h₀ L h' m := by
    refine ⟨?_, fun b o e => hk b o (fun q => by subst q; rw [hm.2.2] at e; cases e) (F.keep b o e), F.above⟩
    obtain ⟨o, es, ep, ho, r⟩ := F.ns
    exact ⟨o, es, ep, hk _ _ (Ne.symm hm.2.1) ho, r⟩
  refine h s.heap.objs.size h' (s.toks + 1) tk F' (fun p hp => ?_) fun p hp => Heap.lt_size (N p hp).1
  rcases List.mem_cons.mp hp with rfl | hp
  · refine ⟨hD, fun q => ?_, ?_⟩
    · have := F.ns.lt
      rw [← q] at this
      exact Nat.lt_irrefl _ this
    · cases e : h₀.get? s.heap.objs.size with
      | none => rfl
      | some o => exact absurd (Heap.lt_size (F.keep _ _ e)) (Nat.lt_irrefl _)
  · rw [hg] at hp
    rcases List.mem_append.mp hp with q | q
    · have P := N p (List.mem_append_left _ q)
      exact ⟨hk _ _ (h1 p q) P.1, P.2⟩
    · rcases List.mem_cons.mp q with rfl | q
      · exact ⟨hf, hm.2⟩
      · have P := N p (List.mem_append_right _ (.tail _ q))
        exact ⟨hk _ _ (h2 p q) P.1, P.2⟩
theorem fn_method {f d : Addr} {fd : FuncData} {sl : Array (Option Value)} {od : Obj} {name : Str} {v : Value} {pl : Sem Bool} {Q : Value × List Value → Shared → Prop}
    (hx : s.heap.get? f = some ⟨.type "function", some d, .func fd, sl⟩) (hd : s.heap.get? d = some od) (hl : lookIn name od = some (some v)) (hno : typeLookup (.type "function") name = pure none)
    (hv : handedIn v = true) (h : Q (v, []) { s with toks := s.toks + 1 }) :
    wpAny (model prog w) A (getMethod (.ref f) name pl) Q E s := by
  obtain ⟨hh, g, dr, t, os⟩ := s
  dsimp only at hx hd h
  unfold getMethod
  refine wpAny_bind (wpAny_specialOf ⟨_, hx, rfl⟩ fn_slot_get.lookup ?_)
  dsimp only
  rw [if_neg (by decide +kernel)]
  refine wpAny_bind (wpAny_specialOf ⟨_, hx, rfl⟩ fn_no_hook ?_)
  rw [if_neg (by decide)]
  refine wpAny_bind (wpAny_specialOf ⟨_, hx, rfl⟩ hno ?_)
  dsimp only
  refine wpAny_bind ?_
  unfold getAttr getAttrBy
  refine wpAny_bind (wpAny_mkText (wpAny_holding (wpAny_bind (wpAny_typeOf ⟨_, hx, rfl⟩ ?_))))
  rw [fn_slot_get.lookup]
  refine wpAny_bind (wpAny_pure ?_)
  dsimp only
  rw [if_neg (by decide +kernel)]
  unfold getAttrByItsOwn
  rw [show hookBefore (.type "function") = pure none from rfl]
  refine wpAny_bind (wpAny_pure (wpAny_bind (wpAny_attempt (wpAny_holding ?_))))
  unfold callGetattribute
  rw [if_neg (by decide +kernel)]
  unfold boundAndCalled
  rw [fn_slot_get.bind]
  refine wpAny_bind (wpAny_pure ?_)
  show wpAny _ _ (call (.builtin "object.__getattribute__") [.ref f, .str name t]) _ _ _
  refine wpAny_call (codeAny_call_builtin fn_slot_get.plain fn_entry_get (fn_slot_get.check _ _ _ _ _ _ _ _ ⟨_, hx, rfl⟩ (by unfold argsOk; kernel_rfl) ?_))
  rw [show Builtin.«object.__getattribute__» ⟨[.ref f, .str name t], []⟩ = (typeOf (.ref f) >>= fun tp => find (.ref f) tp name >>= fun r => match r with
    | .value v => ret v
    | .bind g a => bindTo g a (.ref f) tp
    | .missing => do
      if tp == .type "module" then
        if ← isOpaqueModuleObj (.ref f) then
          let byTheModulesOwnEntry := match (← stack).drop 1 with
            | (.builtin "module.__getattribute__" ⟨m :: _, _⟩, _) :: _ => m == (.ref f)
            | _ => false
          if !byTheModulesOwnEntry then unsupported "thirdparty:object.__getattribute__:a-miss-on-an-opaque-module"
      if tp == .type "type" then
        if let some key ← opaqueClassAbove (.ref f) then unsupported s!"thirdparty:{key.toString}.{name.toString}:object.__getattribute__-misses-on-an-opaque-class"
      noSuchAttribute (.ref f) name) from rfl]
  refine wpAny_bind (wpAny_typeOf ⟨_, hx, rfl⟩ (wpAny_bind ?_))
  unfold find
  rw [hno]
  refine wpAny_bind (wpAny_pure (wpAny_bind (wpAny_pure (wpAny_bind (wpAny_pure ?_)))))
  dsimp only
  unfold ownThenClass inOwnDict ObjectAttr.ownDict loadHead
  refine wpAny_bind (wpAny_bind (wpAny_bind (wpAny_loadPart hx ?_)))
  dsimp only
  unfold instanceDict
  refine wpAny_bind (wpAny_loadPart hx ?_)
  dsimp only
  refine wpAny_pure ?_
  unfold inDict nsGet
  dsimp only
  refine wpAny_bind (wpAny_loadPart hd ?_)
  rw [nsLook_of hl]
  refine wpAny_pure ?_
  dsimp only
  refine wpAny_bind (wpAny_rule (wpAny_pure (wpAny_pure ?_)))
  dsimp only
  rw [handedOut_of hv]
  exact wpAny_pure (wpAny_pure h)
theorem fn_method_led {f d : Addr} {fd : FuncData} {sl : Array (Option Value)} {od : Obj} {name : Str} {v : Value} {pl : Sem Bool} {Q : Value × List Value → Shared → Prop} (N : News h₀ L s.heap led)
    (hx : (f, (⟨.type "function", some d, .func fd, sl⟩ : Obj)) ∈ led) (hd : (d, od) ∈ led) (hl : lookIn name od = some (some v)) (hno : typeLookup (.type "function") name = pure none)
    (hv : handedIn v = true) (h : Q (v, []) { s with toks := s.toks + 1 }) :
    wpAny (model prog w) A (getMethod (.ref f) name pl) Q E s := fn_method (N _ hx).1 (N _ hd).1 hl hno hv h
end
end Mine
end
section
open PySem PySem.W PyProof.Rows
namespace Mine
/-- what stands in the code table of the def that makes streams: nothing yet, or the codes of its two lambdas -/
def TabOk (tb : Obj) (st : Led) : Prop := tb = tabObj #[] ∨ ∃ (c1 c2 : Addr) (oc2 : Obj) (vs2 : Array Value) (t2 : Tok), tb = tabObj #[rawInt 134, rawInt 13, .ref c1, rawInt 135, rawInt 18, .ref c2] ∧
  (c2, oc2) ∈ st ∧ oc2.data = .fields vs2 ∧ vs2[1]? = some (.str (Str.ofString "_law_stream.<locals>.<lambda>") t2)
theorem TabOk.mono {tb : Obj} {st st' : Led} (h : TabOk tb st) (k : ∀ p ∈ st, p ∈ st') : TabOk tb st' := by
  rcases h with h | ⟨c1, c2, oc2, vs2, t2, h, hm, r⟩
  · exact .inl h
  · exact .inr ⟨c1, c2, oc2, vs2, t2, h, k _ hm, r⟩
/-- a call of the reading lambda takes the first of the signs that are left -/
def Reads1 (w : World) (R : Addr) (oR : Obj) (c2 : Addr) (oc2 : Obj) (cl : Addr) (ocl : Obj) (l : Addr) : Prop :=
  ∀ (st : Led) (vs : List Value) (n : Nat) (t : Tok), (R, oR) ∈ st → (c2, oc2) ∈ st → (cl, ocl) ∈ st → (∀ p ∈ st, p.1 ≠ l) → vs.length ≤ sizeLine →
    Con w R [.int 1 t] ((l, listOf vs.toArray n) :: st) 3 20 (fun v led' => match vs with
      | [] => (∃ t, v = .str Str.empty t) ∧ led' = (l, listOf vs.toArray n) :: st
      | v0 :: vr => v = v0 ∧ ∃ n', led' = (l, listOf vr.toArray n') :: st)
inductive Stream (w : World) (st : Led) (S l : Addr) : Prop
  | intro : ∀ (Sd Rd : Addr) (fR : FuncData) (c2 : Addr) (oc2 : Obj) (cl : Addr) (ocl : Obj) (fd : FuncData) (sl : Array (Option Value)) (kt : Tok), (S, (⟨.type "function", some Sd, .func fd, sl⟩ : Obj)) ∈ st → (Sd, dictOf [⟨PyData.keyHash w.params (Str.ofString "read"), .str (Str.ofString "read") kt, .ref Rd⟩] 1) ∈ st → (Rd, ({ cls := .type "function", data := .func fR } : Obj)) ∈ st → (c2, oc2) ∈ st → (cl, ocl) ∈ st → Reads1 w Rd { cls := .type "function", data := .func fR } c2 oc2 cl ocl l → Stream w st S l
theorem Stream.mono {w : World} {st st' : Led} {S l : Addr} (h : Stream w st S l) (k : ∀ p ∈ st, p ∈ st') : Stream w st' S l := by
  obtain ⟨Sd, Rd, fR, c2, oc2, cl, ocl, fd, sl, kt, h1, h2, h3, h4, h5, h6⟩ := h
  exact ⟨Sd, Rd, fR, c2, oc2, cl, ocl, fd, sl, kt, k _ h1, k _ h2, k _ h3, k _ h4, k _ h5, h6⟩
/-- what is new lies apart from what stood -/
def Apart (new st : Led) : Prop := ∀ p ∈ new, ∀ q ∈ st, q.1 ≠ p.1
inductive StreamPost (w : World) (cs : List Nat) (st0 st : Led) (v : Value) (led' : Led) : Prop
  | intro : ∀ (S l : Addr) (vs : List Value) (n : Nat) (tb' : Obj) (new : Led), v = .ref S → led' = (l, listOf vs.toArray n) :: (113, tb') :: (new ++ st) → StrsAre vs (cs.map one) → Apart new st → (∀ p ∈ new ++ st, p.1 ≠ l) → 113 ≠ l → (∀ p ∈ new ++ st, p.1 ≠ 113) → TabOk tb' (new ++ st0) → Stream w (new ++ st0) S l → StreamPost w cs st0 st v led'
theorem stream_fin {w : World} {cs : List Nat} {s : Shared} {R : Result → Shared → Prop} {h₀ : Heap} {L : Addr} {m : Str → Option Value} {h' : Heap} {tk' : Nat} {st0 st pre : Led} {S Sd Rd cl l c2 : Addr} {fR : FuncData} {oc2 ocl : Obj} {fd : FuncData} {sl : Array (Option Value)} {kt : Tok} {vs : List Value} {n : Nat} {tb' : Obj}
    (hret : ∀ v led' h' tk', StreamPost w cs st0 st v led' → Fr h₀ L h' m → News h₀ L h' led' → R (.ok (.ret v)) { s with heap := h', toks := tk' })
    (F : Fr h₀ L h' m) (N : News h₀ L h' (pre ++ (l, listOf vs.toArray n) :: (cl, ocl) :: (113, tb') :: st))
    (hS : (S, (⟨.type "function", some Sd, .func fd, sl⟩ : Obj)) ∈ pre) (hSd : (Sd, dictOf [⟨PyData.keyHash w.params (Str.ofString "read"), .str (Str.ofString "read") kt, .ref Rd⟩] 1) ∈ pre) (hR : (Rd, ({ cls := .type "function", data := .func fR } : Obj)) ∈ pre) (hc : (c2, oc2) ∈ pre ++ st0)
    (ho1 : ∀ p ∈ pre ++ (cl, ocl) :: st, p.1 ≠ l) (ho2 : 113 ≠ l) (ho3 : ∀ p ∈ pre ++ (cl, ocl) :: st, p.1 ≠ 113) (hap : ∀ p ∈ pre ++ [(cl, ocl)], ∀ q ∈ st, q.1 ≠ p.1) (hV : StrsAre vs (cs.map one)) (htb : TabOk tb' (pre ++ st0)) (hrd : Reads1 w Rd { cls := .type "function", data := .func fR } c2 oc2 cl ocl l) :
    R (.ok (.ret (.ref S))) { s with heap := h', toks := tk' } := by
  have e : ((pre ++ [(cl, ocl)]) ++ st) = pre ++ (cl, ocl) :: st := by simp
  have e0 : ((pre ++ [(cl, ocl)]) ++ st0) = pre ++ (cl, ocl) :: st0 := by simp
  have k1 : ∀ p ∈ pre, p ∈ pre ++ (cl, ocl) :: st0 := fun p hp => List.mem_append_left _ hp
  have k2 : ∀ p ∈ pre ++ st0, p ∈ pre ++ (cl, ocl) :: st0 := fun p hp => (List.mem_append.mp hp).elim (fun h => List.mem_append_left _ h) fun h => List.mem_append_right _ (.tail _ h)
  refine hret (.ref S) ((l, listOf vs.toArray n) :: (113, tb') :: ((pre ++ [(cl, ocl)]) ++ st)) h' tk' ?_ F (news_of N fun p hp => ?_)
  · exact ⟨S, l, vs, n, tb', _, rfl, rfl, hV, hap, by rw [e]; exact ho1, ho2, by rw [e]; exact ho3, by rw [e0]; exact htb.mono k2, by rw [e0]; exact ⟨Sd, Rd, fR, c2, oc2, cl, ocl, fd, sl, kt, k1 _ hS, k1 _ hSd, k1 _ hR, k2 _ hc, List.mem_append_right _ (.head _), hrd⟩⟩
  · rw [e] at hp
    simp only [List.mem_cons, List.mem_append] at hp ⊢
    rcases hp with h | h | h | h | h
    · exact .inr (.inl h)
    · exact .inr (.inr (.inr (.inl h)))
    · exact .inl h
    · exact .inr (.inr (.inl h))
    · exact .inr (.inr (.inr (.inr h)))
theorem reads1_intro {w : World} {R : Addr} {oR : Obj} {c2 : Addr} {oc2 : Obj} {cl : Addr} {ocl : Obj} {l : Addr}
    (h : ∀ (st : Led) (vs : List Value) (n : Nat) (t : Tok), R ≠ l → c2 ≠ l → cl ≠ l → (∀ p ∈ st, p.1 ≠ l) → vs.length ≤ sizeLine →
      Con w R [.int 1 t] ((l, listOf vs.toArray n) :: (R, oR) :: (c2, oc2) :: (cl, ocl) :: st) 3 20 (fun v led' => match vs with
      | [] => (∃ t, v = .str Str.empty t) ∧ led' = (l, listOf vs.toArray n) :: (R, oR) :: (c2, oc2) :: (cl, ocl) :: st
      | v0 :: vr => v = v0 ∧ ∃ n', led' = (l, listOf vr.toArray n') :: (R, oR) :: (c2, oc2) :: (cl, ocl) :: st)) : Reads1 w R oR c2 oc2 cl ocl l := by
  intro st vs n t m1 m2 m3 off hn A h₀ L m s Rr S F N hret
  refine h st vs n t (off _ m1) (off _ m2) (off _ m3) off hn A h₀ L m s Rr S F (news_of N fun p hp => ?_) fun v led' h' tk' hP F' N' => ?_
  · simp only [List.mem_cons] at hp ⊢
    rcases hp with h | h | h | h | h
    · exact .inl h
    · subst h; exact .inr m1
    · subst h; exact .inr m2
    · subst h; exact .inr m3
    · exact .inr h
  · cases vs with
    | nil =>
      obtain ⟨hv, rfl⟩ := hP
      exact hret v _ h' tk' ⟨hv, rfl⟩ F' (news_of N' fun p hp => by
        rcases List.mem_cons.mp hp with h | h
        · exact h ▸ .head _
        · exact .tail _ (.tail _ (.tail _ (.tail _ h))))
    | cons v0 vr =>
      obtain ⟨hv, n', rfl⟩ := hP
      exact hret v _ h' tk' ⟨hv, n', rfl⟩ F' (news_of N' fun p hp => by
        rcases List.mem_cons.mp hp with h | h
        · exact h ▸ .head _
        · exact .tail _ (.tail _ (.tail _ (.tail _ h))))
theorem news_pull {h₀ h : Heap} {L : Addr} {a b c : Addr × Obj} {new st : Led} (N : News h₀ L h (a :: b :: (new ++ c :: st))) : News h₀ L h (c :: a :: b :: (new ++ st)) := news_of N fun p hp => by
  simp only [List.mem_cons, List.mem_append] at hp ⊢
  rcases hp with h | h | h | h | h
  · exact .inr (.inr (.inr (.inl h)))
  · exact .inl h
  · exact .inr (.inl h)
  · exact .inr (.inr (.inl h))
  · exact .inr (.inr (.inr (.inr h)))
theorem off_pull {b : Addr} {c : Addr × Obj} {new st : Led} (h : ∀ p ∈ new ++ c :: st, p.1 ≠ b) : (∀ p ∈ new ++ st, p.1 ≠ b) ∧ c.1 ≠ b :=
  ⟨fun p hp => h p ((List.mem_append.mp hp).elim (fun h => List.mem_append_left _ h) fun h => List.mem_append_right _ (.tail _ h)), h c (List.mem_append_right _ (.head _))⟩
theorem off_apart {c : Addr × Obj} {new st : Led} (h : Apart new (c :: st)) (k : ∀ p ∈ st, p.1 ≠ c.1) : ∀ p ∈ new ++ st, p.1 ≠ c.1 :=
  fun p hp => (List.mem_append.mp hp).elim (fun q => Ne.symm (h p q c (.head _))) fun q => k p q
theorem Apart.tail {c : Addr × Obj} {new st : Led} (h : Apart new (c :: st)) : Apart new st := fun p hp q hq => h p hp q (.tail _ hq)
end Mine
end
section
open PySem PySem.W PyProof.Rows
namespace Mine
local macro_rules | `(tactic| walk_at $s:str) => `(tactic| k_extra $s)
local macro_rules | `(tactic| k_all) => `(tactic| k_extra "k_all")
local macro_rules | `(tactic| k_ne) => `(tactic| k_extra "k_ne")
local macro_rules | `(tactic| size_fits) => `(tactic| k_extra "size_fits")
local macro_rules | `(tactic| ktr_room) => `(tactic| k_extra "ktr_room")
local macro_rules | `(tactic| k_in) => `(tactic| k_extra "k_in")
local macro_rules | `(tactic| ktr_units) => `(tactic| k_extra "ktr_units")
set_option maxRecDepth 100000 in
set_option maxHeartbeats 8000000 in
theorem stream_con {w : World} (x : Str) (t : Tok) (hx : x.length ≤ sizeLine) (tb : Obj) (st0 st : Led) (htb : TabOk tb st0) (hoff : ∀ p ∈ st, p.1 ≠ 113) : Con w 118 [.str x t] ((113, tb) :: st) 5 40 (StreamPost w x.cps.toList st0 st) := by
  k_with_none
  k_with "line" => (first | exact ln2 ‹_ < PySem.recursionLimit› rfl | exact ln2 ‹_ < PySem.cLine› rfl | exact ln1 ‹_ < PySem.recursionLimit› rfl | exact ln1 ‹_ < PySem.cLine› rfl | (simp only [ktrTop] at *; first | exact ln2 ‹_ < PySem.recursionLimit› rfl | exact ln2 ‹_ < PySem.cLine› rfl | exact ln1 ‹_ < PySem.recursionLimit› rfl | exact ln1 ‹_ < PySem.cLine› rfl | omega))
  k_with "pr" => ((intro hcW; first | exact hcW.1 | exact hcW.2.1 | exact hcW.2.2.1 | exact hcW.2.2.2.1 | exact hcW.2.2.2.2.1 | exact hcW.2.2.2.2.2.1 | exact hcW.2.2.2.2.2.2.1 | exact hcW.2.2.2.2.2.2.2.1 | exact hcW.2.2.2.2.2.2.2.2.1 | exact hcW.2.2.2.2.2.2.2.2.2.1 | exact hcW.2.2.2.2.2.2.2.2.2.2.1 | exact hcW.2.2.2.2.2.2.2.2.2.2.2.1))
  k_with "k_ne" => ((refine neN ?_; (try dsimp only); first | (with_reducible assumption) | exact Ne.symm (by with_reducible assumption) | (refine ne_c1 (by with_reducible assumption) ?_; walk_at "pr") | (refine ne_c2 (by with_reducible assumption) ?_; walk_at "pr") | (refine ne_c3 (by with_reducible assumption) ?_; walk_at "pr") | (refine ne_c4 (by with_reducible assumption) ?_; walk_at "pr") | (refine ne_f1 (by with_reducible assumption) ?_; walk_at "pr") | (refine ne_f2 (by with_reducible assumption) ?_; walk_at "pr") | (refine ne_d1 (by with_reducible assumption) (by with_reducible assumption) ?_; walk_at "pr") | (refine ne_d2 (by with_reducible assumption) (by with_reducible assumption) ?_; walk_at "pr") | exact Nat.ne_of_lt (by with_reducible assumption) | exact Nat.ne_of_gt (by with_reducible assumption) | exact Nat.succ_ne_self _ | exact (Nat.succ_ne_self _).symm | ((repeat (rename (@Ne Nat _ _) => hz9W; clear hz9W)); omega)))
  k_with "le" => (first | exact Nat.le_refl _ | exact Nat.le_of_lt (by with_reducible assumption) | exact Nat.le_succ _ | exact Nat.le_succ_of_le (Nat.le_succ _) | omega)
  k_with "ktr_room" => (exact lt_room (by assumption))
  k_with "ktr_units" => ((first | exact ln1 (by assumption) rfl | exact ln2 (by assumption) rfl | (simp only [units_in1, units_deeper, Around.mark_units, units_caller]; first | exact ln2 (by assumption) rfl | exact ln1 (by assumption) rfl)))
  k_with "k_in" => (first | (with_reducible assumption) | k_in_fast | exact Frag.In.keeps (by k_asm) (Fr.keep (by k_asm)))
  k_with "sz" => (first | exact le_n (by with_reducible assumption) rfl | omega)
  k_with "pt" => ((intro hcW; with_reducible first | exact hcW.2 | exact hcW.2.2 | exact hcW.2.2.2 | exact hcW.2.2.2.2 | exact hcW.2.2.2.2.2 | exact hcW.2.2.2.2.2.2 | exact hcW.2.2.2.2.2.2.2 | exact hcW.2.2.2.2.2.2.2.2 | exact hcW.2.2.2.2.2.2.2.2.2 | exact hcW.2.2.2.2.2.2.2.2.2.2 | exact hcW.2.2.2.2.2.2.2.2.2.2.2 | exact hcW.2.2.2.2.2.2.2.2.2.2.2.2))
  k_with "size_fits" => (exact Nat.le_of_ble_eq_true rfl)
  k_with "mine tl" => (first | (with_reducible assumption) | ((with_reducible rename AllLt _ _ => hl9W); first | exact allLt_ne hl9W (by walk_at "sz") | (clear hl9W; walk_at "mine tl")) | ((with_reducible rename (_ ∧ _) => hq9W); (have ha9W := hq9W.1); (have hb9W := hq9W.2); clear hq9W; walk_at "mine tl"))
  k_with "k_all" => (first | exact List.forall_mem_nil _ | (with_reducible assumption) | ((with_reducible show ∀ p ∈ _ :: _, _); refine' List.forall_mem_cons.mpr ⟨(by k_ne), (by k_all)⟩) | (refine tl_eq (by with_reducible assumption) ?_; walk_at "pt") | (refine tl_s (by with_reducible assumption) ?_; walk_at "pt") | (refine tl_t (by with_reducible assumption) ?_; walk_at "pt") | ((with_reducible rename AllLt _ _ => hl9W); with_reducible exact allLt_ne hl9W (by walk_at "le")) | (refine' List.forall_mem_cons.mpr ⟨(by k_ne), (by k_all)⟩) | walk_at "mine tl")
  k_with "call type:list" => (((k_here; (with_reducible show wpAny _ _ (call (Value.type _) [Value.str _ _]) _ _ _); k_dflt (refine' list_str_led (by exact rfl) (by k_asm) (by k_asm) (by assumption) ?_; k_whole); intro l' h' tk' vs' n' F' N' l1 S'; (try k_lt l1))); (first | revert l' h' tk' vs' n' F' N' l1 S' | ((try revert S'); (try revert l1); (try revert N'); (try revert F'); (try revert n'); (try revert vs'); (try revert tk'); (try revert h'); (try revert l'))); (try intros))
  k_with "setAttr ref" => (((k_here; (with_reducible show wpAny _ _ (setAttr (Value.ref _) _ _) _ _ _); k_dflt (refine' fn_setAttr_led (by k_asm) (by k_asm) (by k_updF) (by exact fn_no_read) ?_; k_whole); intro D' h' kt' tk' F' N' l1; (try dsimp only at N'); (try k_lt l1); (try k_sweep))); (first | revert D' h' kt' tk' F' N' l1 | ((try revert l1); (try revert N'); (try revert F'); (try revert tk'); (try revert kt'); (try revert h'); (try revert D'))); (try intros))
  k_with "getMethod ref" => ((k_here; k_dflt (refine' fn_method_led (by k_asm) (by k_mem) (by k_mem) (by rfl) (by exact fn_no_read) (by rfl) ?_; k_whole)))
  k_with "compareOp NotEq ref ref" => ((k_here; k_dflt (first | (refine' ne_nil_nil (by k_asm) (by k_mem) (by k_mem) (by ktr_units) ?_; k_whole) | (refine' ne_cons_nil (by k_asm) (by k_mem) (by k_mem) (by ktr_units) ?_; k_whole))))
  k_with "call builtin:list.pop" => (((k_here; k_dflt (refine' pop0_led (by k_asm) (by k_asm) (by k_upd) (by assumption) ?_; k_whole); intro h' F' N'; (try k_sweep))); (first | revert h' F' N' | ((try revert N'); (try revert F'); (try revert h'))); (try intros))
  k_with "mine enter" => (first | (refine' code_def (by k_asm) (by k_asm) (by k_asm) (by k_asm) (by k_asm) (by exact rfl) (by exact rfl) (by (first | exact rfl | assumption)) (by k_is) (by k_is) (by ktr_room) (by exact BindsTo.of_eq rfl) (by exact locs rfl) ?_ (by exact rfl) (by exact rfl) (by exact rfl) (by decide); k_whole; intro g' L' h' FG' F' N' B' X' T'; (try dsimp only); (first | revert g' L' h' FG' F' N' B' X' T' | ((try revert T'); (try revert X'); (try revert B'); (try revert N'); (try revert F'); (try revert FG'); (try revert h'); (try revert L'); (try revert g'))); (try intros); (try k_fold)) | (refine' code_defC (by k_asm) (by k_asm) (by k_asm) (by k_asm) (by k_asm) (by exact rfl) (by exact rfl) (by (first | exact rfl | assumption)) (by k_is) (by k_is) (by ktr_room) (by exact BindsTo.of_eq rfl) (by exact rfl) (by decide +kernel) ?_ (by exact rfl) (by exact rfl) (by exact rfl); k_whole; intro g' L' h' tk' cells' FG' F' N' Y' B' X' T' l1; (try k_lt l1); k_cells Y'; (try simp only [List.cons_append, List.nil_append] at N'); (try dsimp only); (first | revert g' L' h' tk' cells' FG' F' N' Y' B' X' T' l1 | ((try revert l1); (try revert T'); (try revert X'); (try revert B'); (try revert Y'); (try revert N'); (try revert F'); (try revert FG'); (try revert cells'); (try revert tk'); (try revert h'); (try revert L'); (try revert g'))); (try intros); (try k_fold)))
  k_with "mine new" => ((k_dflt (refine' call_cls (by k_asm) (by k_asm) (by k_asm) (by k_is) (by k_is) (by k_is) ?_; k_whole; intro x' d' h' F' N' l1 l2; (try k_lt l1); (try k_lt2 l2); (try k_sweep); (first | revert x' d' h' F' N' l1 l2 | ((try revert l2); (try revert l1); (try revert N'); (try revert F'); (try revert h'); (try revert d'); (try revert x'))); (try intros); walk_at "mine enter")))
  intro A h₀ L m s R S F N hret
  obtain ⟨p, loose, mean, mg, mb, dp, un, gd, cn, cs, a, ccd, cl, outer, A₀, base, rfl, B, X, T, hk, hd, hu⟩ := S
  revert X; k_fill; intro X
  rcases htb with rfl | ⟨c1, c2, oc2, vs2, t2, rfl, hc2, hd2, hv2⟩
  · (refine' code_defC (binds := [(PySem.Str.ofString "text", .str x t)]) ?k1 ?k2 ?k3 ?k4 ?k5 ?kA ?kF ?kK ?k6 ?k7 ?k8 ?k9 ?kB ?kD ?_ ?c2 ?c3 ?c4; (case kA => exact rfl); (case kF => exact rfl); (case kK => assumption); (case k1 => k_asm); (case k2 => k_asm); (case k3 => k_asm); (case k4 => k_asm); (case k5 => k_asm); (case k6 => k_is); (case k7 => k_is); (case k8 => ktr_room); (case k9 => exact BindsTo.of_eq rfl); (case kB => exact rfl); (case kD => decide +kernel); (case c2 => exact rfl); (case c3 => exact rfl); (case c4 => exact rfl); k_whole; intro g' L' h' tk' cells' FG' F' N' Y' B' X' T' l1; (try k_lt l1); k_cells Y'; (try simp only [List.cons_append, List.nil_append] at N'); (try dsimp only); (try k_fold))
    have o1 := allLt_ne l1.2 (Nat.le_succ L')
    have C1 := codeHd117 X'
    have hMk9 := kstMark
    rename_i hkIStream047 hkIStream048
    revert hx hoff F hret B T hk hd hu X N FG' F' B' X' T' l1 hkIStream048 N' o1 C1
    have hkU0 : Unit := ()
    have hkU1 : Unit := ()
    have hkU2 : Unit := ()
    have hkU3 : Unit := ()
    have hkU4 : Unit := ()
    revert w x t st0 st h₀ L m s R p loose mean mg mb dp un gd cn cs a ccd cl outer A₀ base g' L' h' tk' hkIStream047 hkU0 hkU1 hkU2 hkU3 hkU4
    refine no_implicit_lambda% (hk36 217845 ?hkdStream0 ?hkPStream0 ?hkGStream0)
    case hkdStream0 => exact (dWorld, ⟨#[]⟩, (0 : Nat), [], [], default, (0 : Nat), fun _ => none, {}, fun _ _ => True, default, [], fun _ => none, fun _ => none, fun _ => none, 0, 0, none, ⟨#[]⟩, default, (0 : Nat), .none, [], [], {}, default, default, (0 : Nat), default, 0, dObj, (), (), (), (), ())
    refine (?hkFStream0 : ∀ x0 x1 x2 x3 x4 x5 x6 x7 x8 x9 x10 x11 x12 x13 x14 x15 x16 x17 x18 x19 x20 x21 x22 x23 x24 x25 x26 x27 x28 x29 x30 x31 x32 x33 x34 x35, ?hkPStream0 x0 x1 x2 x3 x4 x5 x6 x7 x8 x9 x10 x11 x12 x13 x14 x15 x16 x17 x18 x19 x20 x21 x22 x23 x24 x25 x26 x27 x28 x29 x30 x31 x32 x33 x34 x35) _ _ _ _ _ _ _ _ _ _ _ _ _ _ _ _ _ _ _ _ _ _ _ _ _ _ _ _ _ _ _ () () () () ()
    intro w x t st0 st h₀ L m s R p loose mean mg mb dp un gd cn cs a ccd cl outer A₀ base g' L' h' tk' _ hkU0 hkU1 hkU2 hkU3 hkU4 hx hoff F hret B T hk hd hu X N FG' F' B' X' T' l1 _ N' o1 C1
    clear hkU0 hkU1 hkU2 hkU3 hkU4
    k_steps
    rename News _ _ _ _ => kN9
    rename Fr _ _ _ _ => kF9
    rename StrsAre _ _ => kS9
    refine stream_fin (pre := [_, _, _, _, _]) hret kF9 kN9 (by k_mem) (by k_mem) (by k_mem) (List.mem_append_left _ (.tail _ (.tail _ (.head _)))) ?ho1 ?ho2 ?ho3 ?hap kS9 ?htb ?hrd
    case ho1 => simp only [List.cons_append, List.nil_append]; k_all
    case ho2 => k_ne
    case ho3 => simp only [List.cons_append, List.nil_append]; k_all
    case hap => simp only [List.cons_append, List.nil_append]; (repeat' (first | exact List.forall_mem_nil _ | refine List.forall_mem_cons.mpr ⟨?_, ?_⟩)) <;> (dsimp only; walk_at "mine tl")
    case htb => exact .inr ⟨_, _, _, _, _, rfl, .tail _ (.tail _ (.head _)), by assumption, by assumption⟩
    case hrd =>
      refine reads1_intro fun st2 vs n t q1 q2 q3 off hn => ?_
      intro A h₀ L m s R S F N hret
      obtain ⟨p, loose, mean, mg, mb, dp, un, gd, cn, cs, a, ccd, cl, outer, A₀, base, rfl, B, X, T, hk, hd, hu⟩ := S
      revert X; k_fill; intro X
      have hMk9 := kstMark
      (refine' kla_code ?k1 ?k2 ?k3 ?k4 ?k5 ?kA ?kF ?kK ?k6 ?k7 ?k8 ?k9 ?kB ?_ ?c2 ?c3 ?c4 ?c5; (case kA => exact rfl); (case kF => exact rfl); (case kK => assumption); (case k1 => k_asm); (case k2 => k_asm); (case k3 => k_asm); (case k4 => k_asm); (case k5 => k_asm); (case k6 => k_mem); (case k7 => exact codeRec_news (by k_asm) (by k_mem) (by assumption) (by assumption)); (case k8 => ktr_room); (case k9 => exact rfl); (case c5 => decide); (case kB => exact locs rfl); (case c2 => exact rfl); (case c3 => exact rfl); (case c4 => exact rfl); k_whole; intro g' L' h' FG' F' N' B' X' T'; (try dsimp only); (try k_fold))
      have C1 := codeHd117 X'
      rcases vs with _ | ⟨v0, vr⟩
      · k_steps
        rename News _ _ _ _ => kN8
        rename Fr _ _ _ _ => kF8
        exact hret _ _ _ _ ⟨⟨_, rfl⟩, rfl⟩ kF8 (news_of kN8 fun p hp => .tail _ hp)
      · k_steps
        rename News _ _ _ _ => kN8
        rename Fr _ _ _ _ => kF8
        exact hret _ _ _ _ ⟨rfl, _, rfl⟩ kF8 (news_of kN8 fun p hp => .tail _ hp)
  · (refine' code_defC (binds := [(PySem.Str.ofString "text", .str x t)]) ?k1 ?k2 ?k3 ?k4 ?k5 ?kA ?kF ?kK ?k6 ?k7 ?k8 ?k9 ?kB ?kD ?_ ?c2 ?c3 ?c4; (case kA => exact rfl); (case kF => exact rfl); (case kK => assumption); (case k1 => k_asm); (case k2 => k_asm); (case k3 => k_asm); (case k4 => k_asm); (case k5 => k_asm); (case k6 => k_is); (case k7 => k_is); (case k8 => ktr_room); (case k9 => exact BindsTo.of_eq rfl); (case kB => exact rfl); (case kD => decide +kernel); (case c2 => exact rfl); (case c3 => exact rfl); (case c4 => exact rfl); k_whole; intro g' L' h' tk' cells' FG' F' N' Y' B' X' T' l1; (try k_lt l1); k_cells Y'; (try simp only [List.cons_append, List.nil_append] at N'); (try dsimp only); (try k_fold))
    have o1 := allLt_ne l1.2 (Nat.le_succ L')
    have C1 := codeHd117 X'
    have hMk9 := kstMark
    rename_i hkIStream155 hkIStream156
    revert hx hoff F hret B T hk hd hu X N hc2 hd2 hv2 FG' F' B' X' T' l1 hkIStream156 N' o1 C1
    revert w x t st0 st h₀ L m s R p loose mean mg mb dp un gd cn cs a ccd cl outer A₀ base c1 c2 oc2 vs2 t2 g' L' h' tk' hkIStream155
    refine no_implicit_lambda% (hk36 7246649 ?hkdStream1 ?hkPStream1 ?hkGStream1)
    case hkdStream1 => exact (dWorld, ⟨#[]⟩, (0 : Nat), [], [], default, (0 : Nat), fun _ => none, {}, fun _ _ => True, default, [], fun _ => none, fun _ => none, fun _ => none, 0, 0, none, ⟨#[]⟩, default, (0 : Nat), .none, [], [], {}, default, (0 : Nat), (0 : Nat), dObj, #[], (0 : Nat), default, (0 : Nat), default, 0, dObj)
    refine (?hkFStream1 : ∀ x0 x1 x2 x3 x4 x5 x6 x7 x8 x9 x10 x11 x12 x13 x14 x15 x16 x17 x18 x19 x20 x21 x22 x23 x24 x25 x26 x27 x28 x29 x30 x31 x32 x33 x34 x35, ?hkPStream1 x0 x1 x2 x3 x4 x5 x6 x7 x8 x9 x10 x11 x12 x13 x14 x15 x16 x17 x18 x19 x20 x21 x22 x23 x24 x25 x26 x27 x28 x29 x30 x31 x32 x33 x34 x35) _ _ _ _ _ _ _ _ _ _ _ _ _ _ _ _ _ _ _ _ _ _ _ _ _ _ _ _ _ _ _ _ _ _ _ _
    intro w x t st0 st h₀ L m s R p loose mean mg mb dp un gd cn cs a ccd cl outer A₀ base c1 c2 oc2 vs2 t2 g' L' h' tk' _ hx hoff F hret B T hk hd hu X N hc2 hd2 hv2 FG' F' B' X' T' l1 _ N' o1 C1
    k_steps
    rename News _ _ _ _ => kN9
    rename Fr _ _ _ _ => kF9
    rename StrsAre _ _ => kS9
    refine stream_fin (pre := [_, _, _]) hret kF9 kN9 (by k_mem) (by k_mem) (by k_mem) (List.mem_append_right _ hc2) ?ho1 ?ho2 ?ho3 ?hap kS9 ?htb ?hrd
    case ho1 => simp only [List.cons_append, List.nil_append]; k_all
    case ho2 => k_ne
    case ho3 => simp only [List.cons_append, List.nil_append]; k_all
    case hap => simp only [List.cons_append, List.nil_append]; (repeat' (first | exact List.forall_mem_nil _ | refine List.forall_mem_cons.mpr ⟨?_, ?_⟩)) <;> (dsimp only; walk_at "mine tl")
    case htb => exact .inr ⟨_, _, _, _, _, rfl, List.mem_append_right _ hc2, by assumption, by assumption⟩
    case hrd =>
      refine reads1_intro fun st2 vs n t q1 q2 q3 off hn => ?_
      intro A h₀ L m s R S F N hret
      obtain ⟨p, loose, mean, mg, mb, dp, un, gd, cn, cs, a, ccd, cl, outer, A₀, base, rfl, B, X, T, hk, hd, hu⟩ := S
      revert X; k_fill; intro X
      have hMk9 := kstMark
      (refine' kla_code ?k1 ?k2 ?k3 ?k4 ?k5 ?kA ?kF ?kK ?k6 ?k7 ?k8 ?k9 ?kB ?_ ?c2 ?c3 ?c4 ?c5; (case kA => exact rfl); (case kF => exact rfl); (case kK => assumption); (case k1 => k_asm); (case k2 => k_asm); (case k3 => k_asm); (case k4 => k_asm); (case k5 => k_asm); (case k6 => k_mem); (case k7 => exact codeRec_news (by k_asm) (by k_mem) (by assumption) (by assumption)); (case k8 => ktr_room); (case k9 => exact rfl); (case c5 => decide); (case kB => exact locs rfl); (case c2 => exact rfl); (case c3 => exact rfl); (case c4 => exact rfl); k_whole; intro g' L' h' FG' F' N' B' X' T'; (try dsimp only); (try k_fold))
      have C1 := codeHd117 X'
      rcases vs with _ | ⟨v0, vr⟩
      · k_steps
        rename News _ _ _ _ => kN8
        rename Fr _ _ _ _ => kF8
        exact hret _ _ _ _ ⟨⟨_, rfl⟩, rfl⟩ kF8 (news_of kN8 fun p hp => .tail _ hp)
      · k_steps
        rename News _ _ _ _ => kN8
        rename Fr _ _ _ _ => kF8
        exact hret _ _ _ _ ⟨rfl, _, rfl⟩ kF8 (news_of kN8 fun p hp => .tail _ hp)
end Mine
end
section
open PySem PySem.W PyProof.Rows
namespace Mine
structure LexTok where
  (k1 k2 k3 k4 tl tw : Tok)
/-- the lexer's own dict -/
abbrev lexD (w : World) (k : LexTok) (ln : Int) (S pb : Addr) : Obj :=
  dictOf [⟨PyData.keyHash w.params (Str.ofString "lineno"), .str (Str.ofString "lineno") k.k1, .int ln k.tl⟩, ⟨PyData.keyHash w.params (Str.ofString "instream"), .str (Str.ofString "instream") k.k2, .ref S⟩,
    ⟨PyData.keyHash w.params (Str.ofString "whitespace"), .str (Str.ofString "whitespace") k.k3, .str (Str.ofString "\n\t\r ") k.tw⟩, ⟨PyData.keyHash w.params (Str.ofString "pushback"), .str (Str.ofString "pushback") k.k4, .ref pb⟩] 4
/-- what of a lexer does not turn -/
structure Lexer (w : World) (st : Led) (x d S pb l : Addr) : Prop where
  inst : (x, instObj 76 d) ∈ st
  back : (pb, listOf #[] 0) ∈ st
  stream : Stream w st S l
  offd : ∀ p ∈ st, p.1 ≠ d
  offl : ∀ p ∈ st, p.1 ≠ l
  dl : @Ne Nat d l
theorem Lexer.mono {w : World} {st st' : Led} {x d S pb l : Addr} (h : Lexer w st x d S pb l) (k : ∀ p ∈ st, p ∈ st') (o1 : ∀ p ∈ st', p.1 ≠ d) (o2 : ∀ p ∈ st', p.1 ≠ l) : Lexer w st' x d S pb l :=
  ⟨k _ h.inst, k _ h.back, h.stream.mono k, o1, o2, h.dl⟩
/-- how many line ends -/
def nl (c : Nat) : Int := if c = 10 then 1 else 0
/-- what one sign read leaves -/
def ReadPost (w : World) (cs : List Nat) (d S pb l : Addr) (k : LexTok) (ln : Int) (vs : List Value) (n : Nat) (st : Led) (v : Value) (led' : Led) : Prop := match cs with
  | [] => (∃ t, v = .str Str.empty t) ∧ led' = (d, lexD w k ln S pb) :: (l, listOf vs.toArray n) :: st
  | c :: cr => ∃ t vr n' k', v = .str (one c) t ∧ StrsAre vr (cr.map one) ∧ led' = (d, lexD w k' (ln + nl c) S pb) :: (l, listOf vr.toArray n') :: st
theorem one_nl : Str.ofString "\n" = one 10 := by decide +kernel
theorem nl_true {c : Nat} (h : (one c == Str.ofString "\n") = true) : nl c = 1 := by
  rw [one_nl] at h
  have e : one c = one 10 := eq_of_beq h
  have : c = 10 := by injection e with e; simpa using e
  simp [nl, this]
theorem nl_false {c : Nat} (h : (one c == Str.ofString "\n") = false) : nl c = 0 := by
  rw [one_nl] at h
  have : c ≠ 10 := by rintro rfl; simp at h
  simp [nl, this]
theorem news_drop3 {h₀ h : Heap} {L : Addr} {a b c : Addr × Obj} {l : Led} (N : News h₀ L h (a :: b :: c :: l)) : News h₀ L h (a :: b :: l) := news_of N fun p hp => by
  simp only [List.mem_cons] at hp ⊢
  rcases hp with h | h | h
  · exact .inl h
  · exact .inr (.inl h)
  · exact .inr (.inr (.inr h))
end Mine
end
section
open PySem PySem.W PyProof.Rows
namespace Mine
local macro_rules | `(tactic| walk_at $s:str) => `(tactic| k_extra $s)
local macro_rules | `(tactic| k_all) => `(tactic| k_extra "k_all")
local macro_rules | `(tactic| k_ne) => `(tactic| k_extra "k_ne")
local macro_rules | `(tactic| size_fits) => `(tactic| k_extra "size_fits")
local macro_rules | `(tactic| ktr_room) => `(tactic| k_extra "ktr_room")
local macro_rules | `(tactic| k_in) => `(tactic| k_extra "k_in")
local macro_rules | `(tactic| ktr_units) => `(tactic| k_extra "ktr_units")
set_option maxRecDepth 100000 in
set_option maxHeartbeats 8000000 in
theorem rc_con {w : World} (zs : List Nat) (vs : List Value) (hV : StrsAre vs (zs.map one)) (n : Nat) (x d S pb l : Addr) (k : LexTok) (ln : Int) (st : Led) (X₀ : Lexer w st x d S pb l) (hn : vs.length ≤ sizeLine) :
    Con w 59 [.ref x] ((d, lexD w k ln S pb) :: (l, listOf vs.toArray n) :: st) 6 30 (ReadPost w zs d S pb l k ln vs n st) := by
  k_with_none
  k_with "line" => (first | exact ln2 ‹_ < PySem.recursionLimit› rfl | exact ln2 ‹_ < PySem.cLine› rfl | exact ln1 ‹_ < PySem.recursionLimit› rfl | exact ln1 ‹_ < PySem.cLine› rfl | (simp only [ktrTop] at *; first | exact ln2 ‹_ < PySem.recursionLimit› rfl | exact ln2 ‹_ < PySem.cLine› rfl | exact ln1 ‹_ < PySem.recursionLimit› rfl | exact ln1 ‹_ < PySem.cLine› rfl | omega))
  k_with "pr" => ((intro hcW; first | exact hcW.1 | exact hcW.2.1 | exact hcW.2.2.1 | exact hcW.2.2.2.1 | exact hcW.2.2.2.2.1 | exact hcW.2.2.2.2.2.1 | exact hcW.2.2.2.2.2.2.1 | exact hcW.2.2.2.2.2.2.2.1 | exact hcW.2.2.2.2.2.2.2.2.1 | exact hcW.2.2.2.2.2.2.2.2.2.1 | exact hcW.2.2.2.2.2.2.2.2.2.2.1 | exact hcW.2.2.2.2.2.2.2.2.2.2.2.1))
  k_with "k_ne" => ((refine neN ?_; (try dsimp only); first | (with_reducible assumption) | exact Ne.symm (by with_reducible assumption) | (refine ne_c1 (by with_reducible assumption) ?_; walk_at "pr") | (refine ne_c2 (by with_reducible assumption) ?_; walk_at "pr") | (refine ne_c3 (by with_reducible assumption) ?_; walk_at "pr") | (refine ne_c4 (by with_reducible assumption) ?_; walk_at "pr") | (refine ne_f1 (by with_reducible assumption) ?_; walk_at "pr") | (refine ne_f2 (by with_reducible assumption) ?_; walk_at "pr") | (refine ne_d1 (by with_reducible assumption) (by with_reducible assumption) ?_; walk_at "pr") | (refine ne_d2 (by with_reducible assumption) (by with_reducible assumption) ?_; walk_at "pr") | exact Nat.ne_of_lt (by with_reducible assumption) | exact Nat.ne_of_gt (by with_reducible assumption) | exact Nat.succ_ne_self _ | exact (Nat.succ_ne_self _).symm | ((repeat (rename (@Ne Nat _ _) => hz9W; clear hz9W)); omega)))
  k_with "le" => (first | exact Nat.le_refl _ | exact Nat.le_of_lt (by with_reducible assumption) | exact Nat.le_succ _ | exact Nat.le_succ_of_le (Nat.le_succ _) | omega)
  k_with "ktr_room" => (exact lt_room (by assumption))
  k_with "ktr_units" => ((first | exact ln1 (by assumption) rfl | exact ln2 (by assumption) rfl | (simp only [units_in1, units_deeper, Around.mark_units, units_caller]; first | exact ln2 (by assumption) rfl | exact ln1 (by assumption) rfl)))
  k_with "k_in" => (first | (with_reducible assumption) | k_in_fast | exact Frag.In.keeps (by k_asm) (Fr.keep (by k_asm)))
  k_with "sz" => (first | exact le_n (by with_reducible assumption) rfl | omega)
  k_with "pt" => ((intro hcW; with_reducible first | exact hcW.2 | exact hcW.2.2 | exact hcW.2.2.2 | exact hcW.2.2.2.2 | exact hcW.2.2.2.2.2 | exact hcW.2.2.2.2.2.2 | exact hcW.2.2.2.2.2.2.2 | exact hcW.2.2.2.2.2.2.2.2 | exact hcW.2.2.2.2.2.2.2.2.2 | exact hcW.2.2.2.2.2.2.2.2.2.2 | exact hcW.2.2.2.2.2.2.2.2.2.2.2 | exact hcW.2.2.2.2.2.2.2.2.2.2.2.2))
  k_with "size_fits" => (exact Nat.le_of_ble_eq_true rfl)
  k_with "mine tl" => (first | (with_reducible assumption) | ((with_reducible rename AllLt _ _ => hl9W); first | exact allLt_ne hl9W (by walk_at "sz") | (clear hl9W; walk_at "mine tl")) | ((with_reducible rename (_ ∧ _) => hq9W); (have ha9W := hq9W.1); (have hb9W := hq9W.2); clear hq9W; walk_at "mine tl"))
  k_with "k_all" => (first | exact List.forall_mem_nil _ | (with_reducible assumption) | ((with_reducible show ∀ p ∈ _ :: _, _); refine' List.forall_mem_cons.mpr ⟨(by k_ne), (by k_all)⟩) | (refine tl_eq (by with_reducible assumption) ?_; walk_at "pt") | (refine tl_s (by with_reducible assumption) ?_; walk_at "pt") | (refine tl_t (by with_reducible assumption) ?_; walk_at "pt") | ((with_reducible rename AllLt _ _ => hl9W); with_reducible exact allLt_ne hl9W (by walk_at "le")) | (refine' List.forall_mem_cons.mpr ⟨(by k_ne), (by k_all)⟩) | walk_at "mine tl")
  k_with "call type:list" => (((k_here; (with_reducible show wpAny _ _ (call (Value.type _) [Value.str _ _]) _ _ _); k_dflt (refine' list_str_led (by exact rfl) (by k_asm) (by k_asm) (by assumption) ?_; k_whole); intro l' h' tk' vs' n' F' N' l1 S'; (try k_lt l1))); (first | revert l' h' tk' vs' n' F' N' l1 S' | ((try revert S'); (try revert l1); (try revert N'); (try revert F'); (try revert n'); (try revert vs'); (try revert tk'); (try revert h'); (try revert l'))); (try intros))
  k_with "setAttr ref" => (((k_here; (with_reducible show wpAny _ _ (setAttr (Value.ref _) _ _) _ _ _); k_dflt (refine' fn_setAttr_led (by k_asm) (by k_asm) (by k_updF) (by exact fn_no_read) ?_; k_whole); intro D' h' kt' tk' F' N' l1; (try dsimp only at N'); (try k_lt l1); (try k_sweep))); (first | revert D' h' kt' tk' F' N' l1 | ((try revert l1); (try revert N'); (try revert F'); (try revert tk'); (try revert kt'); (try revert h'); (try revert D'))); (try intros))
  k_with "getMethod ref" => ((k_here; k_dflt (refine' fn_method_led (by k_asm) (by k_mem) (by k_mem) (by rfl) (by exact fn_no_read) (by rfl) ?_; k_whole)))
  k_with "compareOp NotEq ref ref" => ((k_here; k_dflt (first | (refine' ne_nil_nil (by k_asm) (by k_mem) (by k_mem) (by ktr_units) ?_; k_whole) | (refine' ne_cons_nil (by k_asm) (by k_mem) (by k_mem) (by ktr_units) ?_; k_whole))))
  k_with "call builtin:list.pop" => (((k_here; k_dflt (refine' pop0_led (by k_asm) (by k_asm) (by k_upd) (by assumption) ?_; k_whole); intro h' F' N'; (try k_sweep))); (first | revert h' F' N' | ((try revert N'); (try revert F'); (try revert h'))); (try intros))
  k_with "mine enter" => (first | (refine' code_def (by k_asm) (by k_asm) (by k_asm) (by k_asm) (by k_asm) (by exact rfl) (by exact rfl) (by (first | exact rfl | assumption)) (by k_is) (by k_is) (by ktr_room) (by exact BindsTo.of_eq rfl) (by exact locs rfl) ?_ (by exact rfl) (by exact rfl) (by exact rfl) (by decide); k_whole; intro g' L' h' FG' F' N' B' X' T'; (try dsimp only); (first | revert g' L' h' FG' F' N' B' X' T' | ((try revert T'); (try revert X'); (try revert B'); (try revert N'); (try revert F'); (try revert FG'); (try revert h'); (try revert L'); (try revert g'))); (try intros); (try k_fold)) | (refine' code_defC (by k_asm) (by k_asm) (by k_asm) (by k_asm) (by k_asm) (by exact rfl) (by exact rfl) (by (first | exact rfl | assumption)) (by k_is) (by k_is) (by ktr_room) (by exact BindsTo.of_eq rfl) (by exact rfl) (by decide +kernel) ?_ (by exact rfl) (by exact rfl) (by exact rfl); k_whole; intro g' L' h' tk' cells' FG' F' N' Y' B' X' T' l1; (try k_lt l1); k_cells Y'; (try simp only [List.cons_append, List.nil_append] at N'); (try dsimp only); (first | revert g' L' h' tk' cells' FG' F' N' Y' B' X' T' l1 | ((try revert l1); (try revert T'); (try revert X'); (try revert B'); (try revert Y'); (try revert N'); (try revert F'); (try revert FG'); (try revert cells'); (try revert tk'); (try revert h'); (try revert L'); (try revert g'))); (try intros); (try k_fold)))
  k_with "mine new" => ((k_dflt (refine' call_cls (by k_asm) (by k_asm) (by k_asm) (by k_is) (by k_is) (by k_is) ?_; k_whole; intro x' d' h' F' N' l1 l2; (try k_lt l1); (try k_lt2 l2); (try k_sweep); (first | revert x' d' h' F' N' l1 l2 | ((try revert l2); (try revert l1); (try revert N'); (try revert F'); (try revert h'); (try revert d'); (try revert x'))); (try intros); walk_at "mine enter")))
  have X₁ := X₀
  obtain ⟨hinst, hback, ⟨Sd, Rd, fR, c2, oc2, cl0, ocl, fd, sl, kt, hS, hSd, hR, hc2, hcl, hrd⟩, offd, offl, hdl⟩ := X₁
  intro A h₀ L m s R S F N hret
  obtain ⟨p, loose, mean, mg, mb, dp, un, gd, cn, cs, a, ccd, cl, outer, A₀, base, rfl, B, X, T, hk, hd, hu⟩ := S
  revert X; k_fill; intro X
  replace N := news_of (l' := (d, lexD w k ln S pb) :: (l, listOf vs.toArray n) :: (x, instObj 76 d) :: (S, (⟨.type "function", some Sd, .func fd, sl⟩ : Obj)) :: (Sd, dictOf [⟨PyData.keyHash w.params (Str.ofString "read"), .str (Str.ofString "read") kt, .ref Rd⟩] 1) :: (Rd, ({ cls := .type "function", data := .func fR } : Obj)) :: st) N (fun p hp => by
    simp only [List.mem_cons] at hp ⊢
    rcases hp with h | h | h | h | h | h | h
    · exact .inl h
    · exact .inr (.inl h)
    · exact .inr (.inr (h ▸ hinst))
    · exact .inr (.inr (h ▸ hS))
    · exact .inr (.inr (h ▸ hSd))
    · exact .inr (.inr (h ▸ hR))
    · exact .inr (.inr h))
  (refine' code_def (binds := [(PySem.Str.ofString "self", .ref x)]) ?k1 ?k2 ?k3 ?k4 ?k5 ?kA ?kF ?kK ?k6 ?k7 ?k8 ?k9 ?kB ?_ ?c2 ?c3 ?c4 ?c5; (case kA => exact rfl); (case kF => exact rfl); (case kK => assumption); (case k1 => k_asm); (case k2 => k_asm); (case k3 => k_asm); (case k4 => k_asm); (case k5 => k_asm); (case k6 => k_is); (case k7 => k_is); (case k8 => ktr_room); (case k9 => exact BindsTo.of_eq rfl); (case c5 => decide); (case kB => exact locs rfl); (case c2 => exact rfl); (case c3 => exact rfl); (case c4 => exact rfl); k_whole; intro g' L' h' FG' F' N' B' X' T'; (try dsimp only); (try k_fold))
  have hMk9 := kstMark
  have C1 := codeHd117 X'
  try subst ek
  try subst qk
  revert hV X₀ hn hinst hback offd offl hdl hS hSd hR hc2 hcl hrd F hret B T hk hd hu X N FG' F' N' B' X' T' C1
  revert w zs vs n x d S pb l k ln st Sd Rd fR c2 oc2 cl0 ocl fd sl kt h₀ L m s R p loose mean mg mb dp un gd cn cs a ccd cl outer A₀ base g' L' h'
  refine no_implicit_lambda% (hk46 77287 ?hkdReadChar0 ?hkPReadChar0 ?hkGReadChar0)
  case hkdReadChar0 => exact (dWorld, [], [], 0, (0 : Nat), (0 : Nat), (0 : Nat), (0 : Nat), (0 : Nat), ⟨0, 0, 0, 0, 0, 0⟩, 0, [], (0 : Nat), (0 : Nat), default, (0 : Nat), dObj, (0 : Nat), dObj, default, #[], (0 : Nat), default, (0 : Nat), fun _ => none, {}, fun _ _ => True, default, [], fun _ => none, fun _ => none, fun _ => none, 0, 0, none, ⟨#[]⟩, default, (0 : Nat), .none, [], [], {}, default, default, (0 : Nat), default)
  refine (?hkFReadChar0 : ∀ x0 x1 x2 x3 x4 x5 x6 x7 x8 x9 x10 x11 x12 x13 x14 x15 x16 x17 x18 x19 x20 x21 x22 x23 x24 x25 x26 x27 x28 x29 x30 x31 x32 x33 x34 x35 x36 x37 x38 x39 x40 x41 x42 x43 x44 x45, ?hkPReadChar0 x0 x1 x2 x3 x4 x5 x6 x7 x8 x9 x10 x11 x12 x13 x14 x15 x16 x17 x18 x19 x20 x21 x22 x23 x24 x25 x26 x27 x28 x29 x30 x31 x32 x33 x34 x35 x36 x37 x38 x39 x40 x41 x42 x43 x44 x45) _ _ _ _ _ _ _ _ _ _ _ _ _ _ _ _ _ _ _ _ _ _ _ _ _ _ _ _ _ _ _ _ _ _ _ _ _ _ _ _ _ _ _ _ _ _
  intro w zs vs n x d S pb l k ln st Sd Rd fR c2 oc2 cl0 ocl fd sl kt h₀ L m s R p loose mean mg mb dp un gd cn cs a ccd cl outer A₀ base g' L' h' hV X₀ hn hinst hback offd offl hdl hS hSd hR hc2 hcl hrd F hret B T hk hd hu X N FG' F' N' B' X' T' C1
  (try k_fold)
  k_steps
  have N3 := news_of (l' := (l, listOf vs.toArray n) :: (d, lexD w k ln S pb) :: st) N' (fun p hp => by
    simp only [List.mem_cons] at hp ⊢
    rcases hp with h | h | h
    · exact .inr (.inl h)
    · exact .inl h
    · exact .inr (.inr (.inr (.inr (.inr (.inr h))))))
  refine' (hrd ((d, lexD w k ln S pb) :: st) vs n _ (.tail _ hR) (.tail _ hc2) (.tail _ hcl) (List.forall_mem_cons.mpr ⟨hdl, offl⟩) hn).call (Site.mk B' X' T' rfl (by walk_at "line") (by walk_at "line")) F' N3 ?_
  intro v led' h' tk' hP F'' N''
  (try dsimp only)
  rcases zs with _ | ⟨c, cr⟩
  · cases hV
    obtain ⟨⟨t, rfl⟩, rfl⟩ := hP
    have N4 := news_of (l' := (d, lexD w k ln S pb) :: (l, listOf [].toArray n) :: (x, instObj 76 d) :: st) N'' (fun p hp => by
      simp only [List.mem_cons] at hp ⊢
      rcases hp with h | h | h | h
      · exact .inr (.inl h)
      · exact .inl h
      · exact .inr (.inr (h ▸ hinst))
      · exact .inr (.inr h))
    clear N3 N'' N'
    k_steps
    rename News _ _ _ _ => kN8
    rename Fr _ _ _ _ => kF8
    exact hret _ _ _ _ ⟨⟨_, rfl⟩, rfl⟩ kF8 (news_drop3 kN8)
  · rcases vs with _ | ⟨v0, vr⟩
    · cases hV
    obtain ⟨rfl, n', rfl⟩ := hP
    obtain ⟨t0, rfl, hV'⟩ : ∃ t0, v = .str (one c) t0 ∧ StrsAre vr (cr.map one) := by cases hV with | cons _ t h => exact ⟨t, rfl, h⟩
    have N4 := news_of (l' := (d, lexD w k ln S pb) :: (l, listOf vr.toArray n') :: (x, instObj 76 d) :: st) N'' (fun p hp => by
      simp only [List.mem_cons] at hp ⊢
      rcases hp with h | h | h | h
      · exact .inr (.inl h)
      · exact .inl h
      · exact .inr (.inr (h ▸ hinst))
      · exact .inr (.inr h))
    clear N3 N'' N'
    have hxd := neN (offd _ hinst)
    k_steps
    · rename News _ _ _ _ => kN8
      rename Fr _ _ _ _ => kF8
      have e := nl_true (c := c) (by assumption)
      rw [show ln + 1 = ln + nl c from by rw [e]] at kN8
      generalize hb : (Shared.toks _) = tb at kN8
      have kN7 : News h₀ L _ ((d, lexD w ⟨k.k1, k.k2, k.k3, k.k4, tb, k.tw⟩ (ln + nl c) S pb) :: (l, listOf vr.toArray n') :: (x, instObj 76 d) :: st) := kN8
      exact hret _ _ _ _ ⟨_, _, _, ⟨k.k1, k.k2, k.k3, k.k4, _, k.tw⟩, rfl, hV', rfl⟩ kF8 (news_drop3 kN7)
    · rename News _ _ _ _ => kN8
      rename Fr _ _ _ _ => kF8
      have e := nl_false (c := c) (by assumption)
      exact hret _ _ _ _ ⟨_, _, _, k, rfl, hV', rfl⟩ kF8 (by rw [e, Int.add_zero]; exact news_drop3 kN8)
end Mine
end
section
open PySem PySem.W PyProof.Rows PySem.Builtin PySem.Calls PySem.Builtin.SmallTypes
set_option maxRecDepth 100000
namespace Mine
/-- what iter(f, '') makes -/
abbrev citer (q : Addr) (t : Tok) : Obj := { cls := .type "callable_iterator", data := .fields #[.ref q, .str Str.empty t, .bool false] }
abbrev citerEnd : Obj := { cls := .type "callable_iterator", data := .fields #[.none, .none, .bool true] }
theorem ci_slot_next : Slot "callable_iterator" "__next__" "callable_iterator.__next__" :=
  .of (owner := "callable_iterator") (n := "__next__") (by rw [typeLookup_type, builtinLookup_eq_fast]; kernel_rfl) (by decide +kernel) (by decide +kernel) (by decide +kernel)
    (by first | exact .inl (by decide +kernel) | exact .inr (by decide +kernel)) (by rw [isSubtype_type]; kernel_rfl)
theorem ci_slot_iter : Slot "callable_iterator" "__iter__" "callable_iterator.__iter__" :=
  .of (owner := "callable_iterator") (n := "__iter__") (by rw [typeLookup_type, builtinLookup_eq_fast]; kernel_rfl) (by decide +kernel) (by decide +kernel) (by decide +kernel)
    (by first | exact .inl (by decide +kernel) | exact .inr (by decide +kernel)) (by rw [isSubtype_type]; kernel_rfl)
theorem ci_entry_next : entryFor table "callable_iterator.__next__" = some Builtin.«callable_iterator.__next__» := entryFor_of_fast (by kernel_rfl)
theorem ci_entry_iter : entryFor table "callable_iterator.__iter__" = some Builtin.«dict_keyiterator.__iter__» :=
  entryFor_alias (id' := "dict_keyiterator.__iter__") (by kernel_rfl) rfl (by decide +kernel) (by kernel_rfl)
theorem ci_args_next (a : Value) : argsOk "callable_iterator.__next__" ⟨[a], []⟩ := by unfold argsOk; kernel_rfl
theorem ci_args_iter (a : Value) : argsOk "callable_iterator.__iter__" ⟨[a], []⟩ := by unfold argsOk; kernel_rfl
theorem iter_kind : builtinKind "iter" = none := by decide +kernel
theorem iter_plain : plainId "iter" = true := by decide +kernel
theorem iter_entry : entryFor table "iter" = some Builtin.«iter» := entryFor_of_fast (by kernel_rfl)
theorem iter_args (a b : Value) : argsOk "iter" ⟨[a, b], []⟩ := by unfold argsOk; kernel_rfl
theorem meth_call : typeLookup (.type "method") "__call__" = pure (some (.builtin "method.__call__")) := by rw [typeLookup_type, builtinLookup_eq_fast]; kernel_rfl
theorem callBorrowed_eq (f : Value) (pos : List Value) : callBorrowed f pos = (call f pos).keep [borrowed] := by
  show Sem.call (.call f ⟨pos, []⟩) none false [borrowed] _ = Sem.call (.call f ⟨pos, []⟩) none false [borrowed] _
  congr 1
  funext r
  rcases r with e | r
  · rfl
  · cases r <;> rfl
section
variable {prog : Program} {w : World} {A : Around} {E : Value → Shared → Prop} {s : Shared} {h₀ : Heap} {L : Addr} {m : Str → Option Value} {led : Led}
theorem iter2_led {q : Addr} {f self : Value} {t : Tok} {Q : Value → Shared → Prop} (F : Fr h₀ L s.heap m) (N : News h₀ L s.heap led) (hq : (q, methodObj f self) ∈ led)
    (h : ∀ it h', Fr h₀ L h' m → News h₀ L h' ((it, citer q t) :: led) → (∀ p ∈ led, p.1 < it) → Q (.ref it) { s with heap := h' }) :
    wpAny (model prog w) A (call (.builtin "iter") [.ref q, .str Str.empty t]) Q E s := by
  refine call_function_entry iter_kind iter_plain iter_entry (iter_args _ _) ?_
  unfold Builtin.«iter»
  refine wpAny_bind (m := someArgs "iter" 1 2 _) (wpAny_pure ?_)
  dsimp only
  refine wpAny_bind (wpAny_specialOf ⟨_, (N _ hq).1, rfl⟩ meth_call ?_)
  rw [if_neg (by decide)]
  refine wpAny_bind (wpAny_rule ?_)
  refine wpAny_bind (m := newFields _ _) (wpAny_newObj_type (wpAny_pure ⟨_, rfl, ?_⟩) (by size_fits))
  refine h _ _ (F.push _) (fun p hp => ?_) (fun p hp => Heap.lt_size (N p hp).1)
  rcases List.mem_cons.mp hp with rfl | hp
  · refine ⟨Heap.get?_push_size _ rfl, ?_, ?_⟩
    · intro e
      have := F.ns.lt
      rw [← e] at this
      exact Nat.lt_irrefl _ this
    · cases e : h₀.get? s.heap.objs.size with
      | none => rfl
      | some o => exact absurd (Heap.lt_size (F.keep _ _ e)) (Nat.lt_irrefl _)
  · exact ⟨Heap.get?_push_of_some _ (N p hp).1, (N p hp).2⟩
theorem ci_pyIter {it : Addr} {o : Obj} {Q : Value → Shared → Prop} (ho : s.heap.get? it = some o) (hc : o.cls = .type "callable_iterator") (h : Q (.ref it) s) :
    wpAny (model prog w) A (pyIter (.ref it)) Q E s := by
  refine wpAny_pyIter_slot ⟨_, ho, hc⟩ ci_slot_iter (wpAny_call_entry ci_slot_iter ⟨_, ho, hc⟩ ci_entry_iter ?_ (ci_args_iter _))
  show wpAny _ _ (ret (.ref it)) _ _ s
  exact wpAny_pure ⟨_, rfl, "callable_iterator", _, ⟨_, ho, hc⟩, ci_slot_next.lookup, h⟩
/-- StopIteration out of a __next__: the walk ends -/
theorem ci_stop {α : Type} {Q : α → Shared → Prop} {E : Value → Shared → Prop} (hh : A.handled = none)
    (h : ∀ e h' , (∀ b o, s.heap.get? b = some o → h'.get? b = some o) → (∃ o, h'.get? e = some o ∧ o.cls = .type "StopIteration") → E (.ref e) { s with heap := h' }) :
    wpAny (model prog w) A (stopIteration : Sem α) Q E s := by
  unfold stopIteration
  refine wpAny_bind ?_
  simp only [newExc, newTuple]
  refine wpAny_bind (wpAny_newObj_type ?_ (by size_fits))
  refine wpAny_bind (m := firstArgMember _ _) (wpAny_of_eq (a := Value.none) (by first | rfl | (simp only [firstArgMember]; rfl)) ?_)
  refine wpAny_newObj_type ?_ (by size_fits)
  refine wpAny_raiseNew_none hh ?_
  exact h _ _ (fun b o hb => Heap.get?_push_of_some _ (Heap.get?_push_of_some _ hb)) ⟨_, Heap.get?_push_size _ rfl, rfl⟩
theorem ci_borrows {q f : Addr} {self : Value} {fo : Obj} {fd : FuncData} {Q : Bool → Shared → Prop} (hq : s.heap.get? q = some (methodObj (.ref f) self)) (hf : s.heap.get? f = some fo) (hd : fo.data = .func fd)
    (h : Q true s) : wpAny (model prog w) A (borrowsExactly (.ref q)) Q E s := by
  unfold borrowsExactly
  refine wpAny_bind (wpAny_load hq ?_)
  dsimp only
  rw [if_pos (by decide)]
  refine wpAny_bind (wpAny_load hf ?_)
  rw [hd]
  exact wpAny_pure h
theorem ci_next_ended {it : Addr} {Q : Option Value → Shared → Prop} (hh : A.handled = none) (ho : s.heap.get? it = some citerEnd)
    (h : ∀ h' , (∀ b o, s.heap.get? b = some o → h'.get? b = some o) → Q none { s with heap := h' }) :
    wpAny (model prog w) A (pyNext (.ref it)) Q E s := by
  unfold pyNext
  refine wpAny_bind (wpAny_attempt (wpAny_callSpecial?_slot (name := Str.ofString "__next__") ⟨_, ho, rfl⟩ ci_slot_next
    (wpAny_call_entry ci_slot_next ⟨_, ho, rfl⟩ ci_entry_next ?_ (ci_args_next _))))
  show wpAny _ _ (field (.ref it) 2 >>= _) _ _ s
  refine wpAny_bind (wpAny_field ho rfl (x := .bool true) rfl ?_)
  dsimp only
  rw [if_pos (by decide)]
  refine wpAny_bind (wpAny_rule ?_)
  refine wpAny_bind (ci_stop (by exact hh) fun e h' hk he => ?_)
  obtain ⟨o, he, hc⟩ := he
  refine wpAny_bind (wpAny_isInstance (T := "StopIteration") (b := true) ⟨_, he, hc⟩ isSubtype_stop ?_)
  exact wpAny_pure (h _ hk)
theorem ci_next {it q f : Addr} {self : Value} {t : Tok} {led : Led} {dN uN : Nat} {P : Value → Led → Prop} {R0 : Result → Shared → Prop} {Q : Option Value → Shared → Prop}
    (c : Con w f [self] led dN uN P) (S : Site w dN (uN + 1) A h₀ L) (F : Fr h₀ L s.heap m) (N : News h₀ L s.heap led)
    (hit : (it, citer q t) ∈ led) (hq : (q, methodObj (.ref f) self) ∈ led) {fo : Obj} {fd : FuncData} (hf : (Mine.K w.params).lookup f = some fo) (hfd : fo.data = .func fd)
    (h : ∀ v led' h' tk', P v led' → Fr h₀ L h' m → News h₀ L h' led' → ∃ x u led2, v = .str x u ∧ (x ≠ Str.empty → (it, citer q t) ∈ led' ∧ Q (some v) { s with heap := h', toks := tk' }) ∧
      (x = Str.empty → (q, methodObj (.ref f) self) ∈ led' ∧ Upd it (citer q t) citerEnd led' led2 ∧ ∀ h'', Fr h₀ L h'' m → News h₀ L h'' led2 → Q none { s with heap := h'', toks := tk' })) :
    wpAny (model PySem.Challenge.rw_in0213_01.row.prog w) A (pyNext (.ref it)) Q E s := by
  have hh : A.in1.handled = none := S.in1.handled
  unfold pyNext
  have ho := (N _ hit).1
  refine wpAny_bind (wpAny_attempt (wpAny_callSpecial?_slot (name := Str.ofString "__next__") ⟨_, ho, rfl⟩ ci_slot_next
    (wpAny_call_entry ci_slot_next ⟨_, ho, rfl⟩ ci_entry_next ?_ (ci_args_next _))))
  show wpAny _ _ (field (.ref it) 2 >>= _) _ _ s
  refine wpAny_bind (wpAny_field ho rfl (x := .bool false) rfl ?_)
  dsimp only
  rw [if_neg (by decide)]
  refine wpAny_bind (wpAny_field ho rfl (x := .ref q) rfl ?_)
  refine wpAny_bind (wpAny_attempt ?_)
  unfold callOutOfASlot
  refine wpAny_bind (ci_borrows (N _ hq).1 (F.keep _ _ (S.part _ _ hf)) hfd ?_)
  rw [if_pos rfl, callBorrowed_eq]
  refine wpAny_keep (wpAny_call (method_call (N _ hq).1 ?_))
  refine c _ _ _ _ _ _ S.in1 F N fun v led' h' tk' hP F' N' => ?_
  obtain ⟨x, u, led2, rfl, h1, h2⟩ := h v led' h' tk' hP F' N'
  dsimp only
  by_cases hx : x = Str.empty
  · obtain ⟨hq', U, h3⟩ := h2 hx
    obtain ⟨pre, post, rfl, rfl, ua, ub⟩ := U.split
    have ho' := (N' (it, citer q t) (List.mem_append_right _ (.head _)))
    refine wpAny_bind (wpAny_field ho'.1 rfl (x := .bool false) rfl ?_)
    rw [if_neg (by decide)]
    refine wpAny_bind (wpAny_field ho'.1 rfl (x := .str Str.empty t) rfl ?_)
    refine wpAny_bind (wpAny_holding (eqBool_str ?_))
    subst hx
    rw [if_neg (by simp)]
    refine wpAny_bind (wpAny_rule ?_)
    refine wpAny_bind ?_
    show wpAny _ _ (field (.ref it) 0 >>= _) _ _ _
    refine wpAny_bind (wpAny_field ho'.1 rfl (x := .ref q) rfl ?_)
    refine wpAny_bind ?_
    unfold slotLetsGo
    dsimp only
    refine wpAny_bind (ci_borrows (N' _ hq').1 (F'.keep _ _ (S.part _ _ hf)) hfd ?_)
    rw [if_pos rfl]
    refine wpAny_pure ?_
    refine wpAny_bind (wpAny_setField_rec ho'.1 (by simp) fun g1 e1 s1 => ?_)
    refine wpAny_bind (wpAny_setField_rec e1 (by simp) fun g2 e2 s2 => ?_)
    refine wpAny_setField_rec e2 (by simp) fun g3 e3 s3 => ?_
    refine ci_stop (by exact hh) fun e g4 hk he => ?_
    obtain ⟨o, he, hc⟩ := he
    have sb := (s1.trans s2).trans s3
    have F3 : Fr h₀ L g4 m := (F'.change sb ho'.2.1 ho'.2.2).keeps hk
    have N3 := news_set N' ua ub sb e3
    have N4 : News h₀ L g4 (pre ++ (it, citerEnd) :: post) := fun p hp => ⟨hk _ _ (N3 p hp).1, (N3 p hp).2⟩
    refine wpAny_bind (wpAny_isInstance (T := "StopIteration") (b := true) ⟨_, he, hc⟩ isSubtype_stop ?_)
    exact wpAny_pure (h3 _ F3 N4)
  · obtain ⟨hit', h3⟩ := h1 hx
    have ho' := (N' _ hit').1
    refine wpAny_bind (wpAny_field ho' rfl (x := .bool false) rfl ?_)
    rw [if_neg (by decide)]
    refine wpAny_bind (wpAny_field ho' rfl (x := .str Str.empty t) rfl ?_)
    refine wpAny_bind (wpAny_holding (eqBool_str ?_))
    rw [if_pos (by simpa using fun e => hx e.symm)]
    exact wpAny_bind (wpAny_pure (wpAny_pure ⟨_, rfl, wpAny_pure h3⟩))
end
end Mine
end
section
open PySem PySem.W PyProof.Rows
set_option maxRecDepth 100000
namespace Mine
theorem strsAre_len {vs : List Value} {ss : List Str} (h : StrsAre vs ss) : vs.length = ss.length := by
  induction h with
  | nil => rfl
  | cons _ _ _ ih => exact congrArg (· + 1) ih
/-- the ledger while get_token walks -/
abbrev lexLed (w : World) (k : LexTok) (ln : Int) (d S pb l : Addr) (vs : List Value) (n : Nat) (it : Addr) (io : Obj) (q x : Addr) (st : Led) : Led :=
  (d, lexD w k ln S pb) :: (l, listOf vs.toArray n) :: (it, io) :: (q, methodObj (.ref 59) (.ref x)) :: st
structure LexOff (d l it q : Addr) (st : Led) : Prop where
  di : @Ne Nat d it
  li : @Ne Nat l it
  qi : @Ne Nat q it
  qd : @Ne Nat q d
  ql : @Ne Nat q l
  st : ∀ p ∈ st, p.1 ≠ it
theorem Lexer.with {w : World} {st : Led} {x d S pb l it q : Addr} {io qo : Obj} (X : Lexer w st x d S pb l) (O : LexOff d l it q st) : Lexer w ((it, io) :: (q, qo) :: st) x d S pb l :=
  X.mono (fun p hp => .tail _ (.tail _ hp)) (List.forall_mem_cons.mpr ⟨O.di.symm, List.forall_mem_cons.mpr ⟨O.qd, X.offd⟩⟩) (List.forall_mem_cons.mpr ⟨O.li.symm, List.forall_mem_cons.mpr ⟨O.ql, X.offl⟩⟩)
theorem one_ne_empty (c : Nat) : one c ≠ Str.empty := by intro e; injection e with e; simp at e
theorem fr_eq {h₀ h : Heap} {L : Addr} {m m' : Str → Option Value} (F : Fr h₀ L h m) (e : ∀ y, m y = m' y) : Fr h₀ L h m' := by rw [← funext e]; exact F
section
variable {w : World} {A : Around} {E : Value → Shared → Prop} {s : Shared} {h₀ : Heap} {L : Addr} {m : Str → Option Value} {led : Led}
theorem fn59 : ∃ o fd, (Mine.K w.params).lookup 59 = some o ∧ o.data = .func fd := ⟨_, _, rfl, rfl⟩
theorem lex_next {zs : List Nat} {vs : List Value} (hV : StrsAre vs (zs.map one)) {n : Nat} {x d S pb l it q : Addr} {k : LexTok} {ln : Int} {st : Led} {t : Tok} (X : Lexer w st x d S pb l) (O : LexOff d l it q st) (hn : zs.length ≤ sizeLine)
    {Q : Option Value → Shared → Prop} (St : Site w 6 31 A h₀ L) (F : Fr h₀ L s.heap m) (N : News h₀ L s.heap (lexLed w k ln d S pb l vs n it (citer q t) q x st))
    (h0 : zs = [] → ∀ h' tk', Fr h₀ L h' m → News h₀ L h' (lexLed w k ln d S pb l [] n it citerEnd q x st) → Q none { s with heap := h', toks := tk' })
    (h1 : ∀ c cr, zs = c :: cr → ∀ u vr n' k' h' tk', StrsAre vr (cr.map one) → Fr h₀ L h' m → News h₀ L h' (lexLed w k' (ln + nl c) d S pb l vr n' it (citer q t) q x st) → Q (some (.str (one c) u)) { s with heap := h', toks := tk' }) :
    wpAny (model PySem.Challenge.rw_in0213_01.row.prog w) A (pyNext (.ref it)) Q E s := by
  obtain ⟨fo, fd, hf, hfd⟩ := fn59 (w := w)
  refine ci_next (it := it) (q := q) (f := 59) (self := .ref x) (t := t) (R0 := fun _ _ => True) (rc_con zs vs hV n x d S pb l k ln ((it, citer q t) :: (q, methodObj (.ref 59) (.ref x)) :: st) (X.with O) (by rw [strsAre_len hV]; simpa using hn)) St F N
    (.tail _ (.tail _ (.head _))) (.tail _ (.tail _ (.tail _ (.head _)))) hf hfd fun v led' h' tk' hP F' N' => ?_
  cases zs with
  | nil =>
    cases hV
    obtain ⟨⟨u, rfl⟩, rfl⟩ := hP
    refine ⟨_, u, lexLed w k ln d S pb l [] n it citerEnd q x st, rfl, fun e => absurd rfl e, fun _ => ⟨.tail _ (.tail _ (.tail _ (.head _))), .tail O.di (.tail O.li (.head (List.forall_mem_cons.mpr ⟨O.qi, O.st⟩))), fun h'' F'' N'' => h0 rfl _ _ F'' N''⟩⟩
  | cons c cr =>
    obtain ⟨u, vr, n', k', rfl, hV', rfl⟩ := hP
    refine ⟨_, u, [], rfl, fun _ => ⟨.tail _ (.tail _ (.head _)), h1 c cr rfl u vr n' k' h' tk' hV' F' N'⟩, fun e => absurd e (one_ne_empty c)⟩
end
/-- what is read within quotes -/
def quot : List Nat → List Nat × List Nat
  | [] => ([], [])
  | 34 :: r => ([], r)
  | [92] => ([], [])
  | 92 :: c :: r => (c :: (quot r).1, (quot r).2)
  | c :: r => (c :: (quot r).1, (quot r).2)
def isWs (c : Nat) : Bool := c == 10 || c == 9 || c == 13 || c == 32
/-- what is read without quotes -/
def bare : List Nat → List Nat × List Nat
  | [] => ([], [])
  | c :: r => if isWs c then ([], r) else if c = 92 then (match r with | [] => ([], []) | e :: r' => (e :: (bare r').1, (bare r').2)) else (c :: (bare r).1, (bare r).2)
def tokRun : List Nat → List Nat × List Nat
  | [] => ([], [])
  | c :: r => if isWs c then tokRun r else if c = 34 then quot r else bare (c :: r)
def nls : List Nat → Int
  | [] => 0
  | c :: r => nl c + nls r
theorem str_push (pre : List Nat) (c : Nat) : ((⟨pre.toArray⟩ : Str) ++ one c) = ⟨(pre ++ [c]).toArray⟩ := by
  show Str.mk (pre.toArray ++ #[c]) = _
  simp
theorem str_push0 (pre : List Nat) : ((⟨pre.toArray⟩ : Str) ++ Str.empty) = ⟨pre.toArray⟩ := by
  show Str.mk (pre.toArray ++ #[]) = _
  simp
theorem len_mk (pre : List Nat) : Str.length ⟨pre.toArray⟩ = pre.length := by show pre.toArray.size = _; simp
theorem szr {p z S : Nat} (h : p + z ≤ S) : z ≤ S := Nat.le_trans (Nat.le_add_left _ _) h
theorem szv {p S : Nat} {vr : List Value} {cr : List Nat} (hV : StrsAre vr (cr.map one)) (h : p + (cr.length + 1) ≤ S) : vr.length ≤ S := by
  rw [strsAre_len hV, List.length_map]
  exact Nat.le_trans (Nat.le_succ _) (szr h)
theorem szt {p z : List Nat} {S : Nat} (h : p.length + (z.length + 1) ≤ S) : p.length + z.length ≤ S := Nat.le_of_succ_le h
theorem szs {p z : List Nat} {c S : Nat} (h : p.length + (z.length + 1) ≤ S) : (p ++ [c]).length + z.length ≤ S := by
  rw [List.length_append, Nat.add_assoc, Nat.add_comm [c].length]
  exact h
theorem szs2 {p z : List Nat} {c S : Nat} (h : p.length + (z.length + 1 + 1) ≤ S) : (p ++ [c]).length + z.length ≤ S := szs (Nat.le_of_succ_le h)
theorem sz0 {p : List Nat} {x S : Nat} (h : p.length + x ≤ S) : p.length + ([] : List Nat).length ≤ S := Nat.le_trans (Nat.le_add_right _ _) h
theorem sza {p : List Nat} {x S : Nat} (h : p.length + (x + 1) ≤ S) : Str.length ⟨p.toArray⟩ + 1 ≤ S := by
  rw [len_mk]
  exact Nat.le_trans (Nat.add_le_add_left (Nat.le_add_left 1 x) _) h
theorem sza0 {p : List Nat} {x S : Nat} (h : p.length + x ≤ S) : Str.length ⟨p.toArray⟩ + 0 ≤ S := by
  rw [len_mk]
  exact Nat.le_trans (Nat.le_add_right _ _) h
theorem nl_a {l a r T : Int} (h : l + (a + r) = T) : l + a + r = T := (Int.add_assoc l a r).trans h
theorem nl_b {l a b r T : Int} (h : l + (a + (b + r)) = T) : l + a + b + r = T := nl_a (nl_a h)
theorem ws_cps : (Str.ofString "\n\t\r ").cps.toList = [10, 9, 13, 32] := by decide +kernel
theorem ws_of {c : Nat} : (!(Builtin.Str.occurrences (Str.ofString "\n\t\r ") (one c) 0 (Str.ofString "\n\t\r ").length 1).isEmpty) = isWs c := by
  rw [PySem.StrLaws.found_one, ws_cps]
  unfold isWs
  by_cases h1 : c = 10
  · subst h1; rfl
  · by_cases h2 : c = 9
    · subst h2; rfl
    · by_cases h3 : c = 13
      · subst h3; rfl
      · by_cases h4 : c = 32
        · subst h4; rfl
        · simp [h1, h2, h3, h4]
theorem ws_true {c : Nat} (h : (Builtin.Str.occurrences (Str.ofString "\n\t\r ") (one c) 0 (Str.ofString "\n\t\r ").length 1).isEmpty = false) : isWs c = true := by rw [← ws_of, h]; rfl
theorem ws_false {c : Nat} (h : (Builtin.Str.occurrences (Str.ofString "\n\t\r ") (one c) 0 (Str.ofString "\n\t\r ").length 1).isEmpty = true) : isWs c = false := by rw [← ws_of, h]; rfl
theorem q_one : Str.ofString "\"" = one 34 := by decide +kernel
theorem b_one : Str.ofString "\\" = one 92 := by decide +kernel
theorem one_inj {a b : Nat} (h : one a = one b) : a = b := by injection h with h; simpa using h
theorem q_true {c : Nat} (h : (one c == Str.ofString "\"") = true) : c = 34 := one_inj (q_one ▸ eq_of_beq h)
theorem q_false {c : Nat} (h : (one c == Str.ofString "\"") = false) : c ≠ 34 := by rintro rfl; rw [q_one] at h; simp at h
theorem b_true {c : Nat} (h : (one c == Str.ofString "\\") = true) : c = 92 := one_inj (b_one ▸ eq_of_beq h)
theorem b_false {c : Nat} (h : (one c == Str.ofString "\\") = false) : c ≠ 92 := by rintro rfl; rw [b_one] at h; simp at h
theorem quot_q (r : List Nat) : quot (34 :: r) = ([], r) := by rw [quot]
theorem quot_b0 : quot [92] = ([], []) := by rw [quot]
theorem quot_b (c : Nat) (r : List Nat) : quot (92 :: c :: r) = (c :: (quot r).1, (quot r).2) := by rw [quot]
theorem quot_c {c : Nat} (r : List Nat) (h1 : c ≠ 34) (h2 : c ≠ 92) : quot (c :: r) = (c :: (quot r).1, (quot r).2) := by
  rw [quot]
  · exact h1
  · intro e; exact fun _ => h2 e
  · intro _ _ e; exact fun _ => h2 e
theorem bare_w {c : Nat} (r : List Nat) (h : isWs c = true) : bare (c :: r) = ([], r) := by rw [bare.eq_def]; dsimp only; rw [if_pos h]
theorem bare_b0 : bare [92] = ([], []) := by rw [bare]; rfl
theorem bare_b (c : Nat) (r : List Nat) : bare (92 :: c :: r) = (c :: (bare r).1, (bare r).2) := by rw [bare]; rfl
theorem bare_c {c : Nat} (r : List Nat) (h1 : isWs c = false) (h2 : c ≠ 92) : bare (c :: r) = (c :: (bare r).1, (bare r).2) := by rw [bare.eq_def]; dsimp only; rw [if_neg (by simp [h1]), if_neg h2]
theorem tok_w {c : Nat} (r : List Nat) (h : isWs c = true) : tokRun (c :: r) = tokRun r := by rw [tokRun, if_pos h]
theorem tok_q (r : List Nat) : tokRun (34 :: r) = quot r := by rw [tokRun]; rfl
theorem tok_c {c : Nat} (r : List Nat) (h1 : isWs c = false) (h2 : c ≠ 34) : tokRun (c :: r) = bare (c :: r) := by rw [tokRun, if_neg (by simp [h1]), if_neg h2]
def Next (I : Nat → Shared → Prop) (n : Nat) (s : Shared) : Prop := ∃ m, m < n ∧ I m s
theorem forLoop_next {prog : Program} {w : World} {A : Around} {s : Shared} {R : Result → Shared → Prop} {target it body orelse env} (I : Nat → Shared → Prop)
    (turn : ∀ n s, I n s → wpAny (model prog w) A (pyNext it) (fun r s₁ => match r with
      | none => wpAny (model prog w) A (execs orelse env) (fun f s₃ => R (.ok f) s₃) (notedBy (model prog w) A env fun e s' => R (.error e) s') s₁
      | some v => wpAny (model prog w) A (letOwnedTupleGo target it v) (fun _ s₁' =>
          wpAny (model prog w) A (assign target env v) (fun _ s₂ => wpAny (model prog w) A (execs body env) (fun f s₃ => match f with
            | .next | .cont => Next I n s₃
            | .brk => R (.ok .next) s₃
            | .ret v => R (.ok (.ret v)) s₃) (notedBy (model prog w) A env fun e s' => R (.error e) s') s₂) (notedBy (model prog w) A env fun e s' => R (.error e) s') s₁') (notedBy (model prog w) A env fun e s' => R (.error e) s') s₁) (notedBy (model prog w) A env fun e s' => R (.error e) s') s)
    (n : Nat) (h : I n s) : codeAny (model prog w) A (.forLoop target it body orelse env) R s := codeAny_forLoop_any I turn n h
/-- the frame of get_token in its loops -/
abbrev gtm (m0 : Str → Option Value) (x : Addr) (tok : List Nat) (tt : Tok) (it : Addr) : Str → Option Value := fun y => if y = Str.ofString "fiter" then some (.ref it) else if y = Str.ofString "token" then some (.str ⟨tok.toArray⟩ tt) else if y = Str.ofString "self" then some (.ref x) else m0 y
theorem gt_norm {m0 : Str → Option Value} {x : Addr} {tok : List Nat} {tt : Tok} {it : Addr} (e1 : m0 (Str.ofString "self") = some (.ref x)) (e2 : m0 (Str.ofString "fiter") = some (.ref it)) (e3 : m0 (Str.ofString "token") = some (.str ⟨tok.toArray⟩ tt)) (y : Str) : m0 y = gtm m0 x tok tt it y := by
  unfold gtm
  split
  · next h => subst h; exact e2
  · split
    · next h => subst h; exact e3
    · split
      · next h => subst h; exact e1
      · rfl
inductive GtAt (w : World) (g' : Heap) (L' : Addr) (s : Shared) (x d S pb l it q : Addr) (t : Tok) (st : Led) (fin : List Nat × List Nat) (T0 : Int) (run : List Nat → List Nat × List Nat) (N : Nat) (s' : Shared) : Prop
  | intro : ∀ (pre zs : List Nat) (vs : List Value) (k : LexTok) (ln : Int) (n : Nat) (tt : Tok) (m0 : Str → Option Value) (io : Obj) (h' : Heap) (tk' : Nat), s' = { s with heap := h', toks := tk' } → pre.length + zs.length ≤ sizeLine → StrsAre vs (zs.map one) → (((io = citer q t ∧ N = zs.length + 1) ∨ (io = citerEnd ∧ zs = [] ∧ N = 0))) → fin.1 = pre ++ (run zs).1 → fin.2 = (run zs).2 → ln + nls zs = T0 → Fr g' L' h' m0 → m0 (Str.ofString "self") = some (.ref x) → m0 (Str.ofString "fiter") = some (.ref it) → m0 (Str.ofString "token") = some (.str ⟨pre.toArray⟩ tt) → News g' L' h' (lexLed w k ln d S pb l vs n it io q x st) → GtAt w g' L' s x d S pb l it q t st fin T0 run N s'
/-- what one token read leaves -/
inductive TokPost (w : World) (r : List Nat × List Nat) (T0 : Int) (d S pb l : Addr) (st : Led) (v : Value) (led' : Led) : Prop
  | intro : ∀ (t : Tok) (vr : List Value) (k : LexTok) (n : Nat), v = .str ⟨r.1.toArray⟩ t → StrsAre vr (r.2.map one) → led' = (d, lexD w k (T0 - nls r.2) S pb) :: (l, listOf vr.toArray n) :: st → TokPost w r T0 d S pb l st v led'
theorem tok_fin {w : World} {h₀ : Heap} {L : Addr} {m : Str → Option Value} {s : Shared} {R : Result → Shared → Prop} {r : List Nat × List Nat} {T0 : Int} {x d S pb l it q : Addr} {io : Obj} {st : Led} {pre rs : List Nat} {tt : Tok} {vr : List Value} {k : LexTok} {ln : Int} {n : Nat} {h' : Heap} {tk' : Nat}
    (hret : ∀ v led' h' tk', TokPost w r T0 d S pb l st v led' → Fr h₀ L h' m → News h₀ L h' led' → R (.ok (.ret v)) { s with heap := h', toks := tk' })
    (F : Fr h₀ L h' m) (N : News h₀ L h' (lexLed w k ln d S pb l vr n it io q x ((x, instObj 76 d) :: (pb, listOf #[] 0) :: st))) (hV : StrsAre vr (rs.map one)) (e1 : r.1 = pre) (e2 : r.2 = rs) (e3 : ln + nls rs = T0) :
    R (.ok (.ret (.str ⟨pre.toArray⟩ tt))) { s with heap := h', toks := tk' } := by
  subst e1 e2
  refine hret _ _ _ _ ⟨tt, vr, k, n, rfl, hV, rfl⟩ F ?_
  rw [show T0 - nls r.2 = ln by omega]
  refine news_of N fun p hp => ?_
  simp only [List.mem_cons] at hp ⊢
  rcases hp with h | h | h
  · exact .inl h
  · exact .inr (.inl h)
  · exact .inr (.inr (.inr (.inr (.inr (.inr h)))))
end Mine
end
section
open PySem PySem.W PyProof.Rows
namespace Mine
local macro_rules | `(tactic| walk_at $s:str) => `(tactic| k_extra $s)
local macro_rules | `(tactic| k_all) => `(tactic| k_extra "k_all")
local macro_rules | `(tactic| k_ne) => `(tactic| k_extra "k_ne")
local macro_rules | `(tactic| size_fits) => `(tactic| k_extra "size_fits")
local macro_rules | `(tactic| ktr_room) => `(tactic| k_extra "ktr_room")
local macro_rules | `(tactic| k_in) => `(tactic| k_extra "k_in")
local macro_rules | `(tactic| ktr_units) => `(tactic| k_extra "ktr_units")
set_option maxRecDepth 100000 in
set_option maxHeartbeats 8000000 in
theorem gt_con {w : World} (zs : List Nat) (vs : List Value) (hV : StrsAre vs (zs.map one)) (n : Nat) (x d S pb l : Addr) (k : LexTok) (ln : Int) (st : Led) (X₀ : Lexer w st x d S pb l) (hz : zs.length ≤ sizeLine) :
    Con w 66 [.ref x] ((d, lexD w k ln S pb) :: (l, listOf vs.toArray n) :: st) 8 40 (TokPost w (tokRun zs) (ln + nls zs) d S pb l st) := by
  k_with_none
  k_with "line" => (first | exact ln2 ‹_ < PySem.recursionLimit› rfl | exact ln2 ‹_ < PySem.cLine› rfl | exact ln1 ‹_ < PySem.recursionLimit› rfl | exact ln1 ‹_ < PySem.cLine› rfl | (simp only [ktrTop] at *; first | exact ln2 ‹_ < PySem.recursionLimit› rfl | exact ln2 ‹_ < PySem.cLine› rfl | exact ln1 ‹_ < PySem.recursionLimit› rfl | exact ln1 ‹_ < PySem.cLine› rfl | omega))
  k_with "pr" => ((intro hcW; first | exact hcW.1 | exact hcW.2.1 | exact hcW.2.2.1 | exact hcW.2.2.2.1 | exact hcW.2.2.2.2.1 | exact hcW.2.2.2.2.2.1 | exact hcW.2.2.2.2.2.2.1 | exact hcW.2.2.2.2.2.2.2.1 | exact hcW.2.2.2.2.2.2.2.2.1 | exact hcW.2.2.2.2.2.2.2.2.2.1 | exact hcW.2.2.2.2.2.2.2.2.2.2.1 | exact hcW.2.2.2.2.2.2.2.2.2.2.2.1))
  k_with "k_ne" => ((refine neN ?_; (try dsimp only); first | (with_reducible assumption) | exact Ne.symm (by with_reducible assumption) | (refine ne_c1 (by with_reducible assumption) ?_; walk_at "pr") | (refine ne_c2 (by with_reducible assumption) ?_; walk_at "pr") | (refine ne_c3 (by with_reducible assumption) ?_; walk_at "pr") | (refine ne_c4 (by with_reducible assumption) ?_; walk_at "pr") | (refine ne_f1 (by with_reducible assumption) ?_; walk_at "pr") | (refine ne_f2 (by with_reducible assumption) ?_; walk_at "pr") | (refine ne_d1 (by with_reducible assumption) (by with_reducible assumption) ?_; walk_at "pr") | (refine ne_d2 (by with_reducible assumption) (by with_reducible assumption) ?_; walk_at "pr") | exact Nat.ne_of_lt (by with_reducible assumption) | exact Nat.ne_of_gt (by with_reducible assumption) | exact Nat.succ_ne_self _ | exact (Nat.succ_ne_self _).symm | ((repeat (rename (@Ne Nat _ _) => hz9W; clear hz9W)); omega)))
  k_with "le" => (first | exact Nat.le_refl _ | exact Nat.le_of_lt (by with_reducible assumption) | exact Nat.le_succ _ | exact Nat.le_succ_of_le (Nat.le_succ _) | omega)
  k_with "ktr_room" => (exact lt_room (by assumption))
  k_with "ktr_units" => ((first | exact ln1 (by assumption) rfl | exact ln2 (by assumption) rfl | (simp only [units_in1, units_deeper, Around.mark_units, units_caller]; first | exact ln2 (by assumption) rfl | exact ln1 (by assumption) rfl)))
  k_with "k_in" => (first | (with_reducible assumption) | k_in_fast | exact Frag.In.keeps (by k_asm) (Fr.keep (by k_asm)))
  k_with "sz" => (first | exact le_n (by with_reducible assumption) rfl | omega)
  k_with "pt" => ((intro hcW; with_reducible first | exact hcW.2 | exact hcW.2.2 | exact hcW.2.2.2 | exact hcW.2.2.2.2 | exact hcW.2.2.2.2.2 | exact hcW.2.2.2.2.2.2 | exact hcW.2.2.2.2.2.2.2 | exact hcW.2.2.2.2.2.2.2.2 | exact hcW.2.2.2.2.2.2.2.2.2 | exact hcW.2.2.2.2.2.2.2.2.2.2 | exact hcW.2.2.2.2.2.2.2.2.2.2.2 | exact hcW.2.2.2.2.2.2.2.2.2.2.2.2))
  k_with "size_fits" => (exact Nat.le_of_ble_eq_true rfl)
  k_with "mine tl" => (first | (with_reducible assumption) | ((with_reducible rename AllLt _ _ => hl9W); first | exact allLt_ne hl9W (by walk_at "sz") | (clear hl9W; walk_at "mine tl")) | ((with_reducible rename (_ ∧ _) => hq9W); (have ha9W := hq9W.1); (have hb9W := hq9W.2); clear hq9W; walk_at "mine tl"))
  k_with "k_all" => (first | exact List.forall_mem_nil _ | (with_reducible assumption) | ((with_reducible show ∀ p ∈ _ :: _, _); refine' List.forall_mem_cons.mpr ⟨(by k_ne), (by k_all)⟩) | (refine tl_eq (by with_reducible assumption) ?_; walk_at "pt") | (refine tl_s (by with_reducible assumption) ?_; walk_at "pt") | (refine tl_t (by with_reducible assumption) ?_; walk_at "pt") | ((with_reducible rename AllLt _ _ => hl9W); with_reducible exact allLt_ne hl9W (by walk_at "le")) | (refine' List.forall_mem_cons.mpr ⟨(by k_ne), (by k_all)⟩) | walk_at "mine tl")
  k_with "call type:list" => (((k_here; (with_reducible show wpAny _ _ (call (Value.type _) [Value.str _ _]) _ _ _); k_dflt (refine' list_str_led (by exact rfl) (by k_asm) (by k_asm) (by assumption) ?_; k_whole); intro l' h' tk' vs' n' F' N' l1 S'; (try k_lt l1))); (first | revert l' h' tk' vs' n' F' N' l1 S' | ((try revert S'); (try revert l1); (try revert N'); (try revert F'); (try revert n'); (try revert vs'); (try revert tk'); (try revert h'); (try revert l'))); (try intros))
  k_with "setAttr ref" => (((k_here; (with_reducible show wpAny _ _ (setAttr (Value.ref _) _ _) _ _ _); k_dflt (refine' fn_setAttr_led (by k_asm) (by k_asm) (by k_updF) (by exact fn_no_read) ?_; k_whole); intro D' h' kt' tk' F' N' l1; (try dsimp only at N'); (try k_lt l1); (try k_sweep))); (first | revert D' h' kt' tk' F' N' l1 | ((try revert l1); (try revert N'); (try revert F'); (try revert tk'); (try revert kt'); (try revert h'); (try revert D'))); (try intros))
  k_with "getMethod ref" => ((k_here; k_dflt (refine' fn_method_led (by k_asm) (by k_mem) (by k_mem) (by rfl) (by exact fn_no_read) (by rfl) ?_; k_whole)))
  k_with "compareOp NotEq ref ref" => ((k_here; k_dflt (first | (refine' ne_nil_nil (by k_asm) (by k_mem) (by k_mem) (by ktr_units) ?_; k_whole) | (refine' ne_cons_nil (by k_asm) (by k_mem) (by k_mem) (by ktr_units) ?_; k_whole))))
  k_with "call builtin:list.pop" => (((k_here; k_dflt (refine' pop0_led (by k_asm) (by k_asm) (by k_upd) (by assumption) ?_; k_whole); intro h' F' N'; (try k_sweep))); (first | revert h' F' N' | ((try revert N'); (try revert F'); (try revert h'))); (try intros))
  k_with "mine enter" => (first | (refine' code_def (by k_asm) (by k_asm) (by k_asm) (by k_asm) (by k_asm) (by exact rfl) (by exact rfl) (by (first | exact rfl | assumption)) (by k_is) (by k_is) (by ktr_room) (by exact BindsTo.of_eq rfl) (by exact locs rfl) ?_ (by exact rfl) (by exact rfl) (by exact rfl) (by decide); k_whole; intro g' L' h' FG' F' N' B' X' T'; (try dsimp only); (first | revert g' L' h' FG' F' N' B' X' T' | ((try revert T'); (try revert X'); (try revert B'); (try revert N'); (try revert F'); (try revert FG'); (try revert h'); (try revert L'); (try revert g'))); (try intros); (try k_fold)) | (refine' code_defC (by k_asm) (by k_asm) (by k_asm) (by k_asm) (by k_asm) (by exact rfl) (by exact rfl) (by (first | exact rfl | assumption)) (by k_is) (by k_is) (by ktr_room) (by exact BindsTo.of_eq rfl) (by exact rfl) (by decide +kernel) ?_ (by exact rfl) (by exact rfl) (by exact rfl); k_whole; intro g' L' h' tk' cells' FG' F' N' Y' B' X' T' l1; (try k_lt l1); k_cells Y'; (try simp only [List.cons_append, List.nil_append] at N'); (try dsimp only); (first | revert g' L' h' tk' cells' FG' F' N' Y' B' X' T' l1 | ((try revert l1); (try revert T'); (try revert X'); (try revert B'); (try revert Y'); (try revert N'); (try revert F'); (try revert FG'); (try revert cells'); (try revert tk'); (try revert h'); (try revert L'); (try revert g'))); (try intros); (try k_fold)))
  k_with "mine new" => ((k_dflt (refine' call_cls (by k_asm) (by k_asm) (by k_asm) (by k_is) (by k_is) (by k_is) ?_; k_whole; intro x' d' h' F' N' l1 l2; (try k_lt l1); (try k_lt2 l2); (try k_sweep); (first | revert x' d' h' F' N' l1 l2 | ((try revert l2); (try revert l1); (try revert N'); (try revert F'); (try revert h'); (try revert d'); (try revert x'))); (try intros); walk_at "mine enter")))
  k_with "call builtin:iter" => (((k_here; k_dflt (refine' iter2_led (by k_asm) (by k_asm) (by k_mem) ?_; k_whole); intro it' h' F' N' l1; (try k_lt l1))); (first | revert it' h' F' N' l1 | ((try revert l1); (try revert N'); (try revert F'); (try revert h'); (try revert it'))); (try intros))
  k_with "gt eq" => (((intro y; by_cases e1 : y = Str.ofString "ch"; (subst e1; rfl); by_cases e2 : y = Str.ofString "fiter"; (subst e2; rfl); by_cases e3 : y = Str.ofString "token"; (subst e3; rfl); by_cases e4 : y = Str.ofString "self"; (subst e4; rfl); (simp only [gtm, if_neg e1, if_neg e2, if_neg e3, if_neg e4]; try (show (match y == Str.ofString "self" with | true => _ | false => _) = none; rw [show (y == Str.ofString "self") = false from by simpa using e4]; rfl)))); (first | revert y | ((try revert y))); (try intros))
  k_with "mine sz" => (first | exact sza (by assumption) | exact sza0 (by assumption) | (simp only [len_mk] at *; show _ + 1 ≤ _; omega) | (simp only [len_mk] at *; show _ + 0 ≤ _; omega))
  k_with "inplaceOp Add str str" => (((k_here; k_dflt (refine' PySem.SB.iadd ?_ (by walk_at "mine sz")); intro t' tk')); (first | revert t' tk' | ((try revert tk'); (try revert t'))); (try intros))
  have X₁ := X₀
  obtain ⟨hinst, hback, -, offd, offl, hdl⟩ := X₁
  intro A h₀ L m s R S F N hret
  obtain ⟨p, loose, mean, mg, mb, dp, un, gd, cn, cs, a, ccd, cl, outer, A₀, base, rfl, B, X, T, hk, hd, hu⟩ := S
  revert X; k_fill; intro X
  replace N := news_of (l' := (d, lexD w k ln S pb) :: (l, listOf vs.toArray n) :: (x, instObj 76 d) :: (pb, listOf #[] 0) :: st) N (fun p hp => by
    simp only [List.mem_cons] at hp ⊢
    rcases hp with h | h | h | h | h
    · exact .inl h
    · exact .inr (.inl h)
    · exact .inr (.inr (h ▸ hinst))
    · exact .inr (.inr (h ▸ hback))
    · exact .inr (.inr h))
  (refine' code_def (binds := [(PySem.Str.ofString "self", .ref x)]) ?k1 ?k2 ?k3 ?k4 ?k5 ?kA ?kF ?kK ?k6 ?k7 ?k8 ?k9 ?kB ?_ ?c2 ?c3 ?c4 ?c5; (case kA => exact rfl); (case kF => exact rfl); (case kK => assumption); (case k1 => k_asm); (case k2 => k_asm); (case k3 => k_asm); (case k4 => k_asm); (case k5 => k_asm); (case k6 => k_is); (case k7 => k_is); (case k8 => ktr_room); (case k9 => exact BindsTo.of_eq rfl); (case c5 => decide); (case kB => exact locs rfl); (case c2 => exact rfl); (case c3 => exact rfl); (case c4 => exact rfl); k_whole; intro g' L' h' FG' F' N' B' X' T'; (try dsimp only); (try k_fold))
  have hMk9 := kstMark
  try subst ek
  try subst qk
  revert hV X₀ hz hinst hback offd offl hdl F hret B T hk hd hu X N FG' F' N' B' X' T'
  revert w zs vs n x d S pb l k ln st h₀ L m s R p loose mean mg mb dp un gd cn cs a ccd cl outer A₀ base g' L' h'
  refine no_implicit_lambda% (hk36 10347720 ?hkdGetToken0 ?hkPGetToken0 ?hkGGetToken0)
  case hkdGetToken0 => exact (dWorld, [], [], 0, (0 : Nat), (0 : Nat), (0 : Nat), (0 : Nat), (0 : Nat), ⟨0, 0, 0, 0, 0, 0⟩, 0, [], default, (0 : Nat), fun _ => none, {}, fun _ _ => True, default, [], fun _ => none, fun _ => none, fun _ => none, 0, 0, none, ⟨#[]⟩, default, (0 : Nat), .none, [], [], {}, default, default, (0 : Nat), default)
  refine (?hkFGetToken0 : ∀ x0 x1 x2 x3 x4 x5 x6 x7 x8 x9 x10 x11 x12 x13 x14 x15 x16 x17 x18 x19 x20 x21 x22 x23 x24 x25 x26 x27 x28 x29 x30 x31 x32 x33 x34 x35, ?hkPGetToken0 x0 x1 x2 x3 x4 x5 x6 x7 x8 x9 x10 x11 x12 x13 x14 x15 x16 x17 x18 x19 x20 x21 x22 x23 x24 x25 x26 x27 x28 x29 x30 x31 x32 x33 x34 x35) _ _ _ _ _ _ _ _ _ _ _ _ _ _ _ _ _ _ _ _ _ _ _ _ _ _ _ _ _ _ _ _ _ _ _ _
  intro w zs vs n x d S pb l k ln st h₀ L m s R p loose mean mg mb dp un gd cn cs a ccd cl outer A₀ base g' L' h' hV X₀ hz hinst hback offd offl hdl F hret B T hk hd hu X N FG' F' N' B' X' T'
  (try k_fold)
  k_steps
  refine' wpAny_For ?_
  k_steps
  rename News _ _ _ _ => kN8
  rename Fr _ _ _ _ => kF8
  rename_i tk1 h1 q h2 l1q it h3 l1i h4
  refine' ci_pyIter (kN8 _ (.head _)).1 rfl ?_
  have O : LexOff d l it q ((x, instObj 76 d) :: (pb, W.listOf #[] 0) :: st) := ⟨Nat.ne_of_lt l1i.2.1, Nat.ne_of_lt l1i.2.2.1, Nat.ne_of_lt l1i.1, Nat.ne_of_gt l1q.1, Nat.ne_of_gt l1q.2.1, List.forall_mem_cons.mpr ⟨by k_ne, List.forall_mem_cons.mpr ⟨by k_ne, allLt_ne l1i.2.2.2.2.2 (Nat.le_refl _)⟩⟩⟩
  have X₂ : Lexer w ((x, instObj 76 d) :: (pb, W.listOf #[] 0) :: st) x d S pb l := X₀.mono (fun p hp => .tail _ (.tail _ hp)) (List.forall_mem_cons.mpr ⟨offd _ hinst, List.forall_mem_cons.mpr ⟨offd _ hback, offd⟩⟩) (List.forall_mem_cons.mpr ⟨offl _ hinst, List.forall_mem_cons.mpr ⟨offl _ hback, offl⟩⟩)
  generalize htb : (Shared.toks _) = tb at kF8
  refine' forLoop_next (GtAt w g' L' s x d S pb l it q (tk1 + 1 + 1 + 1) ((x, instObj 76 d) :: (pb, W.listOf #[] 0) :: st) (tokRun zs) (ln + nls zs) tokRun) ?turn (zs.length + 1) ?start
  case start =>
    refine ⟨[], zs, vs, k, ln, n, tb, _, _, _, _, rfl, by simpa using hz, hV, .inl ⟨rfl, rfl⟩, rfl, rfl, rfl, kF8, rfl, rfl, rfl, ?_⟩
    refine news_of kN8 fun p hp => ?_
    simp only [List.mem_cons] at hp ⊢
    rcases hp with h | h | h | h | h
    · exact .inr (.inr (.inl h))
    · exact .inr (.inr (.inr (.inl h)))
    · exact .inl h
    · exact .inr (.inl h)
    · exact .inr (.inr (.inr (.inr h)))
  case turn =>
    clear kF8 kN8 N hV
    intro N s1 hI
    obtain ⟨pre, zs1, vs1, k1, ln1, n1, tt, m0, io, h5, tk5, rfl, hlen, hV1, hio, f1, f2, hT, F5, e51, e52, e53, N5⟩ := hI
    replace F5 := fr_eq F5 (gt_norm e51 e52 e53)
    revert X₀ hz hinst hback offd offl hdl F hret B T hk hd hu X FG' B' X' T' l1q l1i O X₂ htb hlen hV1 hio f1 f2 hT e51 e52 e53 N5 F5
    revert w zs vs n x d S pb l k ln st h₀ L m s R p loose mean mg mb dp un gd cn cs a ccd cl outer A₀ base g' L' h' tk1 h1 q h2 it h3 h4 tk tb N pre zs1 vs1 k1 ln1 n1 tt m0 io h5 tk5
    refine no_implicit_lambda% (hk57 15941693 ?hkdGetToken1 ?hkPGetToken1 ?hkGGetToken1)
    case hkdGetToken1 => exact (dWorld, [], [], 0, (0 : Nat), (0 : Nat), (0 : Nat), (0 : Nat), (0 : Nat), ⟨0, 0, 0, 0, 0, 0⟩, 0, [], default, (0 : Nat), fun _ => none, {}, fun _ _ => True, default, [], fun _ => none, fun _ => none, fun _ => none, 0, 0, none, ⟨#[]⟩, default, (0 : Nat), .none, [], [], {}, default, default, (0 : Nat), default, 0, default, (0 : Nat), default, (0 : Nat), default, default, 0, 0, 0, [], [], [], ⟨0, 0, 0, 0, 0, 0⟩, 0, 0, (0 : Nat), fun _ => none, dObj, default, 0)
    refine (?hkFGetToken1 : ∀ x0 x1 x2 x3 x4 x5 x6 x7 x8 x9 x10 x11 x12 x13 x14 x15 x16 x17 x18 x19 x20 x21 x22 x23 x24 x25 x26 x27 x28 x29 x30 x31 x32 x33 x34 x35 x36 x37 x38 x39 x40 x41 x42 x43 x44 x45 x46 x47 x48 x49 x50 x51 x52 x53 x54 x55 x56, ?hkPGetToken1 x0 x1 x2 x3 x4 x5 x6 x7 x8 x9 x10 x11 x12 x13 x14 x15 x16 x17 x18 x19 x20 x21 x22 x23 x24 x25 x26 x27 x28 x29 x30 x31 x32 x33 x34 x35 x36 x37 x38 x39 x40 x41 x42 x43 x44 x45 x46 x47 x48 x49 x50 x51 x52 x53 x54 x55 x56) _ _ ([]) (0) _ _ _ _ _ (⟨0, 0, 0, 0, 0, 0⟩) _ _ _ _ _ _ _ _ _ _ _ _ _ _ _ _ _ _ _ _ _ _ _ _ _ _ _ (default) _ (default) _ (default) (default) (0) _ _ _ _ _ _ _ _ _ _ _ _ _
    intro w zs vs n x d S pb l k ln st h₀ L m s R p loose mean mg mb dp un gd cn cs a ccd cl outer A₀ base g' L' h' tk1 h1 q h2 it h3 h4 tk tb N pre zs1 vs1 k1 ln1 n1 tt m0 io h5 tk5 X₀ hz hinst hback offd offl hdl F hret B T hk hd hu X FG' B' X' T' l1q l1i O X₂ htb hlen hV1 hio f1 f2 hT e51 e52 e53 N5 F5
    rcases hio with ⟨rfl, rfl⟩ | ⟨rfl, rfl, rfl⟩
    · refine' lex_next hV1 X₂ O (szr (by assumption)) (Site.mk B' X' T' rfl (by walk_at "line") (by walk_at "line")) F5 N5 ?h0 ?h1
      case h0 =>
        intro hz6 h6 tk6 F6 N6
        subst hz6
        clear F5 N5
        (try dsimp only)
        k_steps
        rename News _ _ _ _ => kN8
        rename Fr _ _ _ _ => kF8
        exact tok_fin (rs := []) hret kF8 kN8 .nil (by simpa [tokRun] using f1) (by simpa [tokRun] using f2) (by simpa [nls] using hT)
      case h1 =>
        intro c cr hz6 u vr n6 k6 h6 tk6 hV6 F6 N6
        subst hz6
        simp only [List.length_cons] at hlen
        simp only [nls] at hT
        clear hV1 F5 N5
        (try dsimp only)
        refine' wpAny_of_eq (a := ()) rfl ?_
        k_steps
        · have e1 := ws_false (c := c) (by assumption)
          have e2 := q_true (c := c) (by assumption)
          subst e2
          rename News _ _ _ _ => kN8
          rename Fr _ _ _ _ => kF8
          refine' wpAny_For ?_
          k_steps
          rename News _ _ _ _ => kN8
          rename Fr _ _ _ _ => kF8
          refine' ci_pyIter (kN8 _ (.tail _ (.tail _ (.head _)))).1 rfl ?_
          refine' forLoop_next (GtAt w g' L' s x d S pb l it q (tk1 + 1 + 1 + 1) ((x, instObj 76 d) :: (pb, W.listOf #[] 0) :: st) (tokRun zs) (ln + nls zs) quot) ?turn (cr.length + 1) ?start
          case start =>
            exact ⟨pre, cr, _, _, _, _, _, _, _, _, _, rfl, by first | exact szs (by assumption) | exact szs2 (by assumption) | exact szt (by assumption) | exact sz0 (by assumption) | (simp only [List.length_cons, List.length_append, List.length_nil] at *; omega), hV6, .inl ⟨rfl, rfl⟩, by rw [f1, tok_q], by rw [f2, tok_q], by first | exact nl_a (by assumption) | exact nl_b (by assumption) | (simp only [nls] at *; omega), kF8, rfl, rfl, rfl, kN8⟩
          case turn =>
            clear kF8 kN8
            intro Nq s1q hI
            obtain ⟨preq, zsq1, vsq1, kq1, lnq1, nq1, ttq, m0q, io, h5, tk5, rfl, hlenq, hVq1, hio, f1q, f2q, hTq, F5, e51, e52, e53, N5⟩ := hI
            replace F5 := fr_eq F5 (gt_norm e51 e52 e53)
            rename_i hkIGetToken265 hkIGetToken277 hkIGetToken278 hkIGetToken279 hkIGetToken280 hkIGetToken281 hkIGetToken291 hkIGetToken292 hkIGetToken293 hkIGetToken298 hkIGetToken299
            revert X₀ hz hinst hback offd offl hdl F hret B T hk hd hu X FG' B' X' T' l1q l1i O X₂ htb hkIGetToken279 hkIGetToken280 hkIGetToken281 hV6 hlen f1 f2 hT hlenq hVq1 hio f1q f2q hTq e51 e52 e53 N5 F5
            have hkU0 : Unit := ()
            have hkU1 : Unit := ()
            have hkU2 : Unit := ()
            have hkU3 : Unit := ()
            have hkU4 : Unit := ()
            have hkU5 : Unit := ()
            have hkU6 : Unit := ()
            revert w zs vs n x d S pb l k ln st h₀ L m s R p loose mean mg mb dp un gd cn cs a ccd cl outer A₀ base g' L' h' tk1 h1 q h2 it h3 h4 hkIGetToken265 tb pre vs1 k1 ln1 n1 tt m0 hkIGetToken277 hkIGetToken278 cr u vr n6 k6 h6 tk6 hkIGetToken291 hkIGetToken292 hkIGetToken293 tk Nq preq zsq1 vsq1 kq1 lnq1 nq1 ttq m0q io h5 tk5 hkU0 hkU1 hkU2 hkU3 hkU4 hkU5 hkU6
            refine no_implicit_lambda% (hk84 14129918 ?hkdGetToken2 ?hkPGetToken2 ?hkGGetToken2)
            case hkdGetToken2 => exact (dWorld, [], [], 0, (0 : Nat), (0 : Nat), (0 : Nat), (0 : Nat), (0 : Nat), ⟨0, 0, 0, 0, 0, 0⟩, 0, [], default, (0 : Nat), fun _ => none, {}, fun _ _ => True, default, [], fun _ => none, fun _ => none, fun _ => none, 0, 0, none, ⟨#[]⟩, default, (0 : Nat), .none, [], [], {}, default, default, (0 : Nat), default, 0, default, (0 : Nat), default, (0 : Nat), default, default, 0, 0, [], [], ⟨0, 0, 0, 0, 0, 0⟩, 0, 0, (0 : Nat), fun _ => none, default, 0, [], (0 : Nat), [], 0, ⟨0, 0, 0, 0, 0, 0⟩, default, 0, default, 0, 0, 0, 0, [], [], [], ⟨0, 0, 0, 0, 0, 0⟩, 0, 0, (0 : Nat), fun _ => none, dObj, default, 0, (), (), (), (), (), (), ())
            refine (?hkFGetToken2 : ∀ x0 x1 x2 x3 x4 x5 x6 x7 x8 x9 x10 x11 x12 x13 x14 x15 x16 x17 x18 x19 x20 x21 x22 x23 x24 x25 x26 x27 x28 x29 x30 x31 x32 x33 x34 x35 x36 x37 x38 x39 x40 x41 x42 x43 x44 x45 x46 x47 x48 x49 x50 x51 x52 x53 x54 x55 x56 x57 x58 x59 x60 x61 x62 x63 x64 x65 x66 x67 x68 x69 x70 x71 x72 x73 x74 x75 x76 x77 x78 x79 x80 x81 x82 x83, ?hkPGetToken2 x0 x1 x2 x3 x4 x5 x6 x7 x8 x9 x10 x11 x12 x13 x14 x15 x16 x17 x18 x19 x20 x21 x22 x23 x24 x25 x26 x27 x28 x29 x30 x31 x32 x33 x34 x35 x36 x37 x38 x39 x40 x41 x42 x43 x44 x45 x46 x47 x48 x49 x50 x51 x52 x53 x54 x55 x56 x57 x58 x59 x60 x61 x62 x63 x64 x65 x66 x67 x68 x69 x70 x71 x72 x73 x74 x75 x76 x77 x78 x79 x80 x81 x82 x83) _ _ ([]) (0) _ _ _ _ _ (⟨0, 0, 0, 0, 0, 0⟩) _ _ _ _ _ _ _ _ _ _ _ _ _ _ _ _ _ _ _ _ _ _ _ _ _ _ _ (default) _ (default) _ (default) (default) (0) _ _ ([]) (⟨0, 0, 0, 0, 0, 0⟩) _ (0) _ _ (default) (0) _ ((0 : Nat)) _ (0) (⟨0, 0, 0, 0, 0, 0⟩) (default) (0) (default) (0) (0) (0) _ _ _ _ _ _ _ _ _ _ _ _ () () () () () () ()
            intro w zs vs n x d S pb l k ln st h₀ L m s R p loose mean mg mb dp un gd cn cs a ccd cl outer A₀ base g' L' h' tk1 h1 q h2 it h3 h4 tk tb pre vs1 k1 ln1 n1 tt m0 h5 tk5 cr u vr n6 k6 h6 tk6 _ tk tk tk Nq preq zsq1 vsq1 kq1 lnq1 nq1 ttq m0q io h5 tk5 hkU0 hkU1 hkU2 hkU3 hkU4 hkU5 hkU6 X₀ hz hinst hback offd offl hdl F hret B T hk hd hu X FG' B' X' T' l1q l1i O X₂ htb e51 e52 e53 hV6 hlen f1 f2 hT hlenq hVq1 hio f1q f2q hTq e51 e52 e53 N5 F5
            clear hkU0 hkU1 hkU2 hkU3 hkU4 hkU5 hkU6
            rcases hio with ⟨rfl, rfl⟩ | ⟨rfl, rfl, rfl⟩
            · refine' lex_next hVq1 X₂ O (szr (by assumption)) (Site.mk B' X' T' rfl (by walk_at "line") (by walk_at "line")) F5 N5 ?h0 ?h1
              case h0 =>
                intro hz6 h6 tk6 F6 N6
                subst hz6
                clear F5 N5
                (try dsimp only)
                k_steps
                rename News _ _ _ _ => kN8
                rename Fr _ _ _ _ => kF8
                exact ⟨_, by first | exact Nat.lt_succ_self _ | exact Nat.lt_succ_of_lt (Nat.lt_succ_self _) | exact Nat.succ_pos _ | (simp only [List.length_cons, List.length_nil] at *; omega), preq, [], _, _, _, _, _, _, _, _, _, rfl, by first | exact szs (by assumption) | exact szs2 (by assumption) | exact szt (by assumption) | exact sz0 (by assumption) | (simp only [List.length_cons, List.length_append, List.length_nil] at *; omega), .nil, .inr ⟨rfl, rfl, rfl⟩, by simpa [quot, tokRun] using f1q, by simpa [quot, tokRun] using f2q, by simpa [nls] using hTq, kF8, rfl, rfl, rfl, kN8⟩
              case h1 =>
                intro cq crq hz6 uq vrq nq6 kq6 h6 tk6 hVq6 F6 N6
                subst hz6
                simp only [List.length_cons] at hlenq
                simp only [nls] at hTq
                clear hVq1 F5 N5
                (try dsimp only)
                refine' wpAny_of_eq (a := ()) rfl ?_
                k_steps
                · rename News _ _ _ _ => kN8
                  rename Fr _ _ _ _ => kF8
                  have e1 := q_true (c := cq) (by assumption)
                  subst e1
                  exact tok_fin hret kF8 kN8 hVq6 (by simpa [quot_q] using f1q) (by simpa [quot_q] using f2q) (by first | exact nl_a (by assumption) | exact nl_b (by assumption) | (simp only [nls] at *; omega))
                · have e2 := b_true (c := cq) (by assumption)
                  subst e2
                  (try dsimp only)
                  rename News _ _ _ _ => kN8
                  rename Fr _ _ _ _ => kF8
                  refine' (rc_con crq vrq hVq6 nq6 x d S pb l kq6 _ ((it, citer q (tk1 + 1 + 1 + 1)) :: (q, methodObj (.ref 59) (.ref x)) :: ((x, instObj 76 d) :: (pb, W.listOf #[] 0) :: st)) (X₂.with O) (szv hVq6 (by assumption))).call (Site.mk B' X' T' rfl (by walk_at "line") (by walk_at "line")) kF8 kN8 ?_
                  intro v7 led7 h7 tk7 hP7 F7 N7
                  clear kF8 kN8
                  rcases crq with _ | ⟨c7, cr7⟩
                  · obtain ⟨⟨t7, rfl⟩, rfl⟩ := hP7
                    cases hVq6
                    (try dsimp only)
                    k_steps
                    rename News _ _ _ _ => kN8
                    rename Fr _ _ _ _ => kF8
                    simp only [str_push, str_push0] at kF8
                    exact ⟨_, by first | exact Nat.lt_succ_self _ | exact Nat.lt_succ_of_lt (Nat.lt_succ_self _) | exact Nat.succ_pos _ | (simp only [List.length_cons, List.length_nil] at *; omega), preq, [], _, _, _, _, _, _, _, _, _, rfl, by first | exact szs (by assumption) | exact szs2 (by assumption) | exact szt (by assumption) | exact sz0 (by assumption) | (simp only [List.length_cons, List.length_append, List.length_nil] at *; omega), .nil, .inl ⟨rfl, rfl⟩, by rw [f1q, quot_b0]; rfl, by rw [f2q, quot_b0]; rfl, by first | exact nl_a (by assumption) | exact nl_b (by assumption) | (simp only [nls] at *; omega), kF8, rfl, rfl, rfl, kN8⟩
                  · obtain ⟨t7, vr7, n7, k7, rfl, hV7, rfl⟩ := hP7
                    simp only [List.length_cons] at *
                    simp only [nls] at *
                    (try dsimp only)
                    k_steps
                    rename News _ _ _ _ => kN8
                    rename Fr _ _ _ _ => kF8
                    simp only [str_push, str_push0] at kF8
                    exact ⟨_, by first | exact Nat.lt_succ_self _ | exact Nat.lt_succ_of_lt (Nat.lt_succ_self _) | exact Nat.succ_pos _ | (simp only [List.length_cons, List.length_nil] at *; omega), (preq ++ [c7]), cr7, _, _, _, _, _, _, _, _, _, rfl, by first | exact szs (by assumption) | exact szs2 (by assumption) | exact szt (by assumption) | exact sz0 (by assumption) | (simp only [List.length_cons, List.length_append, List.length_nil] at *; omega), hV7, .inl ⟨rfl, rfl⟩, by rw [f1q, quot_b]; simp, by rw [f2q, quot_b], by first | exact nl_a (by assumption) | exact nl_b (by assumption) | (simp only [nls] at *; omega), kF8, rfl, rfl, rfl, kN8⟩
                · have e1 := q_false (c := cq) (by assumption)
                  have e2 := b_false (c := cq) (by assumption)
                  rename News _ _ _ _ => kN8
                  rename Fr _ _ _ _ => kF8
                  simp only [str_push, str_push0] at kF8
                  exact ⟨_, by first | exact Nat.lt_succ_self _ | exact Nat.lt_succ_of_lt (Nat.lt_succ_self _) | exact Nat.succ_pos _ | (simp only [List.length_cons, List.length_nil] at *; omega), (preq ++ [cq]), crq, _, _, _, _, _, _, _, _, _, rfl, by first | exact szs (by assumption) | exact szs2 (by assumption) | exact szt (by assumption) | exact sz0 (by assumption) | (simp only [List.length_cons, List.length_append, List.length_nil] at *; omega), hVq6, .inl ⟨rfl, rfl⟩, by rw [f1q, quot_c _ e1 e2]; simp, by rw [f2q, quot_c _ e1 e2], by first | exact nl_a (by assumption) | exact nl_b (by assumption) | (simp only [nls] at *; omega), kF8, rfl, rfl, rfl, kN8⟩
            · refine' ci_next_ended (s := { s with heap := h5, toks := tk5 }) (by rfl) (N5 _ (.tail _ (.tail _ (.head _)))).1 fun h6 hk6 => ?_
              have F6 := F5.keeps hk6
              have N6 : News g' L' h6 _ := fun p hp => ⟨hk6 _ _ (N5 p hp).1, (N5 p hp).2⟩
              clear F5 N5
              cases hVq1
              (try dsimp only)
              k_steps
              rename News _ _ _ _ => kN8
              rename Fr _ _ _ _ => kF8
              exact ⟨_, by first | exact Nat.lt_succ_self _ | exact Nat.lt_succ_of_lt (Nat.lt_succ_self _) | exact Nat.succ_pos _ | (simp only [List.length_cons, List.length_nil] at *; omega), preq, [], _, _, _, _, _, _, _, _, _, rfl, by first | exact szs (by assumption) | exact szs2 (by assumption) | exact szt (by assumption) | exact sz0 (by assumption) | (simp only [List.length_cons, List.length_append, List.length_nil] at *; omega), .nil, .inr ⟨rfl, rfl, rfl⟩, by simpa [quot, tokRun] using f1q, by simpa [quot, tokRun] using f2q, by simpa [nls] using hTq, kF8, rfl, rfl, rfl, kN8⟩
        · have e1 := ws_false (c := c) (by assumption)
          have e2 := q_false (c := c) (by assumption)
          have e3 := b_true (c := c) (by assumption)
          subst e3
          (try dsimp only)
          rename News _ _ _ _ => kN8
          rename Fr _ _ _ _ => kF8
          refine' (rc_con cr vr hV6 n6 x d S pb l k6 _ ((it, citer q (tk1 + 1 + 1 + 1)) :: (q, methodObj (.ref 59) (.ref x)) :: ((x, instObj 76 d) :: (pb, W.listOf #[] 0) :: st)) (X₂.with O) (szv hV6 (by assumption))).call (Site.mk B' X' T' rfl (by walk_at "line") (by walk_at "line")) kF8 kN8 ?_
          intro v7 led7 h7 tk7 hP7 F7 N7
          clear kF8 kN8
          rcases cr with _ | ⟨c7, cr7⟩
          · obtain ⟨⟨t7, rfl⟩, rfl⟩ := hP7
            cases hV6
            (try dsimp only)
            k_steps
            rename News _ _ _ _ => kN8
            rename Fr _ _ _ _ => kF8
            simp only [str_push, str_push0] at kF8
            rename News _ _ _ _ => kN8
            rename Fr _ _ _ _ => kF8
            refine' wpAny_For ?_
            k_steps
            rename News _ _ _ _ => kN8
            rename Fr _ _ _ _ => kF8
            refine' ci_pyIter (kN8 _ (.tail _ (.tail _ (.head _)))).1 rfl ?_
            refine' forLoop_next (GtAt w g' L' s x d S pb l it q (tk1 + 1 + 1 + 1) ((x, instObj 76 d) :: (pb, W.listOf #[] 0) :: st) (tokRun zs) (ln + nls zs) bare) ?turn ([].length + 1) ?start
            case start =>
              exact ⟨pre, [], _, _, _, _, _, _, _, _, _, rfl, by first | exact szs (by assumption) | exact szs2 (by assumption) | exact szt (by assumption) | exact sz0 (by assumption) | (simp only [List.length_cons, List.length_append, List.length_nil] at *; omega), .nil, .inl ⟨rfl, rfl⟩, by rw [f1, tok_c _ e1 e2, bare_b0]; rfl, by rw [f2, tok_c _ e1 e2, bare_b0]; rfl, by first | exact nl_a (by assumption) | exact nl_b (by assumption) | (simp only [nls] at *; omega), kF8, rfl, rfl, rfl, kN8⟩
            case turn =>
              clear kF8 kN8
              intro Nb s1b hI
              obtain ⟨preb, zsb1, vsb1, kb1, lnb1, nb1, ttb, m0b, io, h5, tk5, rfl, hlenb, hVb1, hio, f1b, f2b, hTb, F5, e51, e52, e53, N5⟩ := hI
              replace F5 := fr_eq F5 (gt_norm e51 e52 e53)
              rename_i hkIGetToken365 hkIGetToken377 hkIGetToken378 hkIGetToken379 hkIGetToken380 hkIGetToken381 hkIGetToken387 hkIGetToken388 hkIGetToken389 hkIGetToken390 hkIGetToken391 hkIGetToken392 hkIGetToken393 hkIGetToken394 hkIGetToken3104 hkIGetToken3106 hkIGetToken3107 hkIGetToken3108
              revert X₀ hz hinst hback offd offl hdl F hret B T hk hd hu X FG' B' X' T' l1q l1i O X₂ htb hkIGetToken379 hkIGetToken380 hkIGetToken381 hlen f1 f2 hT hlenb hVb1 hio f1b f2b hTb e51 e52 e53 N5 F5
              revert w zs vs n x d S pb l k ln st h₀ L m s R p loose mean mg mb dp un gd cn cs a ccd cl outer A₀ base g' L' h' tk1 h1 q h2 it h3 h4 hkIGetToken365 tb pre vs1 k1 ln1 n1 tt m0 hkIGetToken377 hkIGetToken378 u n6 k6 h6 tk6 hkIGetToken387 hkIGetToken388 hkIGetToken389 hkIGetToken390 hkIGetToken391 h7 tk7 t7 hkIGetToken3104 tk hkIGetToken3106 hkIGetToken3107 hkIGetToken3108 Nb preb zsb1 vsb1 kb1 lnb1 nb1 ttb m0b io h5 tk5
              refine no_implicit_lambda% (hk84 9035495 ?hkdGetToken3 ?hkPGetToken3 ?hkGGetToken3)
              case hkdGetToken3 => exact (dWorld, [], [], 0, (0 : Nat), (0 : Nat), (0 : Nat), (0 : Nat), (0 : Nat), ⟨0, 0, 0, 0, 0, 0⟩, 0, [], default, (0 : Nat), fun _ => none, {}, fun _ _ => True, default, [], fun _ => none, fun _ => none, fun _ => none, 0, 0, none, ⟨#[]⟩, default, (0 : Nat), .none, [], [], {}, default, default, (0 : Nat), default, 0, default, (0 : Nat), default, (0 : Nat), default, default, 0, 0, [], [], ⟨0, 0, 0, 0, 0, 0⟩, 0, 0, (0 : Nat), fun _ => none, default, 0, (0 : Nat), 0, ⟨0, 0, 0, 0, 0, 0⟩, default, 0, default, 0, 0, 0, 0, default, 0, (0 : Nat), default, 0, (0 : Nat), 0, default, 0, [], [], [], ⟨0, 0, 0, 0, 0, 0⟩, 0, 0, (0 : Nat), fun _ => none, dObj, default, 0)
              refine (?hkFGetToken3 : ∀ x0 x1 x2 x3 x4 x5 x6 x7 x8 x9 x10 x11 x12 x13 x14 x15 x16 x17 x18 x19 x20 x21 x22 x23 x24 x25 x26 x27 x28 x29 x30 x31 x32 x33 x34 x35 x36 x37 x38 x39 x40 x41 x42 x43 x44 x45 x46 x47 x48 x49 x50 x51 x52 x53 x54 x55 x56 x57 x58 x59 x60 x61 x62 x63 x64 x65 x66 x67 x68 x69 x70 x71 x72 x73 x74 x75 x76 x77 x78 x79 x80 x81 x82 x83, ?hkPGetToken3 x0 x1 x2 x3 x4 x5 x6 x7 x8 x9 x10 x11 x12 x13 x14 x15 x16 x17 x18 x19 x20 x21 x22 x23 x24 x25 x26 x27 x28 x29 x30 x31 x32 x33 x34 x35 x36 x37 x38 x39 x40 x41 x42 x43 x44 x45 x46 x47 x48 x49 x50 x51 x52 x53 x54 x55 x56 x57 x58 x59 x60 x61 x62 x63 x64 x65 x66 x67 x68 x69 x70 x71 x72 x73 x74 x75 x76 x77 x78 x79 x80 x81 x82 x83) _ _ ([]) (0) _ _ _ _ _ (⟨0, 0, 0, 0, 0, 0⟩) _ _ _ _ _ _ _ _ _ _ _ _ _ _ _ _ _ _ _ _ _ _ _ _ _ _ _ (default) _ (default) _ (default) (default) (0) _ _ ([]) (⟨0, 0, 0, 0, 0, 0⟩) _ (0) _ _ (default) (0) ((0 : Nat)) (0) (⟨0, 0, 0, 0, 0, 0⟩) (default) (0) (default) (0) (0) (0) (0) (default) (0) ((0 : Nat)) (default) (0) ((0 : Nat)) (0) (default) _ _ _ _ _ _ _ _ _ _ _ _
              intro w zs vs n x d S pb l k ln st h₀ L m s R p loose mean mg mb dp un gd cn cs a ccd cl outer A₀ base g' L' h' tk1 h1 q h2 it h3 h4 tk tb pre vs1 k1 ln1 n1 tt m0 h5 tk5 u n6 k6 h6 tk6 _ tk tk tk tk h7 tk7 t7 _ tk _ _ _ Nb preb zsb1 vsb1 kb1 lnb1 nb1 ttb m0b io h5 tk5 X₀ hz hinst hback offd offl hdl F hret B T hk hd hu X FG' B' X' T' l1q l1i O X₂ htb e51 e52 e53 hlen f1 f2 hT hlenb hVb1 hio f1b f2b hTb e51 e52 e53 N5 F5
              rcases hio with ⟨rfl, rfl⟩ | ⟨rfl, rfl, rfl⟩
              · refine' lex_next hVb1 X₂ O (szr (by assumption)) (Site.mk B' X' T' rfl (by walk_at "line") (by walk_at "line")) F5 N5 ?h0 ?h1
                case h0 =>
                  intro hz6 h6 tk6 F6 N6
                  subst hz6
                  clear F5 N5
                  (try dsimp only)
                  k_steps
                  rename News _ _ _ _ => kN8
                  rename Fr _ _ _ _ => kF8
                  exact ⟨_, by first | exact Nat.lt_succ_self _ | exact Nat.lt_succ_of_lt (Nat.lt_succ_self _) | exact Nat.succ_pos _ | (simp only [List.length_cons, List.length_nil] at *; omega), preb, [], _, _, _, _, _, _, _, _, _, rfl, by first | exact szs (by assumption) | exact szs2 (by assumption) | exact szt (by assumption) | exact sz0 (by assumption) | (simp only [List.length_cons, List.length_append, List.length_nil] at *; omega), .nil, .inr ⟨rfl, rfl, rfl⟩, by simpa [bare, tokRun] using f1b, by simpa [bare, tokRun] using f2b, by simpa [nls] using hTb, kF8, rfl, rfl, rfl, kN8⟩
                case h1 =>
                  intro cb crb hz6 ub vrb nb6 kb6 h6 tk6 hVb6 F6 N6
                  subst hz6
                  simp only [List.length_cons] at hlenb
                  simp only [nls] at hTb
                  clear hVb1 F5 N5
                  (try dsimp only)
                  refine' wpAny_of_eq (a := ()) rfl ?_
                  k_steps
                  · have e2 := b_true (c := cb) (by assumption)
                    subst e2
                    (try dsimp only)
                    rename News _ _ _ _ => kN8
                    rename Fr _ _ _ _ => kF8
                    refine' (rc_con crb vrb hVb6 nb6 x d S pb l kb6 _ ((it, citer q (tk1 + 1 + 1 + 1)) :: (q, methodObj (.ref 59) (.ref x)) :: ((x, instObj 76 d) :: (pb, W.listOf #[] 0) :: st)) (X₂.with O) (szv hVb6 (by assumption))).call (Site.mk B' X' T' rfl (by walk_at "line") (by walk_at "line")) kF8 kN8 ?_
                    intro v7 led7 h7 tk7 hP7 F7 N7
                    clear kF8 kN8
                    rcases crb with _ | ⟨c7, cr7⟩
                    · obtain ⟨⟨t7, rfl⟩, rfl⟩ := hP7
                      cases hVb6
                      (try dsimp only)
                      k_steps
                      rename News _ _ _ _ => kN8
                      rename Fr _ _ _ _ => kF8
                      simp only [str_push, str_push0] at kF8
                      exact ⟨_, by first | exact Nat.lt_succ_self _ | exact Nat.lt_succ_of_lt (Nat.lt_succ_self _) | exact Nat.succ_pos _ | (simp only [List.length_cons, List.length_nil] at *; omega), preb, [], _, _, _, _, _, _, _, _, _, rfl, by first | exact szs (by assumption) | exact szs2 (by assumption) | exact szt (by assumption) | exact sz0 (by assumption) | (simp only [List.length_cons, List.length_append, List.length_nil] at *; omega), .nil, .inl ⟨rfl, rfl⟩, by rw [f1b, bare_b0]; rfl, by rw [f2b, bare_b0]; rfl, by first | exact nl_a (by assumption) | exact nl_b (by assumption) | (simp only [nls] at *; omega), kF8, rfl, rfl, rfl, kN8⟩
                    · obtain ⟨t7, vr7, n7, k7, rfl, hV7, rfl⟩ := hP7
                      simp only [List.length_cons] at *
                      simp only [nls] at *
                      (try dsimp only)
                      k_steps
                      rename News _ _ _ _ => kN8
                      rename Fr _ _ _ _ => kF8
                      simp only [str_push, str_push0] at kF8
                      exact ⟨_, by first | exact Nat.lt_succ_self _ | exact Nat.lt_succ_of_lt (Nat.lt_succ_self _) | exact Nat.succ_pos _ | (simp only [List.length_cons, List.length_nil] at *; omega), (preb ++ [c7]), cr7, _, _, _, _, _, _, _, _, _, rfl, by first | exact szs (by assumption) | exact szs2 (by assumption) | exact szt (by assumption) | exact sz0 (by assumption) | (simp only [List.length_cons, List.length_append, List.length_nil] at *; omega), hV7, .inl ⟨rfl, rfl⟩, by rw [f1b, bare_b]; simp, by rw [f2b, bare_b], by first | exact nl_a (by assumption) | exact nl_b (by assumption) | (simp only [nls] at *; omega), kF8, rfl, rfl, rfl, kN8⟩
                  · have e1 := ws_false (c := cb) (by assumption)
                    have e2 := b_false (c := cb) (by assumption)
                    rename News _ _ _ _ => kN8
                    rename Fr _ _ _ _ => kF8
                    simp only [str_push, str_push0] at kF8
                    exact ⟨_, by first | exact Nat.lt_succ_self _ | exact Nat.lt_succ_of_lt (Nat.lt_succ_self _) | exact Nat.succ_pos _ | (simp only [List.length_cons, List.length_nil] at *; omega), (preb ++ [cb]), crb, _, _, _, _, _, _, _, _, _, rfl, by first | exact szs (by assumption) | exact szs2 (by assumption) | exact szt (by assumption) | exact sz0 (by assumption) | (simp only [List.length_cons, List.length_append, List.length_nil] at *; omega), hVb6, .inl ⟨rfl, rfl⟩, by rw [f1b, bare_c _ e1 e2]; simp, by rw [f2b, bare_c _ e1 e2], by first | exact nl_a (by assumption) | exact nl_b (by assumption) | (simp only [nls] at *; omega), kF8, rfl, rfl, rfl, kN8⟩
                  · rename News _ _ _ _ => kN8
                    rename Fr _ _ _ _ => kF8
                    have e1 := ws_true (c := cb) (by assumption)
                    exact tok_fin hret kF8 kN8 hVb6 (by simpa [bare_w _ e1] using f1b) (by simpa [bare_w _ e1] using f2b) (by first | exact nl_a (by assumption) | exact nl_b (by assumption) | (simp only [nls] at *; omega))
              · refine' ci_next_ended (s := { s with heap := h5, toks := tk5 }) (by rfl) (N5 _ (.tail _ (.tail _ (.head _)))).1 fun h6 hk6 => ?_
                have F6 := F5.keeps hk6
                have N6 : News g' L' h6 _ := fun p hp => ⟨hk6 _ _ (N5 p hp).1, (N5 p hp).2⟩
                clear F5 N5
                cases hVb1
                (try dsimp only)
                k_steps
                rename News _ _ _ _ => kN8
                rename Fr _ _ _ _ => kF8
                exact ⟨_, by first | exact Nat.lt_succ_self _ | exact Nat.lt_succ_of_lt (Nat.lt_succ_self _) | exact Nat.succ_pos _ | (simp only [List.length_cons, List.length_nil] at *; omega), preb, [], _, _, _, _, _, _, _, _, _, rfl, by first | exact szs (by assumption) | exact szs2 (by assumption) | exact szt (by assumption) | exact sz0 (by assumption) | (simp only [List.length_cons, List.length_append, List.length_nil] at *; omega), .nil, .inr ⟨rfl, rfl, rfl⟩, by simpa [bare, tokRun] using f1b, by simpa [bare, tokRun] using f2b, by simpa [nls] using hTb, kF8, rfl, rfl, rfl, kN8⟩
          · obtain ⟨t7, vr7, n7, k7, rfl, hV7, rfl⟩ := hP7
            simp only [List.length_cons] at *
            simp only [nls] at *
            (try dsimp only)
            k_steps
            rename News _ _ _ _ => kN8
            rename Fr _ _ _ _ => kF8
            simp only [str_push, str_push0] at kF8
            rename News _ _ _ _ => kN8
            rename Fr _ _ _ _ => kF8
            refine' wpAny_For ?_
            k_steps
            rename News _ _ _ _ => kN8
            rename Fr _ _ _ _ => kF8
            refine' ci_pyIter (kN8 _ (.tail _ (.tail _ (.head _)))).1 rfl ?_
            refine' forLoop_next (GtAt w g' L' s x d S pb l it q (tk1 + 1 + 1 + 1) ((x, instObj 76 d) :: (pb, W.listOf #[] 0) :: st) (tokRun zs) (ln + nls zs) bare) ?turn (cr7.length + 1) ?start
            case start =>
              exact ⟨(pre ++ [c7]), cr7, _, _, _, _, _, _, _, _, _, rfl, by first | exact szs (by assumption) | exact szs2 (by assumption) | exact szt (by assumption) | exact sz0 (by assumption) | (simp only [List.length_cons, List.length_append, List.length_nil] at *; omega), hV7, .inl ⟨rfl, rfl⟩, by rw [f1, tok_c _ e1 e2, bare_b]; simp, by rw [f2, tok_c _ e1 e2, bare_b], by first | exact nl_a (by assumption) | exact nl_b (by assumption) | (simp only [nls] at *; omega), kF8, rfl, rfl, rfl, kN8⟩
            case turn =>
              clear kF8 kN8
              intro Nb s1b hI
              obtain ⟨preb, zsb1, vsb1, kb1, lnb1, nb1, ttb, m0b, io, h5, tk5, rfl, hlenb, hVb1, hio, f1b, f2b, hTb, F5, e51, e52, e53, N5⟩ := hI
              replace F5 := fr_eq F5 (gt_norm e51 e52 e53)
              rename_i hkIGetToken465 hkIGetToken477 hkIGetToken478 hkIGetToken479 hkIGetToken480 hkIGetToken481 hkIGetToken488 hkIGetToken489 hkIGetToken490 hkIGetToken491 hkIGetToken492 hkIGetToken493 hkIGetToken494 hkIGetToken495 hkIGetToken4112 hkIGetToken4114 hkIGetToken4115 hkIGetToken4116
              revert X₀ hz hinst hback offd offl hdl F hret B T hk hd hu X FG' B' X' T' l1q l1i O X₂ htb hkIGetToken479 hkIGetToken480 hkIGetToken481 hV6 hlen f1 f2 hT hV7 hlenb hVb1 hio f1b f2b hTb e51 e52 e53 N5 F5
              have hkU0 : Unit := ()
              have hkU1 : Unit := ()
              have hkU2 : Unit := ()
              have hkU3 : Unit := ()
              have hkU4 : Unit := ()
              have hkU5 : Unit := ()
              have hkU6 : Unit := ()
              have hkU7 : Unit := ()
              have hkU8 : Unit := ()
              have hkU9 : Unit := ()
              have hkU10 : Unit := ()
              have hkU11 : Unit := ()
              have hkU12 : Unit := ()
              have hkU13 : Unit := ()
              have hkU14 : Unit := ()
              have hkU15 : Unit := ()
              have hkU16 : Unit := ()
              revert w zs vs n x d S pb l k ln st h₀ L m s R p loose mean mg mb dp un gd cn cs a ccd cl outer A₀ base g' L' h' tk1 h1 q h2 it h3 h4 hkIGetToken465 tb pre vs1 k1 ln1 n1 tt m0 hkIGetToken477 hkIGetToken478 u vr n6 k6 h6 tk6 hkIGetToken488 hkIGetToken489 hkIGetToken490 hkIGetToken491 hkIGetToken492 h7 tk7 c7 cr7 t7 vr7 n7 k7 hkIGetToken4112 tk hkIGetToken4114 hkIGetToken4115 hkIGetToken4116 Nb preb zsb1 vsb1 kb1 lnb1 nb1 ttb m0b io h5 tk5 hkU0 hkU1 hkU2 hkU3 hkU4 hkU5 hkU6 hkU7 hkU8 hkU9 hkU10 hkU11 hkU12 hkU13 hkU14 hkU15 hkU16
              refine no_implicit_lambda% (hk107 11803168 ?hkdGetToken4 ?hkPGetToken4 ?hkGGetToken4)
              case hkdGetToken4 => exact (dWorld, [], [], 0, (0 : Nat), (0 : Nat), (0 : Nat), (0 : Nat), (0 : Nat), ⟨0, 0, 0, 0, 0, 0⟩, 0, [], default, (0 : Nat), fun _ => none, {}, fun _ _ => True, default, [], fun _ => none, fun _ => none, fun _ => none, 0, 0, none, ⟨#[]⟩, default, (0 : Nat), .none, [], [], {}, default, default, (0 : Nat), default, 0, default, (0 : Nat), default, (0 : Nat), default, default, 0, 0, [], [], ⟨0, 0, 0, 0, 0, 0⟩, 0, 0, (0 : Nat), fun _ => none, default, 0, (0 : Nat), [], 0, ⟨0, 0, 0, 0, 0, 0⟩, default, 0, default, 0, 0, 0, 0, default, 0, 0, [], (0 : Nat), [], 0, ⟨0, 0, 0, 0, 0, 0⟩, default, 0, (0 : Nat), 0, default, 0, [], [], [], ⟨0, 0, 0, 0, 0, 0⟩, 0, 0, (0 : Nat), fun _ => none, dObj, default, 0, (), (), (), (), (), (), (), (), (), (), (), (), (), (), (), (), ())
              refine (?hkFGetToken4 : ∀ x0 x1 x2 x3 x4 x5 x6 x7 x8 x9 x10 x11 x12 x13 x14 x15 x16 x17 x18 x19 x20 x21 x22 x23 x24 x25 x26 x27 x28 x29 x30 x31 x32 x33 x34 x35 x36 x37 x38 x39 x40 x41 x42 x43 x44 x45 x46 x47 x48 x49 x50 x51 x52 x53 x54 x55 x56 x57 x58 x59 x60 x61 x62 x63 x64 x65 x66 x67 x68 x69 x70 x71 x72 x73 x74 x75 x76 x77 x78 x79 x80 x81 x82 x83 x84 x85 x86 x87 x88 x89 x90 x91 x92 x93 x94 x95 x96 x97 x98 x99 x100 x101 x102 x103 x104 x105 x106, ?hkPGetToken4 x0 x1 x2 x3 x4 x5 x6 x7 x8 x9 x10 x11 x12 x13 x14 x15 x16 x17 x18 x19 x20 x21 x22 x23 x24 x25 x26 x27 x28 x29 x30 x31 x32 x33 x34 x35 x36 x37 x38 x39 x40 x41 x42 x43 x44 x45 x46 x47 x48 x49 x50 x51 x52 x53 x54 x55 x56 x57 x58 x59 x60 x61 x62 x63 x64 x65 x66 x67 x68 x69 x70 x71 x72 x73 x74 x75 x76 x77 x78 x79 x80 x81 x82 x83 x84 x85 x86 x87 x88 x89 x90 x91 x92 x93 x94 x95 x96 x97 x98 x99 x100 x101 x102 x103 x104 x105 x106) _ _ ([]) (0) _ _ _ _ _ (⟨0, 0, 0, 0, 0, 0⟩) _ _ _ _ _ _ _ _ _ _ _ _ _ _ _ _ _ _ _ _ _ _ _ _ _ (default) _ (default) _ (default) _ (default) (default) (0) _ _ ([]) (⟨0, 0, 0, 0, 0, 0⟩) _ (0) _ _ (default) (0) ((0 : Nat)) _ (0) (⟨0, 0, 0, 0, 0, 0⟩) (default) (0) (default) (0) (0) (0) (0) (default) (0) _ _ ((0 : Nat)) _ (0) (⟨0, 0, 0, 0, 0, 0⟩) (default) (0) ((0 : Nat)) (0) (default) _ _ _ _ _ _ _ _ _ _ _ _ () () () () () () () () () () () () () () () () ()
              intro w zs vs n x d S pb l k ln st h₀ L m s R p loose mean mg mb dp un gd cn cs a ccd cl outer A₀ base g' L' h' tk1 h1 q h2 it h3 h4 tk tb pre vs1 k1 ln1 n1 tt m0 h5 tk5 u vr n6 k6 h6 tk6 _ tk tk tk tk h7 tk7 c7 cr7 t7 vr7 n7 k7 _ tk _ _ _ Nb preb zsb1 vsb1 kb1 lnb1 nb1 ttb m0b io h5 tk5 hkU0 hkU1 hkU2 hkU3 hkU4 hkU5 hkU6 hkU7 hkU8 hkU9 hkU10 hkU11 hkU12 hkU13 hkU14 hkU15 hkU16 X₀ hz hinst hback offd offl hdl F hret B T hk hd hu X FG' B' X' T' l1q l1i O X₂ htb e51 e52 e53 hV6 hlen f1 f2 hT hV7 hlenb hVb1 hio f1b f2b hTb e51 e52 e53 N5 F5
              clear hkU0 hkU1 hkU2 hkU3 hkU4 hkU5 hkU6 hkU7 hkU8 hkU9 hkU10 hkU11 hkU12 hkU13 hkU14 hkU15 hkU16
              rcases hio with ⟨rfl, rfl⟩ | ⟨rfl, rfl, rfl⟩
              · refine' lex_next hVb1 X₂ O (szr (by assumption)) (Site.mk B' X' T' rfl (by walk_at "line") (by walk_at "line")) F5 N5 ?h0 ?h1
                case h0 =>
                  intro hz6 h6 tk6 F6 N6
                  subst hz6
                  clear F5 N5
                  (try dsimp only)
                  k_steps
                  rename News _ _ _ _ => kN8
                  rename Fr _ _ _ _ => kF8
                  exact ⟨_, by first | exact Nat.lt_succ_self _ | exact Nat.lt_succ_of_lt (Nat.lt_succ_self _) | exact Nat.succ_pos _ | (simp only [List.length_cons, List.length_nil] at *; omega), preb, [], _, _, _, _, _, _, _, _, _, rfl, by first | exact szs (by assumption) | exact szs2 (by assumption) | exact szt (by assumption) | exact sz0 (by assumption) | (simp only [List.length_cons, List.length_append, List.length_nil] at *; omega), .nil, .inr ⟨rfl, rfl, rfl⟩, by simpa [bare, tokRun] using f1b, by simpa [bare, tokRun] using f2b, by simpa [nls] using hTb, kF8, rfl, rfl, rfl, kN8⟩
                case h1 =>
                  intro cb crb hz6 ub vrb nb6 kb6 h6 tk6 hVb6 F6 N6
                  subst hz6
                  simp only [List.length_cons] at hlenb
                  simp only [nls] at hTb
                  clear hVb1 F5 N5
                  (try dsimp only)
                  refine' wpAny_of_eq (a := ()) rfl ?_
                  k_steps
                  · have e2 := b_true (c := cb) (by assumption)
                    subst e2
                    (try dsimp only)
                    rename News _ _ _ _ => kN8
                    rename Fr _ _ _ _ => kF8
                    refine' (rc_con crb vrb hVb6 nb6 x d S pb l kb6 _ ((it, citer q (tk1 + 1 + 1 + 1)) :: (q, methodObj (.ref 59) (.ref x)) :: ((x, instObj 76 d) :: (pb, W.listOf #[] 0) :: st)) (X₂.with O) (szv hVb6 (by assumption))).call (Site.mk B' X' T' rfl (by walk_at "line") (by walk_at "line")) kF8 kN8 ?_
                    intro v7 led7 h7 tk7 hP7 F7 N7
                    clear kF8 kN8
                    rcases crb with _ | ⟨c7, cr7⟩
                    · obtain ⟨⟨t7, rfl⟩, rfl⟩ := hP7
                      cases hVb6
                      (try dsimp only)
                      k_steps
                      rename News _ _ _ _ => kN8
                      rename Fr _ _ _ _ => kF8
                      simp only [str_push, str_push0] at kF8
                      exact ⟨_, by first | exact Nat.lt_succ_self _ | exact Nat.lt_succ_of_lt (Nat.lt_succ_self _) | exact Nat.succ_pos _ | (simp only [List.length_cons, List.length_nil] at *; omega), preb, [], _, _, _, _, _, _, _, _, _, rfl, by first | exact szs (by assumption) | exact szs2 (by assumption) | exact szt (by assumption) | exact sz0 (by assumption) | (simp only [List.length_cons, List.length_append, List.length_nil] at *; omega), .nil, .inl ⟨rfl, rfl⟩, by rw [f1b, bare_b0]; rfl, by rw [f2b, bare_b0]; rfl, by first | exact nl_a (by assumption) | exact nl_b (by assumption) | (simp only [nls] at *; omega), kF8, rfl, rfl, rfl, kN8⟩
                    · obtain ⟨t7, vr7, n7, k7, rfl, hV7, rfl⟩ := hP7
                      simp only [List.length_cons] at *
                      simp only [nls] at *
                      (try dsimp only)
                      k_steps
                      rename News _ _ _ _ => kN8
                      rename Fr _ _ _ _ => kF8
                      simp only [str_push, str_push0] at kF8
                      exact ⟨_, by first | exact Nat.lt_succ_self _ | exact Nat.lt_succ_of_lt (Nat.lt_succ_self _) | exact Nat.succ_pos _ | (simp only [List.length_cons, List.length_nil] at *; omega), (preb ++ [c7]), cr7, _, _, _, _, _, _, _, _, _, rfl, by first | exact szs (by assumption) | exact szs2 (by assumption) | exact szt (by assumption) | exact sz0 (by assumption) | (simp only [List.length_cons, List.length_append, List.length_nil] at *; omega), hV7, .inl ⟨rfl, rfl⟩, by rw [f1b, bare_b]; simp, by rw [f2b, bare_b], by first | exact nl_a (by assumption) | exact nl_b (by assumption) | (simp only [nls] at *; omega), kF8, rfl, rfl, rfl, kN8⟩
                  · have e1 := ws_false (c := cb) (by assumption)
                    have e2 := b_false (c := cb) (by assumption)
                    rename News _ _ _ _ => kN8
                    rename Fr _ _ _ _ => kF8
                    simp only [str_push, str_push0] at kF8
                    exact ⟨_, by first | exact Nat.lt_succ_self _ | exact Nat.lt_succ_of_lt (Nat.lt_succ_self _) | exact Nat.succ_pos _ | (simp only [List.length_cons, List.length_nil] at *; omega), (preb ++ [cb]), crb, _, _, _, _, _, _, _, _, _, rfl, by first | exact szs (by assumption) | exact szs2 (by assumption) | exact szt (by assumption) | exact sz0 (by assumption) | (simp only [List.length_cons, List.length_append, List.length_nil] at *; omega), hVb6, .inl ⟨rfl, rfl⟩, by rw [f1b, bare_c _ e1 e2]; simp, by rw [f2b, bare_c _ e1 e2], by first | exact nl_a (by assumption) | exact nl_b (by assumption) | (simp only [nls] at *; omega), kF8, rfl, rfl, rfl, kN8⟩
                  · rename News _ _ _ _ => kN8
                    rename Fr _ _ _ _ => kF8
                    have e1 := ws_true (c := cb) (by assumption)
                    exact tok_fin hret kF8 kN8 hVb6 (by simpa [bare_w _ e1] using f1b) (by simpa [bare_w _ e1] using f2b) (by first | exact nl_a (by assumption) | exact nl_b (by assumption) | (simp only [nls] at *; omega))
              · refine' ci_next_ended (s := { s with heap := h5, toks := tk5 }) (by rfl) (N5 _ (.tail _ (.tail _ (.head _)))).1 fun h6 hk6 => ?_
                have F6 := F5.keeps hk6
                have N6 : News g' L' h6 _ := fun p hp => ⟨hk6 _ _ (N5 p hp).1, (N5 p hp).2⟩
                clear F5 N5
                cases hVb1
                (try dsimp only)
                k_steps
                rename News _ _ _ _ => kN8
                rename Fr _ _ _ _ => kF8
                exact ⟨_, by first | exact Nat.lt_succ_self _ | exact Nat.lt_succ_of_lt (Nat.lt_succ_self _) | exact Nat.succ_pos _ | (simp only [List.length_cons, List.length_nil] at *; omega), preb, [], _, _, _, _, _, _, _, _, _, rfl, by first | exact szs (by assumption) | exact szs2 (by assumption) | exact szt (by assumption) | exact sz0 (by assumption) | (simp only [List.length_cons, List.length_append, List.length_nil] at *; omega), .nil, .inr ⟨rfl, rfl, rfl⟩, by simpa [bare, tokRun] using f1b, by simpa [bare, tokRun] using f2b, by simpa [nls] using hTb, kF8, rfl, rfl, rfl, kN8⟩
        · have e1 := ws_false (c := c) (by assumption)
          have e2 := q_false (c := c) (by assumption)
          have e3 := b_false (c := c) (by assumption)
          rename News _ _ _ _ => kN8
          rename Fr _ _ _ _ => kF8
          simp only [str_push, str_push0] at kF8
          rename News _ _ _ _ => kN8
          rename Fr _ _ _ _ => kF8
          refine' wpAny_For ?_
          k_steps
          rename News _ _ _ _ => kN8
          rename Fr _ _ _ _ => kF8
          refine' ci_pyIter (kN8 _ (.tail _ (.tail _ (.head _)))).1 rfl ?_
          refine' forLoop_next (GtAt w g' L' s x d S pb l it q (tk1 + 1 + 1 + 1) ((x, instObj 76 d) :: (pb, W.listOf #[] 0) :: st) (tokRun zs) (ln + nls zs) bare) ?turn (cr.length + 1) ?start
          case start =>
            exact ⟨(pre ++ [c]), cr, _, _, _, _, _, _, _, _, _, rfl, by first | exact szs (by assumption) | exact szs2 (by assumption) | exact szt (by assumption) | exact sz0 (by assumption) | (simp only [List.length_cons, List.length_append, List.length_nil] at *; omega), hV6, .inl ⟨rfl, rfl⟩, by rw [f1, tok_c _ e1 e2, bare_c _ e1 e3]; simp, by rw [f2, tok_c _ e1 e2, bare_c _ e1 e3], by first | exact nl_a (by assumption) | exact nl_b (by assumption) | (simp only [nls] at *; omega), kF8, rfl, rfl, rfl, kN8⟩
          case turn =>
            clear kF8 kN8
            intro Nb s1b hI
            obtain ⟨preb, zsb1, vsb1, kb1, lnb1, nb1, ttb, m0b, io, h5, tk5, rfl, hlenb, hVb1, hio, f1b, f2b, hTb, F5, e51, e52, e53, N5⟩ := hI
            replace F5 := fr_eq F5 (gt_norm e51 e52 e53)
            rename_i hkIGetToken565 hkIGetToken577 hkIGetToken578 hkIGetToken579 hkIGetToken580 hkIGetToken581 hkIGetToken595 hkIGetToken596 hkIGetToken597 hkIGetToken598 hkIGetToken599 hkIGetToken5100 hkIGetToken5101 hkIGetToken5103 hkIGetToken5104 hkIGetToken5105
            revert X₀ hz hinst hback offd offl hdl F hret B T hk hd hu X FG' B' X' T' l1q l1i O X₂ htb hkIGetToken579 hkIGetToken580 hkIGetToken581 hV6 hlen f1 f2 hT hkIGetToken597 hkIGetToken599 hkIGetToken5101 e1 e2 e3 hlenb hVb1 hio f1b f2b hTb e51 e52 e53 N5 F5
            have hkU0 : Unit := ()
            have hkU1 : Unit := ()
            revert w zs vs n x d S pb l k ln st h₀ L m s R p loose mean mg mb dp un gd cn cs a ccd cl outer A₀ base g' L' h' tk1 h1 q h2 it h3 h4 hkIGetToken565 tb pre vs1 k1 ln1 n1 tt m0 hkIGetToken577 hkIGetToken578 c cr u vr n6 k6 h6 tk6 hkIGetToken595 hkIGetToken596 hkIGetToken598 hkIGetToken5100 tk hkIGetToken5103 hkIGetToken5104 hkIGetToken5105 Nb preb zsb1 vsb1 kb1 lnb1 nb1 ttb m0b io h5 tk5 hkU0 hkU1
            refine no_implicit_lambda% (hk84 9332965 ?hkdGetToken5 ?hkPGetToken5 ?hkGGetToken5)
            case hkdGetToken5 => exact (dWorld, [], [], 0, (0 : Nat), (0 : Nat), (0 : Nat), (0 : Nat), (0 : Nat), ⟨0, 0, 0, 0, 0, 0⟩, 0, [], default, (0 : Nat), fun _ => none, {}, fun _ _ => True, default, [], fun _ => none, fun _ => none, fun _ => none, 0, 0, none, ⟨#[]⟩, default, (0 : Nat), .none, [], [], {}, default, default, (0 : Nat), default, 0, default, (0 : Nat), default, (0 : Nat), default, default, 0, 0, [], [], ⟨0, 0, 0, 0, 0, 0⟩, 0, 0, (0 : Nat), fun _ => none, default, 0, 0, [], (0 : Nat), [], 0, ⟨0, 0, 0, 0, 0, 0⟩, default, 0, default, 0, 0, 0, 0, (0 : Nat), 0, default, 0, [], [], [], ⟨0, 0, 0, 0, 0, 0⟩, 0, 0, (0 : Nat), fun _ => none, dObj, default, 0, (), ())
            refine (?hkFGetToken5 : ∀ x0 x1 x2 x3 x4 x5 x6 x7 x8 x9 x10 x11 x12 x13 x14 x15 x16 x17 x18 x19 x20 x21 x22 x23 x24 x25 x26 x27 x28 x29 x30 x31 x32 x33 x34 x35 x36 x37 x38 x39 x40 x41 x42 x43 x44 x45 x46 x47 x48 x49 x50 x51 x52 x53 x54 x55 x56 x57 x58 x59 x60 x61 x62 x63 x64 x65 x66 x67 x68 x69 x70 x71 x72 x73 x74 x75 x76 x77 x78 x79 x80 x81 x82 x83, ?hkPGetToken5 x0 x1 x2 x3 x4 x5 x6 x7 x8 x9 x10 x11 x12 x13 x14 x15 x16 x17 x18 x19 x20 x21 x22 x23 x24 x25 x26 x27 x28 x29 x30 x31 x32 x33 x34 x35 x36 x37 x38 x39 x40 x41 x42 x43 x44 x45 x46 x47 x48 x49 x50 x51 x52 x53 x54 x55 x56 x57 x58 x59 x60 x61 x62 x63 x64 x65 x66 x67 x68 x69 x70 x71 x72 x73 x74 x75 x76 x77 x78 x79 x80 x81 x82 x83) _ _ ([]) (0) _ _ _ _ _ (⟨0, 0, 0, 0, 0, 0⟩) _ _ _ _ _ _ _ _ _ _ _ _ _ _ _ _ _ _ _ _ _ _ _ _ _ _ _ (default) _ (default) _ (default) (default) (0) _ _ ([]) (⟨0, 0, 0, 0, 0, 0⟩) _ (0) _ _ (default) (0) _ _ ((0 : Nat)) _ (0) (⟨0, 0, 0, 0, 0, 0⟩) (default) (0) (default) (0) (0) (0) (0) ((0 : Nat)) (0) (default) _ _ _ _ _ _ _ _ _ _ _ _ () ()
            intro w zs vs n x d S pb l k ln st h₀ L m s R p loose mean mg mb dp un gd cn cs a ccd cl outer A₀ base g' L' h' tk1 h1 q h2 it h3 h4 tk tb pre vs1 k1 ln1 n1 tt m0 h5 tk5 c cr u vr n6 k6 h6 tk6 _ tk tk tk tk _ _ _ Nb preb zsb1 vsb1 kb1 lnb1 nb1 ttb m0b io h5 tk5 hkU0 hkU1 X₀ hz hinst hback offd offl hdl F hret B T hk hd hu X FG' B' X' T' l1q l1i O X₂ htb e51 e52 e53 hV6 hlen f1 f2 hT _ _ _ e1 e2 e3 hlenb hVb1 hio f1b f2b hTb e51 e52 e53 N5 F5
            clear hkU0 hkU1
            rcases hio with ⟨rfl, rfl⟩ | ⟨rfl, rfl, rfl⟩
            · refine' lex_next hVb1 X₂ O (szr (by assumption)) (Site.mk B' X' T' rfl (by walk_at "line") (by walk_at "line")) F5 N5 ?h0 ?h1
              case h0 =>
                intro hz6 h6 tk6 F6 N6
                subst hz6
                clear F5 N5
                (try dsimp only)
                k_steps
                rename News _ _ _ _ => kN8
                rename Fr _ _ _ _ => kF8
                exact ⟨_, by first | exact Nat.lt_succ_self _ | exact Nat.lt_succ_of_lt (Nat.lt_succ_self _) | exact Nat.succ_pos _ | (simp only [List.length_cons, List.length_nil] at *; omega), preb, [], _, _, _, _, _, _, _, _, _, rfl, by first | exact szs (by assumption) | exact szs2 (by assumption) | exact szt (by assumption) | exact sz0 (by assumption) | (simp only [List.length_cons, List.length_append, List.length_nil] at *; omega), .nil, .inr ⟨rfl, rfl, rfl⟩, by simpa [bare, tokRun] using f1b, by simpa [bare, tokRun] using f2b, by simpa [nls] using hTb, kF8, rfl, rfl, rfl, kN8⟩
              case h1 =>
                intro cb crb hz6 ub vrb nb6 kb6 h6 tk6 hVb6 F6 N6
                subst hz6
                simp only [List.length_cons] at hlenb
                simp only [nls] at hTb
                clear hVb1 F5 N5
                (try dsimp only)
                refine' wpAny_of_eq (a := ()) rfl ?_
                k_steps
                · have e2 := b_true (c := cb) (by assumption)
                  subst e2
                  (try dsimp only)
                  rename News _ _ _ _ => kN8
                  rename Fr _ _ _ _ => kF8
                  refine' (rc_con crb vrb hVb6 nb6 x d S pb l kb6 _ ((it, citer q (tk1 + 1 + 1 + 1)) :: (q, methodObj (.ref 59) (.ref x)) :: ((x, instObj 76 d) :: (pb, W.listOf #[] 0) :: st)) (X₂.with O) (szv hVb6 (by assumption))).call (Site.mk B' X' T' rfl (by walk_at "line") (by walk_at "line")) kF8 kN8 ?_
                  intro v7 led7 h7 tk7 hP7 F7 N7
                  clear kF8 kN8
                  rcases crb with _ | ⟨c7, cr7⟩
                  · obtain ⟨⟨t7, rfl⟩, rfl⟩ := hP7
                    cases hVb6
                    (try dsimp only)
                    k_steps
                    rename News _ _ _ _ => kN8
                    rename Fr _ _ _ _ => kF8
                    simp only [str_push, str_push0] at kF8
                    exact ⟨_, by first | exact Nat.lt_succ_self _ | exact Nat.lt_succ_of_lt (Nat.lt_succ_self _) | exact Nat.succ_pos _ | (simp only [List.length_cons, List.length_nil] at *; omega), preb, [], _, _, _, _, _, _, _, _, _, rfl, by first | exact szs (by assumption) | exact szs2 (by assumption) | exact szt (by assumption) | exact sz0 (by assumption) | (simp only [List.length_cons, List.length_append, List.length_nil] at *; omega), .nil, .inl ⟨rfl, rfl⟩, by rw [f1b, bare_b0]; rfl, by rw [f2b, bare_b0]; rfl, by first | exact nl_a (by assumption) | exact nl_b (by assumption) | (simp only [nls] at *; omega), kF8, rfl, rfl, rfl, kN8⟩
                  · obtain ⟨t7, vr7, n7, k7, rfl, hV7, rfl⟩ := hP7
                    simp only [List.length_cons] at *
                    simp only [nls] at *
                    (try dsimp only)
                    k_steps
                    rename News _ _ _ _ => kN8
                    rename Fr _ _ _ _ => kF8
                    simp only [str_push, str_push0] at kF8
                    exact ⟨_, by first | exact Nat.lt_succ_self _ | exact Nat.lt_succ_of_lt (Nat.lt_succ_self _) | exact Nat.succ_pos _ | (simp only [List.length_cons, List.length_nil] at *; omega), (preb ++ [c7]), cr7, _, _, _, _, _, _, _, _, _, rfl, by first | exact szs (by assumption) | exact szs2 (by assumption) | exact szt (by assumption) | exact sz0 (by assumption) | (simp only [List.length_cons, List.length_append, List.length_nil] at *; omega), hV7, .inl ⟨rfl, rfl⟩, by rw [f1b, bare_b]; simp, by rw [f2b, bare_b], by first | exact nl_a (by assumption) | exact nl_b (by assumption) | (simp only [nls] at *; omega), kF8, rfl, rfl, rfl, kN8⟩
                · have e1 := ws_false (c := cb) (by assumption)
                  have e2 := b_false (c := cb) (by assumption)
                  rename News _ _ _ _ => kN8
                  rename Fr _ _ _ _ => kF8
                  simp only [str_push, str_push0] at kF8
                  exact ⟨_, by first | exact Nat.lt_succ_self _ | exact Nat.lt_succ_of_lt (Nat.lt_succ_self _) | exact Nat.succ_pos _ | (simp only [List.length_cons, List.length_nil] at *; omega), (preb ++ [cb]), crb, _, _, _, _, _, _, _, _, _, rfl, by first | exact szs (by assumption) | exact szs2 (by assumption) | exact szt (by assumption) | exact sz0 (by assumption) | (simp only [List.length_cons, List.length_append, List.length_nil] at *; omega), hVb6, .inl ⟨rfl, rfl⟩, by rw [f1b, bare_c _ e1 e2]; simp, by rw [f2b, bare_c _ e1 e2], by first | exact nl_a (by assumption) | exact nl_b (by assumption) | (simp only [nls] at *; omega), kF8, rfl, rfl, rfl, kN8⟩
                · rename News _ _ _ _ => kN8
                  rename Fr _ _ _ _ => kF8
                  have e1 := ws_true (c := cb) (by assumption)
                  exact tok_fin hret kF8 kN8 hVb6 (by simpa [bare_w _ e1] using f1b) (by simpa [bare_w _ e1] using f2b) (by first | exact nl_a (by assumption) | exact nl_b (by assumption) | (simp only [nls] at *; omega))
            · refine' ci_next_ended (s := { s with heap := h5, toks := tk5 }) (by rfl) (N5 _ (.tail _ (.tail _ (.head _)))).1 fun h6 hk6 => ?_
              have F6 := F5.keeps hk6
              have N6 : News g' L' h6 _ := fun p hp => ⟨hk6 _ _ (N5 p hp).1, (N5 p hp).2⟩
              clear F5 N5
              cases hVb1
              (try dsimp only)
              k_steps
              rename News _ _ _ _ => kN8
              rename Fr _ _ _ _ => kF8
              exact ⟨_, by first | exact Nat.lt_succ_self _ | exact Nat.lt_succ_of_lt (Nat.lt_succ_self _) | exact Nat.succ_pos _ | (simp only [List.length_cons, List.length_nil] at *; omega), preb, [], _, _, _, _, _, _, _, _, _, rfl, by first | exact szs (by assumption) | exact szs2 (by assumption) | exact szt (by assumption) | exact sz0 (by assumption) | (simp only [List.length_cons, List.length_append, List.length_nil] at *; omega), .nil, .inr ⟨rfl, rfl, rfl⟩, by simpa [bare, tokRun] using f1b, by simpa [bare, tokRun] using f2b, by simpa [nls] using hTb, kF8, rfl, rfl, rfl, kN8⟩
        · have e1 := ws_true (c := c) (by assumption)
          rename News _ _ _ _ => kN8
          rename Fr _ _ _ _ => kF8
          exact ⟨_, by first | exact Nat.lt_succ_self _ | exact Nat.lt_succ_of_lt (Nat.lt_succ_self _) | exact Nat.succ_pos _ | (simp only [List.length_cons, List.length_nil] at *; omega), pre, cr, _, _, _, _, _, _, _, _, _, rfl, by first | exact szs (by assumption) | exact szs2 (by assumption) | exact szt (by assumption) | exact sz0 (by assumption) | (simp only [List.length_cons, List.length_append, List.length_nil] at *; omega), hV6, .inl ⟨rfl, rfl⟩, by rw [f1, tok_w _ e1], by rw [f2, tok_w _ e1], by first | exact nl_a (by assumption) | exact nl_b (by assumption) | (simp only [nls] at *; omega), kF8, rfl, rfl, rfl, kN8⟩
    · refine' ci_next_ended (s := { s with heap := h5, toks := tk5 }) (by rfl) (N5 _ (.tail _ (.tail _ (.head _)))).1 fun h6 hk6 => ?_
      have F6 := F5.keeps hk6
      have N6 : News g' L' h6 _ := fun p hp => ⟨hk6 _ _ (N5 p hp).1, (N5 p hp).2⟩
      clear F5 N5
      cases hV1
      (try dsimp only)
      k_steps
      rename News _ _ _ _ => kN8
      rename Fr _ _ _ _ => kF8
      exact tok_fin (rs := []) hret kF8 kN8 .nil (by simpa [tokRun] using f1) (by simpa [tokRun] using f2) (by simpa [nls] using hT)
end Mine
end
section
open PySem PySem.W PyProof.Rows PyProof.Rows.LCg
namespace Mine
section
variable {prog : Program} {w : World} {A : Around} {s : Shared} {h₀ : Heap} {L : Addr} {m : Str → Option Value} {env : Env} {elt : Expr} {x : Str} {scope : Scope} {cl : List (Str × Addr)} {S : List (Addr × Obj) → Prop} {P : Nat → Value → Prop} {Fin : List Value → List (Addr × Obj) → Prop}
theorem compEnd_mono {s₁ s₂ : Shared} {I C D : Addr} {oI oC oD : Obj} {r r' : Value → List (Addr × Obj) → Prop} {y : Value} (h : CompEnd h₀ L m s₁ I oI C oC D oD S r y s₂) (k : ∀ l, r y l → r' y l) : CompEnd h₀ L m s₁ I oI C oC D oD S r' y s₂ := by
  obtain ⟨h', tk, news', e, F, N, o, hS, hr⟩ := h
  exact ⟨h', tk, news', e, F, N, o, hS, k _ hr⟩
/-- a comprehension by an invariant of its turns -/
theorem comp_rest {n : Nat} {J : Nat → List Value → Led → Prop} (fin : ∀ ys news, J n ys news → Fin ys news)
    (turn : ∀ i ys news, i < n → J i ys news → ∀ v I oI C oC D m₂ h tk (E' : Value → Shared → Prop), P i v → NsObj oC m₂ → m₂ x = some v → Fr h₀ L h m → News h₀ L h ((I, oI) :: (C, oC) :: (D, lst ys) :: news) → Off3 I C D news → ((@Ne Nat I C) ∧ (@Ne Nat I D) ∧ (@Ne Nat C D)) →
      wpAny (model prog w) A (eval elt (compEnvC scope cl C env)) (CompEnd h₀ L m { s with heap := h, toks := tk } I oI C oC D (lst ys) S (fun y news' => J (i + 1) (ys ++ [y]) news')) E' { s with heap := h, toks := tk }) :
    ∀ k i ys news, i + k = n → J i ys news → CompRest prog w A h₀ L m env elt x scope cl s S P Fin k i ys news
  | 0, i, ys, news, e, j => by
    obtain rfl : i = n := e
    exact fin _ _ j
  | k + 1, i, ys, news, e, j => by
    refine CompRest.succ fun v I oI C oC D m₂ h tk E' hP hN hx F N o3 ne => ?_
    refine wpAny_mono (turn i ys news (by omega) j v I oI C oC D m₂ h tk E' hP hN hx F N o3 ne) (fun y s' hy => compEnd_mono hy fun l hl => ?_) fun _ _ z => z
    exact comp_rest fin turn k (i + 1) _ _ (by omega) hl
end
end Mine
end
section
open PySem PySem.W PyProof.Rows
namespace Mine
theorem quot_len : ∀ (n : Nat) (zs : List Nat), zs.length ≤ n → (quot zs).2.length ≤ zs.length
  | 0, zs, h => by
    obtain rfl : zs = [] := List.eq_nil_of_length_eq_zero (Nat.le_zero.mp h)
    simp [quot]
  | n + 1, [], _ => by simp [quot]
  | n + 1, c :: r, h => by
    simp only [List.length_cons] at h
    by_cases h1 : c = 34
    · subst h1; rw [quot_q]; simp
    · by_cases h2 : c = 92
      · subst h2
        cases r with
        | nil => rw [quot_b0]; simp
        | cons e r' =>
          simp only [List.length_cons] at h
          rw [quot_b]
          have := quot_len n r' (by omega)
          simp only [List.length_cons]
          omega
      · rw [quot_c _ h1 h2]
        have := quot_len n r (by omega)
        simp only [List.length_cons]
        omega
theorem bare_len : ∀ (n : Nat) (zs : List Nat), zs.length ≤ n → (bare zs).2.length ≤ zs.length
  | 0, zs, h => by
    obtain rfl : zs = [] := List.eq_nil_of_length_eq_zero (Nat.le_zero.mp h)
    simp [bare]
  | n + 1, [], _ => by simp [bare]
  | n + 1, c :: r, h => by
    simp only [List.length_cons] at h
    by_cases h1 : isWs c = true
    · rw [bare_w _ h1]; simp
    · have h1' : isWs c = false := by simpa using h1
      by_cases h2 : c = 92
      · subst h2
        cases r with
        | nil => rw [bare_b0]; simp
        | cons e r' =>
          simp only [List.length_cons] at h
          rw [bare_b]
          have := bare_len n r' (by omega)
          simp only [List.length_cons]
          omega
      · rw [bare_c _ h1' h2]
        have := bare_len n r (by omega)
        simp only [List.length_cons]
        omega
theorem tok_len : ∀ (zs : List Nat), (tokRun zs).2.length ≤ zs.length
  | [] => by simp [tokRun]
  | c :: r => by
    by_cases h1 : isWs c = true
    · rw [tok_w _ h1]
      exact Nat.le_succ_of_le (tok_len r)
    · have h1' : isWs c = false := by simpa using h1
      by_cases h2 : c = 34
      · subst h2
        rw [tok_q]
        exact Nat.le_succ_of_le (quot_len _ _ (Nat.le_refl _))
      · rw [tok_c _ h1' h2]
        exact bare_len _ _ (Nat.le_refl _)
def lexRest (zs : List Nat) : Nat → List Nat
  | 0 => zs
  | i + 1 => (tokRun (lexRest zs i)).2
def lexToks (zs : List Nat) : Nat → List (List Nat)
  | 0 => []
  | i + 1 => lexToks zs i ++ [(tokRun (lexRest zs i)).1]
theorem lexRest_len (zs : List Nat) : ∀ i, (lexRest zs i).length ≤ zs.length
  | 0 => Nat.le_refl _
  | i + 1 => Nat.le_trans (tok_len _) (lexRest_len zs i)
theorem off1_mem {D : Addr} : ∀ {l : List (Addr × Obj)}, LCg.Off1 D l → ∀ p ∈ l, p.1 ≠ D
  | [], _, _, h => nomatch h
  | _ :: _, x, p, h => by
    rcases List.mem_cons.mp h with rfl | h
    · exact x.1
    · exact off1_mem x.2 p h
def KB (kz : Int) (k : Nat) : Prop := kz = (k : Int) ∧ k ≤ 1000
abbrev mk (l : List Nat) : Str := ⟨l.toArray⟩
theorem strsAre_snoc {vs : List Value} {ss : List Str} {x : Str} {t : Tok} (h : StrsAre vs ss) : StrsAre (vs ++ [.str x t]) (ss ++ [x]) := by
  induction h with
  | nil => exact .cons x t .nil
  | cons y u _ ih => exact .cons y u ih
/-- what _law_read leaves -/
inductive LawRead (zs : List Nat) (k : Nat) (st0 st : Led) (v : Value) (led' : Led) : Prop
  | intro : ∀ (R lst : Addr) (ys : List Value) (tt : Tok) (tb' : Obj) (new : Led), v = .ref R → led' = (113, tb') :: (new ++ st) → Apart new st → (∀ p ∈ new ++ st, p.1 ≠ 113) → TabOk tb' (new ++ st0) → (R, listOf #[.ref lst, .int (1 + nls zs - nls (lexRest zs k)) tt] 0) ∈ new → (lst, LCg.lst ys) ∈ new → StrsAre ys ((lexToks zs k).map mk) → LawRead zs k st0 st v led'
end Mine
end
section
open PySem PySem.W PyProof.Rows PyProof.Rows.LCg PyProof.Rows.LCt PySem.Spec PySem.Calls
namespace Mine
section
variable {prog : Program} {w : World} {A : Around} {s : Shared} {h₀ : Heap} {L : Addr} {m : Str → Option Value} {env : Env} {ct elt : Expr} {x : Str} {scope : Scope} {cl : List (Str × Addr)} {S : List (Addr × Obj) → Prop} {P : Nat → Value → Prop} {Fin : List Value → List (Addr × Obj) → Prop}
/-- a comprehension with a test by an invariant of its turns -/
theorem comp_restT {n : Nat} {J : Nat → List Value → Led → Prop} (fin : ∀ ys news, J n ys news → Fin ys news)
    (turn : ∀ i ys news, i < n → J i ys news → ∀ v I oI C oC D m₂ h tk (E' : Value → Shared → Prop), P i v → NsObj oC m₂ → m₂ x = some v → Fr h₀ L h m → News h₀ L h ((I, oI) :: (C, oC) :: (D, lst ys) :: news) → Off3 I C D news → ((@Ne Nat I C) ∧ (@Ne Nat I D) ∧ (@Ne Nat C D)) →
      wpAny (model prog w) A (isTrue ct (compEnvC scope cl C env) (eval ct (compEnvC scope cl C env))) (fun ok s' => if ok = true then
        wpAny (model prog w) A (eval elt (compEnvC scope cl C env)) (CompEnd h₀ L m { s with heap := h, toks := tk } I oI C oC D (lst ys) S (fun y news' => J (i + 1) (ys ++ [y]) news')) E' s'
        else CompEnd h₀ L m { s with heap := h, toks := tk } I oI C oC D (lst ys) S (fun _ news' => J (i + 1) ys news') Value.none s') E' { s with heap := h, toks := tk }) :
    ∀ k i ys news, i + k = n → J i ys news → CompRestT prog w A h₀ L m env ct elt x scope cl s S P Fin k i ys news
  | 0, i, ys, news, e, j => by
    obtain rfl : i = n := e
    exact fin _ _ j
  | k + 1, i, ys, news, e, j => by
    refine CompRestT.succ fun v I oI C oC D m₂ h tk E' hP hN hx F N o3 ne => ?_
    refine wpAny_mono (turn i ys news (by omega) j v I oI C oC D m₂ h tk E' hP hN hx F N o3 ne) (fun ok s' hy => ?_) fun _ _ z => z
    by_cases ho : ok = true
    · rw [if_pos ho] at hy ⊢
      exact wpAny_mono hy (fun y s' hy => compEnd_mono hy fun l hl => comp_restT fin turn k (i + 1) _ _ (by omega) hl) fun _ _ z => z
    · rw [if_neg ho] at hy ⊢
      exact compEnd_mono hy fun l hl => comp_restT fin turn k (i + 1) _ _ (by omega) hl
end
section
variable {prog : Program} {w : World} {A : Around} {E : Value → Shared → Prop} {s : Shared} {h₀ : Heap} {L : Addr} {m : Str → Option Value} {env : Env}
/-- what a comprehension over a str wants behind its source -/
inductive SrcS (prog : Program) (w : World) (A : Around) (h₀ : Heap) (L : Addr) (m : Str → Option Value) (env : Env) (elt : Expr) (x : Str) (scope : Scope) (cl : List (Str × Addr)) (Fin : Shared → List Value → List (Addr × Obj) → Prop) (xv : Value) (s₁ : Shared) : Prop
  | intro : ∀ tx t news, xv = .str tx t → A.handled = none → Fr h₀ L s₁.heap m → News h₀ L s₁.heap news → tx.cps.all (· < 128) = true → tx.cps.size ≤ sizeLine → (∀ s₂ : Shared, (∃ h, s₂ = { s₁ with heap := h }) → CompRest prog w A h₀ L m env elt x scope cl s₂ (fun _ => True) (SignAt tx) (Fin s₂) tx.cps.size 0 [] news) → SrcS prog w A h₀ L m env elt x scope cl Fin xv s₁
theorem ListComp_S {elt iter : Expr} {x : Str} {px : Pos} {scope : Scope} {cl : List (Str × Addr)} {pos : Pos} {Q : Value → Shared → Prop} (F₀ : Fr h₀ L s.heap m)
    (hclos : closureFor scope env = pure cl) (hcell : ∀ y ∈ scope.names, y.2 ≠ .cell) (hkind : scope.kind = .function)
    (hnames : ∀ y ∈ scope.names, y.2 = .local → scope.names.lookup y.1 = some .local) (hx : scope.names.lookup x = some .local)
    (h : wpAny (model prog w) A (eval iter env) (SrcS prog w A h₀ L m env elt x scope cl (fun s₂ => FinE h₀ L m s₂ Q)) E s)
    (hs : ∀ x, foldedSetIterable iter env x = pure x := by intro _; rfl) :
    wpAny (model prog w) A (eval (.ListComp elt [⟨.Name x px, iter, [], 0⟩] scope pos) env) Q E s := by
  rw [eval_ListComp]
  refine wpAny_comprehension_free (use := none) rfl hs hclos hkind hnames (wpAny_mono h (fun xv s₁ h₁ => ?_) fun _ _ e => e)
  obtain ⟨tx, t, news, rfl, hh, F, N, ha, hsz, R⟩ := h₁
  refine wpAny_pyIter_ascii ha ?_
  have up : ∀ b o, s₁.heap.get? b = some o → (s₁.heap.push { cls := .type "str_ascii_iterator", data := .fields #[.str tx t, .int 0 0] }).get? b = some o := fun b o e => Heap.get?_push_of_some _ e
  refine block_U (Walks.strAscii hh s₁.heap.objs.size tx t) hsz (fun i h st => by obtain ⟨o, e, _⟩ := st; exact ⟨o, e⟩) (fun i h h' o nw st e e' _ _ _ => ?_) hcell hkind hx ⟨_, Heap.get?_push_size _ rfl, rfl, rfl⟩ (fun b hb => ?_)
      (F.keeps up) (N.grown up) (Nat.ne_of_lt F.ns.lt) (next_is_new F) (fun p hp => Nat.ne_of_lt (Heap.lt_size (N p hp).1)) trivial (R _ ⟨_, rfl⟩) ?_
  · obtain ⟨o', q, r⟩ := st
    rw [e] at q
    cases q
    exact ⟨o, e', r⟩
  · rw [List.mem_singleton.mp hb]
    show s₁.heap.objs.size < (s₁.heap.push _).objs.size
    rw [Heap.size_push]; exact Nat.lt_succ_self _
  · intro D C h tk m' ys news' F' N' o1 hn hC₀ hD₀ hCL hDL hCD offC fin
    refine ⟨m', hn, fun h'' hs'' => fin D h'' tk (F'.change hs'' hCL hC₀) (fun p hp => ?_) o1⟩
    refine ⟨hs''.extBut _ _ ?_ (N' p hp).1, (N' p hp).2⟩
    rcases List.mem_cons.mp hp with rfl | hp
    · exact Ne.symm hCD
    · exact offC p hp
/-- what a comprehension over a tuple wants behind its source -/
inductive SrcU (prog : Program) (w : World) (A : Around) (h₀ : Heap) (L : Addr) (m : Str → Option Value) (env : Env) (elt : Expr) (x : Str) (scope : Scope) (cl : List (Str × Addr)) (Fin : Shared → List Value → List (Addr × Obj) → Prop) (xv : Value) (s₁ : Shared) : Prop
  | intro : ∀ ax o its news, xv = .ref ax → A.handled = none → Fr h₀ L s₁.heap m → News h₀ L s₁.heap news → (ax, o) ∈ news → o.cls = .type "tuple" → (∃ n, o.data = .seq its n) → its.size ≤ sizeLine → (∀ s₂ : Shared, (∃ h, s₂ = { s₁ with heap := h }) → CompRest prog w A h₀ L m env elt x scope cl s₂ (fun nw => (ax, o) ∈ nw) (fun i v => its[i]? = some v) (Fin s₂) its.size 0 [] news) → SrcU prog w A h₀ L m env elt x scope cl Fin xv s₁
theorem ListComp_Tup {elt iter : Expr} {x : Str} {px : Pos} {scope : Scope} {cl : List (Str × Addr)} {pos : Pos} {Q : Value → Shared → Prop} (F₀ : Fr h₀ L s.heap m)
    (hclos : closureFor scope env = pure cl) (hcell : ∀ y ∈ scope.names, y.2 ≠ .cell) (hkind : scope.kind = .function)
    (hnames : ∀ y ∈ scope.names, y.2 = .local → scope.names.lookup y.1 = some .local) (hx : scope.names.lookup x = some .local)
    (h : wpAny (model prog w) A (eval iter env) (SrcU prog w A h₀ L m env elt x scope cl (fun s₂ => FinE h₀ L m s₂ Q)) E s)
    (hs : ∀ x, foldedSetIterable iter env x = pure x := by intro _; rfl) :
    wpAny (model prog w) A (eval (.ListComp elt [⟨.Name x px, iter, [], 0⟩] scope pos) env) Q E s := by
  rw [eval_ListComp]
  refine wpAny_comprehension_free (use := none) rfl hs hclos hkind hnames (wpAny_mono h (fun xv s₁ h₁ => ?_) fun _ _ e => e)
  obtain ⟨ax, o, its, news, rfl, hh, F, N, hm, hoc, hod, hsz, R⟩ := h₁
  have hl : s₁.heap.IsTuple ax its := ⟨o, (N _ hm).1, hoc, hod⟩
  have hlt : ax < s₁.heap.objs.size := Heap.lt_size (N _ hm).1
  refine wpAny_pyIter_tuple hl ?_
  refine block_U (Walks.tuple hh s₁.heap.objs.size ax (Nat.ne_of_lt hlt) its) hsz (fun i h st => by obtain ⟨o, e, _⟩ := st.1; exact ⟨o, e⟩) (fun i h h' o' nw st e e' _ N' hS => ?_) hcell hkind hx ⟨⟨_, Heap.get?_push_size _ rfl, rfl, rfl⟩, hl.at fun o e => Heap.get?_push_of_some _ e⟩ (fun b hb => ?_)
      (F.keeps fun _ _ e => Heap.get?_push_of_some _ e) (N.grown fun _ _ e => Heap.get?_push_of_some _ e) (Nat.ne_of_lt F.ns.lt) (next_is_new F) (fun p hp => Nat.ne_of_lt (Heap.lt_size (N p hp).1)) hm (R _ ⟨_, rfl⟩) ?_
  · refine ⟨?_, ⟨o, (N' _ hS).1, hoc, hod⟩⟩
    obtain ⟨o'', q, r⟩ := st.1
    rw [e] at q
    cases q
    exact ⟨o', e', r⟩
  · show b < (s₁.heap.push _).objs.size
    rw [Heap.size_push]
    rcases List.mem_cons.mp hb with rfl | hb
    · exact Nat.lt_succ_self _
    · rw [List.mem_singleton.mp hb]; exact Nat.lt_succ_of_lt hlt
  · intro D C h tk m' ys news' F' N' o1 hn hC₀ hD₀ hCL hDL hCD offC fin
    refine ⟨m', hn, fun h'' hs'' => fin D h'' tk (F'.change hs'' hCL hC₀) (fun p hp => ?_) o1⟩
    refine ⟨hs''.extBut _ _ ?_ (N' p hp).1, (N' p hp).2⟩
    rcases List.mem_cons.mp hp with rfl | hp
    · exact Ne.symm hCD
    · exact offC p hp
/-- the end of a turn of a for -/
inductive TurnEnd (h₀ : Heap) (L : Addr) (J : (Str → Option Value) → Led → Prop) (own : Led) (I : Addr) (s₁ : Shared) (f : Flow) (s₂ : Shared) : Prop
  | intro : ((f = .next ∨ f = .cont)) → ∀ h' tk m' nw, s₂ = { s₁ with heap := h', toks := tk } → Fr h₀ L h' m' → News h₀ L h' (own ++ nw) → (∀ p ∈ nw, p.1 ≠ I) → J m' nw → TurnEnd h₀ L J own I s₁ f s₂
variable {x : Str} {body : List Stmt} {Q : Flow → Shared → Prop} {m₀ : Str → Option Value} {news : Led}
theorem iter_range {r : Addr} {a b : Int} {t u v : Tok} {n : Nat} (J : Nat → (Str → Option Value) → Led → Prop) (hh : A.handled = none) (F : Fr h₀ env.locals s.heap m₀) (N : News h₀ env.locals s.heap news)
    (hr : IsRange s.heap r a b 1 t u v) (hsm : Builtin.Range.small a b 1 = true) (hn : Builtin.Range.rangeSize a b 1 = ((n : Nat) : Int)) (hj : J 0 m₀ news)
    (turn : ∀ i m₁ nw I oI h tk t', i < n → J i m₁ nw → (∀ p ∈ nw, p.1 ≠ I) → Fr h₀ env.locals h (fun y => if y = x then some (.int (a + ((i : Nat) : Int)) t') else m₁ y) → News h₀ env.locals h ((I, oI) :: nw) →
      wpAny (model prog w) A (execs body env) (TurnEnd h₀ env.locals (J (i + 1)) [(I, oI)] I { s with heap := h, toks := tk }) E { s with heap := h, toks := tk })
    (done : ∀ m₁ nw h tk, J n m₁ nw → Fr h₀ env.locals h m₁ → News h₀ env.locals h nw → Q .next { s with heap := h, toks := tk }) :
    wpAny (model prog w) A (pyIter (.ref r)) (fun it s₂ => LoopAtV prog w A h₀ env x body Q E it s₂) E s := by
  refine wpAny_pyIter_range hr hsm ?_
  have up : ∀ (o : Obj) b o', s.heap.get? b = some o' → (s.heap.push o).get? b = some o' := fun o b o' e => Heap.get?_push_of_some _ e
  refine ⟨_, _, _, n, _, _, m₀, news, J, rfl, range_walks hh a n, ?_, ?_, ?_, ?_, F.push _, N.grown (up _), hj, ?_, ?_⟩
  · intro hm
    exact absurd F.ns.lt ((List.mem_singleton.mp hm) ▸ Nat.lt_irrefl _)
  · intro b hb
    rw [List.mem_singleton.mp hb]
    exact next_is_new F
  · intro p hp hI
    exact absurd (Heap.lt_size (N p hp).1) ((List.mem_singleton.mp hI) ▸ Nat.lt_irrefl _)
  · show IsRangeIter _ _ _ _ _
    rw [hn]
    simpa using Heap.get?_push_size _ rfl
  · rintro i v m₁ nw s₁ own ⟨hh', tk', rfl⟩ hin ⟨t', rfl⟩ hJ hoff hown1 hown2 hown3 hst F₁ N₁
    have hst' : hh'.get? s.heap.objs.size = some _ := hst
    have hI0 : h₀.get? s.heap.objs.size = none := next_is_new F
    have hmem := hown3 _ (List.mem_singleton.mpr rfl) hI0 _ hst'
    have hoff' : ∀ p ∈ nw, p.1 ≠ s.heap.objs.size := fun p hp e => hoff p hp (List.mem_singleton.mpr e)
    have N₂ : News h₀ env.locals hh' ((s.heap.objs.size, _) :: nw) := fun p hp => by
      rcases List.mem_cons.mp hp with rfl | hp
      · exact N₁ _ (List.mem_append_left _ hmem)
      · exact N₁ _ (List.mem_append_right _ hp)
    refine wpAny_mono (turn i m₁ nw s.heap.objs.size _ hh' tk' t' hin hJ hoff' F₁ N₂) (fun f s₂ p => ?_) fun _ _ e => e
    obtain ⟨hf, h', tk, m', nw', rfl, F', N', o', j'⟩ := p
    have fin : LoopStepU h₀ env.locals [s.heap.objs.size] own (J (i + 1)) { s with heap := hh', toks := tk' } .next { s with heap := h', toks := tk } := by
      refine ⟨rfl, h', tk, m', nw', rfl, F', fun p hp => ?_, fun p hp hb => o' p hp (List.mem_singleton.mp hb), j'⟩
      rcases List.mem_append.mp hp with hp | hp
      · have e1 := List.mem_singleton.mp (hown1 p hp)
        have e2 := hown2 p hp
        have e2' : hh'.get? p.1 = some p.2 := e2
        rw [e1, hst'] at e2'
        have := N' (s.heap.objs.size, _) (List.mem_append_left _ (.head _))
        rw [Option.some.inj e2'] at this
        rw [← e1] at this
        exact this
      · exact N' p (List.mem_append_right _ hp)
    rcases hf with rfl | rfl
    · exact .next fin
    · exact .cont fin
  · rintro h' tk m' nw F' N' _ hJ
    exact done m' nw h' tk hJ F' N'
theorem iter_list {ax : Addr} {oA : Obj} {its : Array Value} (J : Nat → (Str → Option Value) → Led → Prop) (hh : A.handled = none) (F : Fr h₀ env.locals s.heap m₀) (N : News h₀ env.locals s.heap news)
    (hm : (ax, oA) ∈ news) (hoc : oA.cls = .type "list") (hod : ∃ n, oA.data = .seq its n) (hj : J 0 m₀ news)
    (turn : ∀ i v m₁ nw I oI oA' h tk, its[i]? = some v → J i m₁ nw → (∀ p ∈ nw, p.1 ≠ I) → @Ne Nat ax I → Fr h₀ env.locals h (fun y => if y = x then some v else m₁ y) → News h₀ env.locals h ((I, oI) :: (ax, oA') :: nw) →
      wpAny (model prog w) A (execs body env) (TurnEnd h₀ env.locals (J (i + 1)) [(I, oI), (ax, oA')] I { s with heap := h, toks := tk }) E { s with heap := h, toks := tk })
    (done : ∀ m₁ nw h tk, J its.size m₁ nw → Fr h₀ env.locals h m₁ → News h₀ env.locals h nw → Q .next { s with heap := h, toks := tk }) :
    wpAny (model prog w) A (pyIter (.ref ax)) (fun it s₂ => LoopAtV prog w A h₀ env x body Q E it s₂) E s := by
  have hl : s.heap.IsList ax its := ⟨oA, (N _ hm).1, hoc, hod⟩
  have hlt : ax < s.heap.objs.size := Heap.lt_size (N _ hm).1
  have hax0 : h₀.get? ax = none := (N _ hm).2.2
  have haxL : ax ≠ env.locals := (N _ hm).2.1
  refine wpAny_pyIter_list hl ?_
  have up : ∀ (o : Obj) b o', s.heap.get? b = some o' → (s.heap.push o).get? b = some o' := fun o b o' e => Heap.get?_push_of_some _ e
  refine ⟨_, _, _, its.size, _, _, m₀, news, J, rfl, Walks.list hh s.heap.objs.size ax (Nat.ne_of_lt hlt) its, ?_, ?_, ?_, ⟨⟨_, Heap.get?_push_size _ rfl, rfl, rfl⟩, hl.push _⟩, F.push _, N.grown (up _), hj, ?_, ?_⟩
  · intro hb
    rcases List.mem_cons.mp hb with e | hb
    · exact absurd F.ns.lt (e ▸ Nat.lt_irrefl _)
    · exact haxL (List.mem_singleton.mp hb).symm
  · intro b hb
    rw [List.mem_singleton.mp hb]
    exact next_is_new F
  · intro p hp hI
    exact absurd (Heap.lt_size (N p hp).1) ((List.mem_singleton.mp hI) ▸ Nat.lt_irrefl _)
  · rintro i v m₁ nw s₁ own ⟨hh', tk', rfl⟩ hin hP hJ hoff hown1 hown2 hown3 ⟨hst, hsl⟩ F₁ N₁
    obtain ⟨oI, hI, hIr⟩ := hst
    have hI' : hh'.get? s.heap.objs.size = some oI := hI
    have hI0 : h₀.get? s.heap.objs.size = none := next_is_new F
    have hmem := hown3 _ (.head _) hI0 _ hI'
    have hoff' : ∀ p ∈ nw, p.1 ≠ s.heap.objs.size := fun p hp e => hoff p hp (List.mem_singleton.mpr e)
    obtain ⟨oA', hA, hAr⟩ := hsl
    have hA' : hh'.get? ax = some oA' := hA
    have hmem2 := hown3 _ (.tail _ (.head _)) hax0 _ hA'
    have N₂ : News h₀ env.locals hh' ((s.heap.objs.size, oI) :: (ax, oA') :: nw) := fun p hp => by
      rcases List.mem_cons.mp hp with rfl | hp
      · exact N₁ _ (List.mem_append_left _ hmem)
      · rcases List.mem_cons.mp hp with rfl | hp
        · exact N₁ _ (List.mem_append_left _ hmem2)
        · exact N₁ _ (List.mem_append_right _ hp)
    refine wpAny_mono (turn i v m₁ nw s.heap.objs.size oI oA' hh' tk' hP hJ hoff' (Nat.ne_of_lt hlt) F₁ N₂) (fun f s₂ p => ?_) fun _ _ e => e
    obtain ⟨hf, h', tk, m', nw', rfl, F', N', o', j'⟩ := p
    have fin : LoopStepU h₀ env.locals [s.heap.objs.size] own (J (i + 1)) { s with heap := hh', toks := tk' } .next { s with heap := h', toks := tk } := by
      refine ⟨rfl, h', tk, m', nw', rfl, F', fun p hp => ?_, fun p hp hb => o' p hp (List.mem_singleton.mp hb), j'⟩
      rcases List.mem_append.mp hp with hp | hp
      · have e2 : hh'.get? p.1 = some p.2 := hown2 p hp
        rcases List.mem_cons.mp (hown1 p hp) with e1 | e1
        · rw [e1, hI'] at e2
          have := N' (s.heap.objs.size, oI) (List.mem_append_left _ (.head _))
          rw [Option.some.inj e2] at this
          rw [← e1] at this
          exact this
        · have e1 := List.mem_singleton.mp e1
          rw [e1, hA'] at e2
          have := N' (ax, oA') (List.mem_append_left _ (.tail _ (.head _)))
          rw [Option.some.inj e2] at this
          rw [← e1] at this
          exact this
      · exact N' p (List.mem_append_right _ hp)
    rcases hf with rfl | rfl
    · exact .next fin
    · exact .cont fin
  · rintro h' tk m' nw F' N' _ hJ
    exact done m' nw h' tk hJ F' N'
theorem iter_listT {y : Str} {py : Pos} {ax : Addr} {oA : Obj} {its : Array Value} (J : Nat → (Str → Option Value) → Led → Prop) (hh : A.handled = none) (F : Fr h₀ env.locals s.heap m₀) (N : News h₀ env.locals s.heap news)
    (hm : (ax, oA) ∈ news) (hoc : oA.cls = .type "list") (hod : ∃ n, oA.data = .seq its n) (hj : J 0 m₀ news)
    (turn : ∀ i v m₁ nw I oI oA' h tk, its[i]? = some v → J i m₁ nw → (∀ p ∈ nw, p.1 ≠ I) → @Ne Nat ax I → Fr h₀ env.locals h m₁ → News h₀ env.locals h ((I, oI) :: (ax, oA') :: nw) →
      wpAny (model prog w) A (assign (.Name y py) env v) (fun _ s₃ => wpAny (model prog w) A (execs body env) (TurnEnd h₀ env.locals (J (i + 1)) [(I, oI), (ax, oA')] I { s with heap := h, toks := tk }) E s₃) E { s with heap := h, toks := tk })
    (done : ∀ m₁ nw h tk, J its.size m₁ nw → Fr h₀ env.locals h m₁ → News h₀ env.locals h nw → Q .next { s with heap := h, toks := tk }) :
    wpAny (model prog w) A (pyIter (.ref ax)) (fun it s₂ => TurnsAt prog w A h₀ env (.Name y py) body Q E it s₂) E s := by
  have hl : s.heap.IsList ax its := ⟨oA, (N _ hm).1, hoc, hod⟩
  have hlt : ax < s.heap.objs.size := Heap.lt_size (N _ hm).1
  have hax0 : h₀.get? ax = none := (N _ hm).2.2
  have haxL : ax ≠ env.locals := (N _ hm).2.1
  refine wpAny_pyIter_list hl ?_
  have up : ∀ (o : Obj) b o', s.heap.get? b = some o' → (s.heap.push o).get? b = some o' := fun o b o' e => Heap.get?_push_of_some _ e
  refine ⟨_, _, _, its.size, _, _, _, m₀, news, J, rfl, KTurns.ofWalks (Walks.list hh s.heap.objs.size ax (Nat.ne_of_lt hlt) its) (fun i v s Q E _ hq => wpAny_pure hq), ?_, ?_, ?_, ⟨⟨_, Heap.get?_push_size _ rfl, rfl, rfl⟩, hl.push _⟩, F.push _, N.grown (up _), hj, ?_, ?_⟩
  · intro hb
    rcases List.mem_cons.mp hb with e | hb
    · exact absurd F.ns.lt (e ▸ Nat.lt_irrefl _)
    · exact haxL (List.mem_singleton.mp hb).symm
  · intro b hb
    rw [List.mem_singleton.mp hb]
    exact next_is_new F
  · intro p hp hI
    exact absurd (Heap.lt_size (N p hp).1) ((List.mem_singleton.mp hI) ▸ Nat.lt_irrefl _)
  · rintro i v m₁ nw hh' tk' own hin hP hJ hoff hown1 hown2 hown3 ⟨hst, hsl⟩ F₁ N₁
    obtain ⟨oI, hI, hIr⟩ := hst
    have hI' : hh'.get? s.heap.objs.size = some oI := hI
    have hI0 : h₀.get? s.heap.objs.size = none := next_is_new F
    have hmem := hown3 _ (.head _) hI0 _ hI'
    have hoff' : ∀ p ∈ nw, p.1 ≠ s.heap.objs.size := fun p hp e => hoff p hp (List.mem_singleton.mpr e)
    obtain ⟨oA', hA, hAr⟩ := hsl
    have hA' : hh'.get? ax = some oA' := hA
    have hmem2 := hown3 _ (.tail _ (.head _)) hax0 _ hA'
    have N₂ : News h₀ env.locals hh' ((s.heap.objs.size, oI) :: (ax, oA') :: nw) := fun p hp => by
      rcases List.mem_cons.mp hp with rfl | hp
      · exact N₁ _ (List.mem_append_left _ hmem)
      · rcases List.mem_cons.mp hp with rfl | hp
        · exact N₁ _ (List.mem_append_left _ hmem2)
        · exact N₁ _ (List.mem_append_right _ hp)
    refine wpAny_mono (turn i v m₁ nw s.heap.objs.size oI oA' hh' tk' hP hJ hoff' (Nat.ne_of_lt hlt) F₁ N₂) (fun _ s₃ p => wpAny_mono p (fun f s₂ p => ?_) fun _ _ e => e) fun _ _ e => e
    obtain ⟨hf, h', tk, m', nw', rfl, F', N', o', j'⟩ := p
    have fin : LoopStepU h₀ env.locals [s.heap.objs.size] own (J (i + 1)) { s with heap := hh', toks := tk' } .next { s with heap := h', toks := tk } := by
      refine ⟨rfl, h', tk, m', nw', rfl, F', fun p hp => ?_, fun p hp hb => o' p hp (List.mem_singleton.mp hb), j'⟩
      rcases List.mem_append.mp hp with hp | hp
      · have e2 : hh'.get? p.1 = some p.2 := hown2 p hp
        rcases List.mem_cons.mp (hown1 p hp) with e1 | e1
        · rw [e1, hI'] at e2
          have := N' (s.heap.objs.size, oI) (List.mem_append_left _ (.head _))
          rw [Option.some.inj e2] at this
          rw [← e1] at this
          exact this
        · have e1 := List.mem_singleton.mp e1
          rw [e1, hA'] at e2
          have := N' (ax, oA') (List.mem_append_left _ (.tail _ (.head _)))
          rw [Option.some.inj e2] at this
          rw [← e1] at this
          exact this
      · exact N' p (List.mem_append_right _ hp)
    rcases hf with rfl | rfl
    · exact .next fin
    · exact .cont fin
  · rintro h' tk m' nw F' N' _ hJ
    exact done m' nw h' tk hJ F' N'
end
end Mine
end
section
open PySem PySem.W PyProof.Rows PySem.Builtin PySem.Builtin.Str
namespace Mine
def sg (k : Int) : Nat := [97, 98, 46, 34, 32, 92, 10].getD k.toNat 0
/-- the word of n -/
def wordL (n : Int) : List Nat := [sg ((n.fdiv 3).fmod 7), sg ((n.fdiv 21).fmod 7), sg ((n.fdiv 147).fmod 7)].take ((n.fmod 3).toNat + 1)
theorem item_sgn : ∀ n : Nat, n < 7 → Txt.item (Str.ofString "ab.\" \\\n") (n : Int) = one (sg n) := by decide +kernel
theorem item_sg {k : Int} (h0 : 0 ≤ k) (h7 : k < 7) : Txt.item (Str.ofString "ab.\" \\\n") k = one (sg k) := by
  obtain ⟨n, rfl⟩ := Int.eq_ofNat_of_zero_le h0
  exact item_sgn n (Int.ofNat_lt.mp h7)
theorem clip_hi (l : List Nat) {j : Int} (h : (l.length : Int) ≤ j) (a : Option Int) : strSliceIndices a (some j) 1 (mk l).length = strSliceIndices a (some (l.length : Int)) 1 (mk l).length := by
  have e2 : (mk l).length = l.length := len_mk l
  rw [e2]
  simp only [strSliceIndices]
  have h1 : ¬ (j < 0) := by omega
  have h2 : ¬ ((l.length : Int) < 0) := by omega
  have h3 : min j (l.length : Int) = l.length := by omega
  simp [h1, h2, h3]
theorem clip_lo (l : List Nat) {j : Int} (h : (l.length : Int) ≤ j) (a : Option Int) : strSliceIndices (some j) a 1 (mk l).length = strSliceIndices (some (l.length : Int)) a 1 (mk l).length := by
  have e2 : (mk l).length = l.length := len_mk l
  rw [e2]
  simp only [strSliceIndices]
  have h1 : ¬ (j < 0) := by omega
  have h2 : ¬ ((l.length : Int) < 0) := by omega
  have h3 : min j (l.length : Int) = l.length := by omega
  simp [h1, h2, h3]
theorem slice_to {l : List Nat} {j : Int} (h : 0 ≤ j) : Txt.slice (mk l) none (some j) = mk (l.take j.toNat) := by
  by_cases hj : j ≤ l.length
  · have := StrLaws.sliceText_to (x := mk l) (j := j) ⟨h, by simpa using hj⟩
    show StrLaws.sliceText _ _ _ = _
    rw [this]
    simp
  · have := StrLaws.sliceText_to (x := mk l) (j := (l.length : Int)) ⟨by omega, by simp⟩
    show StrLaws.sliceText _ _ _ = _
    have e3 : StrLaws.sliceText (mk l) none (some j) = StrLaws.sliceText (mk l) none (some (l.length : Int)) := by
      unfold StrLaws.sliceText
      rw [clip_hi l (by omega)]
    rw [e3, this]
    simp
    rw [List.take_of_length_le (by omega)]
theorem slice_from {l : List Nat} {j : Int} (h : 0 ≤ j) : Txt.slice (mk l) (some j) none = mk (l.drop j.toNat) := by
  by_cases hj : j ≤ l.length
  · have := StrLaws.sliceText_from (x := mk l) (i := j) ⟨h, by simpa using hj⟩
    show StrLaws.sliceText _ _ _ = _
    rw [this]
    apply StrLaws.mk_of_toList
    simp
    rw [List.take_of_length_le (by rw [List.length_drop]; omega)]
  · have := StrLaws.sliceText_from (x := mk l) (i := (l.length : Int)) ⟨by omega, by simp⟩
    show StrLaws.sliceText _ _ _ = _
    have e3 : StrLaws.sliceText (mk l) (some j) none = StrLaws.sliceText (mk l) (some (l.length : Int)) none := by
      unfold StrLaws.sliceText
      rw [clip_lo l (by omega)]
    rw [e3, this]
    apply StrLaws.mk_of_toList
    simp
    omega
/-- one sign, or none, from a place -/
theorem slice_one {l : List Nat} {j : Int} (h : 0 ≤ j) : Txt.slice (mk l) (some j) (some (j + 1)) = mk ((l.drop j.toNat).take 1) := by
  by_cases hj : j + 1 ≤ l.length
  · have := StrLaws.sliceText_plain (x := mk l) (i := j) (j := j + 1) ⟨h, by omega, by simpa using hj⟩
    show StrLaws.sliceText _ _ _ = _
    rw [this]
    apply StrLaws.mk_of_toList
    simp
    congr 1
    omega
  · have := StrLaws.sliceText_plain (x := mk l) (i := (l.length : Int)) (j := (l.length : Int)) ⟨by omega, by omega, by simp⟩
    show StrLaws.sliceText _ _ _ = _
    have e3 : StrLaws.sliceText (mk l) (some j) (some (j + 1)) = StrLaws.sliceText (mk l) (some (l.length : Int)) (some (l.length : Int)) := by
      unfold StrLaws.sliceText
      rw [clip_lo l (by omega), clip_hi l (by omega)]
    rw [e3, this]
    apply StrLaws.mk_of_toList
    simp
    omega
theorem item_mk {l : List Nat} {j : Nat} (h : j < l.length) : Txt.item (mk l) (j : Int) = one (l[j]) := by
  unfold Txt.item Txt.charAt
  rw [StrLaws.at_nonneg (n := l[j]) (by omega) (by simp [h])]
  rfl
end Mine
end
section
open PySem PySem.W PyProof.Rows
namespace Mine
abbrev wordS (n : Int) : Str := Txt.slice (Txt.item (Str.ofString "ab.\" \\\n") ((n.fdiv 3).fmod 7) ++ Txt.item (Str.ofString "ab.\" \\\n") ((n.fdiv 21).fmod 7) ++ Txt.item (Str.ofString "ab.\" \\\n") ((n.fdiv 147).fmod 7)) none (some (n.fmod 3 + 1))
theorem wordS_eq (n : Int) : wordS n = mk (wordL n) := by
  unfold wordS wordL
  rw [item_sg (Int.fmod_nonneg_of_pos _ (by decide)) (Int.fmod_lt_of_pos _ (by decide)), item_sg (Int.fmod_nonneg_of_pos _ (by decide)) (Int.fmod_lt_of_pos _ (by decide)), item_sg (Int.fmod_nonneg_of_pos _ (by decide)) (Int.fmod_lt_of_pos _ (by decide))]
  have h0 : 0 ≤ n.fmod 3 := Int.fmod_nonneg_of_pos _ (by decide)
  show Txt.slice (mk [_, _, _]) _ _ = _
  rw [slice_to (by omega)]
  congr 1
  congr 1
  omega
set_option maxRecDepth 100000 in
set_option maxHeartbeats 8000000 in
theorem word_con {w : World} (n : Int) (t : Tok) (st : Led) : Con w 125 [.int n t] st 6 40 (fun v led' => (∃ u, v = .str (mk (wordL n)) u) ∧ led' = st) := by
  intro A h₀ L m s R S F N hret
  obtain ⟨p, loose, mean, mg, mb, dp, un, gd, cn, cs, a, ccd, cl, outer, A₀, base, rfl, B, X, T, hk, hd, hu⟩ := S
  revert X; k_fill; intro X
  (refine' code_def (binds := [(PySem.Str.ofString "n", .int n t)]) ?k1 ?k2 ?k3 ?k4 ?k5 ?kA ?kF ?kK ?k6 ?k7 ?k8 ?k9 ?kB ?_ ?c2 ?c3 ?c4 ?c5; (case kA => exact rfl); (case kF => exact rfl); (case kK => assumption); (case k1 => k_asm); (case k2 => k_asm); (case k3 => k_asm); (case k4 => k_asm); (case k5 => k_asm); (case k6 => k_is); (case k7 => k_is); (case k8 => ktr_room); (case k9 => exact BindsTo.of_eq rfl); (case c5 => decide); (case kB => exact locs rfl); (case c2 => exact rfl); (case c3 => exact rfl); (case c4 => exact rfl); k_whole; intro g' L' h' FG' F' N' B' X' T'; (try dsimp only); (try k_fold))
  try subst ek
  try subst qk
  revert F N hret B T hk hd hu X FG' F' N' B' X' T'
  have hkU0 : Unit := ()
  revert w n t st h₀ L m s R p loose mean mg mb dp un gd cn cs a ccd cl outer A₀ base g' L' h' hkU0
  refine no_implicit_lambda% (hk29 11786401 ?hkdWord0 ?hkPWord0 ?hkGWord0)
  case hkdWord0 => exact (dWorld, 0, (0 : Nat), [], default, (0 : Nat), fun _ => none, {}, fun _ _ => True, default, [], fun _ => none, fun _ => none, fun _ => none, 0, 0, none, ⟨#[]⟩, default, (0 : Nat), .none, [], [], {}, default, default, (0 : Nat), default, ())
  refine (?hkFWord0 : ∀ x0 x1 x2 x3 x4 x5 x6 x7 x8 x9 x10 x11 x12 x13 x14 x15 x16 x17 x18 x19 x20 x21 x22 x23 x24 x25 x26 x27 x28, ?hkPWord0 x0 x1 x2 x3 x4 x5 x6 x7 x8 x9 x10 x11 x12 x13 x14 x15 x16 x17 x18 x19 x20 x21 x22 x23 x24 x25 x26 x27 x28) _ _ _ _ _ _ _ _ _ _ _ _ _ _ _ _ _ _ _ _ _ _ _ _ _ _ _ _ ()
  intro w n t st h₀ L m s R p loose mean mg mb dp un gd cn cs a ccd cl outer A₀ base g' L' h' hkU0 F N hret B T hk hd hu X FG' F' N' B' X' T'
  clear hkU0
  (try k_fold)
  k_steps
  rename News _ _ _ _ => kN8
  rename Fr _ _ _ _ => kF8
  rw [show Txt.slice _ _ _ = mk (wordL n) from wordS_eq n]
  exact hret _ _ _ _ ⟨⟨_, rfl⟩, rfl⟩ kF8 kN8
end Mine
end
section
open PySem PySem.W PyProof.Rows PySem.Builtin PySem.Builtin.Str
namespace Mine
def Halt (P : Prop) : Prop := P
theorem Halt.out {P : Prop} (h : Halt P) : P := h
section
variable {prog : Program} {w : World} {A : Around} {E : Value → Shared → Prop} {s : Shared} {h₀ : Heap} {L : Addr} {m : Str → Option Value} {led : Led}
theorem eq_nil_nil {a b : Addr} {n n2 : Nat} {Q : Value → Shared → Prop} (N : News h₀ L s.heap led) (ha : (a, listOf #[] n) ∈ led) (hb : (b, listOf #[] n2) ∈ led) (hu : A.units < cLine) (h : Q (.bool true) s) :
    wpAny (model prog w) A (compareOp .Eq (.ref a) (.ref b)) Q E s :=
  cmp_ofEq (PySem.SeqAt.RcAt.lists (e := fun _ => true) (listOf_is N ha) (listOf_is N hb) rfl hu (fun j h1 => absurd h1 (Nat.not_lt_zero _)) prog w E Q (by simpa using h))
theorem eq_cons_nil {a b : Addr} {n n2 : Nat} {v : Value} {vs : List Value} {Q : Value → Shared → Prop} (N : News h₀ L s.heap led) (ha : (a, listOf (v :: vs).toArray n) ∈ led) (hb : (b, listOf #[] n2) ∈ led) (hu : A.units < cLine) (h : Q (.bool false) s) :
    wpAny (model prog w) A (compareOp .Eq (.ref a) (.ref b)) Q E s :=
  cmp_ofEq (PySem.SeqAt.RcAt.lists_lengths (listOf_is N ha) (listOf_is N hb) (by simp) hu prog w E Q h)
theorem len_mk_r {l : List Nat} {t : Tok} {Q : Value → Shared → Prop} (hl : l.length ≤ 16777216) (h : ∀ u tk, Q (.int (l.length : Int) u) { s with toks := tk }) : wpAny (model prog w) A (call (.builtin "len") [.str (mk l) t]) Q E s := by
  refine len_str (by rw [len_mk]; omega) ?_
  rw [len_mk]
  exact h _ _
theorem fr_put {h : Heap} {y : Str} {v : Value} (F : Fr h₀ L h m) (e : m y = some v) : Fr h₀ L h (fun z => if z = y then some v else m z) := fr_eq F fun z => by
  by_cases hz : z = y
  · rw [if_pos hz, hz, e]
  · rw [if_neg hz]
theorem getItem_mk {l : List Nat} {t u : Tok} {k : Int} {c : Nat} {Q : Value → Shared → Prop} (h0 : 0 ≤ k) (hk : k < 2 ^ 63) (hc : l[k.toNat]? = some c) (h : ∀ u tk, Q (.str (one c) u) { s with toks := tk }) :
    wpAny (model prog w) A (getItem (.str (mk l) t) (.int k u)) Q E s := by
  refine getItem_str (c := c) ?_ ?_ (h _ _)
  · simp; omega
  · exact StrLaws.at_nonneg h0 (by simpa using hc)
theorem item_mk_r {value slice : Expr} {l : List Nat} {t u : Tok} {k : Int} {c : Nat} {Q : Value → Shared → Prop} (h0 : 0 ≤ k) (hz : l.length ≤ 16777216) (hc : l[k.toNat]? = some c) (h : ∀ u tk, Q (.str (one c) u) { s with toks := tk })
    (hs : subscripted slice false (.str (mk l) t) (.int k u) = operate [.str (mk l) t, .int k u] (getItem (.str (mk l) t) (.int k u)) := by with_unfolding_all rfl)
    (ht : ∀ r, letTemporaryGo value (.str (mk l) t) r = pure () := by intro _; with_unfolding_all rfl) :
    wpAny (model prog w) A (subscriptTail value slice (.str (mk l) t) (.int k u)) Q E s := by
  obtain ⟨hlt, hc'⟩ := List.getElem?_eq_some_iff.mp hc
  refine item_str (by unfold fitsSsize; simp; omega) (by rw [len_mk]; omega) (by rw [len_mk]; omega) (fun _ => ?_) hs ht
  have e : Txt.item (mk l) k = one c := by
    have := item_mk hlt
    rw [← hc', ← this]
    congr 1
    omega
  rw [e]
  exact h _ _
theorem mk_app (a b : List Nat) : mk a ++ mk b = mk (a ++ b) := by
  show Str.mk (a.toArray ++ b.toArray) = _
  simp
theorem add_mk_r {x y : Str} {a b : List Nat} {t u : Tok} {Q : Value → Shared → Prop} (hx : x = mk a) (hy : y = mk b) (hz : a.length + b.length ≤ 16777216) (h : ∀ t' tk, Q (.str (mk (a ++ b)) t') { s with toks := tk }) : wpAny (model prog w) A (binaryOp .Add (.str x t) (.str y u)) Q E s := by
  subst hx hy
  refine add_str (fun t' tk => ?_) (by rw [len_mk, len_mk, sizeLine_eq]; exact hz)
  rw [mk_app]
  exact h _ _
theorem iadd_mk_r {x y : Str} {a b : List Nat} {t u : Tok} {Q : Value → Shared → Prop} (hx : x = mk a) (hy : y = mk b) (hz : a.length + b.length ≤ 16777216) (h : ∀ t' tk, Q (.str (mk (a ++ b)) t') { s with toks := tk }) : wpAny (model prog w) A (inplaceOp .Add (.str x t) (.str y u)) Q E s := by
  subst hx hy
  refine iadd_str (fun t' tk => ?_) (by rw [len_mk, len_mk, sizeLine_eq]; exact hz)
  rw [mk_app]
  exact h _ _
theorem store_bool {M : Model} {env : Env} {x : Str} {b b' : Bool} {Q : Unit → Shared → Prop} (e : b = b') (h : wpAny M A (storeName env x (.bool b')) Q E s) : wpAny M A (storeName env x (.bool b)) Q E s := by subst e; exact h
theorem item_led {value slice : Expr} {l : Addr} {its : Array Value} {n : Nat} {k : Int} {u : Tok} {v : Value} {Q : Value → Shared → Prop} (N : News h₀ L s.heap led) (hm : (l, listOf its n) ∈ led) (h0 : 0 ≤ k) (hhi : k < 2 ^ 63) (hx : its[k.toNat]? = some v) (h : Q v s)
    (hs : subscripted slice false (.ref l) (.int k u) = operate [.ref l, .int k u] (getItem (.ref l) (.int k u)) := by with_unfolding_all rfl) :
    wpAny (model prog w) A (subscriptTail value slice (.ref l) (.int k u)) Q E s :=
  tail_any (listOf_is N hm).typeIs slot_list_getitem.lookup (wpAny_getItem_list (listOf_is N hm) h0 hhi hx h) hs
theorem item_ledj {value slice : Expr} {l : Addr} {vs : List Value} {n : Nat} {k : Int} {u : Tok} {v : Value} {Q : Value → Shared → Prop} (j : Nat) (N : News h₀ L s.heap led) (hm : (l, listOf vs.toArray n) ∈ led) (hk : k = (j : Int)) (hj : j < 1000) (hx : vs[j]? = some v) (h : Q v s)
    (hs : subscripted slice false (.ref l) (.int k u) = operate [.ref l, .int k u] (getItem (.ref l) (.int k u)) := by with_unfolding_all rfl) :
    wpAny (model prog w) A (subscriptTail value slice (.ref l) (.int k u)) Q E s :=
  item_led N hm (by omega) (by omega) (by rw [hk]; simpa using hx) h hs
theorem join_mk : ∀ zs : List (List Nat), Str.join (mk []) (zs.map mk) = mk zs.flatten
  | [] => rfl
  | [z] => by simp [Str.join]
  | z :: y :: r => by
    show mk z ++ mk [] ++ Str.join (mk []) ((y :: r).map mk) = _
    rw [join_mk (y :: r), mk_app, mk_app]
    simp
theorem join_mk_r {D : Addr} {o : Obj} {ys : List Value} {zs : List (List Nat)} {t : Tok} {sep : Str} {Q : Value → Shared → Prop} (N : News h₀ L s.heap led) (hm : (D, o) ∈ led) (hi : StrsAre ys (zs.map mk)) (ho : o.cls = .type "list") (hod : ∃ n, o.data = .seq ys.toArray n) (hsep : sep = mk [])
    (hok : zs.flatten.length ≤ 16777216) (h : ∀ u tk, Q (.str (mk zs.flatten) u) { s with toks := tk }) : wpAny (model prog w) A (call (.builtin "str.join") [.str sep t, .ref D]) Q E s := by
  subst hsep
  refine join_list (items := ys.toArray) (ys := zs.map mk) ⟨o, (N _ hm).1, ho, hod⟩ (by simpa using hi) ?_ fun u tk => ?_
  · rw [show (mk []).length = 0 from rfl, Nat.mul_zero, Nat.add_zero, List.map_map]
    rw [show ((fun x : Str => x.length) ∘ mk) = List.length from funext fun z => len_mk z]
    rw [← List.length_flatten]
    exact hok
  · rw [show Txt.join (mk []) (zs.map mk) = mk zs.flatten from (PySem.StrLaws.glued_eq_join _ _).trans (join_mk zs)]
    exact h u tk
end
end Mine
end
section
open PySem PySem.W PyProof.Rows PySem.Builtin PySem.Builtin.Str
namespace Mine
def esc1 (c : Nat) : List Nat := if c = 34 ∨ c = 92 then [92, c] else [c]
def shieldB (n : Int) (k c : Nat) : Bool := n.fmod 4 == 2 || (c == 32 || c == 92 || c == 10) || (c == 34 && (k == 0 || n.fmod 4 == 0))
def esc2 (n : Int) (k c : Nat) : List Nat := if shieldB n k c then [92, c] else [c]
def bareW (n : Int) : Nat → List Nat → List Nat
  | _, [] => []
  | k, c :: r => esc2 n k c ++ bareW n (k + 1) r
def sepQ (n : Int) : List Nat := if (n.fdiv 4).fmod 3 = 0 then [] else if (n.fdiv 4).fmod 3 = 1 then [32] else [10]
def sepB (n : Int) : List Nat := if (n.fdiv 4).fmod 3 = 0 then [32] else if (n.fdiv 4).fmod 3 = 1 then [10] else [9, 13]
/-- the word as it is written -/
def writtenL (n : Int) : List Nat := if n.fmod 4 = 1 then [34] ++ (wordL n).flatMap esc1 ++ [34] ++ sepQ n else bareW n 0 (wordL n) ++ sepB n
theorem wordL_len (n : Int) : (wordL n).length ≤ 3 := by unfold wordL; simp; omega
theorem sg_lt (k : Int) : sg k < 128 := by
  unfold sg
  rcases k.toNat with _ | _ | _ | _ | _ | _ | _ | j <;> simp
theorem wordL_asc (n : Int) : ∀ c ∈ wordL n, c < 128 := by
  intro c hc
  have := List.mem_of_mem_take hc
  simp only [List.mem_cons, List.not_mem_nil, or_false] at this
  rcases this with rfl | rfl | rfl <;> exact sg_lt _
theorem take_map_succ {l : List Nat} {i c : Nat} {f : Nat → Str} (hc : l[i]? = some c) : (l.take (i + 1)).map f = (l.take i).map f ++ [f c] := by
  rw [List.take_add_one, hc]
  simp
theorem in_two {x : Str} {c : Nat} {l : List Nat} (hx : x = mk l) : (Builtin.Str.occurrences x (one c) 0 x.length 1).isEmpty = !decide (c ∈ l) := by
  have := PySem.StrLaws.found_one x c
  rw [show x.cps.toList = l by rw [hx]] at this
  rw [← this]
  simp
theorem qb_mk : Str.ofString "\"\\" = mk [34, 92] := by decide +kernel
theorem sbn_mk : Str.ofString " \\\n" = mk [32, 92, 10] := by decide +kernel
theorem b_mk : Str.ofString "\\" = mk [92] := by decide +kernel
theorem e_mk : Str.ofString "" = mk [] := by decide +kernel
theorem esc1_len (c : Nat) : (esc1 c).length ≤ 2 := by unfold esc1; split <;> simp
theorem esc_flat : ∀ l : List Nat, ((l.map esc1).flatten).length ≤ 2 * l.length
  | [] => by simp
  | a :: r => by
    have := esc_flat r
    have := esc1_len a
    simp only [List.map_cons, List.flatten_cons, List.length_append, List.length_cons]
    omega
theorem esc_len (n : Int) : (((wordL n).map esc1).flatten).length ≤ 6 := by
  have := esc_flat (wordL n)
  have := wordL_len n
  omega
theorem bareW_len (n : Int) : ∀ (l : List Nat) (k : Nat), (bareW n k l).length ≤ 2 * l.length
  | [], k => by simp [bareW]
  | a :: r, k => by
    have := bareW_len n r (k + 1)
    have h2 : (esc2 n k a).length ≤ 2 := by unfold esc2; split <;> simp
    simp only [bareW, List.length_append, List.length_cons]
    omega
theorem l34_mk : Str.ofString "\"" = mk [34] := by decide +kernel
theorem l32_mk : Str.ofString " " = mk [32] := by decide +kernel
theorem l10_mk : Str.ofString "\n" = mk [10] := by decide +kernel
theorem l9_mk : Str.ofString "\t\r" = mk [9, 13] := by decide +kernel
theorem bareW_snoc (n : Int) (c : Nat) : ∀ (l : List Nat) (k : Nat), bareW n k (l ++ [c]) = bareW n k l ++ esc2 n (k + l.length) c
  | [], k => by simp [bareW]
  | a :: r, k => by
    simp only [List.cons_append, bareW, List.length_cons]
    rw [bareW_snoc n c r (k + 1), List.append_assoc, show k + 1 + r.length = k + (r.length + 1) by omega]
theorem fmod3 (k : Int) : k.fmod 3 = 0 ∨ k.fmod 3 = 1 ∨ k.fmod 3 = 2 := by
  have := Int.fmod_nonneg_of_pos k (show (0 : Int) < 3 by decide)
  have := Int.fmod_lt_of_pos k (show (0 : Int) < 3 by decide)
  omega
theorem str_fin {a b : List Nat} {u : Tok} (e : a = b) : Value.str (mk a) u = .str (mk b) u := by rw [e]
theorem turn_eq (n : Int) {l : List Nat} {i c : Nat} (hc : l[i]? = some c) : bareW n 0 (l.take (i + 1)) = bareW n 0 (l.take i) ++ esc2 n i c := by
  obtain ⟨hlt, _⟩ := List.getElem?_eq_some_iff.mp hc
  rw [List.take_add_one, hc]
  show bareW n 0 (l.take i ++ [c]) = _
  rw [bareW_snoc, List.length_take, show 0 + min i l.length = i by omega]
end Mine
end
section
open PySem PySem.W PyProof.Rows PySem.Builtin PySem.Builtin.Str PySem.Spec PySem.Calls
namespace Mine
section
variable {prog : Program} {w : World} {A : Around} {E : Value → Shared → Prop} {s : Shared} {h₀ : Heap} {L : Addr} {m : Str → Option Value} {led news : Led} {env : Env}
/-- the end of a turn of a while -/
inductive WhileEnd (h₀ : Heap) (L : Addr) (J : Nat → (Str → Option Value) → Led → Prop) (n : Nat) (s : Shared) (f : Flow) (s₃ : Shared) : Prop
  | intro : ((f = .next ∨ f = .cont)) → ∀ n' h' tk m' nw, n' < n → s₃ = { s with heap := h', toks := tk } → Fr h₀ L h' m' → News h₀ L h' nw → J n' m' nw → WhileEnd h₀ L J n s f s₃
inductive WhileAt (h₀ : Heap) (L : Addr) (J : Nat → (Str → Option Value) → Led → Prop) (s : Shared) (n : Nat) (s' : Shared) : Prop
  | intro : ∀ h₁ tk₁ m₁ nw, s' = { s with heap := h₁, toks := tk₁ } → Fr h₀ L h₁ m₁ → News h₀ L h₁ nw → J n m₁ nw → WhileAt h₀ L J s n s'
theorem while_inv {test : Expr} {body : List Stmt} {pos : Pos} {Q : Flow → Shared → Prop} (J : Nat → (Str → Option Value) → Led → Prop) {n₀ : Nat}
    (F : Fr h₀ L s.heap m) (N : News h₀ L s.heap news) (hJ : J n₀ m news)
    (turn : ∀ n m₁ nw h₁ tk₁, Fr h₀ L h₁ m₁ → News h₀ L h₁ nw → J n m₁ nw →
      wpAny (model prog w) A (isTrue test env (eval test env)) (fun b s₂ =>
        if b = true then wpAny (model prog w) A (execs body env) (WhileEnd h₀ L J n s) E s₂ else Q .next s₂) E { s with heap := h₁, toks := tk₁ })
    (hE : PassesOwn (model prog w) A env E := by passes_own) :
    wpAny (model prog w) A (exec (.While test body [] pos) env) Q E s := by
  refine wpAny_While (codeAny_whileLoop (WhileAt h₀ L J s) ?_ n₀ ⟨s.heap, s.toks, m, news, rfl, F, N, hJ⟩)
  rintro n s' ⟨h₁, tk₁, m₁, nw, rfl, F₁, N₁, J₁⟩
  refine wpAny_mono (turn n m₁ nw h₁ tk₁ F₁ N₁ J₁) (fun b s₂ h₂ => ?_) hE
  cases b with
  | false =>
    simp only [Bool.false_eq_true, if_false] at h₂ ⊢
    exact wpAny_execs_nil h₂
  | true =>
    simp only [if_true] at h₂ ⊢
    refine wpAny_mono h₂ (fun f s₃ h₃ => ?_) hE
    obtain ⟨hf, n', h', tk, m', nw', hn, rfl, F', N', J'⟩ := h₃
    rcases hf with rfl | rfl
    · exact ⟨n', hn, h', tk, m', nw', rfl, F', N', J'⟩
    · exact ⟨n', hn, h', tk, m', nw', rfl, F', N', J'⟩
theorem pop_led {D : Addr} {p : List Value} {y : Value} {n : Nat} {led' : Led} {Q : Value → Shared → Prop} (F : Fr h₀ L s.heap m) (N : News h₀ L s.heap led) (U : Upd D (listOf (p ++ [y]).toArray n) (listOf p.toArray (n + 1)) led led')
    (hz : (p ++ [y]).length ≤ sizeLine) (h : ∀ h', Fr h₀ L h' m → News h₀ L h' led' → Q y { s with heap := h' }) : wpAny (model prog w) A (call (.builtin "list.pop") [.ref D]) Q E s :=
  kl_pop F N (kpa_last y p) U hz h
theorem len_led {l : Addr} {vs : List Value} {n : Nat} {Q : Value → Shared → Prop} (N : News h₀ L s.heap led) (hm : (l, listOf vs.toArray n) ∈ led) (hz : vs.length ≤ 16777216) (h : ∀ u tk, Q (.int (vs.length : Int) u) { s with toks := tk }) :
    wpAny (model prog w) A (call (.builtin "len") [.ref l]) Q E s :=
  len_list (listOf_is N hm) (by rw [List.size_toArray]; omega) (h _ _)
theorem strsAre_get {vs : List Value} {ss : List Str} {j : Nat} {x : Str} (h : StrsAre vs ss) (e : ss[j]? = some x) : ∃ t, vs[j]? = some (.str x t) := by
  induction h generalizing j with
  | nil => cases e
  | cons y t _ ih => cases j with
    | zero => cases e; exact ⟨t, rfl⟩
    | succ j => exact ih (j := j) e
theorem strsAre_erase {vs : List Value} {ss : List Str} (j : Nat) (h : StrsAre vs ss) : StrsAre (vs.eraseIdx j) (ss.eraseIdx j) := by
  induction h generalizing j with
  | nil => exact .nil
  | cons y t r ih => cases j with
    | zero => exact r
    | succ j => exact .cons y t (ih j)
theorem strsAre_take {vs : List Value} {ss : List Str} (j : Nat) (h : StrsAre vs ss) : StrsAre (vs.take j) (ss.take j) := by
  induction h generalizing j with
  | nil => rw [List.take_nil, List.take_nil]; exact .nil
  | cons y t r ih => cases j with
    | zero => exact .nil
    | succ j => exact .cons y t (ih j)
theorem findIdx_erase {x : Str} : ∀ (ss : List Str), x ∈ ss → ∃ j, ∃ hj : j < ss.length, ss[j] = x ∧ (∀ i (hi : i < ss.length), i < j → ss[i] ≠ x) ∧ ss.eraseIdx j = ss.erase x
  | [], h => nomatch h
  | a :: r, h => by
    by_cases ha : a = x
    · refine ⟨0, by simp, by simpa using ha, fun i _ h => absurd h (Nat.not_lt_zero _), ?_⟩
      rw [List.erase_cons]
      simp [ha]
    · obtain ⟨j, hj, e1, e2, e3⟩ := findIdx_erase r (by
        rcases List.mem_cons.mp h with e | h
        · exact absurd e.symm ha
        · exact h)
      refine ⟨j + 1, by simp; omega, by simpa using e1, fun i hi hlt => ?_, ?_⟩
      · cases i with
        | zero => simpa using ha
        | succ i => simpa using e2 i (by simp at hi; omega) (by omega)
      · rw [List.erase_cons, if_neg (by simpa using ha)]
        simp [e3]
theorem remove_or {U : Addr} {a b : Addr × Obj} {rl : List Value} {as : List Str} {x : Str} {t : Tok} {n : Nat} {st : Led} {Q : Value → Shared → Prop} (F : Fr h₀ L s.heap m) (N : News h₀ L s.heap (a :: b :: (U, listOf rl.toArray n) :: st)) (hA : A.handled = none) (hS : StrsAre rl as)
    (ha : @Ne Nat a.1 U) (hb : @Ne Nat b.1 U) (off : ∀ p ∈ st, p.1 ≠ U) (hz : rl.length ≤ sizeLine)
    (h0 : x ∉ as → ∀ h' tk e, Heap.NewExc s.heap h' e "ValueError" → E (.ref e) { s with heap := h', toks := tk })
    (h1 : x ∈ as → ∀ h' rl' n', StrsAre rl' (as.erase x) → Fr h₀ L h' m → News h₀ L h' (a :: b :: (U, listOf rl'.toArray n') :: st) → Q .none { s with heap := h' }) :
    wpAny (model prog w) A (call (.builtin "list.remove") [.ref U, .str x t]) Q E s := by
  have z := N (U, listOf rl.toArray n) (.tail _ (.tail _ (.head _)))
  have hlen : rl.length = as.length := strsAre_len hS
  have hi : ∀ y ∈ rl.toArray, MeetsSeq.EqGives y (.str x t) (isStrOf x y) := fun y hy => eq_isStrOf x t hS y (by simpa using hy)
  have hitem : ∀ (j : Nat) (h1 : j < rl.toArray.size) (h2 : j < as.length), isStrOf x (rl.toArray[j]) = decide (as[j] = x) := by
    intro j h1 h2
    obtain ⟨t', e⟩ := strsAre_get (x := as[j]) hS (List.getElem?_eq_getElem h2)
    have e' : rl.toArray[j] = .str as[j] t' := by
      have := List.getElem?_eq_some_iff.mp e
      simpa using this.2
    rw [e']
    show (as[j] == x) = _
    rfl
  by_cases hx : x ∈ as
  · obtain ⟨j, hj, e1, e2, e3⟩ := findIdx_erase as hx
    have hj' : j < rl.toArray.size := by rw [List.size_toArray, hlen]; exact hj
    refine call_meets PySem.F.slot_list_remove ⟨_, z.1, rfl⟩ PySem.F.entry_list_remove (PySem.F.args_list_remove_2 _ _)
      (MeetsSeq.list_remove U rl.toArray n (.str x t) (isStrOf x) hi j hj' (by rw [hitem j hj' hj]; simp [e1]) (fun i hi' hlt => ?_) (by rw [List.size_toArray]; exact hz))
      ⟨z.1, h1 hx _ (rl.eraseIdx j) (n + 1) (e3 ▸ strsAre_erase j hS) (F.change (Heap.SameBut.update ..) z.2.1 z.2.2) ?_⟩
    · have hi2 : i < as.length := by rw [List.size_toArray, hlen] at hi'; exact hi'
      rw [hitem i hi' hi2]
      simpa using e2 i hi2 hlt
    · refine kl_turn (pre := [a, b]) (post := st) (fun xs => xs.eraseIdxIfInBounds j) N (fun p hp => ?_) off ?_ ?_
      · simp only [List.mem_cons, List.not_mem_nil, or_false] at hp
        rcases hp with rfl | rfl
        · exact ha
        · exact hb
      · apply Array.toList_inj.mp
        simp [Array.toList_eraseIdxIfInBounds]
      · rw [List.size_toArray, List.size_toArray, List.length_eraseIdx, if_pos (by rw [hlen]; exact hj)]
        omega
  · refine call_meets PySem.F.slot_list_remove ⟨_, z.1, rfl⟩ PySem.F.entry_list_remove (PySem.F.args_list_remove_2 _ _)
      (MeetsSeq.list_remove_none U rl.toArray n (.str x t) (isStrOf x) hi fun i hi' => ?_) ⟨z.1, hA, h0 hx⟩
    have hi2 : i < as.length := by rw [List.size_toArray, hlen] at hi'; exact hi'
    rw [hitem i hi' hi2]
    simp only [decide_eq_false_iff_not]
    intro e
    exact hx (e ▸ List.getElem_mem hi2)
theorem slice_tl {v : Value} {vs : List Value} : (slicePick (v :: vs).toArray (some 1) none none).toList = vs := by
  have := slicePick_from (v :: vs).toArray 1 (by simp)
  rw [show ((1 : Nat) : Int) = 1 from rfl] at this
  rw [this]
  simp
theorem slice_all' {vs : List Value} : (slicePick vs.toArray none none none).toList = vs := by rw [slicePick_all]
theorem slice_upto' {vs : List Value} {k : Int} {j : Nat} (hk : k = (j : Int)) (hj : j ≤ vs.length) : (slicePick vs.toArray none (some k) none).toList = vs.take j := by
  rw [hk, slicePick_upto _ _ (by simpa using hj)]
theorem slice_m2 {vs : List Value} (h : 2 ≤ vs.length) : (slicePick vs.toArray none (some (-2)) none).toList = vs.take (vs.length - 2) := by
  have e : sliceBounds none (some (-2)) none vs.toArray.size = (((0 : Nat) : Int), ((vs.length - 2 : Nat) : Int), 1) := by
    unfold sliceBounds
    simp
    omega
  rw [kmk_pick_nat _ e]
  simp
theorem count_led {l : Addr} {vs : List Value} {ss : List Str} {n : Nat} {x : Str} {t : Tok} {Q : Value → Shared → Prop} (N : News h₀ L s.heap led) (hm : (l, listOf vs.toArray n) ∈ led) (hS : StrsAre vs ss) (h : ∀ u tk, Q (.int ((ss.count x : Nat) : Int) u) { s with toks := tk }) :
    wpAny (model prog w) A (call (.builtin "list.count") [.ref l, .str x t]) Q E s := by
  refine count_list_strs (listOf_is N hm) hS ?_
  rw [PySem.W.cnt_strs]
  exact h _ _
end
end Mine
end
section
open PySem PySem.W PyProof.Rows PySem.Builtin PySem.Builtin.Str PySem.Spec PySem.Calls
namespace Mine
def fitsB : List Str → List Nat → Bool
  | [], nm => nm.isEmpty
  | x :: r, nm => if x == Str.ofString "any" then (List.range (nm.length + 1)).any (fun k => fitsB r (nm.drop k))
    else match nm with
      | [] => false
      | c :: cr => (x == Str.ofString "one" || decide (c ∈ x.cps.toList)) && fitsB r cr
def moreUpTo (ps us : List Str) : Nat → List Str
  | 0 => []
  | i + 1 => moreUpTo ps us i ++ (match ps[i]? with | some x => if us.count x < (ps.take (i + 1)).count x then [x] else [] | none => [])
theorem moreUpTo_len (ps us : List Str) : ∀ i, (moreUpTo ps us i).length ≤ i
  | 0 => Nat.le_refl _
  | i + 1 => by
    have := moreUpTo_len ps us i
    unfold moreUpTo
    split
    · split <;> simp <;> omega
    · simp; omega
def diffL : List Str → List Str × List Str → List Str × List Str
  | [], s => s
  | x :: r, s => if x ∈ s.2 then diffL r (s.1, s.2.erase x) else diffL r (s.1 ++ [x], s.2)
theorem e_ne {c : Nat} {cr : List Nat} : (mk (c :: cr) == Str.ofString "") = false := by
  rw [e_mk]
  simp
theorem e_ne' {c : Nat} {cr : List Nat} : (mk (c :: cr) != Str.ofString "") = true := by
  rw [bne, e_ne]; rfl
theorem e_eq : (mk [] == Str.ofString "") = true := by rw [e_mk]; simp
theorem e_eq' : (mk [] != Str.ofString "") = false := by rw [bne, e_eq]; rfl
theorem in_gen {x : Str} {c : Nat} : (!(occurrences x (one c) 0 x.length 1).isEmpty) = decide (c ∈ x.cps.toList) := PySem.StrLaws.found_one x c
theorem item0 {c : Nat} {cr : List Nat} : Txt.item (mk (c :: cr)) 0 = one c := item_mk (l := c :: cr) (j := 0) (by simp)
theorem slice1 {c : Nat} {cr : List Nat} : Txt.slice (mk (c :: cr)) (some 1) none = mk cr := by
  rw [slice_from (by decide)]
  rfl
theorem any_succ (f : Nat → Bool) (i : Nat) : (List.range (i + 1)).any f = ((List.range i).any f || f i) := by
  rw [List.range_succ, List.any_append]
  simp
end Mine
end
section
open PySem PySem.W PyProof.Rows PySem.Builtin PySem.Builtin.Str PySem.Spec PySem.Calls
namespace Mine
section
variable {prog : Program} {w : World} {A : Around} {E : Value → Shared → Prop} {s : Shared} {h₀ : Heap} {L : Addr} {m : Str → Option Value} {led news : Led} {env : Env}
theorem truthy_cat {a : Addr} {p : List Value} {y : Value} {n : Nat} {Q : Bool → Shared → Prop} (N : News h₀ L s.heap led) (hm : (a, listOf (p ++ [y]).toArray n) ∈ led) (hf : p.length ≤ 1000)
    (h : ∀ tk, Q true { s with toks := tk }) : wpAny (model prog w) A (truthy (.ref a)) Q E s :=
  wpAny_truthy_list (listOf_is N hm) (by simp; omega) (by rw [show (p ++ [y]).toArray.isEmpty = false by simp]; exact h _)
theorem truthy_nil {a : Addr} {n : Nat} {Q : Bool → Shared → Prop} (N : News h₀ L s.heap led) (hm : (a, listOf ([] : List Value).toArray n) ∈ led)
    (h : ∀ tk, Q false { s with toks := tk }) : wpAny (model prog w) A (truthy (.ref a)) Q E s :=
  wpAny_truthy_list (listOf_is N hm) (by simp) (h _)
end
theorem strsAre_concat_inv {p : List Value} {y : Value} {ps : List Str} (h : StrsAre (p ++ [y]) ps) : ∃ ps' x t, ps = ps' ++ [x] ∧ y = .str x t ∧ StrsAre p ps' := by
  induction p generalizing ps with
  | nil => cases h with | cons x t r => cases r; exact ⟨[], x, t, rfl, rfl, .nil⟩
  | cons _ p ih => cases h with
    | cons x t r =>
      obtain ⟨ps', x', t', rfl, e2, e3⟩ := ih r
      exact ⟨x :: ps', x', t', rfl, e2, .cons x t e3⟩
end Mine
end
section
open PySem PySem.W PyProof.Rows PySem.Builtin PySem.Builtin.Str PySem.Spec PySem.Calls
namespace Mine
def lastSg (p : Str) : Nat := p.cps.toList.getLast?.getD 0
/-- one part of a pattern: from where the name may go on -/
def stepR (nm : List Nat) (p : Str) (rs : List Nat) : List Nat :=
  if p = Str.ofString "*" then (match rs with | [] => [] | r :: _ => List.range' r (nm.length + 1 - r))
  else if p = Str.ofString "?" then (rs.filter fun j => decide (j < nm.length)).map (· + 1)
  else if p = Str.ofString "[^a]" then (rs.filter fun j => decide (j < nm.length) && !decide (nm[j]? = some 97)).map (· + 1)
  else (rs.filter fun j => decide (nm[j]? = some (lastSg p))).map (· + 1)
def Five (x : Str) : Prop := x = Str.ofString "*" ∨ x = Str.ofString "\\." ∨ x = Str.ofString "[^a]" ∨ x = Str.ofString "?" ∨ x = Str.ofString "\""
theorem intsAre_snoc : ∀ {vs : List Value} {ns : List Int} {x : Int} {t : Tok}, IntsAre vs ns → IntsAre (vs ++ [.int x t]) (ns ++ [x])
  | _, _, x, t, .nil => .cons x t .nil
  | _, _, _, _, .cons y u h => .cons y u (intsAre_snoc h)
theorem intsAre_get2 {vs : List Value} {zs : List Int} {i : Nat} {v : Value} (h : IntsAre vs zs) (e : vs[i]? = some v) : ∃ z t, zs[i]? = some z ∧ v = .int z t := by
  induction h generalizing i with
  | nil => cases e
  | cons q t _ ih => cases i with
    | zero => cases e; exact ⟨q, t, rfl, rfl⟩
    | succ i => exact ih (i := i) e
theorem intsAre_get {vs : List Value} {rs : List Nat} {i : Nat} {v : Value} (h : IntsAre vs (rs.map Int.ofNat)) (e : vs[i]? = some v) : ∃ q t, rs[i]? = some q ∧ v = .int (q : Int) t := by
  obtain ⟨z, t, e1, rfl⟩ := intsAre_get2 h e
  rw [List.getElem?_map] at e1
  obtain ⟨q, hq, rfl⟩ := Option.map_eq_some_iff.mp e1
  exact ⟨q, t, hq, rfl⟩
theorem strsAre_get2 {vs : List Value} {ss : List Str} {i : Nat} {v : Value} (h : StrsAre vs ss) (e : vs[i]? = some v) : ∃ x t, ss[i]? = some x ∧ v = .str x t := by
  induction h generalizing i with
  | nil => cases e
  | cons q t _ ih => cases i with
    | zero => cases e; exact ⟨q, t, rfl, rfl⟩
    | succ i => exact ih (i := i) e
theorem intsAre_len {vs : List Value} {ns : List Int} (h : IntsAre vs ns) : vs.length = ns.length := by
  induction h with
  | nil => rfl
  | cons _ _ _ ih => exact congrArg (· + 1) ih
/-- a filtered prefix, one item more -/
theorem filt_succ {l : List Nat} {i q : Nat} {f : Nat → Bool} (hq : l[i]? = some q) : (((l.take (i + 1)).filter f).map (· + 1)).map Int.ofNat = (((l.take i).filter f).map (· + 1)).map Int.ofNat ++ (if f q then [(q : Int) + 1] else []) := by
  rw [List.take_add_one, hq]
  cases h : f q with
  | true => simp [h]
  | false => simp [h]
theorem one_at {nm : List Nat} {j c : Nat} : (mk ((nm.drop j).take 1) == one c) = decide (nm[j]? = some c) := by
  by_cases h : j < nm.length
  · rw [List.drop_eq_getElem_cons h, List.getElem?_eq_getElem h]
    show (mk [nm[j]] == mk [c]) = _
    by_cases e : nm[j] = c
    · simp [e]
    · have : mk [nm[j]] ≠ mk [c] := fun e2 => e (one_inj e2)
      simp [e, this]
  · rw [List.drop_of_length_le (by omega), List.getElem?_eq_none (by omega)]
    have : mk [] ≠ mk [c] := fun e => by injection e with e; simp at e
    simp [this]
theorem lit5a : Txt.slice (Str.ofString "[^a]") (some 2) (some (-1)) = one 97 := by decide +kernel
theorem lit5b : Txt.item (Str.ofString "\\.") (-1) = one 46 := by decide +kernel
theorem lit5c : Txt.item (Str.ofString "\"") (-1) = one 34 := by decide +kernel
theorem last5b : lastSg (Str.ofString "\\.") = 46 := by decide +kernel
theorem last5c : lastSg (Str.ofString "\"") = 34 := by decide +kernel
end Mine
namespace Mine
theorem step46 (nm rs : List Nat) : stepR nm (Str.ofString "\\.") rs = (rs.filter fun j => decide (nm[j]? = some 46)).map (· + 1) := by
  unfold stepR
  rw [if_neg (by decide), if_neg (by decide), if_neg (by decide), last5b]
theorem step34 (nm rs : List Nat) : stepR nm (Str.ofString "\"") rs = (rs.filter fun j => decide (nm[j]? = some 34)).map (· + 1) := by
  unfold stepR
  rw [if_neg (by decide), if_neg (by decide), if_neg (by decide), last5c]
theorem stepQ (nm rs : List Nat) : stepR nm (Str.ofString "?") rs = (rs.filter fun j => decide (j < nm.length)).map (· + 1) := by
  unfold stepR
  rw [if_neg (by decide), if_pos rfl]
theorem stepN (nm rs : List Nat) : stepR nm (Str.ofString "[^a]") rs = (rs.filter fun j => decide (j < nm.length) && !decide (nm[j]? = some 97)).map (· + 1) := by
  unfold stepR
  rw [if_neg (by decide), if_neg (by decide), if_pos rfl]
theorem stepS (nm rs : List Nat) : stepR nm (Str.ofString "*") rs = (match rs with | [] => [] | r :: _ => List.range' r (nm.length + 1 - r)) := by
  unfold stepR
  rw [if_pos rfl]
theorem fold_succ {nm : List Nat} {pt : List Str} {i : Nat} {x : Str} (hx : pt[i]? = some x) : (pt.take (i + 1)).foldl (fun rs p => stepR nm p rs) [0] = stepR nm x ((pt.take i).foldl (fun rs p => stepR nm p rs) [0]) := by
  rw [List.take_add_one, hx]
  simp [List.foldl_append]
theorem filt_le {l nm : List Nat} {f : Nat → Bool} (h : ∀ j, f j = true → j < nm.length) : ∀ x ∈ (l.filter f).map (· + 1), x ≤ nm.length := by
  intro x hx
  obtain ⟨j, hj, rfl⟩ := List.mem_map.mp hx
  have := h j (List.mem_filter.mp hj).2
  show j + 1 ≤ _
  omega
theorem lt_of_some {nm : List Nat} {j c : Nat} (h : decide (nm[j]? = some c) = true) : j < nm.length := (List.getElem?_eq_some_iff.mp (of_decide_eq_true h)).1
end Mine
namespace Mine
theorem intsAre_of_get : ∀ (vs : List Value) (ns : List Int), vs.length = ns.length → (∀ (j : Nat) v, vs[j]? = some v → ∃ x t, ns[j]? = some x ∧ v = .int x t) → IntsAre vs ns
  | [], [], _, _ => .nil
  | [], _ :: _, h, _ => by simp at h
  | _ :: _, [], h, _ => by simp at h
  | v :: vs, s :: ss, h, k => by
    obtain ⟨x, t, e1, e2⟩ := k 0 v (by simp)
    simp at e1
    subst e1
    subst e2
    exact .cons _ _ (intsAre_of_get vs ss (by simpa using h) fun j v hv => by simpa using k (j + 1) v (by simpa using hv))
theorem range_get (a n j : Nat) (h : j < n) : ((List.range' a n).map Int.ofNat)[j]? = some ((a : Int) + (j : Nat)) := by
  rw [List.getElem?_map, List.getElem?_range' h]
  simp
theorem list_range_led {prog : Program} {w : World} {A : Around} {E : Value → Shared → Prop} {s : Shared} {h₀ : Heap} {L : Addr} {m : Str → Option Value} {led : Led} {r : Addr} {a b : Int} {a' : Nat} {t u v : Tok} {n : Nat} {Q : Value → Shared → Prop} (hh : A.handled = none) (F : Fr h₀ L s.heap m) (N : News h₀ L s.heap led)
    (hr : IsRange s.heap r a b 1 t u v) (ha : a = (a' : Int)) (hsm : Builtin.Range.small a b 1 = true) (hn : Builtin.Range.rangeSize a b 1 = ((n : Nat) : Int)) (hlen : n ≤ 2 ^ 24)
    (h : ∀ l h' tk vs k, Fr h₀ L h' m → News h₀ L h' ((l, listOf vs.toArray k) :: led) → (∀ p ∈ led, p.1 < l) → IntsAre vs ((List.range' a' n).map Int.ofNat) → Q (.ref l) { s with heap := h', toks := tk }) :
    wpAny (model prog w) A (call (.type "list") [.ref r]) Q E s := by
  refine call_list_range hh hr hsm hn hlen fun h' tk acc' c' hk hS' hacc => ?_
  refine h _ h' tk acc'.toList c' (F.keeps hk) ?_ (fun p hp => Heap.lt_size (N p hp).1) ?_
  · intro p hp
    rcases List.mem_cons.mp hp with rfl | hp
    · refine ⟨by simpa using hS', ?_, ?_⟩
      · intro e
        have := F.ns.lt
        rw [← e] at this
        exact Nat.lt_irrefl _ this
      · cases e : h₀.get? s.heap.objs.size with
        | none => rfl
        | some o => exact absurd (Heap.lt_size (F.keep _ _ e)) (Nat.lt_irrefl _)
    · exact ⟨hk _ _ (N p hp).1, (N p hp).2⟩
  · refine intsAre_of_get _ _ (by simp [hacc.1]) fun j v hv => ?_
    have hv' : acc'[j]? = some v := by simpa using hv
    obtain ⟨tk, rfl⟩ := hacc.2 j v hv'
    have hj : j < n := by
      have := (Array.getElem?_eq_some_iff.mp hv').1
      rw [hacc.1] at this; exact this
    exact ⟨_, tk, range_get a' n j hj, by rw [ha, Int.mul_one]⟩
end Mine
namespace Mine
theorem any_ofNat (rs : List Nat) (n : Nat) : ((rs.map Int.ofNat).any fun x => x == (n : Int)) = decide (n ∈ rs) := by
  by_cases h : n ∈ rs
  · rw [decide_eq_true h]
    simp only [List.any_map, List.any_eq_true]
    exact ⟨n, h, by simp⟩
  · rw [decide_eq_false h]
    simp only [List.any_map, List.any_eq_false]
    intro x hx e
    have : x = n := by simp at e; omega
    exact h (this ▸ hx)
end Mine
end
section
open PySem PySem.W PyProof.Rows PySem.Spec PySem.Calls
set_option maxRecDepth 100000
namespace Mine
abbrev frs (l : List Env) : List Addr := l.filterMap (·.frame)
theorem frs_cons {env : Env} {L : Addr} {outer : List Env} (hf : env.frame = some L) : frs (env :: outer) = L :: frs outer := by
  unfold frs
  rw [List.filterMap_cons, hf]
section
variable {prog : Program} {w : World} {A A₀ : Around} {E : Value → Shared → Prop} {s s' : Shared} {base g g₁ h h₀ h' : Heap} {outer : List Env} {env : Env} {L L' a e : Addr} {m m' : Str → Option Value} {name : Str} {scope : Scope} {cd : Value}
  {b₀ : Stmt} {suite : List Stmt} {pos np : Pos} {rest : List ExceptHandler} {Q : Flow → Shared → Prop} {news : Led} {KF : Frag}
  {p : Program} {loose : List Str} {mean : ExcName → Option Value} {mg mb : Str → Option Value} {x : Str} {X T' : String}
/-- leaving a def whose ground has turned (a traceback has touched the frames) -/
theorem turn_back (B : Below A₀ base outer h₀) (FG : Fr h₀ L g m) (T : KtsTurn (L :: frs outer) g g₁) (F : Fr g₁ L' h' m') (N : News g₁ L' h' news) :
    ∃ h₁, KtsTurn (frs outer) h₀ h₁ ∧ Fr h₁ L h' m ∧ News h₁ L h' news ∧ Below A₀ base outer h₁ := by
  obtain ⟨h₁, T1, F1, B1⟩ := kts_ground (name := Str.empty) (scope := default) (a := L) (cd := .none) (B := g₁) (h₅ := h') B FG (fun b o hb hn => T.other b o hb (by
      intro hm
      apply hn
      show b ∈ (envOf Str.empty default L L .none :: outer).filterMap (·.frame)
      exact hm)) F.keep (fun b o hb _ => by
      obtain ⟨sl, hs⟩ := T.up hb
      exact ⟨sl, F.keep _ _ hs⟩)
  refine ⟨h₁, T1, F1, fun q hq => ⟨(N q hq).1, fun eq => ?_, ?_⟩, B1⟩
  · obtain ⟨oL, es, ep, hL, _⟩ := FG.ns
    obtain ⟨sl, hs⟩ := T.up hL
    have := (N q hq).2.2
    rw [eq, hs] at this
    cases this
  · cases z : h₁.get? q.1 with
    | none => rfl
    | some o =>
      exfalso
      cases z0 : h₀.get? q.1 with
      | none => rw [T1.none_ _ z0] at z; cases z
      | some o0 =>
        obtain ⟨sl, hs⟩ := T.up (FG.keep _ _ z0)
        have := (N q hq).2.2
        rw [hs] at this
        cases this
/-- a built-in exception that a built-in raised in the frame itself, caught there -/
theorem caught_new (K : Below A₀ base outer g) (F : Fr g L h m) (N : News g L h news) (hx : Heap.NewExc h s'.heap e X) (XB : KF.In base) (TB : Top p loose mean mg mb base)
    (ex : nsIn KF mainGlobals x = some none) (hv : bootBuiltins x = some (.type T')) (hn' : x ≠ "__name__")
    (hexc : isSubtype (.type T') (.type "BaseException") = pure true) (hnt : isSubtype (.type ((Manifest.find? T').elim "type" fun y => y.metatype)) (.type "tuple") = pure false) (hsub : isSubtype (.type X) (.type T') = pure true)
    (k : ∀ h' g', KtsTurn (frs outer) g g' → Fr g' L h' m → News g' L h' news → Below A₀ base outer g' → KF.In g' → Top p loose mean mg mb g' →
      wpAny (model prog w) ((A₀.deeper (envOf name scope L a cd)).mark (some (.ref e))) (execs (b₀ :: suite) (envOf name scope L a cd)) Q E { s' with heap := h' })
    (hk : scope.kind = .function := by rfl) (hkx : (envOf name scope L a cd).kindOf x = some .globalImplicit := by rfl) (hd : (x == ("__debug__" : Str)) = false := by decide)
    (hE : PassesOwnAt (model prog w) ((A₀.deeper (envOf name scope L a cd)).mark (some (.ref e))) (A₀.deeper (envOf name scope L a cd)) (envOf name scope L a cd) E := by passes_own) :
    wpAny (model prog w) (A₀.deeper (envOf name scope L a cd)) (noteFrame (.ref e) (envOf name scope L a cd))
      (fun _ s₂ => wpAny (model prog w) (A₀.deeper (envOf name scope L a cd)) (setFlight (.ref e) none) (fun _ s₃ =>
        wpAny (model prog w) (A₀.deeper (envOf name scope L a cd)) (handleBy (.ref e) (envOf name scope L a cd) (.ExceptHandler (some (.Name x np)) none (b₀ :: suite) pos :: rest)) Q E s₃) E s₂) E s' := by
  have K' := K.push (name := name) (a := a) (cd := cd) F hk
  have hin : ∀ env ∈ (envOf name scope L a cd :: outer), ∀ b, env.frame = some b → b ∈ (envOf name scope L a cd :: outer).filterMap (·.frame) := fun env he b hb => List.mem_filterMap.mpr ⟨env, he, hb⟩
  have hkb : (hideAll h ((envOf name scope L a cd :: outer).filterMap (·.frame))).StaysIn s'.heap := fun b o hb => hx.keeps b o (of_hideAll _ hb)
  have hBG : ∀ b o, h.get? b = some o → b ∉ (envOf name scope L a cd :: outer).filterMap (·.frame) → (hideAll h ((envOf name scope L a cd :: outer).filterMap (·.frame))).get? b = some o := fun b o hb hn => hideAll_get _ hb hn
  have hl : ∀ q ∈ news, (hideAll h ((envOf name scope L a cd :: outer).filterMap (·.frame))).get? q.1 = some q.2 := fun q hq => by
    refine hideAll_get _ (N q hq).1 fun hm => ?_
    rcases kts_mem hm with z | z
    · exact (N q hq).2.1 z
    · obtain ⟨_, o, ho, _⟩ := K.frames.mem z
      rw [(N q hq).2.2] at ho; cases ho
  obtain ⟨ob, tp, he, hcls, hdd⟩ := hx.there
  have hen : (hideAll h ((envOf name scope L a cd :: outer).filterMap (·.frame))).get? e = none := by
    cases q : (hideAll h ((envOf name scope L a cd :: outer).filterMap (·.frame))).get? e with
    | none => rfl
    | some o => have := of_hideAll _ q; rw [hx.new] at this; cases this
  have hL : (hideAll h ((envOf name scope L a cd :: outer).filterMap (·.frame))).get? L = none := hideAll_none _ (hin _ (.head _) L rfl)
  unfold noteFrame
  simp only [show (envOf name scope L a cd).frame = some L from rfl]
  refine wpAny_bind (wpAny_field he hdd rfl ?_)
  rw [if_neg (by show ¬ ((Value.none != Value.none) = true); decide)]
  refine wpAny_entryW (a0 := tp) K'.stack ((funFrames_hide K'.frames hin).of_keeps fun b o hb _ => ⟨o, hx.keeps b o hb, rfl⟩) rfl he hkb hen hdd (by simp) rfl fun h₄ hN => ?_
  obtain ⟨k1, k2, k3, hsm₄⟩ := hN
  rw [hcls] at k3
  have hheld₄ : Heap.HeldW _ (envOf name scope L a cd :: outer) e (.type X) tp L h₄ := ⟨k1, hen, k2, k3⟩
  have hsm : h.UpToSlots s'.heap := Heap.UpToSlots.of_keeps hx.keeps
  refine wpAny_landsW hheld₄ fun h₅ hheld hsm₅' => ?_
  have hsm₅ := Heap.UpToSlots.trans hsm₄ hsm₅'
  obtain ⟨g₅, T₅, F₅, K₅⟩ := kts_ground K F hBG hheld.1 (hsm.trans hsm₅)
  have X₅ : KF.In g₅ := XB.keeps K₅.stays
  have P₅ : TopRead p loose mg mb g₅ := topRead_of (TB.keeps K₅.stays)
  obtain ⟨ob', hob, hobc⟩ := hheld.there
  refine wpAny_handleBy_builtin (X := X) (T := T') (b := true) hexc hnt hsub (name_B F₅ X₅ P₅ ex hv hn' ⟨rfl, ⟨ob', hob, hobc⟩, ?_⟩ hk hkx hd)
  refine lands_againW hheld fun h₆ hfl₆ hsm₆ => ?_
  obtain ⟨g₆, T₆, F₆, K₆⟩ := kts_ground K F hBG hfl₆.1 ((hsm.trans hsm₅).trans hsm₆)
  have Nl : News g₆ L h₆ news := fun q hq => ⟨hfl₆.1 _ _ (hl q hq), (fun z => by have := hl q hq; rw [z, hL] at this; cases this), T₆.none_ _ (N q hq).2.2⟩
  exact wpAny_passesOwnAt hE (k h₆ g₆ T₆ F₆ Nl K₆ (XB.keeps K₆.stays) (TB.keeps K₆.stays))
end
section
variable {prog : Program} {w : World} {A A₀ : Around} {s : Shared} {base h₀ : Heap} {outer : List Env} {env : Env} {L : Addr} {m : Str → Option Value} {news : Led} {K : Frag} {p : Program} {loose : List Str} {mean : ExcName → Option Value} {mg mb : Str → Option Value}
    {R : Result → Shared → Prop} {name qual : Str} {params : Arguments} {body : List Stmt} {scope : Scope} {dV kV doc pm cdv ct oc : Value} {an od : Option Addr} {osl : Array (Option Value)} {f : Addr} {args : Args} {binds : List (Str × Value)}
/-- a call of a def, its end told raw -/
theorem code_raw (B : Below A₀ base outer h₀) (F : Fr h₀ L s.heap m) (X₀ : K.In h₀) (N : News h₀ L s.heap news) (T : Top p loose mean mg mb h₀) (hA : A.frames = some (env :: outer)) (hf : env.frame = some L) (hke : env.scope.kind = .function)
    (ho : K.lookup f = some ⟨oc, od, .func (fnOf name qual params body scope dV kV doc pm an cdv ct), osl⟩) (hcd : codeIn K cdv qual = true) (hroom : A.depth < recursionLimit)
    (hbind : BindsTo s (fnOf name qual params body scope dV kV doc pm an cdv ct) args binds) (hloc : ∀ y ∈ binds, scope.names.lookup y.1 = some .local)
    (h : ∀ g L' h₁, Fr h₀ L g m → Fr g L' h₁ (fun y => binds.reverse.lookup y) → News g L' h₁ news → Below A base (env :: outer) g → K.In g → Top p loose mean mg mb g →
      wpAny (model prog w) (A.deeper (envOf qual scope L' f cdv)) (execs body (envOf qual scope L' f cdv))
        (fun fl s' => R (.ok (.ret (match fl with | .ret v => v | _ => .none))) s')
        (fun e s' => wpAny (model prog w) (A.deeper (envOf qual scope L' f cdv)) (leaving (envOf qual scope L' f cdv) e) (fun _ s'' => R (.error e) s'') (fun e' s'' => R (.error e') s'') s')
        { s with heap := h₁, toks := s.toks + binds.length })
    (hco : scope.isCoroutine = false) (hgen : scope.isGenerator = false) (hk : scope.kind = .function)
    (hcell : ∀ x ∈ scope.names, x.2 ≠ .cell) : codeAny (model prog w) A (.call (.ref f) args) R s := by
  obtain ⟨FG, BG, st, -⟩ := groundX (R := R) B F N hA hf hke
  have X := X₀.keeps F.keep
  refine codeAny_call_def (fd := fnOf name qual params body scope dV kV doc pm an cdv ct) (body := body) (binds := binds) hroom (X _ _ ho) rfl (T.nolimit.keeps F.keep) (codeRec_of X hcd) rfl hbind hcell hloc (fun h₁ hns hk₁ => ?_) hco hgen hk
  exact h _ s.heap.objs.size h₁ FG ⟨hns, fun b o e => hk₁ b o (of_hideAll _ e), Nat.le_of_eq (hideAll_size _ _)⟩
    (fun p hp => ⟨hk₁ _ _ (N p hp).1, Nat.ne_of_lt (Heap.lt_size (N p hp).1), hideAll_none _ (List.mem_map_of_mem hp)⟩) BG (X₀.keeps st) (T.keeps st)
theorem code_rawC (B : Below A₀ base outer h₀) (F : Fr h₀ L s.heap m) (X₀ : K.In h₀) (N : News h₀ L s.heap news) (T : Top p loose mean mg mb h₀) (hA : A.frames = some (env :: outer)) (hf : env.frame = some L) (hke : env.scope.kind = .function)
    (ho : K.lookup f = some ⟨oc, od, .func (fnOf name qual params body scope dV kV doc pm an cdv ct), osl⟩) (hcd : codeIn K cdv qual = true) (hroom : A.depth < recursionLimit)
    (hbind : BindsTo s (fnOf name qual params body scope dV kV doc pm an cdv ct) args binds) (hkind : (binds.all fun y => scope.names.lookup y.1 == some .local || scope.names.lookup y.1 == some .cell) = true)
    (hnd : ((cellsFrom 0 scope.names []).map (·.1)).Nodup)
    (h : ∀ g L' h₁ tk cells, Fr h₀ L g m → Fr g L' h₁ (bindL (envOfC qual scope L' f cdv).kindOf binds fun _ => none) → News g L' h₁ (cells ++ news) →
      CellsAre (bindC (envOfC qual scope L' f cdv).kindOf binds fun _ => none) (cellsFrom (L' + 1) scope.names []) cells → Below A base (env :: outer) g → K.In g → Top p loose mean mg mb g → (∀ p ∈ news, p.1 < L') →
      wpAny (model prog w) (A.deeper (envOfC qual scope L' f cdv)) (execs body (envOfC qual scope L' f cdv))
        (fun fl s' => R (.ok (.ret (match fl with | .ret v => v | _ => .none))) s')
        (fun e s' => wpAny (model prog w) (A.deeper (envOfC qual scope L' f cdv)) (leaving (envOfC qual scope L' f cdv) e) (fun _ s'' => R (.error e) s'') (fun e' s'' => R (.error e') s'') s')
        { s with heap := h₁, toks := tk })
    (hco : scope.isCoroutine = false) (hgen : scope.isGenerator = false) (hk : scope.kind = .function) : codeAny (model prog w) A (.call (.ref f) args) R s := by
  obtain ⟨FG, BG, st, -⟩ := groundX (R := R) B F N hA hf hke
  have X := X₀.keeps F.keep
  refine codeAny_call_function hroom (X _ _ ho) rfl hco hgen rfl (codeRec_of X hcd) (hbind _ _ _ _ ?_)
  refine wpAny_newFunctionEnv_cells hk (kindsX hkind _) fun env' he s' x => ?_
  subst he
  refine ⟨(T.nolimit.keeps F.keep).keeps x.toInCall.keep, codeAny_func ?_⟩
  obtain ⟨h₁, tk, rfl, _⟩ := x.done
  have hk₁ := x.toInCall.keep
  obtain ⟨cells, NC, Y⟩ := Cl.news (h₀ := s.heap) (Nat.le_refl _) fun n c hm => ⟨x.cell n c (lookup_of_mem_nodup (cellsFrom_names scope.names 0 (s.heap.objs.size + 1) [] [] rfl ▸ hnd) hm), x.above n c hm⟩
  refine h _ s.heap.objs.size h₁ tk cells FG ⟨x.toInCall.ns, fun b o e => hk₁ b o (of_hideAll _ e), Nat.le_of_eq (hideAll_size _ _)⟩ (fun p hp => ?_) Y BG (X₀.keeps st) (T.keeps st) fun p hp => Heap.lt_size (N p hp).1
  rcases List.mem_append.mp hp with hp | hp
  · refine ⟨(NC p hp).1, (NC p hp).2.1, ?_⟩
    cases q : (hideAll s.heap (news.map (·.1))).get? p.1 with
    | none => rfl
    | some o => have := of_hideAll _ q; rw [(NC p hp).2.2] at this; cases this
  · exact ⟨hk₁ _ _ (N p hp).1, Nat.ne_of_lt (Heap.lt_size (N p hp).1), hideAll_none _ (List.mem_map_of_mem hp)⟩
end
/-- a place from which a def that catches may be called: the written part stands in the base -/
inductive SiteB (w : World) (dN uN : Nat) (A : Around) (A₀ : Around) (base : Heap) (outer : List Env) (h₀ : Heap) (L : Addr) : Prop
  | intro : ∀ (p : Program) (loose : List Str) (mean : ExcName → Option Value) (mg mb : Str → Option Value) (dp un : Nat) (gd : Option (List Code)) (cn : Str) (cs : Scope) (a : Addr) (ccd : Value) (cl : List (Str × Addr)), A = ktrTop dp un gd cn cs L a ccd cl outer → Below A₀ base outer h₀ → (Mine.K w.params).In base → Top p loose mean mg mb base → cs.kind = .function → dp + dN < recursionLimit → un + uN < cLine → SiteB w dN uN A A₀ base outer h₀ L
def ConD (w : World) (f : Addr) (args : List Value) (led : Led) (dN uN : Nat) (P : Value → Led → Prop) : Prop :=
  ∀ (A A₀ : Around) (base : Heap) (outer : List Env) (h₀ : Heap) (L : Addr) (m : Str → Option Value) (s : Shared) (R : Result → Shared → Prop),
    SiteB w dN uN A A₀ base outer h₀ L → Fr h₀ L s.heap m → News h₀ L s.heap led →
    (∀ v led' h' tk' h₁, KtsTurn (frs outer) h₀ h₁ → P v led' → Fr h₁ L h' m → News h₁ L h' led' → Below A₀ base outer h₁ → R (.ok (.ret v)) { s with heap := h', toks := tk' }) →
    codeAny (model PySem.Challenge.rw_in0213_01.row.prog w) A (.call (.ref f) ⟨args, []⟩) R s
theorem ConD.call {w : World} {f : Addr} {args : List Value} {led : Led} {dN uN : Nat} {P : Value → Led → Prop} (c : ConD w f args led dN uN P) {A A₀ : Around} {base : Heap} {outer : List Env} {h₀ : Heap} {L : Addr} {m : Str → Option Value} {s : Shared} {Q E : Value → Shared → Prop}
    (S : SiteB w dN uN A A₀ base outer h₀ L) (F : Fr h₀ L s.heap m) (N : News h₀ L s.heap led)
    (h : ∀ v led' h' tk' h₁, KtsTurn (frs outer) h₀ h₁ → P v led' → Fr h₁ L h' m → News h₁ L h' led' → Below A₀ base outer h₁ → Q v { s with heap := h', toks := tk' }) :
    wpAny (model PySem.Challenge.rw_in0213_01.row.prog w) A (PySem.call (.ref f) args) Q E s := wpAny_call (c A A₀ base outer h₀ L m s _ S F N h)
section
variable {prog : Program} {w : World} {A A₀ : Around} {E : Value → Shared → Prop} {s : Shared} {base g : Heap} {outer : List Env} {L : Addr} {m : Str → Option Value} {news : Led} {env : Env}
/-- the end of a turn of a while whose body may turn the ground -/
inductive WhileEndT (A₀ : Around) (base : Heap) (outer : List Env) (g : Heap) (L : Addr) (J : Nat → (Str → Option Value) → Led → Prop) (n : Nat) (s : Shared) (f : Flow) (s₃ : Shared) : Prop
  | intro : ((f = .next ∨ f = .cont)) → ∀ n' g' h' tk m' nw, n' < n → s₃ = { s with heap := h', toks := tk } → KtsTurn (frs outer) g g' → Below A₀ base outer g' → Fr g' L h' m' → News g' L h' nw → J n' m' nw → WhileEndT A₀ base outer g L J n s f s₃
inductive WhileAtT (A₀ : Around) (base : Heap) (outer : List Env) (g : Heap) (L : Addr) (J : Nat → (Str → Option Value) → Led → Prop) (s : Shared) (n : Nat) (s' : Shared) : Prop
  | intro : ∀ g₁ h₁ tk₁ m₁ nw, s' = { s with heap := h₁, toks := tk₁ } → KtsTurn (frs outer) g g₁ → Below A₀ base outer g₁ → Fr g₁ L h₁ m₁ → News g₁ L h₁ nw → J n m₁ nw → WhileAtT A₀ base outer g L J s n s'
theorem while_invT {test : Expr} {body : List Stmt} {pos : Pos} {Q : Flow → Shared → Prop} (J : Nat → (Str → Option Value) → Led → Prop) {n₀ : Nat}
    (B : Below A₀ base outer g) (F : Fr g L s.heap m) (N : News g L s.heap news) (hJ : J n₀ m news)
    (turn : ∀ n m₁ nw h₁ tk₁ g₁, KtsTurn (frs outer) g g₁ → Below A₀ base outer g₁ → Fr g₁ L h₁ m₁ → News g₁ L h₁ nw → J n m₁ nw →
      wpAny (model prog w) A (isTrue test env (eval test env)) (fun b s₂ =>
        if b = true then wpAny (model prog w) A (execs body env) (WhileEndT A₀ base outer g L J n s) E s₂ else Q .next s₂) E { s with heap := h₁, toks := tk₁ })
    (hE : PassesOwn (model prog w) A env E := by passes_own) :
    wpAny (model prog w) A (exec (.While test body [] pos) env) Q E s := by
  refine wpAny_While (codeAny_whileLoop (WhileAtT A₀ base outer g L J s) ?_ n₀ ⟨g, s.heap, s.toks, m, news, rfl, KtsTurn.refl, B, F, N, hJ⟩)
  rintro n s' ⟨g₁, h₁, tk₁, m₁, nw, rfl, T₁, B₁, F₁, N₁, J₁⟩
  refine wpAny_mono (turn n m₁ nw h₁ tk₁ g₁ T₁ B₁ F₁ N₁ J₁) (fun b s₂ h₂ => ?_) hE
  cases b with
  | false =>
    simp only [Bool.false_eq_true, if_false] at h₂ ⊢
    exact wpAny_execs_nil h₂
  | true =>
    simp only [if_true] at h₂ ⊢
    refine wpAny_mono h₂ (fun f s₃ h₃ => ?_) hE
    obtain ⟨hf, n', g', h', tk, m', nw', hn, rfl, T', B', F', N', J'⟩ := h₃
    rcases hf with rfl | rfl
    · exact ⟨n', hn, g', h', tk, m', nw', rfl, T', B', F', N', J'⟩
    · exact ⟨n', hn, g', h', tk, m', nw', rfl, T', B', F', N', J'⟩
end
end Mine
end
section
open PySem PySem.W PyProof.Rows PySem.Builtin PySem.Builtin.Str PySem.Spec PySem.Calls
namespace Mine
inductive BStrs (led : Led) (v : Value) (ss : List Str) : Prop
  | intro : ∀ (a : Addr) (vs : List Value) (n : Nat), v = .ref a → (a, listOf vs.toArray n) ∈ led → StrsAre vs ss → BStrs led v ss
inductive BEntry (led : Led) (v : Value) (e : List Str × Int) : Prop
  | intro : ∀ (a : Addr) (x : Value) (t : Tok) (n : Nat), v = .ref a → (a, listOf #[x, .int e.2 t] n) ∈ led → BStrs led x e.1 → BEntry led v e
inductive BPair (led : Led) (v : Value) (e : List Str × List Str) : Prop
  | intro : ∀ (a : Addr) (x y : Value) (n : Nat), v = .ref a → (a, listOf #[x, y] n) ∈ led → BStrs led x e.1 → BStrs led y e.2 → BPair led v e
inductive BTop (led : Led) (v : Value) (e1 e2 : List Str × Int) (b1 b2 : List Str × List Str) : Prop
  | intro : ∀ (a : Addr) (x1 x2 x3 x4 : Value) (n : Nat), v = .ref a → (a, listOf #[x1, x2, x3, x4] n) ∈ led → BEntry led x1 e1 → BEntry led x2 e2 → BPair led x3 b1 → BPair led x4 b2 → BTop led v e1 e2 b1 b2
inductive FilePick (v1 v2 : List Value) (z1 z2 : List Int) (n1 n2 L' : Addr) (k2 k3 i : Nat) (v : Value) : Prop
  | intro : ∀ (nn : Addr) (vv : List Value) (zz : List Int) (kk : Nat), v = .ref nn → ((nn, listOf vv.toArray kk) = (n1, listOf v1.toArray k2) ∨ (nn, listOf vv.toArray kk) = (n2, listOf v2.toArray k3)) → IntsAre vv zz → [z1, z2][i]? = some zz → @LT.lt Nat _ nn L' → vv.length ≤ 10 → FilePick v1 v2 z1 z2 n1 n2 L' k2 k3 i v
theorem BStrs.mono {led led' : Led} {v : Value} {ss : List Str} (h : BStrs led v ss) (k : ∀ p ∈ led, p ∈ led') : BStrs led' v ss := by
  obtain ⟨a, vs, n, e, m, s⟩ := h
  exact ⟨a, vs, n, e, k _ m, s⟩
theorem BEntry.mono {led led' : Led} {v : Value} {e : List Str × Int} (h : BEntry led v e) (k : ∀ p ∈ led, p ∈ led') : BEntry led' v e := by
  obtain ⟨a, x, t, n, e, m, s⟩ := h
  exact ⟨a, x, t, n, e, k _ m, s.mono k⟩
theorem BPair.mono {led led' : Led} {v : Value} {e : List Str × List Str} (h : BPair led v e) (k : ∀ p ∈ led, p ∈ led') : BPair led' v e := by
  obtain ⟨a, x, y, n, e, m, s1, s2⟩ := h
  exact ⟨a, x, y, n, e, k _ m, s1.mono k, s2.mono k⟩
theorem BTop.mono {led led' : Led} {v : Value} {e1 e2 : List Str × Int} {b1 b2 : List Str × List Str} (h : BTop led v e1 e2 b1 b2) (k : ∀ p ∈ led, p ∈ led') : BTop led' v e1 e2 b1 b2 := by
  obtain ⟨a, x1, x2, x3, x4, n, e, m, s1, s2, s3, s4⟩ := h
  exact ⟨a, x1, x2, x3, x4, n, e, k _ m, s1.mono k, s2.mono k, s3.mono k, s4.mono k⟩
abbrev dStrs (ss : List Str) : PyData := .list (ss.map .str)
abbrev dEntry (e : List Str × Int) : PyData := .list [dStrs e.1, .int e.2]
abbrev dPair (e : List Str × List Str) : PyData := .list [dStrs e.1, dStrs e.2]
abbrev dTop (e1 e2 : List Str × Int) (b1 b2 : List Str × List Str) : PyData := .list [dEntry e1, dEntry e2, dPair b1, dPair b2]
section
variable {h₀ h : Heap} {L : Addr} {led : Led}
theorem BStrs.reads {v : Value} {ss : List Str} (N : News h₀ L h led) (b : BStrs led v ss) : ∃ as, Reads h v (dStrs ss) as := by
  obtain ⟨a, vs, n, rfl, m, s⟩ := b
  exact ⟨_, .list (N _ m).1 rfl rfl (by simpa using StrsAre.reads h s)⟩
theorem BEntry.reads {v : Value} {e : List Str × Int} (N : News h₀ L h led) (b : BEntry led v e) : ∃ as, Reads h v (dEntry e) as := by
  obtain ⟨a, x, t, n, rfl, m, s⟩ := b
  obtain ⟨as, r⟩ := s.reads N
  exact ⟨_, .list (N _ m).1 rfl rfl (.cons r (.cons (.int _ _) .nil))⟩
theorem BPair.reads {v : Value} {e : List Str × List Str} (N : News h₀ L h led) (b : BPair led v e) : ∃ as, Reads h v (dPair e) as := by
  obtain ⟨a, x, y, n, rfl, m, s1, s2⟩ := b
  obtain ⟨as, r⟩ := s1.reads N
  obtain ⟨bs, q⟩ := s2.reads N
  exact ⟨_, .list (N _ m).1 rfl rfl (.cons r (.cons q .nil))⟩
theorem BTop.reads {v : Value} {e1 e2 : List Str × Int} {b1 b2 : List Str × List Str} (N : News h₀ L h led) (b : BTop led v e1 e2 b1 b2) : ∃ as, Reads h v (dTop e1 e2 b1 b2) as := by
  obtain ⟨a, x1, x2, x3, x4, n, rfl, m, s1, s2, s3, s4⟩ := b
  obtain ⟨a1, r1⟩ := s1.reads N
  obtain ⟨a2, r2⟩ := s2.reads N
  obtain ⟨a3, r3⟩ := s3.reads N
  obtain ⟨a4, r4⟩ := s4.reads N
  exact ⟨_, .list (N _ m).1 rfl rfl (.cons r1 (.cons r2 (.cons r3 (.cons r4 .nil))))⟩
end
end Mine
namespace Mine
theorem nil_get {P : Prop} {j : Nat} {v : Value} (h : ([] : List Value)[j]? = some v) : P := by simp at h
theorem take_map_succI {l : List Int} {i : Nat} {z : Int} {f : Int → Str} (hz : l[i]? = some z) : (l.take (i + 1)).map f = (l.take i).map f ++ [f z] := by
  rw [List.take_add_one, hz]
  simp
theorem take_filter_succ {l : List Str} {i : Nat} {x : Str} {f : Str → Bool} (hx : l[i]? = some x) : (l.take (i + 1)).filter f = (l.take i).filter f ++ (if f x then [x] else []) := by
  rw [List.take_add_one, hx]
  cases h : f x <;> simp [h]
end Mine
end
section
open PySem PySem.W PyProof.Rows PySem.Builtin PySem.Builtin.Str PySem.Spec PySem.Calls
namespace Mine
section
variable {prog : Program} {w : World} {A : Around} {E : Value → Shared → Prop} {s : Shared} {h₀ : Heap} {L : Addr} {m : Str → Option Value} {led : Led}
theorem add_led {l b : Addr} {vs ws : List Value} {n1 n2 : Nat} {Q : Value → Shared → Prop} (F : Fr h₀ L s.heap m) (N : News h₀ L s.heap led) (hl : (l, listOf vs.toArray n1) ∈ led) (hb : (b, listOf ws.toArray n2) ∈ led) (hz : vs.length + ws.length ≤ 100000)
    (h : ∀ D h', Fr h₀ L h' m → News h₀ L h' ((D, listOf (vs ++ ws).toArray 0) :: led) → (∀ p ∈ led, p.1 < D) → Q (.ref D) { s with heap := h' }) :
    wpAny (model prog w) A (binaryOp .Add (.ref l) (.ref b)) Q E s :=
  add_lists F N (listOf_is N hl) (listOf_is N hb) (fun h' F' N' => h _ h' F' N' fun p hp => Heap.lt_size (N p hp).1) (by rw [sizeLine_eq]; omega)
theorem count_r {x y : Str} {t u : Tok} {n : Int} {Q : Value → Shared → Prop} (hn : Txt.count x y = n) (h : ∀ u tk, Q (.int n u) { s with toks := tk }) : wpAny (model prog w) A (call (.builtin "str.count") [.str x t, .str y u]) Q E s := by
  refine SC.count ?_
  rw [hn]
  exact h _ _
end
theorem strsAre_append {vs ws : List Value} {ss ts : List Str} (h : StrsAre vs ss) (k : StrsAre ws ts) : StrsAre (vs ++ ws) (ss ++ ts) := by
  induction h with
  | nil => exact k
  | cons x t _ ih => exact .cons x t ih
end Mine
namespace Mine
theorem count_one (c : Nat) : ∀ l : List Nat, (l.map one).count (one c) = l.count c
  | [] => rfl
  | a :: r => by
    rw [List.map_cons, List.count_cons, List.count_cons, count_one c r]
    congr 1
    by_cases h : a = c
    · simp [h]
    · have : one a ≠ one c := fun e => h (one_inj e)
      simp [h, this]
theorem count_mk (l : List Nat) (c : Nat) : Txt.count (mk l) (one c) = ((l.count c : Nat) : Int) := by
  rw [count_is]
  have e : ((mk l).cps.toList.map fun n => PyData.str ⟨#[n]⟩) = ((l.map one).map PyData.str) := by
    rw [List.map_map]
    rfl
  rw [e]
  show Spec.countIn (.str (one c)) _ = _
  rw [PySem.W.cnt_strs, count_one]
theorem writtenL_len (n : Int) : (writtenL n).length ≤ 9 := by
  unfold writtenL
  have h1 := wordL_len n
  have h2 := esc_flat (wordL n)
  have h3 := bareW_len n (wordL n) 0
  have h4 : (sepQ n).length ≤ 1 := by unfold sepQ; split <;> (try split) <;> simp
  have h5 : (sepB n).length ≤ 2 := by unfold sepB; split <;> (try split) <;> simp
  split
  · rw [List.flatMap_def]
    simp only [List.length_append, List.length_cons, List.length_nil]
    omega
  · simp only [List.length_append]
    omega
theorem written_flat : ∀ zs : List Int, ((zs.map writtenL).flatten).length ≤ 9 * zs.length
  | [] => by simp
  | a :: r => by
    have := written_flat r
    have := writtenL_len a
    simp only [List.map_cons, List.flatten_cons, List.length_append, List.length_cons]
    omega
end Mine
namespace Mine
theorem news_front {h₀ h : Heap} {L : Addr} {a : Addr × Obj} {led : Led} (N : News h₀ L h led) (hm : a ∈ led) : News h₀ L h (a :: led) := news_of N fun p hp => by
  rcases List.mem_cons.mp hp with rfl | hp
  · exact hm
  · exact hp
theorem snoc_get {P : Value → Prop} {dl : List Value} {x : Value} {i j : Nat} {v : Value} (hl : dl.length = i) (h : (dl ++ [x])[j]? = some v) (h1 : dl[j]? = some v → P v) (h2 : j = i → P x) : P v := by
  by_cases hj : j < i
  · rw [List.getElem?_append_left (by omega)] at h
    exact h1 h
  · have : j = i := by
      have := (List.getElem?_eq_some_iff.mp h).1
      simp at this
      omega
    subst this
    subst hl
    simp at h
    subst h
    exact h2 rfl
end Mine
end
section
open PySem PySem.W PyProof.Rows
namespace Mine
local macro_rules | `(tactic| walk_at $s:str) => `(tactic| k_extra $s)
local macro_rules | `(tactic| k_all) => `(tactic| k_extra "k_all")
local macro_rules | `(tactic| k_ne) => `(tactic| k_extra "k_ne")
local macro_rules | `(tactic| size_fits) => `(tactic| k_extra "size_fits")
local macro_rules | `(tactic| ktr_room) => `(tactic| k_extra "ktr_room")
local macro_rules | `(tactic| k_in) => `(tactic| k_extra "k_in")
local macro_rules | `(tactic| ktr_units) => `(tactic| k_extra "ktr_units")
inductive WrittenJ (n : Int) (t : Tok) (st : Led) (i : Nat) (m : Str → Option Value) (nw : Led) : Prop
  | intro : (∃ tt, m (Str.ofString "text") = some (.str (mk (bareW n 0 ((wordL n).take i))) tt)) → (∃ u, m (Str.ofString "word") = some (.str (mk (wordL n)) u)) → m (Str.ofString "n") = some (.int n t) → nw = st → WrittenJ n t st i m nw
set_option maxRecDepth 100000 in
set_option maxHeartbeats 8000000 in
theorem written_con {w : World} (n : Int) (t : Tok) (st : Led) : Con w 130 [.int n t] st 12 80 (fun v led' => (∃ u, v = .str (mk (writtenL n)) u) ∧ led' = st) := by
  k_with_none
  k_with "line" => (first | exact ln2 ‹_ < PySem.recursionLimit› rfl | exact ln2 ‹_ < PySem.cLine› rfl | exact ln1 ‹_ < PySem.recursionLimit› rfl | exact ln1 ‹_ < PySem.cLine› rfl | (simp only [ktrTop] at *; first | exact ln2 ‹_ < PySem.recursionLimit› rfl | exact ln2 ‹_ < PySem.cLine› rfl | exact ln1 ‹_ < PySem.recursionLimit› rfl | exact ln1 ‹_ < PySem.cLine› rfl | omega))
  k_with "pr" => ((intro hcW; first | exact hcW.1 | exact hcW.2.1 | exact hcW.2.2.1 | exact hcW.2.2.2.1 | exact hcW.2.2.2.2.1 | exact hcW.2.2.2.2.2.1 | exact hcW.2.2.2.2.2.2.1 | exact hcW.2.2.2.2.2.2.2.1 | exact hcW.2.2.2.2.2.2.2.2.1 | exact hcW.2.2.2.2.2.2.2.2.2.1 | exact hcW.2.2.2.2.2.2.2.2.2.2.1 | exact hcW.2.2.2.2.2.2.2.2.2.2.2.1))
  k_with "k_ne" => ((refine neN ?_; (try dsimp only); first | (with_reducible assumption) | exact Ne.symm (by with_reducible assumption) | (refine ne_c1 (by with_reducible assumption) ?_; walk_at "pr") | (refine ne_c2 (by with_reducible assumption) ?_; walk_at "pr") | (refine ne_c3 (by with_reducible assumption) ?_; walk_at "pr") | (refine ne_c4 (by with_reducible assumption) ?_; walk_at "pr") | (refine ne_f1 (by with_reducible assumption) ?_; walk_at "pr") | (refine ne_f2 (by with_reducible assumption) ?_; walk_at "pr") | (refine ne_d1 (by with_reducible assumption) (by with_reducible assumption) ?_; walk_at "pr") | (refine ne_d2 (by with_reducible assumption) (by with_reducible assumption) ?_; walk_at "pr") | exact Nat.ne_of_lt (by with_reducible assumption) | exact Nat.ne_of_gt (by with_reducible assumption) | exact Nat.succ_ne_self _ | exact (Nat.succ_ne_self _).symm | ((repeat (rename (@Ne Nat _ _) => hz9W; clear hz9W)); omega)))
  k_with "le" => (first | exact Nat.le_refl _ | exact Nat.le_of_lt (by with_reducible assumption) | exact Nat.le_succ _ | exact Nat.le_succ_of_le (Nat.le_succ _) | omega)
  k_with "ktr_room" => (exact lt_room (by assumption))
  k_with "ktr_units" => ((first | exact ln1 (by assumption) rfl | exact ln2 (by assumption) rfl | (simp only [units_in1, units_deeper, Around.mark_units, units_caller]; first | exact ln2 (by assumption) rfl | exact ln1 (by assumption) rfl)))
  k_with "k_in" => (first | (with_reducible assumption) | k_in_fast | exact Frag.In.keeps (by k_asm) (Fr.keep (by k_asm)))
  k_with "sz" => (first | exact le_n (by with_reducible assumption) rfl | omega)
  k_with "pt" => ((intro hcW; with_reducible first | exact hcW.2 | exact hcW.2.2 | exact hcW.2.2.2 | exact hcW.2.2.2.2 | exact hcW.2.2.2.2.2 | exact hcW.2.2.2.2.2.2 | exact hcW.2.2.2.2.2.2.2 | exact hcW.2.2.2.2.2.2.2.2 | exact hcW.2.2.2.2.2.2.2.2.2 | exact hcW.2.2.2.2.2.2.2.2.2.2 | exact hcW.2.2.2.2.2.2.2.2.2.2.2 | exact hcW.2.2.2.2.2.2.2.2.2.2.2.2))
  k_with "size_fits" => (exact Nat.le_of_ble_eq_true rfl)
  k_with "mine tl" => (first | (with_reducible assumption) | ((with_reducible rename AllLt _ _ => hl9W); first | exact allLt_ne hl9W (by walk_at "sz") | (clear hl9W; walk_at "mine tl")) | ((with_reducible rename (_ ∧ _) => hq9W); (have ha9W := hq9W.1); (have hb9W := hq9W.2); clear hq9W; walk_at "mine tl"))
  k_with "k_all" => (first | exact List.forall_mem_nil _ | (with_reducible assumption) | ((with_reducible show ∀ p ∈ _ :: _, _); refine' List.forall_mem_cons.mpr ⟨(by k_ne), (by k_all)⟩) | (refine tl_eq (by with_reducible assumption) ?_; walk_at "pt") | (refine tl_s (by with_reducible assumption) ?_; walk_at "pt") | (refine tl_t (by with_reducible assumption) ?_; walk_at "pt") | ((with_reducible rename AllLt _ _ => hl9W); with_reducible exact allLt_ne hl9W (by walk_at "le")) | (refine' List.forall_mem_cons.mpr ⟨(by k_ne), (by k_all)⟩) | walk_at "mine tl")
  k_with "compareOp NotEq ref ref" => ((k_here; k_dflt (first | (refine' ne_nil_nil (by k_asm) (by k_mem) (by k_mem) (by ktr_units) ?_; k_whole) | (refine' ne_cons_nil (by k_asm) (by k_mem) (by k_mem) (by ktr_units) ?_; k_whole))))
  k_with "compareOp Eq ref ref" => ((k_here; k_dflt (first | (refine' eq_nil_nil (by k_asm) (by k_mem) (by k_mem) (by ktr_units) ?_; k_whole) | (refine' eq_cons_nil (by k_asm) (by k_mem) (by k_mem) (by ktr_units) ?_; k_whole))))
  k_with "call ref" => (((k_here; (with_reducible show wpAny _ _ (call (Value.ref 125) [_]) _ _ _); k_dflt (refine' (word_con _ _ _).call (Site.mk (by assumption) (by assumption) (by assumption) rfl (by walk_at "line") (by walk_at "line")) (by k_asm) (by k_asm) ?_); (rintro v' led' h' tk' ⟨⟨u', eVW'⟩, eLW'⟩ F' N'; (replace eLW' := eLW'.symm); subst eVW' eLW'; (try dsimp only); (try k_sweep)))); (first | revert v' led' h' tk' u' eVW' eLW' F' N' | ((try revert N'); (try revert F'); (try revert eLW'); (try revert eVW'); (try revert u'); (try revert tk'); (try revert h'); (try revert led'); (try revert v'))); (try intros))
  k_with "exec For Name Call cons nil" => ((k_here; (with_unfolding_all refine' For_invVF ‹Fr _ _ _ _› (by exact rfl) (by exact rfl) ?_; k_whole)))
  k_with "pyIter ref" => ((k_here; (with_reducible show wpAny _ _ (pyIter (Value.ref _)) (fun it s₂ => LoopAtV _ _ _ _ _ _ _ _ _ it s₂) _ _); refine Halt.out ?_))
  k_with "eval ListComp" => ((k_here; k_dflt (refine ListComp_S (F₀ := by k_asm) (by with_unfolding_all rfl) (by decide) (by rfl) (by decide) (by rfl) ?_)))
  k_with "binaryOp Add str str" => ((k_here; refine' add_mk_r (by (first | exact b_mk | exact e_mk | exact l34_mk | exact l32_mk | exact l10_mk | exact l9_mk | with_reducible rfl)) (by (first | exact b_mk | exact e_mk | exact l34_mk | exact l32_mk | exact l10_mk | exact l9_mk | with_reducible rfl)) (by ((first | omega | (simp only [List.length_append, List.length_cons, List.length_nil]; omega)))) ?_; intro _ _; (try simp only [List.cons_append, List.nil_append])))
  k_with "inplaceOp Add str str" => ((k_here; refine' iadd_mk_r (by (first | exact b_mk | exact e_mk | exact l34_mk | exact l32_mk | exact l10_mk | exact l9_mk | with_reducible rfl)) (by (first | exact b_mk | exact e_mk | exact l34_mk | exact l32_mk | exact l10_mk | exact l9_mk | with_reducible rfl)) (by ((first | omega | (simp only [List.length_append, List.length_cons, List.length_nil]; omega)))) ?_; intro _ _; (try simp only [List.cons_append, List.nil_append])))
  k_with "storeName" => ((k_here; (with_reducible show wpAny _ _ (storeName _ _ (Value.bool _)) _ _ _); (fail_if_success (with_reducible show wpAny _ _ (storeName _ _ (Value.bool true)) _ _ _)); (fail_if_success (with_reducible show wpAny _ _ (storeName _ _ (Value.bool false)) _ _ _)); first | refine' store_bool (b' := true) (beq_iff_eq.mpr (by assumption)) ?_ | refine' store_bool (b' := false) (by assumption) ?_ | refine' store_bool (b' := true) (by assumption) ?_ | refine' store_bool (b' := false) (beq_eq_false_iff_ne.mpr (by assumption)) ?_ | refine' store_bool (b' := true) (by rw [show List.isEmpty _ = false from by assumption]; rfl) ?_))
  k_with "subscriptTail Name BinOp ref int" => ((k_here; first | (refine' item_ledj 0 (by k_asm) (by k_mem) (by walk_at "sz") (by decide) (by rfl) ?_ (by with_unfolding_all rfl)) | (refine' item_ledj 1 (by k_asm) (by k_mem) (by walk_at "sz") (by decide) (by rfl) ?_ (by with_unfolding_all rfl)) | (refine' item_ledj 2 (by k_asm) (by k_mem) (by walk_at "sz") (by decide) (by rfl) ?_ (by with_unfolding_all rfl))))
  k_with "call builtin:str.join" => ((k_here; (with_reducible show wpAny _ _ (call (Value.builtin _) [Value.str _ _, Value.ref _]) _ _ _); (with_reducible rename StrsAre _ (List.map mk _) => hS9W); refine' join_mk_r (by k_asm) (by k_mem) hS9W (by rfl) (by exact ⟨_, rfl⟩) (by exact e_mk) (by walk_at "sz") ?_; intro _ _))
  k_with "call builtin:len" => ((k_here; (with_reducible show wpAny _ _ (call (Value.builtin _) [Value.str (mk _) _]) _ _ _); refine len_mk_r (by walk_at "sz") ?_; intro _ _))
  k_with "subscriptTail Name Name str int" => ((k_here; (with_reducible show wpAny _ _ (subscriptTail _ _ (Value.str (mk _) _) (Value.int _ _)) _ _ _); refine' item_mk_r (by walk_at "sz") (by walk_at "sz") (by assumption) ?_ (by with_unfolding_all rfl) (by ((intro _; with_unfolding_all rfl))); intro _ _))
  intro A h₀ L m s R S F N hret
  obtain ⟨p, loose, mean, mg, mb, dp, un, gd, cn, cs, a, ccd, cl, outer, A₀, base, rfl, B, X, T, hk, hd, hu⟩ := S
  revert X; k_fill; intro X
  (refine' code_def (binds := [(PySem.Str.ofString "n", .int n t)]) ?k1 ?k2 ?k3 ?k4 ?k5 ?kA ?kF ?kK ?k6 ?k7 ?k8 ?k9 ?kB ?_ ?c2 ?c3 ?c4 ?c5; (case kA => exact rfl); (case kF => exact rfl); (case kK => assumption); (case k1 => k_asm); (case k2 => k_asm); (case k3 => k_asm); (case k4 => k_asm); (case k5 => k_asm); (case k6 => k_is); (case k7 => k_is); (case k8 => ktr_room); (case k9 => exact BindsTo.of_eq rfl); (case c5 => decide); (case kB => exact locs rfl); (case c2 => exact rfl); (case c3 => exact rfl); (case c4 => exact rfl); k_whole; intro g' L' h' FG' F' N' B' X' T'; (try dsimp only); (try k_fold))
  have hwl := wordL_len n
  try subst ek
  try subst qk
  revert F N hret B T hk hd hu X FG' F' N' B' X' T' hwl
  have hkU0 : Unit := ()
  revert w n t st h₀ L m s R p loose mean mg mb dp un gd cn cs a ccd cl outer A₀ base g' L' h' hkU0
  refine no_implicit_lambda% (hk29 8543850 ?hkdWritten0 ?hkPWritten0 ?hkGWritten0)
  case hkdWritten0 => exact (dWorld, 0, (0 : Nat), [], default, (0 : Nat), fun _ => none, {}, fun _ _ => True, default, [], fun _ => none, fun _ => none, fun _ => none, 0, 0, none, ⟨#[]⟩, default, (0 : Nat), .none, [], [], {}, default, default, (0 : Nat), default, ())
  refine (?hkFWritten0 : ∀ x0 x1 x2 x3 x4 x5 x6 x7 x8 x9 x10 x11 x12 x13 x14 x15 x16 x17 x18 x19 x20 x21 x22 x23 x24 x25 x26 x27 x28, ?hkPWritten0 x0 x1 x2 x3 x4 x5 x6 x7 x8 x9 x10 x11 x12 x13 x14 x15 x16 x17 x18 x19 x20 x21 x22 x23 x24 x25 x26 x27 x28) _ _ _ _ _ _ _ _ _ _ _ _ _ _ _ _ _ _ _ _ _ _ _ _ _ _ _ _ ()
  intro w n t st h₀ L m s R p loose mean mg mb dp un gd cn cs a ccd cl outer A₀ base g' L' h' hkU0 F N hret B T hk hd hu X FG' F' N' B' X' T' hwl
  clear hkU0
  (try k_fold)
  k_steps
  · rename News _ _ _ _ => kN
    rename Fr _ _ _ _ => kF
    refine ⟨mk (wordL n), _, st, rfl, rfl, kF, kN, ?asc, ?sz, ?rest⟩
    case asc => simpa using wordL_asc n
    case sz => show (wordL n).toArray.size ≤ _; rw [List.size_toArray, sizeLine_eq]; omega
    case rest =>
      rintro s₂ ⟨g, rfl⟩
      refine comp_rest (n := (mk (wordL n)).cps.size) (J := fun i ys nw => StrsAre ys (((wordL n).take i).map fun c => mk (esc1 c)) ∧ nw = st) ?fin ?turn _ 0 [] st (Nat.zero_add _) ⟨.nil, rfl⟩
      case fin =>
        rintro ys nw ⟨hys, rfl⟩
        rw [show (mk (wordL n)).cps.size = (wordL n).length by show (wordL n).toArray.size = _; simp, List.take_length] at hys
        intro D h tk F7 N7 o1D
        rw [show (wordL n).map (fun c => mk (esc1 c)) = ((wordL n).map esc1).map mk by rw [List.map_map]; rfl] at hys
        have hel := esc_len n
        have h3 := fmod3 (n.fdiv 4)
        rcases h3 with h3 | h3 | h3
        all_goals
          k_steps
          rename News _ _ _ _ => kN8
          rename Fr _ _ _ _ => kF8
          rename (Int.fmod n 4 = 1) => h1
          refine hret _ _ _ _ ⟨⟨_, str_fin ?_⟩, rfl⟩ kF8 (news_of kN8 fun p hp => by (repeat (first | exact hp | refine .tail _ ?_)))
          simp [writtenL, sepQ, h1, h3, List.flatMap]
      case turn =>
        rintro i ys nw hi ⟨hys, rfl⟩ v I oI C oC D m₂ h tk E' ⟨c, u, hc, rfl⟩ hN hx F N o3 ne
        replace hc : (wordL n)[i]? = some c := by simpa using hc
        k_steps
        all_goals
          rename News _ _ _ _ => kN8
          rename Fr _ _ _ _ => kF8
          refine LCg.CompEnd.intro kF8 kN8 nw (fun p hp => hp) o3 trivial ⟨?_, rfl⟩
          rw [take_map_succ hc]
          rename ((_ : Bool) = _) => hb
          rw [in_two qb_mk] at hb
          simp only [List.mem_cons, List.not_mem_nil, or_false] at hb
          first
            | (have e9 : mk (esc1 c) = mk [92, c] := (by rw [esc1, if_pos (by simp at hb; omega)]); rw [e9]; exact strsAre_snoc hys)
            | (have e9 : mk (esc1 c) = one c := (by rw [esc1, if_neg (by simp at hb; omega)]); rw [e9]; exact strsAre_snoc hys)
  · rename IsRange _ _ _ _ _ _ _ _ => hR
    rename News _ _ _ _ => kN
    rename Fr _ _ _ _ => kF
    show wpAny _ _ _ _ _ _
    refine iter_range (n := (wordL n).length) (J := WrittenJ n t st) rfl kF kN hR ?sm ?rs ⟨⟨_, by rw [show mk (bareW n 0 ((wordL n).take 0)) = Str.ofString "" by rw [e_mk]; rfl]; rfl⟩, ⟨_, rfl⟩, rfl, rfl⟩ ?turn ?done
    case sm => exact PySem.small_one (by decide) (by decide) (by omega) (by omega)
    case rs => rw [rangeSize_nat]; omega
    case turn =>
      rintro i m₁ nw I oI h tk t' hi ⟨⟨tt, e1⟩, ⟨u1, e2⟩, e3, rfl⟩ off F2 N2
      obtain ⟨c, hc⟩ : ∃ c, (wordL n)[i]? = some c := ⟨_, List.getElem?_eq_getElem hi⟩
      clear kF kN
      change Fr g' L' _ _ at F2
      change News g' L' _ _ at N2
      rw [Int.zero_add] at F2
      replace F2 := fr_eq F2 (m' := fun y => if y = Str.ofString "k" then some (.int (i : Int) t') else if y = Str.ofString "text" then some (.str (mk (bareW n 0 ((wordL n).take i))) tt) else if y = Str.ofString "word" then some (.str (mk (wordL n)) u1) else if y = Str.ofString "n" then some (.int n t) else m₁ y) (by
        intro y
        (try dsimp only)
        by_cases h1 : y = Str.ofString "k"
        · rw [if_pos h1, if_pos h1]
        rw [if_neg h1, if_neg h1]
        by_cases h2 : y = Str.ofString "text"
        · rw [if_pos h2, h2, e1]
        rw [if_neg h2]
        by_cases h3 : y = Str.ofString "word"
        · rw [if_pos h3, h3, e2]
        rw [if_neg h3]
        by_cases h4 : y = Str.ofString "n"
        · rw [if_pos h4, h4, e3]
        rw [if_neg h4])
      have hi' : (i : Int) < 3 := by omega
      have hel := bareW_len n ((wordL n).take i) 0
      have hel2 : ((wordL n).take i).length ≤ 3 := by rw [List.length_take]; omega
      rename_i hkIWritten139 hkIWritten140 hkIWritten141 hkIWritten142 hkIWritten143 hkIWritten144 hkIWritten145 hkIWritten146 hkIWritten147 hkIWritten148 hkIWritten149 hkIWritten150 hkIWritten151 hkIWritten152 hkIWritten153 hkIWritten154 hkIWritten156 hkIWritten173
      revert F B T hk hd hu X FG' B' X' T' hwl hkIWritten144 hkIWritten147 hR hkIWritten156 hi e1 e2 e3 N hret hkIWritten173 off hc N2 F2 hi' hel hel2
      have hkU0 : Unit := ()
      have hkU1 : Unit := ()
      have hkU2 : Unit := ()
      have hkU3 : Unit := ()
      have hkU4 : Unit := ()
      revert w n t h₀ L m s R p loose mean mg mb dp un gd cn cs a ccd cl outer A₀ base g' L' h' hkIWritten139 hkIWritten140 hkIWritten141 hkIWritten142 hkIWritten143 hkIWritten145 hkIWritten146 hkIWritten148 hkIWritten149 hkIWritten150 hkIWritten151 hkIWritten152 hkIWritten153 hkIWritten154 i m₁ nw I oI h tk t' tt u1 c hkU0 hkU1 hkU2 hkU3 hkU4
      refine no_implicit_lambda% (hk57 399752 ?hkdWritten1 ?hkPWritten1 ?hkGWritten1)
      case hkdWritten1 => exact (dWorld, 0, (0 : Nat), default, (0 : Nat), fun _ => none, {}, fun _ _ => True, default, [], fun _ => none, fun _ => none, fun _ => none, 0, 0, none, ⟨#[]⟩, default, (0 : Nat), .none, [], [], {}, default, default, (0 : Nat), default, default, 0, (0 : Nat), default, 0, 0, default, (0 : Nat), 0, default, 0, (0 : Nat), (0 : Nat), (0 : Nat), 0, fun _ => none, [], (0 : Nat), dObj, default, 0, (0 : Nat), (0 : Nat), (0 : Nat), 0, (), (), (), (), ())
      refine (?hkFWritten1 : ∀ x0 x1 x2 x3 x4 x5 x6 x7 x8 x9 x10 x11 x12 x13 x14 x15 x16 x17 x18 x19 x20 x21 x22 x23 x24 x25 x26 x27 x28 x29 x30 x31 x32 x33 x34 x35 x36 x37 x38 x39 x40 x41 x42 x43 x44 x45 x46 x47 x48 x49 x50 x51 x52 x53 x54 x55 x56, ?hkPWritten1 x0 x1 x2 x3 x4 x5 x6 x7 x8 x9 x10 x11 x12 x13 x14 x15 x16 x17 x18 x19 x20 x21 x22 x23 x24 x25 x26 x27 x28 x29 x30 x31 x32 x33 x34 x35 x36 x37 x38 x39 x40 x41 x42 x43 x44 x45 x46 x47 x48 x49 x50 x51 x52 x53 x54 x55 x56) _ _ _ _ _ _ _ _ _ _ _ _ _ _ _ _ _ _ _ _ _ _ _ _ _ _ (default) (default) (0) _ _ (0) _ _ ((0 : Nat)) _ _ _ _ _ _ _ _ _ _ _ _ _ _ _ _ _ () () () () ()
      intro w n t h₀ L m s R p loose mean mg mb dp un gd cn cs a ccd cl outer A₀ base g' L' h' _ _ _ _ tk tk _ _ _ _ _ _ _ _ i m₁ nw I oI h tk t' tt u1 c hkU0 hkU1 hkU2 hkU3 hkU4 F B T hk hd hu X FG' B' X' T' hwl _ _ hR _ hi e1 e2 e3 N hret _ off hc N2 F2 hi' hel hel2
      clear hkU0 hkU1 hkU2 hkU3 hkU4
      k_steps
      all_goals
        rename News _ _ _ _ => kN8
        rename Fr _ _ _ _ => kF8
        (try (rename (List.isEmpty _ = _) => hocc; rw [in_two sbn_mk] at hocc; simp at hocc))
        (try (rename ((one c == _) = true) => hq; replace hq := q_true hq))
        (try (rename ((one c == _) = false) => hq; replace hq := q_false hq))
        refine ⟨.inl rfl, _, _, _, nw, rfl, kF8, kN8, fun p hp => off p hp, ⟨_, congrArg some (str_fin ?_)⟩, ⟨_, rfl⟩, rfl, rfl⟩
        rw [turn_eq n hc]
        congr 1
        unfold esc2
        first
          | (rw [if_pos]; (unfold shieldB; simp only [Bool.or_eq_true, Bool.and_eq_true, beq_iff_eq]; omega))
          | (rw [if_neg]; (unfold shieldB; simp only [Bool.or_eq_true, Bool.and_eq_true, beq_iff_eq]; omega))
    case done =>
      rintro m₁ nw h tk ⟨⟨tt, e1⟩, ⟨u1, e2⟩, e3, rfl⟩ F2 N2
      rw [List.take_length] at e1
      replace F2 := fr_put F2 e3
      replace F2 := fr_put F2 (y := Str.ofString "word") (v := .str (mk (wordL n)) u1) (by rw [if_neg (by decide)]; exact e2)
      replace F2 := fr_put F2 (y := Str.ofString "text") (v := .str (mk (bareW n 0 (wordL n))) tt) (by rw [if_neg (by decide), if_neg (by decide)]; exact e1)
      clear kF kN
      change Fr g' L' _ _ at F2
      change News g' L' _ _ at N2
      have hel := bareW_len n (wordL n) 0
      have h3 := fmod3 (n.fdiv 4)
      rcases h3 with h3 | h3 | h3
      all_goals
        k_steps
        rename News _ _ _ _ => kN8
        rename Fr _ _ _ _ => kF8
        rename (Int.fmod n 4 ≠ 1) => h1
        refine hret _ _ _ _ ⟨⟨_, str_fin ?_⟩, rfl⟩ kF8 (news_of kN8 fun p hp => by (repeat (first | exact hp | refine .tail _ ?_)))
        simp [writtenL, sepB, h1, h3]
end Mine
end
section
open PySem PySem.W PyProof.Rows
namespace Mine
local macro_rules | `(tactic| walk_at $s:str) => `(tactic| k_extra $s)
local macro_rules | `(tactic| k_all) => `(tactic| k_extra "k_all")
local macro_rules | `(tactic| k_ne) => `(tactic| k_extra "k_ne")
local macro_rules | `(tactic| size_fits) => `(tactic| k_extra "size_fits")
local macro_rules | `(tactic| ktr_room) => `(tactic| k_extra "ktr_room")
local macro_rules | `(tactic| k_in) => `(tactic| k_extra "k_in")
local macro_rules | `(tactic| ktr_units) => `(tactic| k_extra "ktr_units")
set_option maxRecDepth 100000 in
set_option maxHeartbeats 8000000 in
theorem fits_nil {w : World} (P : Addr) (k : Nat) (nm : List Nat) (t : Tok) (st : Led) (hnm : nm.length ≤ 3) : Con w 140 [.ref P, .str (mk nm) t] ((P, listOf ([] : List Value).toArray k) :: st) 6 40 (fun v led' => v = .bool (fitsB [] nm) ∧ led' = (P, listOf ([] : List Value).toArray k) :: st) := by
  k_with_none
  k_with "line" => (first | exact ln2 ‹_ < PySem.recursionLimit› rfl | exact ln2 ‹_ < PySem.cLine› rfl | exact ln1 ‹_ < PySem.recursionLimit› rfl | exact ln1 ‹_ < PySem.cLine› rfl | (simp only [ktrTop] at *; first | exact ln2 ‹_ < PySem.recursionLimit› rfl | exact ln2 ‹_ < PySem.cLine› rfl | exact ln1 ‹_ < PySem.recursionLimit› rfl | exact ln1 ‹_ < PySem.cLine› rfl | omega))
  k_with "pr" => ((intro hcW; first | exact hcW.1 | exact hcW.2.1 | exact hcW.2.2.1 | exact hcW.2.2.2.1 | exact hcW.2.2.2.2.1 | exact hcW.2.2.2.2.2.1 | exact hcW.2.2.2.2.2.2.1 | exact hcW.2.2.2.2.2.2.2.1 | exact hcW.2.2.2.2.2.2.2.2.1 | exact hcW.2.2.2.2.2.2.2.2.2.1 | exact hcW.2.2.2.2.2.2.2.2.2.2.1 | exact hcW.2.2.2.2.2.2.2.2.2.2.2.1))
  k_with "k_ne" => ((refine neN ?_; (try dsimp only); first | (with_reducible assumption) | exact Ne.symm (by with_reducible assumption) | (refine ne_c1 (by with_reducible assumption) ?_; walk_at "pr") | (refine ne_c2 (by with_reducible assumption) ?_; walk_at "pr") | (refine ne_c3 (by with_reducible assumption) ?_; walk_at "pr") | (refine ne_c4 (by with_reducible assumption) ?_; walk_at "pr") | (refine ne_f1 (by with_reducible assumption) ?_; walk_at "pr") | (refine ne_f2 (by with_reducible assumption) ?_; walk_at "pr") | (refine ne_d1 (by with_reducible assumption) (by with_reducible assumption) ?_; walk_at "pr") | (refine ne_d2 (by with_reducible assumption) (by with_reducible assumption) ?_; walk_at "pr") | exact Nat.ne_of_lt (by with_reducible assumption) | exact Nat.ne_of_gt (by with_reducible assumption) | exact Nat.succ_ne_self _ | exact (Nat.succ_ne_self _).symm | ((repeat (rename (@Ne Nat _ _) => hz9W; clear hz9W)); omega)))
  k_with "le" => (first | exact Nat.le_refl _ | exact Nat.le_of_lt (by with_reducible assumption) | exact Nat.le_succ _ | exact Nat.le_succ_of_le (Nat.le_succ _) | omega)
  k_with "ktr_room" => (exact lt_room (by assumption))
  k_with "ktr_units" => ((first | exact ln1 (by assumption) rfl | exact ln2 (by assumption) rfl | (simp only [units_in1, units_deeper, Around.mark_units, units_caller]; first | exact ln2 (by assumption) rfl | exact ln1 (by assumption) rfl)))
  k_with "k_in" => (first | (with_reducible assumption) | k_in_fast | exact Frag.In.keeps (by k_asm) (Fr.keep (by k_asm)))
  k_with "sz" => (first | exact le_n (by with_reducible assumption) rfl | omega)
  k_with "pt" => ((intro hcW; with_reducible first | exact hcW.2 | exact hcW.2.2 | exact hcW.2.2.2 | exact hcW.2.2.2.2 | exact hcW.2.2.2.2.2 | exact hcW.2.2.2.2.2.2 | exact hcW.2.2.2.2.2.2.2 | exact hcW.2.2.2.2.2.2.2.2 | exact hcW.2.2.2.2.2.2.2.2.2 | exact hcW.2.2.2.2.2.2.2.2.2.2 | exact hcW.2.2.2.2.2.2.2.2.2.2.2 | exact hcW.2.2.2.2.2.2.2.2.2.2.2.2))
  k_with "size_fits" => (exact Nat.le_of_ble_eq_true rfl)
  k_with "mine tl" => (first | (with_reducible assumption) | ((with_reducible rename AllLt _ _ => hl9W); first | exact allLt_ne hl9W (by walk_at "sz") | (clear hl9W; walk_at "mine tl")) | ((with_reducible rename (_ ∧ _) => hq9W); (have ha9W := hq9W.1); (have hb9W := hq9W.2); clear hq9W; walk_at "mine tl"))
  k_with "k_all" => (first | exact List.forall_mem_nil _ | (with_reducible assumption) | ((with_reducible show ∀ p ∈ _ :: _, _); refine' List.forall_mem_cons.mpr ⟨(by k_ne), (by k_all)⟩) | (refine tl_eq (by with_reducible assumption) ?_; walk_at "pt") | (refine tl_s (by with_reducible assumption) ?_; walk_at "pt") | (refine tl_t (by with_reducible assumption) ?_; walk_at "pt") | ((with_reducible rename AllLt _ _ => hl9W); with_reducible exact allLt_ne hl9W (by walk_at "le")) | (refine' List.forall_mem_cons.mpr ⟨(by k_ne), (by k_all)⟩) | walk_at "mine tl")
  k_with "compareOp NotEq ref ref" => ((k_here; k_dflt (first | (refine' ne_nil_nil (by k_asm) (by k_mem) (by k_mem) (by ktr_units) ?_; k_whole) | (refine' ne_cons_nil (by k_asm) (by k_mem) (by k_mem) (by ktr_units) ?_; k_whole))))
  k_with "compareOp Eq ref ref" => ((k_here; k_dflt (first | (refine' eq_nil_nil (by k_asm) (by k_mem) (by k_mem) (by ktr_units) ?_; k_whole) | (refine' eq_cons_nil (by k_asm) (by k_mem) (by k_mem) (by ktr_units) ?_; k_whole))))
  k_with "eval ListComp" => ((k_here; k_dflt (refine LCt.ListComp_T (F₀ := by k_asm) (by with_unfolding_all rfl) (by decide) (by rfl) (by decide) (by rfl) ?_)))
  k_with "CompSrcT" => ((refine Halt.out ?_))
  k_with "call ref" => ((k_here; (with_reducible show wpAny _ _ (call (Value.ref 140) [_, _]) _ _ _); refine Halt.out ?_))
  k_with "subscriptTail Name Constant ref int" => ((k_here; refine' item_ledj 0 (by k_asm) (by k_mem) (by rfl) (by decide) (by rfl) ?_ (by with_unfolding_all rfl)))
  k_with "subscriptTail Name Constant str int" => ((k_here; (with_reducible show wpAny _ _ (subscriptTail _ _ (Value.str (mk _) _) (Value.int _ _)) _ _ _); refine' item_mk_r (by decide) (by walk_at "sz") (by assumption) ?_ (by with_unfolding_all rfl) (by ((intro _; with_unfolding_all rfl))); intro _ _))
  k_with "call builtin:len" => ((k_here; (with_reducible show wpAny _ _ (call (Value.builtin _) [Value.str (mk _) _]) _ _ _); refine len_mk_r (by walk_at "sz") ?_; intro _ _))
  k_with "subscriptTail Name Slice ref ref" => (((k_here; (with_reducible show wpAny _ _ (subscriptTail _ (PySem.Expr.Slice _ _ none _) (Value.ref _) (Value.ref _)) _ _ _); k_dflt (refine' kmk_slice_lit (by k_asm) (by k_asm) (by exact listOf_is (by k_asm) (by k_mem)) (by kmk_part) (by kmk_part) slice_tl ?_ (by with_unfolding_all rfl) (by kmk_pure) (by size_fits)); intro D' h' F' N' l1; (try k_lt l1); (try k_sweep))); (first | revert D' h' F' N' l1 | ((try revert l1); (try revert N'); (try revert F'); (try revert h'); (try revert D'))); (try intros))
  intro A h₀ L m s R S F N hret
  obtain ⟨p, loose, mean, mg, mb, dp, un, gd, cn, cs, a, ccd, cl, outer, A₀, base, rfl, B, X, T, hk, hd, hu⟩ := S
  revert X; k_fill; intro X
  (refine' code_defC (binds := [(PySem.Str.ofString "items", .ref P), (PySem.Str.ofString "name", .str (mk nm) t)]) ?k1 ?k2 ?k3 ?k4 ?k5 ?kA ?kF ?kK ?k6 ?k7 ?k8 ?k9 ?kB ?kD ?_ ?c2 ?c3 ?c4; (case kA => exact rfl); (case kF => exact rfl); (case kK => assumption); (case k1 => k_asm); (case k2 => k_asm); (case k3 => k_asm); (case k4 => k_asm); (case k5 => k_asm); (case k6 => k_is); (case k7 => k_is); (case k8 => ktr_room); (case k9 => exact BindsTo.of_eq rfl); (case kB => exact rfl); (case kD => decide +kernel); (case c2 => exact rfl); (case c3 => exact rfl); (case c4 => exact rfl); k_whole; intro g' L' h' tk' cells' FG' F' N' Y' B' X' T' l1; (try k_lt l1); k_cells Y'; (try simp only [List.cons_append, List.nil_append] at N'); (try dsimp only); (try k_fold))
  k_steps
  rename News _ _ _ _ => kN8
  rename Fr _ _ _ _ => kF8
  refine hret _ _ _ _ ⟨?_, rfl⟩ kF8 (news_of kN8 fun p hp => by (repeat (first | exact hp | refine .tail _ ?_)))
  cases nm with
  | nil => rw [e_eq]; rfl
  | cons c cr => rw [e_ne]; rfl
set_option maxRecDepth 100000 in
set_option maxHeartbeats 8000000 in
theorem fits_cons {w : World} (P : Addr) (x : Str) (t1 : Tok) (pl : List Value) (hpl : pl.length ≤ 10) (r : List Str) (dN uN : Nat) (k : Nat) (nm : List Nat) (t : Tok) (st : Led) (hnm : nm.length ≤ 3)
    (ih : ∀ (P : Addr) (k : Nat) (nm : List Nat) (t : Tok) (st : Led), nm.length ≤ 3 → Con w 140 [.ref P, .str (mk nm) t] ((P, listOf pl.toArray k) :: st) dN uN (fun v led' => v = .bool (fitsB r nm) ∧ led' = (P, listOf pl.toArray k) :: st)) :
    Con w 140 [.ref P, .str (mk nm) t] ((P, listOf (.str x t1 :: pl).toArray k) :: st) (dN + 4) (uN + 20) (fun v led' => v = .bool (fitsB (x :: r) nm) ∧ led' = (P, listOf (.str x t1 :: pl).toArray k) :: st) := by
  k_with_none
  k_with "line" => (first | exact ln2 ‹_ < PySem.recursionLimit› rfl | exact ln2 ‹_ < PySem.cLine› rfl | exact ln1 ‹_ < PySem.recursionLimit› rfl | exact ln1 ‹_ < PySem.cLine› rfl | (simp only [ktrTop] at *; first | exact ln2 ‹_ < PySem.recursionLimit› rfl | exact ln2 ‹_ < PySem.cLine› rfl | exact ln1 ‹_ < PySem.recursionLimit› rfl | exact ln1 ‹_ < PySem.cLine› rfl | omega))
  k_with "pr" => ((intro hcW; first | exact hcW.1 | exact hcW.2.1 | exact hcW.2.2.1 | exact hcW.2.2.2.1 | exact hcW.2.2.2.2.1 | exact hcW.2.2.2.2.2.1 | exact hcW.2.2.2.2.2.2.1 | exact hcW.2.2.2.2.2.2.2.1 | exact hcW.2.2.2.2.2.2.2.2.1 | exact hcW.2.2.2.2.2.2.2.2.2.1 | exact hcW.2.2.2.2.2.2.2.2.2.2.1 | exact hcW.2.2.2.2.2.2.2.2.2.2.2.1))
  k_with "k_ne" => ((refine neN ?_; (try dsimp only); first | (with_reducible assumption) | exact Ne.symm (by with_reducible assumption) | (refine ne_c1 (by with_reducible assumption) ?_; walk_at "pr") | (refine ne_c2 (by with_reducible assumption) ?_; walk_at "pr") | (refine ne_c3 (by with_reducible assumption) ?_; walk_at "pr") | (refine ne_c4 (by with_reducible assumption) ?_; walk_at "pr") | (refine ne_f1 (by with_reducible assumption) ?_; walk_at "pr") | (refine ne_f2 (by with_reducible assumption) ?_; walk_at "pr") | (refine ne_d1 (by with_reducible assumption) (by with_reducible assumption) ?_; walk_at "pr") | (refine ne_d2 (by with_reducible assumption) (by with_reducible assumption) ?_; walk_at "pr") | exact Nat.ne_of_lt (by with_reducible assumption) | exact Nat.ne_of_gt (by with_reducible assumption) | exact Nat.succ_ne_self _ | exact (Nat.succ_ne_self _).symm | ((repeat (rename (@Ne Nat _ _) => hz9W; clear hz9W)); omega)))
  k_with "le" => (first | exact Nat.le_refl _ | exact Nat.le_of_lt (by with_reducible assumption) | exact Nat.le_succ _ | exact Nat.le_succ_of_le (Nat.le_succ _) | omega)
  k_with "ktr_room" => (exact lt_room (by assumption))
  k_with "ktr_units" => ((first | exact ln1 (by assumption) rfl | exact ln2 (by assumption) rfl | (simp only [units_in1, units_deeper, Around.mark_units, units_caller]; first | exact ln2 (by assumption) rfl | exact ln1 (by assumption) rfl)))
  k_with "k_in" => (first | (with_reducible assumption) | k_in_fast | exact Frag.In.keeps (by k_asm) (Fr.keep (by k_asm)))
  k_with "sz" => (first | exact le_n (by with_reducible assumption) rfl | omega)
  k_with "pt" => ((intro hcW; with_reducible first | exact hcW.2 | exact hcW.2.2 | exact hcW.2.2.2 | exact hcW.2.2.2.2 | exact hcW.2.2.2.2.2 | exact hcW.2.2.2.2.2.2 | exact hcW.2.2.2.2.2.2.2 | exact hcW.2.2.2.2.2.2.2.2 | exact hcW.2.2.2.2.2.2.2.2.2 | exact hcW.2.2.2.2.2.2.2.2.2.2 | exact hcW.2.2.2.2.2.2.2.2.2.2.2 | exact hcW.2.2.2.2.2.2.2.2.2.2.2.2))
  k_with "size_fits" => (exact Nat.le_of_ble_eq_true rfl)
  k_with "mine tl" => (first | (with_reducible assumption) | ((with_reducible rename AllLt _ _ => hl9W); first | exact allLt_ne hl9W (by walk_at "sz") | (clear hl9W; walk_at "mine tl")) | ((with_reducible rename (_ ∧ _) => hq9W); (have ha9W := hq9W.1); (have hb9W := hq9W.2); clear hq9W; walk_at "mine tl"))
  k_with "k_all" => (first | exact List.forall_mem_nil _ | (with_reducible assumption) | ((with_reducible show ∀ p ∈ _ :: _, _); refine' List.forall_mem_cons.mpr ⟨(by k_ne), (by k_all)⟩) | (refine tl_eq (by with_reducible assumption) ?_; walk_at "pt") | (refine tl_s (by with_reducible assumption) ?_; walk_at "pt") | (refine tl_t (by with_reducible assumption) ?_; walk_at "pt") | ((with_reducible rename AllLt _ _ => hl9W); with_reducible exact allLt_ne hl9W (by walk_at "le")) | (refine' List.forall_mem_cons.mpr ⟨(by k_ne), (by k_all)⟩) | walk_at "mine tl")
  k_with "compareOp NotEq ref ref" => ((k_here; k_dflt (first | (refine' ne_nil_nil (by k_asm) (by k_mem) (by k_mem) (by ktr_units) ?_; k_whole) | (refine' ne_cons_nil (by k_asm) (by k_mem) (by k_mem) (by ktr_units) ?_; k_whole))))
  k_with "compareOp Eq ref ref" => ((k_here; k_dflt (first | (refine' eq_nil_nil (by k_asm) (by k_mem) (by k_mem) (by ktr_units) ?_; k_whole) | (refine' eq_cons_nil (by k_asm) (by k_mem) (by k_mem) (by ktr_units) ?_; k_whole))))
  k_with "eval ListComp" => ((k_here; k_dflt (refine LCt.ListComp_T (F₀ := by k_asm) (by with_unfolding_all rfl) (by decide) (by rfl) (by decide) (by rfl) ?_)))
  k_with "CompSrcT" => ((refine Halt.out ?_))
  k_with "call ref" => ((k_here; (with_reducible show wpAny _ _ (call (Value.ref 140) [_, _]) _ _ _); refine Halt.out ?_))
  k_with "subscriptTail Name Constant ref int" => ((k_here; refine' item_ledj 0 (by k_asm) (by k_mem) (by rfl) (by decide) (by rfl) ?_ (by with_unfolding_all rfl)))
  k_with "subscriptTail Name Constant str int" => ((k_here; (with_reducible show wpAny _ _ (subscriptTail _ _ (Value.str (mk _) _) (Value.int _ _)) _ _ _); refine' item_mk_r (by decide) (by walk_at "sz") (by assumption) ?_ (by with_unfolding_all rfl) (by ((intro _; with_unfolding_all rfl))); intro _ _))
  k_with "call builtin:len" => ((k_here; (with_reducible show wpAny _ _ (call (Value.builtin _) [Value.str (mk _) _]) _ _ _); refine len_mk_r (by walk_at "sz") ?_; intro _ _))
  k_with "subscriptTail Name Slice ref ref" => (((k_here; (with_reducible show wpAny _ _ (subscriptTail _ (PySem.Expr.Slice _ _ none _) (Value.ref _) (Value.ref _)) _ _ _); k_dflt (refine' kmk_slice_lit (by k_asm) (by k_asm) (by exact listOf_is (by k_asm) (by k_mem)) (by kmk_part) (by kmk_part) slice_tl ?_ (by with_unfolding_all rfl) (by kmk_pure) (by size_fits)); intro D' h' F' N' l1; (try k_lt l1); (try k_sweep))); (first | revert D' h' F' N' l1 | ((try revert l1); (try revert N'); (try revert F'); (try revert h'); (try revert D'))); (try intros))
  intro A h₀ L m s R S F N hret
  obtain ⟨p, loose, mean, mg, mb, dp, un, gd, cn, cs, a, ccd, cl, outer, A₀, base, rfl, B, X, T, hk, hd, hu⟩ := S
  revert X; k_fill; intro X
  (refine' code_defC (binds := [(PySem.Str.ofString "items", .ref P), (PySem.Str.ofString "name", .str (mk nm) t)]) ?k1 ?k2 ?k3 ?k4 ?k5 ?kA ?kF ?kK ?k6 ?k7 ?k8 ?k9 ?kB ?kD ?_ ?c2 ?c3 ?c4; (case kA => exact rfl); (case kF => exact rfl); (case kK => assumption); (case k1 => k_asm); (case k2 => k_asm); (case k3 => k_asm); (case k4 => k_asm); (case k5 => k_asm); (case k6 => k_is); (case k7 => k_is); (case k8 => ktr_room); (case k9 => exact BindsTo.of_eq rfl); (case kB => exact rfl); (case kD => decide +kernel); (case c2 => exact rfl); (case c3 => exact rfl); (case c4 => exact rfl); k_whole; intro g' L' h' tk' cells' FG' F' N' Y' B' X' T' l1; (try k_lt l1); k_cells Y'; (try simp only [List.cons_append, List.nil_append] at N'); (try dsimp only); (try k_fold))
  rename_i hkIFits055 hkIFits056 hkIFits057 hkIFits058
  revert hpl hnm ih F N hret B T hk hd hu X FG' F' B' X' T' l1 hkIFits057 hkIFits058 N'
  have hkU0 : Unit := ()
  have hkU1 : Unit := ()
  have hkU2 : Unit := ()
  have hkU3 : Unit := ()
  have hkU4 : Unit := ()
  have hkU5 : Unit := ()
  have hkU6 : Unit := ()
  revert w P x t1 pl r dN uN k nm t st h₀ L m s R p loose mean mg mb dp un gd cn cs a ccd cl outer A₀ base g' L' h' tk' hkIFits055 hkIFits056 hkU0 hkU1 hkU2 hkU3 hkU4 hkU5 hkU6
  refine no_implicit_lambda% (hk46 16318192 ?hkdFits0 ?hkPFits0 ?hkGFits0)
  case hkdFits0 => exact (dWorld, (0 : Nat), ⟨#[]⟩, (0 : Nat), [], [], 0, 0, 0, [], (0 : Nat), [], default, (0 : Nat), fun _ => none, {}, fun _ _ => True, default, [], fun _ => none, fun _ => none, fun _ => none, 0, 0, none, ⟨#[]⟩, default, (0 : Nat), .none, [], [], {}, default, default, (0 : Nat), default, 0, dObj, dObj, (), (), (), (), (), (), ())
  refine (?hkFFits0 : ∀ x0 x1 x2 x3 x4 x5 x6 x7 x8 x9 x10 x11 x12 x13 x14 x15 x16 x17 x18 x19 x20 x21 x22 x23 x24 x25 x26 x27 x28 x29 x30 x31 x32 x33 x34 x35 x36 x37 x38 x39 x40 x41 x42 x43 x44 x45, ?hkPFits0 x0 x1 x2 x3 x4 x5 x6 x7 x8 x9 x10 x11 x12 x13 x14 x15 x16 x17 x18 x19 x20 x21 x22 x23 x24 x25 x26 x27 x28 x29 x30 x31 x32 x33 x34 x35 x36 x37 x38 x39 x40 x41 x42 x43 x44 x45) _ _ _ _ _ _ _ _ _ _ _ _ _ _ _ _ _ _ _ _ _ _ _ _ _ _ _ _ _ _ _ _ _ _ _ _ _ _ _ () () () () () () ()
  intro w P x t1 pl r dN uN k nm t st h₀ L m s R p loose mean mg mb dp un gd cn cs a ccd cl outer A₀ base g' L' h' tk' _ _ hkU0 hkU1 hkU2 hkU3 hkU4 hkU5 hkU6 hpl hnm ih F N hret B T hk hd hu X FG' F' B' X' T' l1 _ _ N'
  clear hkU0 hkU1 hkU2 hkU3 hkU4 hkU5 hkU6
  by_cases hany : x = Str.ofString "any"
  · subst hany
    k_steps
    rename IsRange _ _ _ _ _ _ _ _ => hR
    rename News _ _ _ _ => kN
    rename Fr _ _ _ _ => kF
    show LCt.CompSrcT _ _ _ _ _ _ _ _ _ _ _ _ _ _ _
    refine LCt.CompSrcT.range (n := nm.length + 1) rfl kF kN hR (PySem.small_one (by decide) (by decide) (by omega) (by omega)) (by rw [rangeSize_nat]; omega) (by rw [sizeLine_eq]; omega) fun g9 => ?_
    refine comp_restT (n := nm.length + 1) (J := fun i ys nw => (ys = [] ↔ (List.range i).any (fun k => fitsB r (nm.drop k)) = false) ∧ nw = _) ?fin ?turn _ 0 [] _ (Nat.zero_add _) ⟨by simp, rfl⟩
    case fin =>
      rintro ys nw ⟨hys, rfl⟩
      have hF : fitsB (Str.ofString "any" :: r) nm = (List.range (nm.length + 1)).any (fun k => fitsB r (nm.drop k)) := by rw [fitsB.eq_def]; rfl
      intro D h tk F7 N7 o1D
      cases ys with
      | nil =>
        have h1 := hys.mp rfl
        change News g' L' h ((D, listOf ([] : List Value).toArray 0) :: _) at N7
        k_steps
        rename News _ _ _ _ => kN8
        rename Fr _ _ _ _ => kF8
        exact hret _ _ _ _ ⟨by rw [hF, h1], rfl⟩ kF8 (news_of kN8 fun p hp => by (repeat (first | exact hp | refine .tail _ ?_)))
      | cons y0 yr =>
        have h1 : (List.range (nm.length + 1)).any (fun k => fitsB r (nm.drop k)) = true := by
          cases e : (List.range (nm.length + 1)).any (fun k => fitsB r (nm.drop k)) with
          | true => rfl
          | false => exact absurd (hys.mpr e) (by simp)
        change News g' L' h ((D, listOf (y0 :: yr).toArray _) :: _) at N7
        k_steps
        rename News _ _ _ _ => kN8
        rename Fr _ _ _ _ => kF8
        exact hret _ _ _ _ ⟨by rw [hF, h1], rfl⟩ kF8 (news_of kN8 fun p hp => by (repeat (first | exact hp | refine .tail _ ?_)))
    case turn =>
      rintro i ys nw hi ⟨hys, rfl⟩ v I oI C oC D m₂ h tk E' ⟨t', rfl⟩ hN hx F N o3 ne
      rw [Int.zero_add] at hx
      have hi' : (i : Int) ≤ 3 := by omega
      have hoff := o3
      simp only [LCg.Off3, and_true] at o3
      k_steps
      show wpAny _ _ (call (Value.ref 140) _) _ _ _
      rename News _ _ _ _ => kN8
      rename Fr _ _ _ _ => kF8
      have e9 : Txt.slice (mk nm) (some (i : Int)) none = mk (nm.drop i) := slice_from (by omega)
      rw [e9]
      refine' (ih _ _ (nm.drop i) _ _ (by rw [List.length_drop]; omega)).call (Site.mk B' X' T' rfl (by walk_at "line") (by walk_at "line")) kF8 kN8 ?_
      rintro v led' h' tk' ⟨rfl, rfl⟩ F9 N9
      clear kN8 kF8
      k_steps
      all_goals
        rename News _ _ _ _ => kN8
        rename Fr _ _ _ _ => kF8
        rename (fitsB _ _ = _) => hb
        refine LCg.CompEnd.intro kF8 kN8 _ (fun p hp => by (repeat (first | exact hp | refine .tail _ ?_))) hoff trivial ⟨?_, rfl⟩
        rw [any_succ, hb]
        simp [hys]
  · have hb : (x == Str.ofString "any") = false := by simpa using hany
    have hF : ∀ c cr, fitsB (x :: r) (c :: cr) = ((x == Str.ofString "one" || decide (c ∈ x.cps.toList)) && fitsB r cr) := fun c cr => by rw [fitsB.eq_def]; simp only [hb]; rfl
    have hF0 : fitsB (x :: r) [] = false := by rw [fitsB.eq_def]; simp only [hb]; rfl
    by_cases h0 : nm = []
    · subst h0
      k_steps
      all_goals
        rename News _ _ _ _ => kN8
        rename Fr _ _ _ _ => kF8
        first
          | (rename ((_ == Str.ofString "any") = true) => hq; rw [hb] at hq; exact absurd hq (by decide))
          | (rename ((mk [] != Str.ofString "") = true) => hq; rw [e_eq'] at hq; exact absurd hq (by decide))
          | exact hret _ _ _ _ ⟨by rw [hF0, e_eq'], rfl⟩ kF8 (news_of kN8 fun p hp => by (repeat (first | exact hp | refine .tail _ ?_)))
    · obtain ⟨c, cr, hcc⟩ := List.exists_cons_of_ne_nil h0
      have hit : Txt.item (mk nm) 0 = one c := by rw [hcc]; exact item0
      k_steps
      all_goals
        rename News _ _ _ _ => kN8
        rename Fr _ _ _ _ => kF8
        first
          | (rename ((_ == Str.ofString "any") = true) => hq; rw [hb] at hq; exact absurd hq (by decide))
          | (rename ((mk nm != Str.ofString "") = false) => hq; rw [hcc, e_ne'] at hq; exact absurd hq (by decide))
          | (rename (List.isEmpty _ = true) => hq
             rw [hit] at hq
             rename ((_ == Str.ofString "one") = false) => hq1
             have hi := in_gen (x := x) (c := c)
             rw [hq] at hi
             exact hret _ _ _ _ ⟨by rw [hit, hcc, hF, hq1, ← hi, hq]; rfl, rfl⟩ kF8 (news_of kN8 fun p hp => by (repeat (first | exact hp | refine .tail _ ?_))))
          | (show wpAny _ _ (call (Value.ref 140) _) _ _ _
             rw [show Txt.slice (mk nm) (some 1) none = mk cr from by rw [hcc]; exact slice1]
             refine' (ih _ _ cr _ _ (by rw [hcc] at hnm; simp only [List.length_cons] at hnm; omega)).call (Site.mk B' X' T' rfl (by walk_at "line") (by walk_at "line")) kF8 kN8 ?_
             rintro v led' h' tk' ⟨rfl, rfl⟩ F9 N9
             clear kN8 kF8
             k_steps
             rename News _ _ _ _ => kN8
             rename Fr _ _ _ _ => kF8
             refine hret _ _ _ _ ⟨?_, rfl⟩ kF8 (news_of kN8 fun p hp => by (repeat (first | exact hp | refine .tail _ ?_)))
             rw [hcc, hF]
             first
               | (rename ((_ == Str.ofString "one") = true) => hq; rw [hq]; rfl)
               | (rename (List.isEmpty _ = false) => hq; rw [hit] at hq; have hi := in_gen (x := x) (c := c); rw [hq] at hi; rw [← hi]; simp))
theorem fits_con {w : World} : ∀ (items : List Str) (pl : List Value), StrsAre pl items → items.length ≤ 5 → ∀ (P : Addr) (k : Nat) (nm : List Nat) (t : Tok) (st : Led), nm.length ≤ 3 →
    Con w 140 [.ref P, .str (mk nm) t] ((P, listOf pl.toArray k) :: st) (4 * items.length + 6) (20 * items.length + 40) (fun v led' => v = .bool (fitsB items nm) ∧ led' = (P, listOf pl.toArray k) :: st)
  | _, _, .nil, _, P, k, nm, t, st, hnm => fits_nil P k nm t st hnm
  | _, _, .cons x t1 r, hl, P, k, nm, t, st, hnm => by
    simp only [List.length_cons] at hl
    have hr := strsAre_len r
    exact fits_cons P x t1 _ (by omega) _ _ _ k nm t st hnm fun P k nm t st hnm => fits_con _ _ r (by omega) P k nm t st hnm
end Mine
end
section
open PySem PySem.W PyProof.Rows
namespace Mine
local macro_rules | `(tactic| walk_at $s:str) => `(tactic| k_extra $s)
local macro_rules | `(tactic| k_all) => `(tactic| k_extra "k_all")
local macro_rules | `(tactic| k_ne) => `(tactic| k_extra "k_ne")
local macro_rules | `(tactic| size_fits) => `(tactic| k_extra "size_fits")
local macro_rules | `(tactic| ktr_room) => `(tactic| k_extra "ktr_room")
local macro_rules | `(tactic| k_in) => `(tactic| k_extra "k_in")
local macro_rules | `(tactic| ktr_units) => `(tactic| k_extra "ktr_units")
/-- what _law_more leaves: the items that there are more of, sorted, in a new list -/
def MorePost (ps us : List Str) (st : Led) (v : Value) (led' : Led) : Prop :=
  ∃ (R : Addr) (vs' : List Value) (ss' : List Str) (e : Nat), v = .ref R ∧ led' = (R, seqObj "list" vs'.toArray e) :: st ∧ StrsAre vs' ss' ∧ ss'.Perm (moreUpTo ps us ps.length) ∧ sortedS ss' = true ∧ ∀ p ∈ st, p.1 ≠ R
set_option maxRecDepth 100000 in
set_option maxHeartbeats 8000000 in
theorem more_con {w : World} (P U : Addr) (pl rl : List Value) (ps us : List Str) (hP : StrsAre pl ps) (hU : StrsAre rl us) (hz : pl.length ≤ 60) (k j : Nat) (st : Led) : Con w 155 [.ref P, .ref U] ((P, listOf pl.toArray k) :: (U, listOf rl.toArray j) :: st) 12 80 (MorePost ps us ((P, listOf pl.toArray k) :: (U, listOf rl.toArray j) :: st)) := by
  k_with_none
  k_with "line" => (first | exact ln2 ‹_ < PySem.recursionLimit› rfl | exact ln2 ‹_ < PySem.cLine› rfl | exact ln1 ‹_ < PySem.recursionLimit› rfl | exact ln1 ‹_ < PySem.cLine› rfl | (simp only [ktrTop] at *; first | exact ln2 ‹_ < PySem.recursionLimit› rfl | exact ln2 ‹_ < PySem.cLine› rfl | exact ln1 ‹_ < PySem.recursionLimit› rfl | exact ln1 ‹_ < PySem.cLine› rfl | omega))
  k_with "pr" => ((intro hcW; first | exact hcW.1 | exact hcW.2.1 | exact hcW.2.2.1 | exact hcW.2.2.2.1 | exact hcW.2.2.2.2.1 | exact hcW.2.2.2.2.2.1 | exact hcW.2.2.2.2.2.2.1 | exact hcW.2.2.2.2.2.2.2.1 | exact hcW.2.2.2.2.2.2.2.2.1 | exact hcW.2.2.2.2.2.2.2.2.2.1 | exact hcW.2.2.2.2.2.2.2.2.2.2.1 | exact hcW.2.2.2.2.2.2.2.2.2.2.2.1))
  k_with "k_ne" => ((refine neN ?_; (try dsimp only); first | (with_reducible assumption) | exact Ne.symm (by with_reducible assumption) | (refine ne_c1 (by with_reducible assumption) ?_; walk_at "pr") | (refine ne_c2 (by with_reducible assumption) ?_; walk_at "pr") | (refine ne_c3 (by with_reducible assumption) ?_; walk_at "pr") | (refine ne_c4 (by with_reducible assumption) ?_; walk_at "pr") | (refine ne_f1 (by with_reducible assumption) ?_; walk_at "pr") | (refine ne_f2 (by with_reducible assumption) ?_; walk_at "pr") | (refine ne_d1 (by with_reducible assumption) (by with_reducible assumption) ?_; walk_at "pr") | (refine ne_d2 (by with_reducible assumption) (by with_reducible assumption) ?_; walk_at "pr") | exact Nat.ne_of_lt (by with_reducible assumption) | exact Nat.ne_of_gt (by with_reducible assumption) | exact Nat.succ_ne_self _ | exact (Nat.succ_ne_self _).symm | ((repeat (rename (@Ne Nat _ _) => hz9W; clear hz9W)); omega)))
  k_with "le" => (first | exact Nat.le_refl _ | exact Nat.le_of_lt (by with_reducible assumption) | exact Nat.le_succ _ | exact Nat.le_succ_of_le (Nat.le_succ _) | omega)
  k_with "ktr_room" => (exact lt_room (by assumption))
  k_with "ktr_units" => ((first | exact ln1 (by assumption) rfl | exact ln2 (by assumption) rfl | (simp only [units_in1, units_deeper, Around.mark_units, units_caller]; first | exact ln2 (by assumption) rfl | exact ln1 (by assumption) rfl)))
  k_with "k_in" => (first | (with_reducible assumption) | k_in_fast | exact Frag.In.keeps (by k_asm) (Fr.keep (by k_asm)))
  k_with "sz" => (first | exact le_n (by with_reducible assumption) rfl | omega)
  k_with "pt" => ((intro hcW; with_reducible first | exact hcW.2 | exact hcW.2.2 | exact hcW.2.2.2 | exact hcW.2.2.2.2 | exact hcW.2.2.2.2.2 | exact hcW.2.2.2.2.2.2 | exact hcW.2.2.2.2.2.2.2 | exact hcW.2.2.2.2.2.2.2.2 | exact hcW.2.2.2.2.2.2.2.2.2 | exact hcW.2.2.2.2.2.2.2.2.2.2 | exact hcW.2.2.2.2.2.2.2.2.2.2.2 | exact hcW.2.2.2.2.2.2.2.2.2.2.2.2))
  k_with "size_fits" => (exact Nat.le_of_ble_eq_true rfl)
  k_with "mine tl" => (first | (with_reducible assumption) | ((with_reducible rename AllLt _ _ => hl9W); first | exact allLt_ne hl9W (by walk_at "sz") | (clear hl9W; walk_at "mine tl")) | ((with_reducible rename (_ ∧ _) => hq9W); (have ha9W := hq9W.1); (have hb9W := hq9W.2); clear hq9W; walk_at "mine tl"))
  k_with "k_all" => (first | exact List.forall_mem_nil _ | (with_reducible assumption) | ((with_reducible show ∀ p ∈ _ :: _, _); refine' List.forall_mem_cons.mpr ⟨(by k_ne), (by k_all)⟩) | (refine tl_eq (by with_reducible assumption) ?_; walk_at "pt") | (refine tl_s (by with_reducible assumption) ?_; walk_at "pt") | (refine tl_t (by with_reducible assumption) ?_; walk_at "pt") | ((with_reducible rename AllLt _ _ => hl9W); with_reducible exact allLt_ne hl9W (by walk_at "le")) | (refine' List.forall_mem_cons.mpr ⟨(by k_ne), (by k_all)⟩) | walk_at "mine tl")
  k_with "compareOp NotEq ref ref" => ((k_here; k_dflt (first | (refine' ne_nil_nil (by k_asm) (by k_mem) (by k_mem) (by ktr_units) ?_; k_whole) | (refine' ne_cons_nil (by k_asm) (by k_mem) (by k_mem) (by ktr_units) ?_; k_whole))))
  k_with "compareOp Eq ref ref" => ((k_here; k_dflt (first | (refine' eq_nil_nil (by k_asm) (by k_mem) (by k_mem) (by ktr_units) ?_; k_whole) | (refine' eq_cons_nil (by k_asm) (by k_mem) (by k_mem) (by ktr_units) ?_; k_whole))))
  k_with "eval ListComp" => ((k_here; k_dflt (refine LCt.ListComp_T (F₀ := by k_asm) (by with_unfolding_all rfl) (by decide) (by rfl) (by decide) (by rfl) ?_)))
  k_with "CompSrcT" => ((refine Halt.out ?_))
  k_with "call builtin:len" => ((k_here; (with_reducible show wpAny _ _ (call (Value.builtin _) [Value.ref _]) _ _ _); refine' len_led (by k_asm) (by k_mem) (by walk_at "sz") ?_; intro _ _))
  k_with "call builtin:list.count" => ((refine Halt.out ?_))
  k_with "subscriptTail Name Name ref int" => ((k_here; refine' item_led (by k_asm) (by k_mem) (by walk_at "sz") (by walk_at "sz") (by ((rw [Int.toNat_natCast]; simpa using (by assumption)))) ?_ (by with_unfolding_all rfl)))
  k_with "subscriptTail Name Slice ref ref" => (((k_here; (with_reducible show wpAny _ _ (subscriptTail _ (PySem.Expr.Slice _ _ none _) (Value.ref _) (Value.ref _)) _ _ _); k_dflt (refine' kmk_slice_lit (by k_asm) (by k_asm) (by exact listOf_is (by k_asm) (by k_mem)) (by kmk_part) (by kmk_part) (slice_upto' (by exact (Int.natCast_succ _).symm) (by walk_at "sz")) ?_ (by with_unfolding_all rfl) (by kmk_pure) (by ((rw [List.size_toArray, sizeLine_eq]; omega)))); intro D' h' F' N' l1; (try k_lt l1); (try k_sweep))); (first | revert D' h' F' N' l1 | ((try revert l1); (try revert N'); (try revert F'); (try revert h'); (try revert D'))); (try intros))
  intro A h₀ L m s R S F N hret
  obtain ⟨p, loose, mean, mg, mb, dp, un, gd, cn, cs, a, ccd, cl, outer, A₀, base, rfl, B, X, T, hk, hd, hu⟩ := S
  revert X; k_fill; intro X
  (refine' code_defC (binds := [(PySem.Str.ofString "here", .ref P), (PySem.Str.ofString "there", .ref U)]) ?k1 ?k2 ?k3 ?k4 ?k5 ?kA ?kF ?kK ?k6 ?k7 ?k8 ?k9 ?kB ?kD ?_ ?c2 ?c3 ?c4; (case kA => exact rfl); (case kF => exact rfl); (case kK => assumption); (case k1 => k_asm); (case k2 => k_asm); (case k3 => k_asm); (case k4 => k_asm); (case k5 => k_asm); (case k6 => k_is); (case k7 => k_is); (case k8 => ktr_room); (case k9 => exact BindsTo.of_eq rfl); (case kB => exact rfl); (case kD => decide +kernel); (case c2 => exact rfl); (case c3 => exact rfl); (case c4 => exact rfl); k_whole; intro g' L' h' tk' cells' FG' F' N' Y' B' X' T' l1; (try k_lt l1); k_cells Y'; (try simp only [List.cons_append, List.nil_append] at N'); (try dsimp only); (try k_fold))
  have hPl := strsAre_len hP
  rename_i hkIMore053 hkIMore054 hkIMore055 hkIMore056
  revert hP hU hz F N hret B T hk hd hu X FG' F' B' X' T' l1 hkIMore055 hkIMore056 N' hPl
  have hkU0 : Unit := ()
  have hkU1 : Unit := ()
  have hkU2 : Unit := ()
  have hkU3 : Unit := ()
  have hkU4 : Unit := ()
  have hkU5 : Unit := ()
  have hkU6 : Unit := ()
  have hkU7 : Unit := ()
  have hkU8 : Unit := ()
  revert w P U pl rl ps us k j st h₀ L m s R p loose mean mg mb dp un gd cn cs a ccd cl outer A₀ base g' L' h' tk' hkIMore053 hkIMore054 hkU0 hkU1 hkU2 hkU3 hkU4 hkU5 hkU6 hkU7 hkU8
  refine no_implicit_lambda% (hk46 4233769 ?hkdMore0 ?hkPMore0 ?hkGMore0)
  case hkdMore0 => exact (dWorld, (0 : Nat), (0 : Nat), [], [], [], [], 0, 0, [], default, (0 : Nat), fun _ => none, {}, fun _ _ => True, default, [], fun _ => none, fun _ => none, fun _ => none, 0, 0, none, ⟨#[]⟩, default, (0 : Nat), .none, [], [], {}, default, default, (0 : Nat), default, 0, dObj, dObj, (), (), (), (), (), (), (), (), ())
  refine (?hkFMore0 : ∀ x0 x1 x2 x3 x4 x5 x6 x7 x8 x9 x10 x11 x12 x13 x14 x15 x16 x17 x18 x19 x20 x21 x22 x23 x24 x25 x26 x27 x28 x29 x30 x31 x32 x33 x34 x35 x36 x37 x38 x39 x40 x41 x42 x43 x44 x45, ?hkPMore0 x0 x1 x2 x3 x4 x5 x6 x7 x8 x9 x10 x11 x12 x13 x14 x15 x16 x17 x18 x19 x20 x21 x22 x23 x24 x25 x26 x27 x28 x29 x30 x31 x32 x33 x34 x35 x36 x37 x38 x39 x40 x41 x42 x43 x44 x45) _ _ _ _ _ _ _ _ _ _ _ _ _ _ _ _ _ _ _ _ _ _ _ _ _ _ _ _ _ _ _ _ _ _ _ _ _ () () () () () () () () ()
  intro w P U pl rl ps us k j st h₀ L m s R p loose mean mg mb dp un gd cn cs a ccd cl outer A₀ base g' L' h' tk' _ _ hkU0 hkU1 hkU2 hkU3 hkU4 hkU5 hkU6 hkU7 hkU8 hP hU hz F N hret B T hk hd hu X FG' F' B' X' T' l1 _ _ N' hPl
  clear hkU0 hkU1 hkU2 hkU3 hkU4 hkU5 hkU6 hkU7 hkU8
  k_steps
  rename IsRange _ _ _ _ _ _ _ _ => hR
  rename News _ _ _ _ => kN
  rename Fr _ _ _ _ => kF
  show LCt.CompSrcT _ _ _ _ _ _ _ _ _ _ _ _ _ _ _
  refine LCt.CompSrcT.range (n := pl.length) rfl kF kN hR (PySem.small_one (by decide) (by decide) (by omega) (by omega)) (by rw [rangeSize_nat]; omega) (by rw [sizeLine_eq]; omega) fun g9 => ?_
  refine comp_restT (n := pl.length) (J := fun i ys nw => StrsAre ys (moreUpTo ps us i) ∧ nw = _) ?fin ?turn _ 0 [] _ (Nat.zero_add _) ⟨.nil, rfl⟩
  case fin =>
    rintro ys nw ⟨hys, rfl⟩
    have hylen := strsAre_len hys
    have hml := moreUpTo_len ps us pl.length
    intro D h tk F7 N7 o1D
    k_steps
    refine' sorted_N_str F7 N7 ⟨_, (N7 _ (.head _)).1, rfl, _, rfl⟩ hys (by first | exact Nat.lt_of_le_of_lt (by assumption) (by decide) | omega) ?_
    intro h2 vs' ss' e F8 N8 hS' hp' hs'
    k_steps
    rename News _ _ _ _ => kN8
    rename Fr _ _ _ _ => kF8
    refine hret _ _ _ _ ⟨_, vs', ss', e, rfl, rfl, hS', by rw [← hPl]; exact hp', hs', fun p hp => ?_⟩ kF8 (news_of kN8 fun p hp => ?_)
    · have := Heap.lt_size (N7 p (by (repeat (first | exact hp | refine .tail _ ?_)))).1
      intro e9
      rw [e9] at this
      exact absurd this (Nat.not_lt.mpr (Nat.le_succ _))
    · rcases List.mem_cons.mp hp with hp | hp
      · exact hp ▸ .head _
      · (repeat (first | exact hp | refine .tail _ ?_))
  case turn =>
    rintro i ys nw hi ⟨hys, rfl⟩ v I oI C oC D m₂ h tk E' ⟨t', rfl⟩ hN hx F N o3 ne
    rw [Int.zero_add] at hx
    have hi' : (i : Int) ≤ 60 := by omega
    have hoff := o3
    simp only [LCg.Off3, and_true] at o3
    obtain ⟨x, hpx⟩ : ∃ x, ps[i]? = some x := ⟨ps[i]'(by rw [← hPl]; exact hi), List.getElem?_eq_getElem _⟩
    obtain ⟨tx, hvx⟩ := strsAre_get hP hpx
    k_steps
    show wpAny _ _ _ _ _ _
    rename News _ _ _ _ => kN8
    rename Fr _ _ _ _ => kF8
    refine' count_led kN8 (by k_mem) (strsAre_take (i + 1) hP) ?_
    intro u1 tk1
    k_steps
    show wpAny _ _ _ _ _ _
    rename News _ _ _ _ => kN7
    rename Fr _ _ _ _ => kF7
    refine' count_led kN7 (by k_mem) hU ?_
    intro u2 tk2
    k_steps
    all_goals
      rename News _ _ _ _ => kN9
      rename Fr _ _ _ _ => kF9
      refine LCg.CompEnd.intro kF9 kN9 _ (fun p hp => by (repeat (first | exact hp | refine .tail _ ?_))) hoff trivial ⟨?_, rfl⟩
      rw [moreUpTo, hpx]
      dsimp only
      first
        | (rw [if_pos (by omega)]; exact strsAre_snoc hys)
        | (rw [if_neg (by omega), List.append_nil]; exact hys)
end Mine
end
section
open PySem PySem.W PyProof.Rows
namespace Mine
local macro_rules | `(tactic| walk_at $s:str) => `(tactic| k_extra $s)
local macro_rules | `(tactic| k_all) => `(tactic| k_extra "k_all")
local macro_rules | `(tactic| k_ne) => `(tactic| k_extra "k_ne")
local macro_rules | `(tactic| size_fits) => `(tactic| k_extra "size_fits")
local macro_rules | `(tactic| ktr_room) => `(tactic| k_extra "ktr_room")
local macro_rules | `(tactic| k_in) => `(tactic| k_extra "k_in")
local macro_rules | `(tactic| ktr_units) => `(tactic| k_extra "ktr_units")
/-- what is due of a file, of what is taken -/
def wordsS (zs : List Int) : List Str := zs.map fun z => mk (wordL z)
def dueE (zs : List Int) : List Str × Int := (wordsS zs ++ [mk [], mk []], 1 + ((((zs.map writtenL).flatten).count 10 : Nat) : Int))
def dueT (its : List Str) (zs : List Int) : List Str := (zs.map wordL).filter (fitsB its) |>.map mk
/-- what _law_due leaves -/
inductive DuePost (its : List Str) (z1 z2 : List Int) (st : Led) (v : Value) (led' : Led) : Prop
  | intro : ∀ m12 m21, m12.Perm (moreUpTo (dueT its z1) (dueT its z2) (dueT its z1).length) → sortedS m12 = true → m21.Perm (moreUpTo (dueT its z2) (dueT its z1) (dueT its z2).length) → sortedS m21 = true → BTop led' v (dueE z1) (dueE z2) (m12, m21) (m21, m12) → (∀ p ∈ st, p ∈ led') → DuePost its z1 z2 st v led'
inductive DueJ (its : List Str) (z1 z2 : List Int) (st : Led) (du ta c9 Fi n1 n2 It : Addr) (oC : Obj) (v1 v2 il : List Value) (k1 k2 k3 k4 : Nat) (i : Nat) (m : Str → Option Value) (nw : Led) : Prop
  | intro : ∀ (dl tl : List Value) (c1 c2 : Nat) (rest : Led), dl.length = i → tl.length = i → m (Str.ofString "due") = some (.ref du) → m (Str.ofString "taken") = some (.ref ta) →
    (∀ p ∈ rest, p.1 ≠ du) → (∀ p ∈ rest, p.1 ≠ ta) → (∀ p ∈ st, p ∈ rest) → (∀ (j : Nat) (v : Value) (zz : List Int), dl[j]? = some v → [z1, z2][j]? = some zz → BEntry rest v (dueE zz)) → (∀ (j : Nat) (v : Value) (zz : List Int), tl[j]? = some v → [z1, z2][j]? = some zz → BStrs rest v (dueT its zz)) →
    nw = (ta, listOf tl.toArray c2) :: (du, listOf dl.toArray c1) :: (c9, oC) :: (Fi, listOf #[.ref n1, .ref n2] k1) :: (n1, listOf v1.toArray k2) :: (n2, listOf v2.toArray k3) :: (It, listOf il.toArray k4) :: rest → DueJ its z1 z2 st du ta c9 Fi n1 n2 It oC v1 v2 il k1 k2 k3 k4 i m nw
theorem dueT_len (its : List Str) (zs : List Int) : (dueT its zs).length ≤ zs.length := by
  unfold dueT
  rw [List.length_map]
  have := List.length_filter_le (fitsB its) (zs.map wordL)
  rw [List.length_map] at this
  exact this
set_option maxRecDepth 100000 in
set_option maxHeartbeats 8000000 in
theorem due_con {w : World} (Fi n1 n2 It : Addr) (v1 v2 il : List Value) (z1 z2 : List Int) (its : List Str) (k1 k2 k3 k4 : Nat) (h1 : IntsAre v1 z1) (h2 : IntsAre v2 z2) (h3 : StrsAre il its) (hl1 : v1.length ≤ 10) (hl2 : v2.length ≤ 10) (hits : its.length ≤ 5) (st : Led) : Con w 160 [.ref Fi, .ref It] ((Fi, listOf #[.ref n1, .ref n2] k1) :: (n1, listOf v1.toArray k2) :: (n2, listOf v2.toArray k3) :: (It, listOf il.toArray k4) :: st) 40 300 (DuePost its z1 z2 st) := by
  k_with_none
  k_with "line" => (first | exact ln2 ‹_ < PySem.recursionLimit› rfl | exact ln2 ‹_ < PySem.cLine› rfl | exact ln1 ‹_ < PySem.recursionLimit› rfl | exact ln1 ‹_ < PySem.cLine› rfl | (simp only [ktrTop] at *; first | exact ln2 ‹_ < PySem.recursionLimit› rfl | exact ln2 ‹_ < PySem.cLine› rfl | exact ln1 ‹_ < PySem.recursionLimit› rfl | exact ln1 ‹_ < PySem.cLine› rfl | omega))
  k_with "pr" => ((intro hcW; first | exact hcW.1 | exact hcW.2.1 | exact hcW.2.2.1 | exact hcW.2.2.2.1 | exact hcW.2.2.2.2.1 | exact hcW.2.2.2.2.2.1 | exact hcW.2.2.2.2.2.2.1 | exact hcW.2.2.2.2.2.2.2.1 | exact hcW.2.2.2.2.2.2.2.2.1 | exact hcW.2.2.2.2.2.2.2.2.2.1 | exact hcW.2.2.2.2.2.2.2.2.2.2.1 | exact hcW.2.2.2.2.2.2.2.2.2.2.2.1))
  k_with "k_ne" => ((refine neN ?_; (try dsimp only); first | (with_reducible assumption) | exact Ne.symm (by with_reducible assumption) | (refine ne_c1 (by with_reducible assumption) ?_; walk_at "pr") | (refine ne_c2 (by with_reducible assumption) ?_; walk_at "pr") | (refine ne_c3 (by with_reducible assumption) ?_; walk_at "pr") | (refine ne_c4 (by with_reducible assumption) ?_; walk_at "pr") | (refine ne_f1 (by with_reducible assumption) ?_; walk_at "pr") | (refine ne_f2 (by with_reducible assumption) ?_; walk_at "pr") | (refine ne_d1 (by with_reducible assumption) (by with_reducible assumption) ?_; walk_at "pr") | (refine ne_d2 (by with_reducible assumption) (by with_reducible assumption) ?_; walk_at "pr") | exact Nat.ne_of_lt (by with_reducible assumption) | exact Nat.ne_of_gt (by with_reducible assumption) | exact Nat.succ_ne_self _ | exact (Nat.succ_ne_self _).symm | ((repeat (rename (@Ne Nat _ _) => hz9W; clear hz9W)); omega)))
  k_with "le" => (first | exact Nat.le_refl _ | exact Nat.le_of_lt (by with_reducible assumption) | exact Nat.le_succ _ | exact Nat.le_succ_of_le (Nat.le_succ _) | omega)
  k_with "ktr_room" => (exact lt_room (by assumption))
  k_with "ktr_units" => ((first | exact ln1 (by assumption) rfl | exact ln2 (by assumption) rfl | (simp only [units_in1, units_deeper, Around.mark_units, units_caller]; first | exact ln2 (by assumption) rfl | exact ln1 (by assumption) rfl)))
  k_with "k_in" => (first | (with_reducible assumption) | k_in_fast | exact Frag.In.keeps (by k_asm) (Fr.keep (by k_asm)))
  k_with "sz" => (first | exact le_n (by with_reducible assumption) rfl | omega)
  k_with "pt" => ((intro hcW; with_reducible first | exact hcW.2 | exact hcW.2.2 | exact hcW.2.2.2 | exact hcW.2.2.2.2 | exact hcW.2.2.2.2.2 | exact hcW.2.2.2.2.2.2 | exact hcW.2.2.2.2.2.2.2 | exact hcW.2.2.2.2.2.2.2.2 | exact hcW.2.2.2.2.2.2.2.2.2 | exact hcW.2.2.2.2.2.2.2.2.2.2 | exact hcW.2.2.2.2.2.2.2.2.2.2.2 | exact hcW.2.2.2.2.2.2.2.2.2.2.2.2))
  k_with "size_fits" => (exact Nat.le_of_ble_eq_true rfl)
  k_with "mine tl" => (first | (with_reducible assumption) | ((with_reducible rename AllLt _ _ => hl9W); first | exact allLt_ne hl9W (by walk_at "sz") | (clear hl9W; walk_at "mine tl")) | ((with_reducible rename (_ ∧ _) => hq9W); (have ha9W := hq9W.1); (have hb9W := hq9W.2); clear hq9W; walk_at "mine tl"))
  k_with "k_all" => (first | exact List.forall_mem_nil _ | (with_reducible assumption) | ((with_reducible show ∀ p ∈ _ :: _, _); refine' List.forall_mem_cons.mpr ⟨(by k_ne), (by k_all)⟩) | (refine tl_eq (by with_reducible assumption) ?_; walk_at "pt") | (refine tl_s (by with_reducible assumption) ?_; walk_at "pt") | (refine tl_t (by with_reducible assumption) ?_; walk_at "pt") | ((with_reducible rename AllLt _ _ => hl9W); with_reducible exact allLt_ne hl9W (by walk_at "le")) | (refine' List.forall_mem_cons.mpr ⟨(by k_ne), (by k_all)⟩) | walk_at "mine tl")
  k_with "compareOp NotEq ref ref" => ((k_here; k_dflt (first | (refine' ne_nil_nil (by k_asm) (by k_mem) (by k_mem) (by ktr_units) ?_; k_whole) | (refine' ne_cons_nil (by k_asm) (by k_mem) (by k_mem) (by ktr_units) ?_; k_whole))))
  k_with "compareOp Eq ref ref" => ((k_here; k_dflt (first | (refine' eq_nil_nil (by k_asm) (by k_mem) (by k_mem) (by ktr_units) ?_; k_whole) | (refine' eq_cons_nil (by k_asm) (by k_mem) (by k_mem) (by ktr_units) ?_; k_whole))))
  k_with "call ref" => (((k_here; (with_reducible show wpAny _ _ (call (Value.ref 125) [_]) _ _ _); k_dflt (refine' (word_con _ _ _).call (Site.mk (by assumption) (by assumption) (by assumption) rfl (by walk_at "line") (by walk_at "line")) (by k_asm) (by k_asm) ?_); (rintro v' led' h' tk' ⟨⟨u', eVW'⟩, eLW'⟩ F' N'; (replace eLW' := eLW'.symm); subst eVW' eLW'; (try dsimp only); (try k_sweep)))); (first | revert v' led' h' tk' u' eVW' eLW' F' N' | ((try revert N'); (try revert F'); (try revert eLW'); (try revert eVW'); (try revert u'); (try revert tk'); (try revert h'); (try revert led'); (try revert v'))); (try intros))
  k_with "call ref" => (((k_here; (with_reducible show wpAny _ _ (call (Value.ref 130) [_]) _ _ _); k_dflt (refine' (written_con _ _ _).call (Site.mk (by assumption) (by assumption) (by assumption) rfl (by walk_at "line") (by walk_at "line")) (by k_asm) (by k_asm) ?_); (rintro v' led' h' tk' ⟨⟨u', eVW'⟩, eLW'⟩ F' N'; (replace eLW' := eLW'.symm); subst eVW' eLW'; (try dsimp only); (try k_sweep)))); (first | revert v' led' h' tk' u' eVW' eLW' F' N' | ((try revert N'); (try revert F'); (try revert eLW'); (try revert eVW'); (try revert u'); (try revert tk'); (try revert h'); (try revert led'); (try revert v'))); (try intros))
  k_with "call ref" => ((k_here; (with_reducible show wpAny _ _ (call (Value.ref 140) [_, _]) _ _ _); refine Halt.out ?_))
  k_with "call ref" => ((k_here; (with_reducible show wpAny _ _ (call (Value.ref 155) [_, _]) _ _ _); refine Halt.out ?_))
  k_with "subscriptTail Name Constant ref int" => ((k_here; first | (refine' item_ledj 0 (by k_asm) (by k_mem) (by rfl) (by decide) (by rfl) ?_ (by with_unfolding_all rfl)) | (refine' item_ledj 1 (by k_asm) (by k_mem) (by rfl) (by decide) (by rfl) ?_ (by with_unfolding_all rfl))))
  k_with "binaryOp Add ref ref" => (((k_here; k_dflt (refine' add_led (by k_asm) (by k_asm) (by k_mem) (by k_mem) (by ((first | omega | (simp only [List.length_cons, List.length_nil]; omega)))) ?_); intro D' h' F' N' l1; (try k_lt l1); (try k_sweep))); (first | revert D' h' F' N' l1 | ((try revert l1); (try revert N'); (try revert F'); (try revert h'); (try revert D'))); (try intros))
  k_with "call builtin:str.count" => ((refine Halt.out ?_))
  k_with "eval ListComp" => ((k_here; refine Halt.out ?_))
  k_with "exec Assign cons ListComp" => ((k_here; refine Halt.out ?_))
  k_with "CompSrc" => ((refine Halt.out ?_))
  k_with "CompSrcT" => ((refine Halt.out ?_))
  k_with "exec For Name Name cons nil" => ((k_here; (with_unfolding_all refine' For_invVF ‹Fr _ _ _ _› (by exact rfl) (by exact rfl) ?_; k_whole)))
  k_with "pyIter ref" => ((k_here; (with_reducible show wpAny _ _ (pyIter (Value.ref _)) (fun it s₂ => LoopAtV _ _ _ _ _ _ _ _ _ it s₂) _ _); refine Halt.out ?_))
  k_with "call builtin:str.join" => ((k_here; (with_reducible show wpAny _ _ (call (Value.builtin _) [Value.str _ _, Value.ref _]) _ _ _); (with_reducible rename StrsAre _ (List.map mk _) => hS9W); refine' join_mk_r (by k_asm) (by k_mem) hS9W (by rfl) (by exact ⟨_, rfl⟩) (by exact e_mk) (by walk_at "sz") ?_; intro _ _))
  intro A h₀ L m s R S F N hret
  obtain ⟨p, loose, mean, mg, mb, dp, un, gd, cn, cs, a, ccd, cl, outer, A₀, base, rfl, B, X, T, hk, hd, hu⟩ := S
  revert X; k_fill; intro X
  (refine' code_defC (binds := [(PySem.Str.ofString "files", .ref Fi), (PySem.Str.ofString "items", .ref It)]) ?k1 ?k2 ?k3 ?k4 ?k5 ?kA ?kF ?kK ?k6 ?k7 ?k8 ?k9 ?kB ?kD ?_ ?c2 ?c3 ?c4; (case kA => exact rfl); (case kF => exact rfl); (case kK => assumption); (case k1 => k_asm); (case k2 => k_asm); (case k3 => k_asm); (case k4 => k_asm); (case k5 => k_asm); (case k6 => k_is); (case k7 => k_is); (case k8 => ktr_room); (case k9 => exact BindsTo.of_eq rfl); (case kB => exact rfl); (case kD => decide +kernel); (case c2 => exact rfl); (case c3 => exact rfl); (case c4 => exact rfl); k_whole; intro g' L' h' tk' cells' FG' F' N' Y' B' X' T' l1; (try k_lt l1); k_cells Y'; (try simp only [List.cons_append, List.nil_append] at N'); (try dsimp only); (try k_fold))
  rename_i hkIDue062 hkIDue063
  revert h1 h2 h3 hl1 hl2 hits F N hret B T hk hd hu X FG' F' B' X' T' l1 hkIDue063 N'
  have hkU0 : Unit := ()
  have hkU1 : Unit := ()
  have hkU2 : Unit := ()
  have hkU3 : Unit := ()
  revert w Fi n1 n2 It v1 v2 il z1 z2 its k1 k2 k3 k4 st h₀ L m s R p loose mean mg mb dp un gd cn cs a ccd cl outer A₀ base g' L' h' tk' hkIDue062 hkU0 hkU1 hkU2 hkU3
  refine no_implicit_lambda% (hk46 16617017 ?hkdDue0 ?hkPDue0 ?hkGDue0)
  case hkdDue0 => exact (dWorld, (0 : Nat), (0 : Nat), (0 : Nat), (0 : Nat), [], [], [], [], [], [], 0, 0, 0, 0, [], default, (0 : Nat), fun _ => none, {}, fun _ _ => True, default, [], fun _ => none, fun _ => none, fun _ => none, 0, 0, none, ⟨#[]⟩, default, (0 : Nat), .none, [], [], {}, default, default, (0 : Nat), default, 0, dObj, (), (), (), ())
  refine (?hkFDue0 : ∀ x0 x1 x2 x3 x4 x5 x6 x7 x8 x9 x10 x11 x12 x13 x14 x15 x16 x17 x18 x19 x20 x21 x22 x23 x24 x25 x26 x27 x28 x29 x30 x31 x32 x33 x34 x35 x36 x37 x38 x39 x40 x41 x42 x43 x44 x45, ?hkPDue0 x0 x1 x2 x3 x4 x5 x6 x7 x8 x9 x10 x11 x12 x13 x14 x15 x16 x17 x18 x19 x20 x21 x22 x23 x24 x25 x26 x27 x28 x29 x30 x31 x32 x33 x34 x35 x36 x37 x38 x39 x40 x41 x42 x43 x44 x45) _ _ _ _ _ _ _ _ _ _ _ _ _ _ _ _ _ _ _ _ _ _ _ _ _ _ _ _ _ _ _ _ _ _ _ _ _ _ _ _ _ _ () () () ()
  intro w Fi n1 n2 It v1 v2 il z1 z2 its k1 k2 k3 k4 st h₀ L m s R p loose mean mg mb dp un gd cn cs a ccd cl outer A₀ base g' L' h' tk' _ hkU0 hkU1 hkU2 hkU3 h1 h2 h3 hl1 hl2 hits F N hret B T hk hd hu X FG' F' B' X' T' l1 _ N'
  clear hkU0 hkU1 hkU2 hkU3
  k_steps
  show wpAny _ _ _ _ _ _
  rename News _ _ _ _ => kN
  rename Fr _ _ _ _ => kF
  rename_i oC d1 du hA l1a hB ta hC l1b hD
  refine iter_list (its := #[.ref n1, .ref n2]) (oA := listOf #[.ref n1, .ref n2] k1) (J := DueJ its z1 z2 st du ta (L' + 1) Fi n1 n2 It oC v1 v2 il k1 k2 k3 k4) rfl kF kN (by k_mem) rfl ⟨_, rfl⟩
    ⟨[], [], _, _, st, rfl, rfl, rfl, rfl, allLt_ne l1a.2.2.2.2.2 (Nat.le_refl _), allLt_ne l1b.2.2.2.2.2.2 (Nat.le_refl _), fun p hp => hp, fun j v zz h _ => nil_get h, fun j v zz h _ => nil_get h, rfl⟩ ?turn ?done
  case done =>
    rintro m₁ nw h tk ⟨dl, tl, c1, c2, rest, q1, q2, e1, e2, r1, r2, r3, r4, r5, rfl⟩ F2 N2
    clear kN kF
    change Fr g' L' _ _ at F2
    change News g' L' _ _ at N2
    obtain ⟨d1', d2', rfl⟩ : ∃ a b, dl = [a, b] := by
      rcases dl with _ | ⟨a, _ | ⟨b, _ | ⟨c, r⟩⟩⟩ <;> simp at q1
      exact ⟨a, b, rfl⟩
    obtain ⟨t1, t2, rfl⟩ : ∃ a b, tl = [a, b] := by
      rcases tl with _ | ⟨a, _ | ⟨b, _ | ⟨c, r⟩⟩⟩ <;> simp at q2
      exact ⟨a, b, rfl⟩
    have b1 := r4 0 d1' z1 rfl rfl
    have b2 := r4 1 d2' z2 rfl rfl
    obtain ⟨a1, w1, m1, rfl, hm1, hs1⟩ := r5 0 t1 z1 rfl rfl
    obtain ⟨a2, w2, m2, rfl, hm2, hs2⟩ := r5 1 t2 z2 rfl rfl
    have lw1 : w1.length ≤ 10 := Nat.le_trans (Nat.le_of_eq (strsAre_len hs1)) (Nat.le_trans (dueT_len its z1) ((intsAre_len h1) ▸ ‹v1.length ≤ 10›))
    have lw2 : w2.length ≤ 10 := Nat.le_trans (Nat.le_of_eq (strsAre_len hs2)) (Nat.le_trans (dueT_len its z2) ((intsAre_len h2) ▸ ‹v2.length ≤ 10›))
    replace N2 := news_front (news_front N2 (a := (a2, listOf w2.toArray m2)) (by (repeat (first | exact hm2 | refine .tail _ ?_)))) (a := (a1, listOf w1.toArray m1)) (by (repeat (first | exact hm1 | refine .tail _ ?_)))
    have F3 := fr_eq F2 (m' := fun y => if y = Str.ofString "due" then some (.ref du) else if y = Str.ofString "taken" then some (.ref ta) else m₁ y) (by
      intro y
      by_cases g1 : y = Str.ofString "due"
      · rw [if_pos g1, g1, e1]
      rw [if_neg g1]
      by_cases g2 : y = Str.ofString "taken"
      · rw [if_pos g2, g2, e2]
      rw [if_neg g2])
    clear F2 r4 r5 r1 r2
    rename_i hkIDue171
    revert h1 h2 h3 hl1 hl2 hits F N hret B T hk hd hu X FG' B' X' T' l1 d1 l1a l1b e1 e2 r3 q1 b1 b2 hm1 hs1 hm2 hs2 q2 lw1 lw2 N2 F3
    have hkU0 : Unit := ()
    have hkU1 : Unit := ()
    have hkU2 : Unit := ()
    revert w Fi n1 n2 It v1 v2 il z1 z2 its k1 k2 k3 k4 st h₀ L m s R p loose mean mg mb dp un gd cn cs a ccd cl outer A₀ base g' L' h' tk' oC du hA hB ta hC hD hkIDue171 m₁ h tk c1 c2 rest d1' d2' a1 w1 m1 a2 w2 m2 hkU0 hkU1 hkU2
    refine no_implicit_lambda% (hk66 8527494 ?hkdDue1 ?hkPDue1 ?hkGDue1)
    case hkdDue1 => exact (dWorld, (0 : Nat), (0 : Nat), (0 : Nat), (0 : Nat), [], [], [], [], [], [], 0, 0, 0, 0, [], default, (0 : Nat), fun _ => none, {}, fun _ _ => True, default, [], fun _ => none, fun _ => none, fun _ => none, 0, 0, none, ⟨#[]⟩, default, (0 : Nat), .none, [], [], {}, default, default, (0 : Nat), default, 0, dObj, (0 : Nat), default, default, (0 : Nat), default, default, 0, fun _ => none, default, 0, 0, 0, [], .none, .none, (0 : Nat), [], 0, (0 : Nat), [], 0, (), (), ())
    refine (?hkFDue1 : ∀ x0 x1 x2 x3 x4 x5 x6 x7 x8 x9 x10 x11 x12 x13 x14 x15 x16 x17 x18 x19 x20 x21 x22 x23 x24 x25 x26 x27 x28 x29 x30 x31 x32 x33 x34 x35 x36 x37 x38 x39 x40 x41 x42 x43 x44 x45 x46 x47 x48 x49 x50 x51 x52 x53 x54 x55 x56 x57 x58 x59 x60 x61 x62 x63 x64 x65, ?hkPDue1 x0 x1 x2 x3 x4 x5 x6 x7 x8 x9 x10 x11 x12 x13 x14 x15 x16 x17 x18 x19 x20 x21 x22 x23 x24 x25 x26 x27 x28 x29 x30 x31 x32 x33 x34 x35 x36 x37 x38 x39 x40 x41 x42 x43 x44 x45 x46 x47 x48 x49 x50 x51 x52 x53 x54 x55 x56 x57 x58 x59 x60 x61 x62 x63 x64 x65) _ _ _ _ _ _ _ _ _ _ _ _ _ _ _ _ _ _ _ _ _ _ _ _ _ _ _ _ _ _ _ _ _ _ _ _ _ _ _ (default) (0) _ _ (default) (default) _ (default) _ _ _ _ _ _ _ _ _ _ _ _ _ _ _ _ () () ()
    intro w Fi n1 n2 It v1 v2 il z1 z2 its k1 k2 k3 k4 st h₀ L m s R p loose mean mg mb dp un gd cn cs a ccd cl outer A₀ base g' L' h' tk' oC du hA hB ta hC hD tk m₁ h tk c1 c2 rest d1' d2' a1 w1 m1 a2 w2 m2 hkU0 hkU1 hkU2 h1 h2 h3 hl1 hl2 hits F N hret B T hk hd hu X FG' B' X' T' l1 d1 l1a l1b e1 e2 r3 q1 b1 b2 hm1 hs1 hm2 hs2 q2 lw1 lw2 N2 F3
    clear hkU0 hkU1 hkU2
    k_steps
    show wpAny _ _ _ _ _ _
    rename News _ _ _ _ => kN8
    rename Fr _ _ _ _ => kF8
    refine' (more_con a1 a2 w1 w2 _ _ hs1 hs2 (by first | exact le_n (by assumption) rfl | omega) m1 m2 _).call (Site.mk B' X' T' rfl (by walk_at "line") (by walk_at "line")) kF8 (news_of kN8 fun p hp => hp) ?_
    rintro v led' h' tk' ⟨R1, vs1, ss1, e1', rfl, rfl, hS1, hp1, hs1', ho1⟩ F9 N9
    clear kN8 kF8
    k_steps
    show wpAny _ _ _ _ _ _
    rename News _ _ _ _ => kN8
    rename Fr _ _ _ _ => kF8
    refine' (more_con a2 a1 w2 w1 _ _ hs2 hs1 (by first | exact le_n (by assumption) rfl | omega) m2 m1 _).call (Site.mk B' X' T' rfl (by walk_at "line") (by walk_at "line")) kF8 (news_front (news_front kN8 (a := (a1, listOf w1.toArray m1)) (by k_mem)) (a := (a2, listOf w2.toArray m2)) (by k_mem)) ?_
    rintro v led' h' tk' ⟨R2, vs2, ss2, e2', rfl, rfl, hS2, hp2, hs2', ho2⟩ F9 N9
    clear kN8 kF8
    replace N9 := news_of N9 (l' := (R2, seqObj "list" vs2.toArray e2') :: (R1, seqObj "list" vs1.toArray e1') :: (du, listOf #[d1', d2'] c1) :: (L' + 1, oC) :: (Fi, listOf #[.ref n1, .ref n2] k1) :: (n1, listOf v1.toArray k2) :: (n2, listOf v2.toArray k3) :: (It, listOf il.toArray k4) :: rest) (fun p hp => by
      simp only [List.mem_cons] at hp
      rcases hp with rfl | rfl | rfl | rfl | rfl | rfl | rfl | rfl | hp
      all_goals first | k_mem | (repeat (first | exact hp | refine .tail _ ?_)))
    k_steps
    rename News _ _ _ _ => kN8
    rename Fr _ _ _ _ => kF8
    refine hret _ _ _ _ ⟨ss1, ss2, hp1, hs1', hp2, hs2', ⟨_, d1', d2', _, _, _, rfl, by k_mem, b1.mono (fun p hp => by (repeat (first | exact hp | refine .tail _ ?_))), b2.mono (fun p hp => by (repeat (first | exact hp | refine .tail _ ?_))), ⟨_, _, _, _, rfl, by k_mem, ⟨R1, vs1, _, rfl, by k_mem, hS1⟩, ⟨R2, vs2, _, rfl, by k_mem, hS2⟩⟩, ⟨_, _, _, _, rfl, by k_mem, ⟨R2, vs2, _, rfl, by k_mem, hS2⟩, ⟨R1, vs1, _, rfl, by k_mem, hS1⟩⟩⟩, fun p hp => ?_⟩ kF8 kN8
    have := r3 p hp
    (repeat (first | exact this | refine .tail _ ?_))
  case turn =>
    rintro i v m₁ nw I oI oA' h tk hv ⟨dl, tl, c1, c2, rest, q1, q2, e1, e2, r1, r2, r3, r4, r5, rfl⟩ off hax F2 N2
    clear kN kF
    change Fr g' L' _ _ at F2
    change News g' L' _ _ at N2
    have hi : i < 2 := (Array.getElem?_eq_some_iff.mp hv).1
    obtain ⟨nn, vv, zz, kk, rfl, hmn, hIz, hzz, hnn, hvl⟩ : FilePick v1 v2 z1 z2 n1 n2 L' k2 k3 i v := by
      have : i = 0 ∨ i = 1 := by first | exact two (by assumption) | omega
      rcases this with rfl | rfl
      · exact ⟨n1, v1, z1, k2, by simpa using hv.symm, .inl rfl, h1, rfl, l1.2.1, hl1⟩
      · exact ⟨n2, v2, z2, k3, by simpa using hv.symm, .inr rfl, h2, rfl, l1.2.2.1, hl2⟩
    have N3 : News g' L' h ((I, oI) :: (ta, listOf tl.toArray c2) :: (du, listOf dl.toArray c1) :: (nn, listOf vv.toArray kk) :: (L' + 1, oC) :: (Fi, oA') :: (Fi, listOf #[.ref n1, .ref n2] k1) :: (n1, listOf v1.toArray k2) :: (n2, listOf v2.toArray k3) :: (It, listOf il.toArray k4) :: rest) := by
      refine news_of N2 fun p hp => ?_
      simp only [List.mem_cons] at hp ⊢
      rcases hp with hp | hp | hp | hp | hp | hp | hp | hp | hp | hp | hp
      · exact .inl hp
      · exact .inr (.inr (.inl hp))
      · exact .inr (.inr (.inr (.inl hp)))
      · rw [hp]
        rcases hmn with q | q
        · exact .inr (.inr (.inr (.inr (.inr (.inr (.inl q))))))
        · exact .inr (.inr (.inr (.inr (.inr (.inr (.inr (.inl q)))))))
      · exact .inr (.inr (.inr (.inr (.inl hp))))
      · exact .inr (.inl hp)
      · exact .inr (.inr (.inr (.inr (.inr (.inl hp)))))
      · exact .inr (.inr (.inr (.inr (.inr (.inr (.inl hp))))))
      · exact .inr (.inr (.inr (.inr (.inr (.inr (.inr (.inl hp)))))))
      · exact .inr (.inr (.inr (.inr (.inr (.inr (.inr (.inr (.inl hp))))))))
      · exact .inr (.inr (.inr (.inr (.inr (.inr (.inr (.inr (.inr hp))))))))
    simp only [List.forall_mem_cons] at off
    obtain ⟨o1, o2, o3, o4, o5, o6, o7, o8⟩ := off
    (try dsimp only at o1 o2 o3 o4 o5 o6 o7)
    replace o1 := neN o1
    replace o2 := neN o2
    replace o3 := neN o3
    replace o7 := neN o7
    clear N2
    have hzl := intsAre_len hIz
    have F3 := fr_eq F2 (m' := fun y => if y = Str.ofString "numbers" then some (.ref nn) else if y = Str.ofString "due" then some (.ref du) else if y = Str.ofString "taken" then some (.ref ta) else m₁ y) (by
      intro y
      by_cases g0 : y = Str.ofString "numbers"
      · rw [if_pos g0, if_pos g0]
      rw [if_neg g0, if_neg g0]
      by_cases g1 : y = Str.ofString "due"
      · rw [if_pos g1, g1, e1]
      rw [if_neg g1]
      by_cases g2 : y = Str.ofString "taken"
      · rw [if_pos g2, g2, e2]
      rw [if_neg g2])
    clear F2
    rename_i hkIDue271
    revert h1 h2 h3 hl1 hl2 hits F N hret B T hk hd hu X FG' B' X' T' l1 d1 l1a l1b q1 q2 e1 e2 r1 r2 r3 r4 r5 hax hi hmn hIz hzz hnn hvl hv N3 o4 o5 o6 o8 o1 o2 o3 o7 hzl F3
    have hkU0 : Unit := ()
    revert w Fi n1 n2 It v1 v2 il z1 z2 its k1 k2 k3 k4 st h₀ L m s R p loose mean mg mb dp un gd cn cs a ccd cl outer A₀ base g' L' h' tk' oC du hA hB ta hC hD hkIDue271 i m₁ I oI oA' h tk dl tl c1 c2 rest nn vv zz kk hkU0
    refine no_implicit_lambda% (hk66 15394604 ?hkdDue2 ?hkPDue2 ?hkGDue2)
    case hkdDue2 => exact (dWorld, (0 : Nat), (0 : Nat), (0 : Nat), (0 : Nat), [], [], [], [], [], [], 0, 0, 0, 0, [], default, (0 : Nat), fun _ => none, {}, fun _ _ => True, default, [], fun _ => none, fun _ => none, fun _ => none, 0, 0, none, ⟨#[]⟩, default, (0 : Nat), .none, [], [], {}, default, default, (0 : Nat), default, 0, dObj, (0 : Nat), default, default, (0 : Nat), default, default, 0, 0, fun _ => none, (0 : Nat), dObj, dObj, default, 0, [], [], 0, 0, [], (0 : Nat), [], [], 0, ())
    refine (?hkFDue2 : ∀ x0 x1 x2 x3 x4 x5 x6 x7 x8 x9 x10 x11 x12 x13 x14 x15 x16 x17 x18 x19 x20 x21 x22 x23 x24 x25 x26 x27 x28 x29 x30 x31 x32 x33 x34 x35 x36 x37 x38 x39 x40 x41 x42 x43 x44 x45 x46 x47 x48 x49 x50 x51 x52 x53 x54 x55 x56 x57 x58 x59 x60 x61 x62 x63 x64 x65, ?hkPDue2 x0 x1 x2 x3 x4 x5 x6 x7 x8 x9 x10 x11 x12 x13 x14 x15 x16 x17 x18 x19 x20 x21 x22 x23 x24 x25 x26 x27 x28 x29 x30 x31 x32 x33 x34 x35 x36 x37 x38 x39 x40 x41 x42 x43 x44 x45 x46 x47 x48 x49 x50 x51 x52 x53 x54 x55 x56 x57 x58 x59 x60 x61 x62 x63 x64 x65) _ _ _ _ _ _ _ _ _ _ _ _ _ _ _ _ _ _ _ _ _ _ _ _ _ _ _ _ _ _ _ _ _ _ _ _ _ _ _ (default) (0) _ _ (default) (default) _ (default) _ _ _ _ _ _ _ _ _ _ _ _ _ _ _ _ _ _ ()
    intro w Fi n1 n2 It v1 v2 il z1 z2 its k1 k2 k3 k4 st h₀ L m s R p loose mean mg mb dp un gd cn cs a ccd cl outer A₀ base g' L' h' tk' oC du hA hB ta hC hD tk i m₁ I oI oA' h tk dl tl c1 c2 rest nn vv zz kk hkU0 h1 h2 h3 hl1 hl2 hits F N hret B T hk hd hu X FG' B' X' T' l1 d1 l1a l1b q1 q2 e1 e2 r1 r2 r3 r4 r5 hax hi hmn hIz hzz hnn hvl hv N3 o4 o5 o6 o8 o1 o2 o3 o7 hzl F3
    clear hkU0
    k_steps
    show wpAny _ _ _ _ _ _
    refine LCg.Assign_ListComp_U (F₀ := F3) (by rfl) (by with_unfolding_all rfl) (by with_unfolding_all rfl) (by decide) (by rfl) (by decide) (by rfl) (by rfl) (by rfl) ?_
    k_steps
    show LCg.CompSrc _ _ _ _ _ _ _ _ _ _ _ _ _ _
    refine LCg.CompSrc.ledger (its := vv.toArray) rfl F3 N3 (by k_mem) (by rw [List.size_toArray, sizeLine_eq]; first | exact le_n (by assumption) rfl | omega) fun g9 => ?_
    refine comp_rest (n := vv.toArray.size) (J := fun i ys nw => StrsAre ys ((zz.take i).map fun z => mk (wordL z)) ∧ nw = _) ?fin ?turn _ 0 [] _ (Nat.zero_add _) ⟨.nil, rfl⟩
    case turn =>
      rintro i2 ys nw hi2 ⟨hys, rfl⟩ v I2 oI2 C oC2 D m₂ h tk E' hv2 hN2 hx2 F N o32 ne2
      obtain ⟨z, tz, hz, rfl⟩ := intsAre_get2 hIz (by simpa using hv2)
      k_steps
      rename News _ _ _ _ => kN9
      rename Fr _ _ _ _ => kF9
      refine LCg.CompEnd.intro kF9 kN9 _ (fun p hp => by (repeat (first | exact hp | refine .tail _ ?_))) o32 (show LCg.SrcAt g' nn vv.toArray _ from Or.inr ⟨_, by k_mem, rfl, _, rfl⟩) ⟨?_, rfl⟩
      rw [take_map_succI hz]
      exact strsAre_snoc hys
    case fin =>
      rintro ys nw ⟨hys, rfl⟩
      rw [List.size_toArray, hzl, List.take_length] at hys
      intro D h tk F7 N7 o1D
      have hoD := o1D
      obtain ⟨-, zt, zd, -⟩ := o1D
      replace zt := neN zt
      replace zd := neN zd
      have hyl := strsAre_len hys
      rw [List.length_map] at hyl
      k_steps
      show wpAny _ _ _ _ _ _
      rename News _ _ _ _ => kN
      rename Fr _ _ _ _ => kF
      refine LCg.ListComp_U (F₀ := kF) (by with_unfolding_all rfl) (by decide) (by rfl) (by decide) (by rfl) ?_
      k_steps
      show LCg.CompSrc _ _ _ _ _ _ _ _ _ _ _ _ _ _
      refine LCg.CompSrc.ledger (its := vv.toArray) rfl kF kN (by k_mem) (by rw [List.size_toArray, sizeLine_eq]; first | exact le_n (by assumption) rfl | omega) fun g9 => ?_
      refine comp_rest (n := vv.toArray.size) (J := fun i ys nw => StrsAre ys ((zz.take i).map fun z => mk (writtenL z)) ∧ nw = _) ?fin2 ?turn2 _ 0 [] _ (Nat.zero_add _) ⟨.nil, rfl⟩
      case turn2 =>
        rintro i2 ys2 nw hi2 ⟨hys2, rfl⟩ v I2 oI2 C oC2 D2 m₂ h tk E' hv2 hN2 hx2 F N o32 ne2
        obtain ⟨z, tz, hz, rfl⟩ := intsAre_get2 hIz (by simpa using hv2)
        k_steps
        rename News _ _ _ _ => kN9
        rename Fr _ _ _ _ => kF9
        refine LCg.CompEnd.intro kF9 kN9 _ (fun p hp => by (repeat (first | exact hp | refine .tail _ ?_))) o32 (show LCg.SrcAt g' nn vv.toArray _ from Or.inr ⟨_, by k_mem, rfl, _, rfl⟩) ⟨?_, rfl⟩
        rw [take_map_succI hz]
        exact strsAre_snoc hys2
      case fin2 =>
        rintro ys2 nw ⟨hys2, rfl⟩
        rw [List.size_toArray, hzl, List.take_length] at hys2
        rw [show zz.map (fun z => mk (writtenL z)) = (zz.map writtenL).map mk by rw [List.map_map]; rfl] at hys2
        have hwf := written_flat zz
        intro D2 h tk F8 N8 o1D2
        obtain ⟨-, -, -, -, zt2, zd2, -⟩ := o1D2
        replace zt2 := neN zt2
        replace zd2 := neN zd2
        k_steps
        show wpAny _ _ _ _ _ _
        refine' count_r (n := (((zz.map writtenL).flatten.count 10 : Nat) : Int)) (by rw [one_nl]; exact count_mk _ 10) ?_
        intro uc tkc
        k_steps
        show wpAny _ _ _ _ _ _
        rename News _ _ _ _ => kN
        rename Fr _ _ _ _ => kF
        refine LCt.ListComp_T (F₀ := kF) (by with_unfolding_all rfl) (by decide) (by rfl) (by decide) (by rfl) ?_
        k_steps
        show LCt.CompSrcT _ _ _ _ _ _ _ _ _ _ _ _ _ _ _
        refine LCt.CompSrcT.ledger (its := ys.toArray) rfl kF kN (by k_mem) (by rw [List.size_toArray, sizeLine_eq]; first | exact le_n (by assumption) rfl | omega) fun g9 => ?_
        refine comp_restT (n := ys.toArray.size) (J := fun i ys nw => StrsAre ys ((((zz.take i).map wordL).filter (fitsB its)).map mk) ∧ nw = _) ?fin3 ?turn3 _ 0 [] _ (Nat.zero_add _) ⟨.nil, rfl⟩
        case turn3 =>
          rintro i2 ys3 nw hi2 ⟨hys3, rfl⟩ v I2 oI2 C oC2 D3 m₂ h tk E' hv2 hN2 hx2 F N o32 ne2
          obtain ⟨x, tx, hx, rfl⟩ := strsAre_get2 hys (by simpa using hv2)
          obtain ⟨z, hz, rfl⟩ : ∃ z, zz[i2]? = some z ∧ mk (wordL z) = x := by
            rw [List.getElem?_map] at hx
            cases hq : zz[i2]? with
            | none => rw [hq] at hx; cases hx
            | some z => rw [hq] at hx; exact ⟨z, rfl, Option.some.inj hx⟩
          k_steps
          show wpAny _ _ _ _ _ _
          rename News _ _ _ _ => kN8
          rename Fr _ _ _ _ => kF8
          refine' (fits_con its il h3 hits It k4 (wordL z) _ _ (wordL_len z)).call (Site.mk B' X' T' rfl (by walk_at "line") (by walk_at "line")) kF8 (news_front kN8 (by k_mem)) ?_
          rintro v led' h' tk' ⟨rfl, rfl⟩ F9 N9
          clear kN8 kF8
          replace N9 := news_of N9 fun p hp => List.mem_cons_of_mem _ hp
          k_steps
          all_goals
            rename News _ _ _ _ => kN8
            rename Fr _ _ _ _ => kF8
            rename (fitsB _ _ = _) => hb
            refine LCg.CompEnd.intro kF8 kN8 _ (fun p hp => by (repeat (first | exact hp | refine .tail _ ?_))) o32 (show LCg.SrcAt g' D ys.toArray _ from Or.inr ⟨_, by k_mem, rfl, _, rfl⟩) ⟨?_, rfl⟩
            rw [List.take_add_one, hz]
            first
              | (have e9 : (((zz.take i2 ++ (some z).toList).map wordL).filter (fitsB its)).map mk = (((zz.take i2).map wordL).filter (fitsB its)).map mk ++ [mk (wordL z)] := (by simp [hb]); rw [e9]; exact strsAre_snoc hys3)
              | (have e9 : (((zz.take i2 ++ (some z).toList).map wordL).filter (fitsB its)).map mk = (((zz.take i2).map wordL).filter (fitsB its)).map mk := (by simp [hb]); rw [e9]; exact hys3)
        case fin3 =>
          rintro ys3 nw ⟨hys3, rfl⟩
          rw [List.size_toArray, hyl, List.take_length] at hys3
          intro D3 h tk F9 N9 o1D3
          rename_i tq ll hh1 lla Dp hh2 lDp g9z hz1 tkz uz tkz2 Ea hh3 lE hh4 tkz3
          obtain ⟨-, -, -, -, -, zi3, zt3, zd3, -⟩ := o1D3
          replace zi3 := neN zi3
          replace zt3 := neN zt3
          replace zd3 := neN zd3
          k_steps
          rename News _ _ _ _ => kN8
          rename Fr _ _ _ _ => kF8
          refine ⟨.inl rfl, _, _, _, (ta, listOf (tl ++ [Value.ref D3]).toArray (c2 + 1)) :: (du, listOf (dl ++ [Value.ref Ea]).toArray (c1 + 1)) :: (L' + 1, oC) :: (Fi, listOf #[.ref n1, .ref n2] k1) :: (n1, listOf v1.toArray k2) :: (n2, listOf v2.toArray k3) :: (It, listOf il.toArray k4) ::
            ((D3, listOf ys3.toArray ys3.length) :: (Ea, listOf #[.ref Dp, .int (1 + (((zz.map writtenL).flatten.count 10 : Nat) : Int)) tkc] 0) :: (Dp, listOf (ys ++ [Value.str (Str.ofString "") tq, Value.str (Str.ofString "") (tq + 1)]).toArray 0) :: rest), rfl, kF8, news_of kN8 fun p hp => ?_, ?_,
            ⟨dl ++ [Value.ref Ea], tl ++ [Value.ref D3], c1 + 1, c2 + 1, _, by simp [q1], by simp [q2], rfl, rfl, ?_, ?_, fun p hp => .tail _ (.tail _ (.tail _ (r3 p hp))), ?_, ?_, rfl⟩⟩
          · simp only [List.cons_append, List.nil_append, List.mem_cons] at hp
            rw [← List.push_toArray, ← List.push_toArray] at hp
            rcases hp with rfl | rfl | rfl | rfl | rfl | rfl | rfl | rfl | rfl | rfl | rfl | rfl | hp
            all_goals first | k_mem | (repeat (first | exact hp | refine .tail _ ?_))
          · simp only [List.forall_mem_cons]
            refine ⟨o1, o2, o3, o4, o5, o6, o7, ?_, ?_, ?_, o8⟩
            · exact Ne.symm zi3
            · k_ne
            · k_ne
          · simp only [List.forall_mem_cons]
            refine ⟨Ne.symm zd3, ?_, ?_, r1⟩
            · k_ne
            · k_ne
          · simp only [List.forall_mem_cons]
            refine ⟨Ne.symm zt3, ?_, ?_, r2⟩
            · k_ne
            · k_ne
          · intro j v zz' hj hzj
            refine snoc_get (P := fun v => BEntry _ v (dueE zz')) q1 hj (fun h => (r4 j v zz' h hzj).mono (fun p hp => by (repeat (first | exact hp | refine .tail _ ?_)))) fun e => ?_
            rw [e, hzz] at hzj
            obtain rfl := Option.some.inj hzj
            refine ⟨Ea, .ref Dp, tkc, 0, rfl, .tail _ (.head _), ⟨Dp, _, 0, rfl, .tail _ (.tail _ (.head _)), ?_⟩⟩
            show StrsAre _ (wordsS zz ++ [mk [], mk []])
            rw [← e_mk]
            exact strsAre_append hys (.cons _ _ (.cons _ _ .nil))
          · intro j v zz' hj hzj
            refine snoc_get (P := fun v => BStrs _ v (dueT its zz')) q2 hj (fun h => (r5 j v zz' h hzj).mono (fun p hp => by (repeat (first | exact hp | refine .tail _ ?_)))) fun e => ?_
            rw [e, hzz] at hzj
            obtain rfl := Option.some.inj hzj
            exact ⟨D3, ys3, ys3.length, rfl, .head _, hys3⟩
end Mine
end
section
open PySem PySem.W PyProof.Rows PySem.Builtin PySem.Builtin.Str PySem.Spec PySem.Calls
namespace Mine
abbrev flatW (zs : List Int) : List Nat := (zs.map writtenL).flatten
theorem lexToks_len (zs : List Nat) : ∀ i, (lexToks zs i).length = i
  | 0 => rfl
  | i + 1 => by rw [lexToks, List.length_append, lexToks_len zs i]; rfl
theorem quot_esc (r : List Nat) : ∀ l : List Nat, quot (l.flatMap esc1 ++ 34 :: r) = (l, r)
  | [] => quot_q r
  | c :: l => by
    have ih := quot_esc r l
    rw [List.flatMap_cons, List.append_assoc]
    unfold esc1
    split
    · show quot (92 :: c :: (l.flatMap esc1 ++ 34 :: r)) = _
      rw [quot_b, ih]
    · next h =>
      show quot (c :: (l.flatMap esc1 ++ 34 :: r)) = _
      rw [quot_c _ (fun e => h (.inl e)) (fun e => h (.inr e)), ih]
def okSg (c : Nat) : Prop := c ≠ 9 ∧ c ≠ 13
theorem sg_ok (k : Int) : okSg (sg k) := by
  unfold sg okSg
  rcases k.toNat with _ | _ | _ | _ | _ | _ | _ | j <;> simp
theorem wordL_ok (n : Int) : ∀ c ∈ wordL n, okSg c := by
  intro c hc
  have := List.mem_of_mem_take hc
  simp only [List.mem_cons, List.not_mem_nil, or_false] at this
  rcases this with rfl | rfl | rfl <;> exact sg_ok _
theorem wordL_cons (n : Int) : ∃ c r, wordL n = c :: r := ⟨_, _, rfl⟩
theorem esc2_cases (n : Int) (k c : Nat) (h : okSg c) : esc2 n k c = [92, c] ∨ (esc2 n k c = [c] ∧ isWs c = false ∧ c ≠ 92 ∧ (k = 0 → c ≠ 34)) := by
  unfold esc2
  cases hs : shieldB n k c with
  | true => exact .inl rfl
  | false =>
    right
    obtain ⟨h1, h2⟩ := h
    unfold shieldB at hs
    simp at hs
    obtain ⟨⟨a1, a2⟩, a3⟩ := hs
    refine ⟨rfl, ?_, a2.1.2, ?_⟩
    · unfold isWs
      simp [h1, h2, a2.1.1, a2.2]
    · intro k0 e
      exact absurd k0 (a3 e).1
theorem bare_word (n : Int) (r : List Nat) : ∀ (l : List Nat) (k : Nat), (∀ c ∈ l, okSg c) → bare (bareW n k l ++ r) = (l ++ (bare r).1, (bare r).2)
  | [], _, _ => rfl
  | c :: l, k, h => by
    have ih := bare_word n r l (k + 1) fun c hc => h c (.tail _ hc)
    rw [bareW, List.append_assoc]
    rcases esc2_cases n k c (h c (.head _)) with e | ⟨e, h1, h2, -⟩
    · rw [e]
      show bare (92 :: c :: (bareW n (k + 1) l ++ r)) = _
      rw [bare_b, ih]
      rfl
    · rw [e]
      show bare (c :: (bareW n (k + 1) l ++ r)) = _
      rw [bare_c _ h1 h2, ih]
      rfl
def wsAll (p : List Nat) : Prop := ∀ c ∈ p, isWs c = true
theorem tok_ws (r : List Nat) : ∀ p : List Nat, wsAll p → tokRun (p ++ r) = tokRun r
  | [], _ => rfl
  | c :: p, h => by
    rw [List.cons_append, tok_w _ (h c (.head _))]
    exact tok_ws r p fun c hc => h c (.tail _ hc)
theorem tok_written (n : Int) (r : List Nat) : ∃ p, wsAll p ∧ tokRun (writtenL n ++ r) = (wordL n, p ++ r) := by
  unfold writtenL
  split
  · refine ⟨sepQ n, ?_, ?_⟩
    · unfold sepQ wsAll
      split
      · simp
      · split <;> simp [isWs]
    · rw [List.append_assoc, List.append_assoc, List.append_assoc]
      show tokRun (34 :: _) = _
      rw [tok_q]
      exact quot_esc _ _
  · obtain ⟨c, w, hw⟩ := wordL_cons n
    have hok := wordL_ok n
    have e1 : tokRun (bareW n 0 (wordL n) ++ sepB n ++ r) = bare (bareW n 0 (wordL n) ++ (sepB n ++ r)) := by
      rw [List.append_assoc, hw, bareW, List.append_assoc]
      rcases esc2_cases n 0 c (hok c (by rw [hw]; exact .head _)) with e | ⟨e, h1, h2, h3⟩
      · rw [e]
        exact tok_c (c := 92) _ rfl (by decide)
      · rw [e]
        exact tok_c _ h1 (h3 rfl)
    rw [e1, bare_word n _ _ _ hok]
    have e2 : ∃ p, wsAll p ∧ bare (sepB n ++ r) = ([], p ++ r) := by
      unfold sepB
      split
      · exact ⟨[], (fun c hc => nomatch hc), bare_w _ rfl⟩
      · split
        · exact ⟨[], (fun c hc => nomatch hc), bare_w _ rfl⟩
        · exact ⟨[13], by simp [wsAll, isWs], bare_w _ rfl⟩
    obtain ⟨p, hp, e2⟩ := e2
    refine ⟨p, hp, ?_⟩
    rw [e2, List.append_nil]
theorem lexRest_front (zs : List Nat) : ∀ i, lexRest zs (i + 1) = lexRest (tokRun zs).2 i
  | 0 => rfl
  | i + 1 => by
    rw [lexRest, lexRest_front zs i]
    rfl
theorem lexToks_front (zs : List Nat) : ∀ i, lexToks zs (i + 1) = (tokRun zs).1 :: lexToks (tokRun zs).2 i
  | 0 => rfl
  | i + 1 => by
    rw [lexToks, lexToks_front zs i, lexRest_front zs i]
    rfl
theorem tok_ws0 (p : List Nat) (h : wsAll p) : tokRun p = ([], []) := by
  have := tok_ws [] p h
  rw [List.append_nil] at this
  rw [this]
  rfl
theorem lex_both : ∀ (zs : List Int) (p : List Nat), wsAll p → lexToks (p ++ flatW zs) (zs.length + 2) = zs.map wordL ++ [[], []] ∧ lexRest (p ++ flatW zs) (zs.length + 2) = []
  | [], p, h => by
    have e : p ++ flatW [] = p := by simp
    rw [e]
    show lexToks p (0 + 1 + 1) = _ ∧ lexRest p (0 + 1 + 1) = _
    rw [lexToks_front, lexToks_front, lexRest_front, lexRest_front, tok_ws0 p h]
    exact ⟨rfl, rfl⟩
  | z :: zs, p, h => by
    obtain ⟨q, hq, e⟩ := tok_written z (flatW zs)
    have e2 : p ++ flatW (z :: zs) = p ++ (writtenL z ++ flatW zs) := rfl
    have ih := lex_both zs q hq
    rw [e2, List.length_cons, show zs.length + 1 + 2 = (zs.length + 2) + 1 by omega, lexToks_front, lexRest_front, tok_ws _ p h, e]
    refine ⟨?_, ih.2⟩
    show _ :: lexToks (q ++ flatW zs) (zs.length + 2) = _
    rw [ih.1]
    rfl
theorem lex_words (zs : List Int) : lexToks (flatW zs) (zs.length + 2) = zs.map wordL ++ [[], []] := (lex_both zs [] fun _ h => nomatch h).1
theorem lex_rest (zs : List Int) : lexRest (flatW zs) (zs.length + 2) = [] := (lex_both zs [] fun _ h => nomatch h).2
theorem nls_count : ∀ l : List Nat, nls l = ((l.count 10 : Nat) : Int)
  | [] => rfl
  | a :: r => by
    rw [nls, nls_count r, List.count_cons]
    unfold nl
    by_cases h : a = 10
    · simp [h]; omega
    · simp [h]
end Mine
end
section
open PySem PySem.W PyProof.Rows
namespace Mine
local macro_rules | `(tactic| walk_at $s:str) => `(tactic| k_extra $s)
local macro_rules | `(tactic| k_all) => `(tactic| k_extra "k_all")
local macro_rules | `(tactic| k_ne) => `(tactic| k_extra "k_ne")
local macro_rules | `(tactic| size_fits) => `(tactic| k_extra "size_fits")
local macro_rules | `(tactic| ktr_room) => `(tactic| k_extra "ktr_room")
local macro_rules | `(tactic| k_in) => `(tactic| k_extra "k_in")
local macro_rules | `(tactic| ktr_units) => `(tactic| k_extra "ktr_units")
inductive TakesJ (nm : List Nat) (pt : List Str) (t : Tok) (P c8 c9 : Addr) (pl : List Value) (k : Nat) (st : Led) (i : Nat) (m : Str → Option Value) (nw : Led) : Prop
  | intro : ∀ (r : Addr) (rv : List Value) (rs : List Nat) (n : Nat) (oN oP : Obj) (vP : Option Value), IntsAre rv (rs.map Int.ofNat) → (∀ x ∈ rs, x ≤ nm.length) → rv.length ≤ 10 → rs = ((pt.take i).foldl (fun rs p => stepR nm p rs) [0]) →
    m (Str.ofString "parts") = some (.ref P) → m (Str.ofString "reach") = some (.ref r) → oN.data = .cell (some (.str (mk nm) t)) → oP.data = .cell vP → (@Ne Nat r c8) → (@Ne Nat r c9) → nw = (r, listOf rv.toArray n) :: (c8, oP) :: (c9, oN) :: (P, listOf pl.toArray k) :: st → TakesJ nm pt t P c8 c9 pl k st i m nw
set_option maxRecDepth 100000 in
set_option maxHeartbeats 8000000 in
theorem takes_con {w : World} (P : Addr) (pl : List Value) (pt : List Str) (hpt : StrsAre pl pt) (h5 : ∀ x ∈ pt, Five x) (k : Nat) (nm : List Nat) (hnm : nm.length ≤ 3) (t : Tok) (st : Led) : Con w 135 [.ref P, .str (mk nm) t] ((P, listOf pl.toArray k) :: st) 12 80 (fun v led' => v = .bool (decide (nm.length ∈ pt.foldl (fun rs p => stepR nm p rs) [0])) ∧ led' = (P, listOf pl.toArray k) :: st) := by
  k_with_none
  k_with "line" => (first | exact ln2 ‹_ < PySem.recursionLimit› rfl | exact ln2 ‹_ < PySem.cLine› rfl | exact ln1 ‹_ < PySem.recursionLimit› rfl | exact ln1 ‹_ < PySem.cLine› rfl | (simp only [ktrTop] at *; first | exact ln2 ‹_ < PySem.recursionLimit› rfl | exact ln2 ‹_ < PySem.cLine› rfl | exact ln1 ‹_ < PySem.recursionLimit› rfl | exact ln1 ‹_ < PySem.cLine› rfl | omega))
  k_with "pr" => ((intro hcW; first | exact hcW.1 | exact hcW.2.1 | exact hcW.2.2.1 | exact hcW.2.2.2.1 | exact hcW.2.2.2.2.1 | exact hcW.2.2.2.2.2.1 | exact hcW.2.2.2.2.2.2.1 | exact hcW.2.2.2.2.2.2.2.1 | exact hcW.2.2.2.2.2.2.2.2.1 | exact hcW.2.2.2.2.2.2.2.2.2.1 | exact hcW.2.2.2.2.2.2.2.2.2.2.1 | exact hcW.2.2.2.2.2.2.2.2.2.2.2.1))
  k_with "k_ne" => ((refine neN ?_; (try dsimp only); first | (with_reducible assumption) | exact Ne.symm (by with_reducible assumption) | (refine ne_c1 (by with_reducible assumption) ?_; walk_at "pr") | (refine ne_c2 (by with_reducible assumption) ?_; walk_at "pr") | (refine ne_c3 (by with_reducible assumption) ?_; walk_at "pr") | (refine ne_c4 (by with_reducible assumption) ?_; walk_at "pr") | (refine ne_f1 (by with_reducible assumption) ?_; walk_at "pr") | (refine ne_f2 (by with_reducible assumption) ?_; walk_at "pr") | (refine ne_d1 (by with_reducible assumption) (by with_reducible assumption) ?_; walk_at "pr") | (refine ne_d2 (by with_reducible assumption) (by with_reducible assumption) ?_; walk_at "pr") | exact Nat.ne_of_lt (by with_reducible assumption) | exact Nat.ne_of_gt (by with_reducible assumption) | exact Nat.succ_ne_self _ | exact (Nat.succ_ne_self _).symm | ((repeat (rename (@Ne Nat _ _) => hz9W; clear hz9W)); omega)))
  k_with "le" => (first | exact Nat.le_refl _ | exact Nat.le_of_lt (by with_reducible assumption) | exact Nat.le_succ _ | exact Nat.le_succ_of_le (Nat.le_succ _) | omega)
  k_with "ktr_room" => (exact lt_room (by assumption))
  k_with "ktr_units" => ((first | exact ln1 (by assumption) rfl | exact ln2 (by assumption) rfl | (simp only [units_in1, units_deeper, Around.mark_units, units_caller]; first | exact ln2 (by assumption) rfl | exact ln1 (by assumption) rfl)))
  k_with "k_in" => (first | (with_reducible assumption) | k_in_fast | exact Frag.In.keeps (by k_asm) (Fr.keep (by k_asm)))
  k_with "sz" => (first | exact le_n (by with_reducible assumption) rfl | omega)
  k_with "pt" => ((intro hcW; with_reducible first | exact hcW.2 | exact hcW.2.2 | exact hcW.2.2.2 | exact hcW.2.2.2.2 | exact hcW.2.2.2.2.2 | exact hcW.2.2.2.2.2.2 | exact hcW.2.2.2.2.2.2.2 | exact hcW.2.2.2.2.2.2.2.2 | exact hcW.2.2.2.2.2.2.2.2.2 | exact hcW.2.2.2.2.2.2.2.2.2.2 | exact hcW.2.2.2.2.2.2.2.2.2.2.2 | exact hcW.2.2.2.2.2.2.2.2.2.2.2.2))
  k_with "size_fits" => (exact Nat.le_of_ble_eq_true rfl)
  k_with "mine tl" => (first | (with_reducible assumption) | ((with_reducible rename AllLt _ _ => hl9W); first | exact allLt_ne hl9W (by walk_at "sz") | (clear hl9W; walk_at "mine tl")) | ((with_reducible rename (_ ∧ _) => hq9W); (have ha9W := hq9W.1); (have hb9W := hq9W.2); clear hq9W; walk_at "mine tl"))
  k_with "k_all" => (first | exact List.forall_mem_nil _ | (with_reducible assumption) | ((with_reducible show ∀ p ∈ _ :: _, _); refine' List.forall_mem_cons.mpr ⟨(by k_ne), (by k_all)⟩) | (refine tl_eq (by with_reducible assumption) ?_; walk_at "pt") | (refine tl_s (by with_reducible assumption) ?_; walk_at "pt") | (refine tl_t (by with_reducible assumption) ?_; walk_at "pt") | ((with_reducible rename AllLt _ _ => hl9W); with_reducible exact allLt_ne hl9W (by walk_at "le")) | (refine' List.forall_mem_cons.mpr ⟨(by k_ne), (by k_all)⟩) | walk_at "mine tl")
  k_with "compareOp NotEq ref ref" => ((k_here; k_dflt (first | (refine' ne_nil_nil (by k_asm) (by k_mem) (by k_mem) (by ktr_units) ?_; k_whole) | (refine' ne_cons_nil (by k_asm) (by k_mem) (by k_mem) (by ktr_units) ?_; k_whole))))
  k_with "compareOp Eq ref ref" => ((k_here; k_dflt (first | (refine' eq_nil_nil (by k_asm) (by k_mem) (by k_mem) (by ktr_units) ?_; k_whole) | (refine' eq_cons_nil (by k_asm) (by k_mem) (by k_mem) (by ktr_units) ?_; k_whole))))
  k_with "eval ListComp" => ((k_here; k_dflt (refine LCt.ListComp_T (F₀ := by k_asm) (by with_unfolding_all rfl) (by decide) (by rfl) (by decide) (by rfl) ?_)))
  k_with "CompSrcT" => ((refine Halt.out ?_))
  k_with "exec For Name Name cons nil" => ((k_here; (with_unfolding_all refine' For_turns ‹Fr _ _ _ _› ?_; k_whole)))
  k_with "subscriptTail Name Name str int" => ((k_here; (with_reducible show wpAny _ _ (subscriptTail _ _ (Value.str (mk _) _) (Value.int _ _)) _ _ _); refine' item_mk_r (by walk_at "sz") (by walk_at "sz") (by exact List.getElem?_eq_getElem (by walk_at "sz")) ?_ (by with_unfolding_all rfl) (by ((intro _; with_unfolding_all rfl))); intro _ _))
  k_with "call type:list" => ((refine Halt.out ?_))
  k_with "pyIter ref" => ((k_here; refine Halt.out ?_))
  k_with "call builtin:len" => ((k_here; (with_reducible show wpAny _ _ (call (Value.builtin _) [Value.str (mk _) _]) _ _ _); refine len_mk_r (by walk_at "sz") ?_; intro _ _))
  k_with "subscriptTail Name Constant ref int" => ((k_here; refine' item_ledj 0 (by k_asm) (by k_mem) (by rfl) (by decide) (by rfl) ?_ (by with_unfolding_all rfl)))
  intro A h₀ L m s R S F N hret
  obtain ⟨p, loose, mean, mg, mb, dp, un, gd, cn, cs, a, ccd, cl, outer, A₀, base, rfl, B, X, T, hk, hd, hu⟩ := S
  revert X; k_fill; intro X
  (refine' code_defC (binds := [(PySem.Str.ofString "parts", .ref P), (PySem.Str.ofString "name", .str (mk nm) t)]) ?k1 ?k2 ?k3 ?k4 ?k5 ?kA ?kF ?kK ?k6 ?k7 ?k8 ?k9 ?kB ?kD ?_ ?c2 ?c3 ?c4; (case kA => exact rfl); (case kF => exact rfl); (case kK => assumption); (case k1 => k_asm); (case k2 => k_asm); (case k3 => k_asm); (case k4 => k_asm); (case k5 => k_asm); (case k6 => k_is); (case k7 => k_is); (case k8 => ktr_room); (case k9 => exact BindsTo.of_eq rfl); (case kB => exact rfl); (case kD => decide +kernel); (case c2 => exact rfl); (case c3 => exact rfl); (case c4 => exact rfl); k_whole; intro g' L' h' tk' cells' FG' F' N' Y' B' X' T' l1; (try k_lt l1); k_cells Y'; (try simp only [List.cons_append, List.nil_append] at N'); (try dsimp only); (try k_fold))
  rename_i hkITakes051 hkITakes052 hkITakes053 hkITakes054
  revert hpt h5 hnm F N hret B T hk hd hu X FG' F' B' X' T' l1 hkITakes053 hkITakes054 N'
  have hkU0 : Unit := ()
  revert w P pl pt k nm t st h₀ L m s R p loose mean mg mb dp un gd cn cs a ccd cl outer A₀ base g' L' h' tk' hkITakes051 hkITakes052 hkU0
  refine no_implicit_lambda% (hk36 13626847 ?hkdTakes0 ?hkPTakes0 ?hkGTakes0)
  case hkdTakes0 => exact (dWorld, (0 : Nat), [], [], 0, [], (0 : Nat), [], default, (0 : Nat), fun _ => none, {}, fun _ _ => True, default, [], fun _ => none, fun _ => none, fun _ => none, 0, 0, none, ⟨#[]⟩, default, (0 : Nat), .none, [], [], {}, default, default, (0 : Nat), default, 0, dObj, dObj, ())
  refine (?hkFTakes0 : ∀ x0 x1 x2 x3 x4 x5 x6 x7 x8 x9 x10 x11 x12 x13 x14 x15 x16 x17 x18 x19 x20 x21 x22 x23 x24 x25 x26 x27 x28 x29 x30 x31 x32 x33 x34 x35, ?hkPTakes0 x0 x1 x2 x3 x4 x5 x6 x7 x8 x9 x10 x11 x12 x13 x14 x15 x16 x17 x18 x19 x20 x21 x22 x23 x24 x25 x26 x27 x28 x29 x30 x31 x32 x33 x34 x35) _ _ _ _ _ _ _ _ _ _ _ _ _ _ _ _ _ _ _ _ _ _ _ _ _ _ _ _ _ _ _ _ _ _ _ ()
  intro w P pl pt k nm t st h₀ L m s R p loose mean mg mb dp un gd cn cs a ccd cl outer A₀ base g' L' h' tk' _ _ hkU0 hpt h5 hnm F N hret B T hk hd hu X FG' F' B' X' T' l1 _ _ N'
  clear hkU0
  k_steps
  show wpAny _ _ _ _ _ _
  rename News _ _ _ _ => kN
  rename Fr _ _ _ _ => kF
  refine iter_listT (its := pl.toArray) (oA := listOf pl.toArray k) (J := TakesJ nm pt t P (L' + 1 + 1) (L' + 1) pl k st) rfl kF kN (by k_mem) rfl ⟨_, rfl⟩ ⟨_, [_], [0], _, _, _, _, .cons _ _ .nil, by simp, by simp, rfl, rfl, rfl, by assumption, by assumption, by k_ne, by k_ne, rfl⟩ ?turn ?done
  case done =>
    rintro m₁ nw h tk ⟨r, rv, rs, n, oN, oP, vP, hI, hle, hln, hrs, e1, e2, hN, hP, d1, d2, rfl⟩ F2 N2
    rw [List.size_toArray, strsAre_len hpt, List.take_length] at hrs
    clear kN kF
    change Fr g' L' _ _ at F2
    change News g' L' _ _ at N2
    have F3 := fr_eq F2 (m' := fun y => if y = Str.ofString "reach" then some (.ref r) else m₁ y) (by
      intro y
      by_cases g2 : y = Str.ofString "reach"
      · rw [if_pos g2, g2, e2]
      rw [if_neg g2])
    clear F2
    k_steps
    rename News _ _ _ _ => kN8
    rename Fr _ _ _ _ => kF8
    refine hret _ _ _ _ ⟨?_, rfl⟩ kF8 (news_of kN8 fun p hp => by (repeat (first | exact hp | refine .tail _ ?_)))
    rw [any_ofNat, hrs]
  case turn =>
    rintro i v m₁ nw I oI oA' h tk hv ⟨r, rv, rs, n, oN, oP, vP, hI, hle, hln, hrs, e1, e2, hN, hP, d1, d2, rfl⟩ off hax F2 N2
    obtain ⟨x, tx, hx, rfl⟩ : ∃ x tx, pt[i]? = some x ∧ v = .str x tx := strsAre_get2 hpt (by simpa using hv)
    have hx5 := h5 x (List.mem_of_getElem? hx)
    clear kN kF
    change Fr g' L' _ _ at F2
    change News g' L' _ _ at N2
    simp only [List.forall_mem_cons] at off
    obtain ⟨o1, o2, o3, o4, o5⟩ := off
    have F3 := fr_eq F2 (m' := fun y => if y = Str.ofString "reach" then some (.ref r) else m₁ y) (by
      intro y
      by_cases g2 : y = Str.ofString "reach"
      · rw [if_pos g2, g2, e2]
      rw [if_neg g2])
    clear F2
    (try dsimp only at o1 o2 o3 o4)
    replace o1 := neN o1
    replace o2 := neN o2
    replace o3 := neN o3
    replace o4 := neN o4
    rename_i hkITakes133 hkITakes134 hkITakes152 hkITakes153 hkITakes154 hkITakes155 hkITakes156 hkITakes157 hkITakes158
    revert hpt h5 hnm F N hret B T hk hd hu X FG' B' X' T' l1 hkITakes152 hkITakes153 hkITakes156 hI hle hln hrs e1 e2 hN hP d1 d2 hax hx hv hx5 N2 o5 F3 o1 o2 o3 o4
    have hkU0 : Unit := ()
    have hkU1 : Unit := ()
    revert w P pl pt k nm t st h₀ L m s R p loose mean mg mb dp un gd cn cs a ccd cl outer A₀ base g' L' h' tk' hkITakes133 hkITakes134 hkITakes154 hkITakes155 hkITakes157 hkITakes158 i m₁ I oI oA' h tk r rv rs n oN oP vP x tx hkU0 hkU1
    refine no_implicit_lambda% (hk57 1399862 ?hkdTakes1 ?hkPTakes1 ?hkGTakes1)
    case hkdTakes1 => exact (dWorld, (0 : Nat), [], [], 0, [], (0 : Nat), [], default, (0 : Nat), fun _ => none, {}, fun _ _ => True, default, [], fun _ => none, fun _ => none, fun _ => none, 0, 0, none, ⟨#[]⟩, default, (0 : Nat), .none, [], [], {}, default, default, (0 : Nat), default, 0, dObj, dObj, (0 : Nat), default, default, 0, 0, fun _ => none, (0 : Nat), dObj, dObj, default, 0, (0 : Nat), [], [], 0, dObj, dObj, none, ⟨#[]⟩, (0 : Nat), (), ())
    refine (?hkFTakes1 : ∀ x0 x1 x2 x3 x4 x5 x6 x7 x8 x9 x10 x11 x12 x13 x14 x15 x16 x17 x18 x19 x20 x21 x22 x23 x24 x25 x26 x27 x28 x29 x30 x31 x32 x33 x34 x35 x36 x37 x38 x39 x40 x41 x42 x43 x44 x45 x46 x47 x48 x49 x50 x51 x52 x53 x54 x55 x56, ?hkPTakes1 x0 x1 x2 x3 x4 x5 x6 x7 x8 x9 x10 x11 x12 x13 x14 x15 x16 x17 x18 x19 x20 x21 x22 x23 x24 x25 x26 x27 x28 x29 x30 x31 x32 x33 x34 x35 x36 x37 x38 x39 x40 x41 x42 x43 x44 x45 x46 x47 x48 x49 x50 x51 x52 x53 x54 x55 x56) _ _ _ _ _ _ _ _ _ _ _ _ _ _ _ _ _ _ _ _ _ _ _ _ _ _ _ _ _ _ _ (default) (0) _ _ _ (default) _ _ _ _ _ _ _ _ _ _ _ _ _ _ _ _ _ _ () ()
    intro w P pl pt k nm t st h₀ L m s R p loose mean mg mb dp un gd cn cs a ccd cl outer A₀ base g' L' h' tk' _ _ _ _ _ tk i m₁ I oI oA' h tk r rv rs n oN oP vP x tx hkU0 hkU1 hpt h5 hnm F N hret B T hk hd hu X FG' B' X' T' l1 _ _ _ hI hle hln hrs e1 e2 hN hP d1 d2 hax hx hv hx5 N2 o5 F3 o1 o2 o3 o4
    clear hkU0 hkU1
    rcases hx5 with rfl | rfl | rfl | rfl | rfl
    · rcases rs with _ | ⟨q, rs'⟩
      · cases hI
        k_steps
        rename News _ _ _ _ => kN8
        rename Fr _ _ _ _ => kF8
        rename (_ ∧ _) => zz
        refine ⟨.inl rfl, _, _, _, (_, listOf ([] : List Value).toArray 0) :: (L' + 1 + 1, _) :: (L' + 1, oN) :: (P, listOf pl.toArray k) :: st, rfl, kF8, news_of kN8 fun p hp => ?_, ?_, ⟨_, [], [], _, oN, _, _, .nil, by simp, by simp, ?_, ?_, rfl, hN, by assumption, ?_, ?_, rfl⟩⟩
        · simp only [List.cons_append, List.nil_append, List.mem_cons] at hp
          rcases hp with rfl | rfl | rfl | rfl | rfl | rfl | hp
          all_goals first | k_mem | (repeat (first | exact hp | refine .tail _ ?_))
        · simp only [List.forall_mem_cons]
          refine ⟨?_, o2, o3, o4, o5⟩
          k_ne
        · rw [fold_succ hx, ← hrs, stepS]
        · exact e1
        · k_ne
        · k_ne
      · have hq9 := hle q (.head _)
        cases hI
        k_steps
        show wpAny _ _ _ _ _ _
        rename IsRange _ _ _ _ _ _ _ _ => hR
        change IsRange _ _ (q : Int) _ _ _ _ _ at hR
        rename News _ _ _ _ => kN
        rename Fr _ _ _ _ => kF
        refine' list_range_led (a' := q) (n := nm.length + 1 - q) rfl kF kN hR rfl ?r1 ?r2 ?r3 ?_
        case r1 => exact PySem.small_one (by omega) (by omega) (by omega) (by omega)
        case r2 =>
          rw [rangeSize_nat]
          omega
        case r3 => omega
        intro l9 h9 tk9 vs9 k9 F9 N9 l1 hI9
        have hlv := intsAre_len hI9
        simp only [List.length_map, List.length_range'] at hlv
        k_lt l1
        clear kN kF
        k_steps
        rename News _ _ _ _ => kN8
        rename Fr _ _ _ _ => kF8
        refine ⟨.inl rfl, _, _, _, (l9, listOf vs9.toArray k9) :: (L' + 1 + 1, _) :: (L' + 1, oN) :: (P, listOf pl.toArray k) :: st, rfl, kF8, news_of kN8 fun p hp => ?_, ?_, ⟨l9, vs9, List.range' q (nm.length + 1 - q), _, oN, _, _, hI9, ?_, by omega, ?_, ?_, rfl, hN, by assumption, by k_ne, by k_ne, rfl⟩⟩
        · simp only [List.cons_append, List.nil_append, List.mem_cons] at hp
          rcases hp with rfl | rfl | rfl | rfl | rfl | rfl | hp
          all_goals first | k_mem | (repeat (first | exact hp | refine .tail _ ?_))
        · simp only [List.forall_mem_cons]
          refine ⟨?_, o2, o3, o4, o5⟩
          k_ne
        · intro x hx9
          have := (List.mem_range'_1.mp hx9).2
          omega
        · rw [fold_succ hx, ← hrs, stepS]
        · exact e1
    · have hri := intsAre_len hI
      rw [List.length_map] at hri
      k_steps
      rename News _ _ _ _ => kN
      rename Fr _ _ _ _ => kF
      show LCt.CompSrcT _ _ _ _ _ _ _ _ _ _ _ _ _ _ _
      refine LCt.CompSrcT.ledger (its := rv.toArray) rfl kF kN (by k_mem) (by rw [List.size_toArray, sizeLine_eq]; first | exact le_n (by assumption) rfl | omega) fun g9 => ?_
      refine comp_restT (n := rv.toArray.size) (J := fun i ys nw => IntsAre ys ((((rs.take i).filter (fun j => decide (nm[j]? = some 46))).map (· + 1)).map Int.ofNat) ∧ nw = _) ?fin ?turn _ 0 [] _ (Nat.zero_add _) ⟨.nil, rfl⟩
      case fin =>
        rintro ys nw ⟨hys, rfl⟩
        rw [List.size_toArray, hri, List.take_length] at hys
        have hyl := intsAre_len hys
        have hfl := List.length_filter_le (fun j => decide (nm[j]? = some 46)) rs
        simp only [List.length_map] at hyl
        intro D h tk F7 N7 o1D
        obtain ⟨z0, z1, z2, z3, z4, z5, z6, z7⟩ := id o1D
        simp only [LCg.Off1, and_true] at o1D
        k_steps
        rename News _ _ _ _ => kN8
        rename Fr _ _ _ _ => kF8
        refine ⟨.inl rfl, _, _, _, (D, listOf ys.toArray ys.length) :: (L' + 1 + 1, _) :: (L' + 1, oN) :: (P, listOf pl.toArray k) :: st, rfl, kF8, news_of kN8 fun p hp => ?_, ?_, ⟨D, ys, (rs.filter (fun j => decide (nm[j]? = some 46))).map (· + 1), _, oN, _, _, hys, filt_le ?_, by omega, ?_, ?_, rfl, hN, by assumption, Ne.symm z4, Ne.symm z5, rfl⟩⟩
        · simp only [List.cons_append, List.nil_append, List.mem_cons] at hp
          rcases hp with rfl | rfl | rfl | rfl | rfl | rfl | hp
          all_goals first | k_mem | (repeat (first | exact hp | refine .tail _ ?_))
        · simp only [List.forall_mem_cons]
          exact ⟨Ne.symm z1, o2, o3, o4, o5⟩
        · exact fun j hj => lt_of_some hj
        · rw [fold_succ hx, ← hrs, step46]
        · exact e1
      case turn =>
        rintro i2 ys nw hi2 ⟨hys, rfl⟩ v I2 oI2 C oC D m₂ h tk E' hv2 hN2 hx2 F N o32 ne2
        obtain ⟨q, tq, hq, rfl⟩ := intsAre_get hI (by simpa using hv2)
        have hoff := o32
        simp only [LCg.Off3, and_true] at o32
        have hqle := hle q (List.mem_of_getElem? hq)
        k_steps
        all_goals (try (exfalso; (have hlm := len_mk nm); omega))
        all_goals
          rename News _ _ _ _ => kN9
          rename Fr _ _ _ _ => kF9
          refine LCg.CompEnd.intro kF9 kN9 _ (fun p hp => by (repeat (first | exact hp | refine .tail _ ?_))) hoff (show LCg.SrcAt g' r rv.toArray _ from Or.inr ⟨_, by k_mem, rfl, _, rfl⟩) ⟨?_, rfl⟩
          rw [filt_succ hq]
          (rename ((_ == _) = _) => hb; rw [slice_one (by omega), lit5b, one_at, Int.toNat_natCast] at hb)
          first
            | (rw [if_pos (by simp [*])]; exact intsAre_snoc hys)
            | (rw [if_neg (by simp [*])]; rw [List.append_nil]; exact hys)
    · have hri := intsAre_len hI
      rw [List.length_map] at hri
      k_steps
      rename News _ _ _ _ => kN
      rename Fr _ _ _ _ => kF
      show LCt.CompSrcT _ _ _ _ _ _ _ _ _ _ _ _ _ _ _
      refine LCt.CompSrcT.ledger (its := rv.toArray) rfl kF kN (by k_mem) (by rw [List.size_toArray, sizeLine_eq]; first | exact le_n (by assumption) rfl | omega) fun g9 => ?_
      refine comp_restT (n := rv.toArray.size) (J := fun i ys nw => IntsAre ys ((((rs.take i).filter (fun j => decide (j < nm.length) && !decide (nm[j]? = some 97))).map (· + 1)).map Int.ofNat) ∧ nw = _) ?fin ?turn _ 0 [] _ (Nat.zero_add _) ⟨.nil, rfl⟩
      case fin =>
        rintro ys nw ⟨hys, rfl⟩
        rw [List.size_toArray, hri, List.take_length] at hys
        have hyl := intsAre_len hys
        have hfl := List.length_filter_le (fun j => decide (j < nm.length) && !decide (nm[j]? = some 97)) rs
        simp only [List.length_map] at hyl
        intro D h tk F7 N7 o1D
        obtain ⟨z0, z1, z2, z3, z4, z5, z6, z7⟩ := id o1D
        simp only [LCg.Off1, and_true] at o1D
        k_steps
        rename News _ _ _ _ => kN8
        rename Fr _ _ _ _ => kF8
        refine ⟨.inl rfl, _, _, _, (D, listOf ys.toArray ys.length) :: (L' + 1 + 1, _) :: (L' + 1, oN) :: (P, listOf pl.toArray k) :: st, rfl, kF8, news_of kN8 fun p hp => ?_, ?_, ⟨D, ys, (rs.filter (fun j => decide (j < nm.length) && !decide (nm[j]? = some 97))).map (· + 1), _, oN, _, _, hys, filt_le ?_, by omega, ?_, ?_, rfl, hN, by assumption, Ne.symm z4, Ne.symm z5, rfl⟩⟩
        · simp only [List.cons_append, List.nil_append, List.mem_cons] at hp
          rcases hp with rfl | rfl | rfl | rfl | rfl | rfl | hp
          all_goals first | k_mem | (repeat (first | exact hp | refine .tail _ ?_))
        · simp only [List.forall_mem_cons]
          exact ⟨Ne.symm z1, o2, o3, o4, o5⟩
        · exact fun j hj => of_decide_eq_true (Bool.and_eq_true_iff.mp hj).1
        · rw [fold_succ hx, ← hrs, stepN]
        · exact e1
      case turn =>
        rintro i2 ys nw hi2 ⟨hys, rfl⟩ v I2 oI2 C oC D m₂ h tk E' hv2 hN2 hx2 F N o32 ne2
        obtain ⟨q, tq, hq, rfl⟩ := intsAre_get hI (by simpa using hv2)
        have hoff := o32
        simp only [LCg.Off3, and_true] at o32
        have hqle := hle q (List.mem_of_getElem? hq)
        k_steps
        all_goals (try (exfalso; (have hlm := len_mk nm); omega))
        all_goals
          rename News _ _ _ _ => kN9
          rename Fr _ _ _ _ => kF9
          refine LCg.CompEnd.intro kF9 kN9 _ (fun p hp => by (repeat (first | exact hp | refine .tail _ ?_))) hoff (show LCg.SrcAt g' r rv.toArray _ from Or.inr ⟨_, by k_mem, rfl, _, rfl⟩) ⟨?_, rfl⟩
          rw [filt_succ hq]
          (try (have hlt : q < nm.length := (by omega); have hgq : nm[q]? = some nm[q] := List.getElem?_eq_getElem hlt; rename (List.isEmpty _ = _) => hb; rw [lit5a, in_two (l := [97]) rfl] at hb; simp at hb)); (try (have hlt : ¬ q < nm.length := (by omega)))
          first
            | (rw [if_pos (by simp [*])]; exact intsAre_snoc hys)
            | (rw [if_neg (by simp [*])]; rw [List.append_nil]; exact hys)
    · have hri := intsAre_len hI
      rw [List.length_map] at hri
      k_steps
      rename News _ _ _ _ => kN
      rename Fr _ _ _ _ => kF
      show LCt.CompSrcT _ _ _ _ _ _ _ _ _ _ _ _ _ _ _
      refine LCt.CompSrcT.ledger (its := rv.toArray) rfl kF kN (by k_mem) (by rw [List.size_toArray, sizeLine_eq]; first | exact le_n (by assumption) rfl | omega) fun g9 => ?_
      refine comp_restT (n := rv.toArray.size) (J := fun i ys nw => IntsAre ys ((((rs.take i).filter (fun j => decide (j < nm.length))).map (· + 1)).map Int.ofNat) ∧ nw = _) ?fin ?turn _ 0 [] _ (Nat.zero_add _) ⟨.nil, rfl⟩
      case fin =>
        rintro ys nw ⟨hys, rfl⟩
        rw [List.size_toArray, hri, List.take_length] at hys
        have hyl := intsAre_len hys
        have hfl := List.length_filter_le (fun j => decide (j < nm.length)) rs
        simp only [List.length_map] at hyl
        intro D h tk F7 N7 o1D
        obtain ⟨z0, z1, z2, z3, z4, z5, z6, z7⟩ := id o1D
        simp only [LCg.Off1, and_true] at o1D
        k_steps
        rename News _ _ _ _ => kN8
        rename Fr _ _ _ _ => kF8
        refine ⟨.inl rfl, _, _, _, (D, listOf ys.toArray ys.length) :: (L' + 1 + 1, _) :: (L' + 1, oN) :: (P, listOf pl.toArray k) :: st, rfl, kF8, news_of kN8 fun p hp => ?_, ?_, ⟨D, ys, (rs.filter (fun j => decide (j < nm.length))).map (· + 1), _, oN, _, _, hys, filt_le ?_, by omega, ?_, ?_, rfl, hN, by assumption, Ne.symm z4, Ne.symm z5, rfl⟩⟩
        · simp only [List.cons_append, List.nil_append, List.mem_cons] at hp
          rcases hp with rfl | rfl | rfl | rfl | rfl | rfl | hp
          all_goals first | k_mem | (repeat (first | exact hp | refine .tail _ ?_))
        · simp only [List.forall_mem_cons]
          exact ⟨Ne.symm z1, o2, o3, o4, o5⟩
        · exact fun j hj => of_decide_eq_true hj
        · rw [fold_succ hx, ← hrs, stepQ]
        · exact e1
      case turn =>
        rintro i2 ys nw hi2 ⟨hys, rfl⟩ v I2 oI2 C oC D m₂ h tk E' hv2 hN2 hx2 F N o32 ne2
        obtain ⟨q, tq, hq, rfl⟩ := intsAre_get hI (by simpa using hv2)
        have hoff := o32
        simp only [LCg.Off3, and_true] at o32
        have hqle := hle q (List.mem_of_getElem? hq)
        k_steps
        all_goals (try (exfalso; (have hlm := len_mk nm); omega))
        all_goals
          rename News _ _ _ _ => kN9
          rename Fr _ _ _ _ => kF9
          refine LCg.CompEnd.intro kF9 kN9 _ (fun p hp => by (repeat (first | exact hp | refine .tail _ ?_))) hoff (show LCg.SrcAt g' r rv.toArray _ from Or.inr ⟨_, by k_mem, rfl, _, rfl⟩) ⟨?_, rfl⟩
          rw [filt_succ hq]
          (first | (have hlt : q < nm.length := (by omega)) | (have hlt : ¬ q < nm.length := (by omega)))
          first
            | (rw [if_pos (by simp [*])]; exact intsAre_snoc hys)
            | (rw [if_neg (by simp [*])]; rw [List.append_nil]; exact hys)
    · have hri := intsAre_len hI
      rw [List.length_map] at hri
      k_steps
      rename News _ _ _ _ => kN
      rename Fr _ _ _ _ => kF
      show LCt.CompSrcT _ _ _ _ _ _ _ _ _ _ _ _ _ _ _
      refine LCt.CompSrcT.ledger (its := rv.toArray) rfl kF kN (by k_mem) (by rw [List.size_toArray, sizeLine_eq]; first | exact le_n (by assumption) rfl | omega) fun g9 => ?_
      refine comp_restT (n := rv.toArray.size) (J := fun i ys nw => IntsAre ys ((((rs.take i).filter (fun j => decide (nm[j]? = some 34))).map (· + 1)).map Int.ofNat) ∧ nw = _) ?fin ?turn _ 0 [] _ (Nat.zero_add _) ⟨.nil, rfl⟩
      case fin =>
        rintro ys nw ⟨hys, rfl⟩
        rw [List.size_toArray, hri, List.take_length] at hys
        have hyl := intsAre_len hys
        have hfl := List.length_filter_le (fun j => decide (nm[j]? = some 34)) rs
        simp only [List.length_map] at hyl
        intro D h tk F7 N7 o1D
        obtain ⟨z0, z1, z2, z3, z4, z5, z6, z7⟩ := id o1D
        simp only [LCg.Off1, and_true] at o1D
        k_steps
        rename News _ _ _ _ => kN8
        rename Fr _ _ _ _ => kF8
        refine ⟨.inl rfl, _, _, _, (D, listOf ys.toArray ys.length) :: (L' + 1 + 1, _) :: (L' + 1, oN) :: (P, listOf pl.toArray k) :: st, rfl, kF8, news_of kN8 fun p hp => ?_, ?_, ⟨D, ys, (rs.filter (fun j => decide (nm[j]? = some 34))).map (· + 1), _, oN, _, _, hys, filt_le ?_, by omega, ?_, ?_, rfl, hN, by assumption, Ne.symm z4, Ne.symm z5, rfl⟩⟩
        · simp only [List.cons_append, List.nil_append, List.mem_cons] at hp
          rcases hp with rfl | rfl | rfl | rfl | rfl | rfl | hp
          all_goals first | k_mem | (repeat (first | exact hp | refine .tail _ ?_))
        · simp only [List.forall_mem_cons]
          exact ⟨Ne.symm z1, o2, o3, o4, o5⟩
        · exact fun j hj => lt_of_some hj
        · rw [fold_succ hx, ← hrs, step34]
        · exact e1
      case turn =>
        rintro i2 ys nw hi2 ⟨hys, rfl⟩ v I2 oI2 C oC D m₂ h tk E' hv2 hN2 hx2 F N o32 ne2
        obtain ⟨q, tq, hq, rfl⟩ := intsAre_get hI (by simpa using hv2)
        have hoff := o32
        simp only [LCg.Off3, and_true] at o32
        have hqle := hle q (List.mem_of_getElem? hq)
        k_steps
        all_goals (try (exfalso; (have hlm := len_mk nm); omega))
        all_goals
          rename News _ _ _ _ => kN9
          rename Fr _ _ _ _ => kF9
          refine LCg.CompEnd.intro kF9 kN9 _ (fun p hp => by (repeat (first | exact hp | refine .tail _ ?_))) hoff (show LCg.SrcAt g' r rv.toArray _ from Or.inr ⟨_, by k_mem, rfl, _, rfl⟩) ⟨?_, rfl⟩
          rw [filt_succ hq]
          (rename ((_ == _) = _) => hb; rw [slice_one (by omega), lit5c, one_at, Int.toNat_natCast] at hb)
          first
            | (rw [if_pos (by simp [*])]; exact intsAre_snoc hys)
            | (rw [if_neg (by simp [*])]; rw [List.append_nil]; exact hys)
end Mine
end
section
open PySem PySem.W PyProof.Rows PySem.Builtin PySem.Builtin.Str PySem.Spec PySem.Calls
set_option linter.unusedSimpArgs false
namespace Mine
def takenS (res : List Str) (zs : List Int) : List Str := ((zs.map wordL).filter fun nm => decide (nm.length ∈ res.foldl (fun rs p => stepR nm p rs) [0])).map mk
theorem sg_memn : ∀ n : Nat, n < 7 → sg n ∈ [97, 98, 46, 34, 32, 92, 10] := by decide +kernel
theorem sg_mem {k : Int} (h0 : 0 ≤ k) (h7 : k < 7) : sg k ∈ [97, 98, 46, 34, 32, 92, 10] := by
  obtain ⟨n, rfl⟩ := Int.eq_ofNat_of_zero_le h0
  exact sg_memn n (Int.ofNat_lt.mp h7)
theorem m7 (k : Int) : sg (k.fmod 7) ∈ [97, 98, 46, 34, 32, 92, 10] := sg_mem (Int.fmod_nonneg_of_pos _ (by decide)) (Int.fmod_lt_of_pos _ (by decide))
theorem words_shape (z : Int) : ∃ x y u : Nat, x ∈ [97, 98, 46, 34, 32, 92, 10] ∧ y ∈ [97, 98, 46, 34, 32, 92, 10] ∧ u ∈ [97, 98, 46, 34, 32, 92, 10] ∧ (wordL z = [x] ∨ wordL z = [x, y] ∨ wordL z = [x, y, u]) := by
  refine ⟨sg ((z.fdiv 3).fmod 7), sg ((z.fdiv 21).fmod 7), sg ((z.fdiv 147).fmod 7), m7 _, m7 _, m7 _, ?_⟩
  have h1 := Int.fmod_nonneg_of_pos z (show (0 : Int) < 3 by decide)
  have h2 := Int.fmod_lt_of_pos z (show (0 : Int) < 3 by decide)
  have h3 : z.fmod 3 = 0 ∨ z.fmod 3 = 1 ∨ z.fmod 3 = 2 := by omega
  unfold wordL
  rcases h3 with e | e | e
  · rw [e]; exact .inl rfl
  · rw [e]; exact .inr (.inl rfl)
  · rw [e]; exact .inr (.inr rfl)
def takesB (res : List Str) (nm : List Nat) : Bool := decide (nm.length ∈ res.foldl (fun rs p => stepR nm p rs) [0])
abbrev sgs : List Nat := [97, 98, 46, 34, 32, 92, 10]
def Short (f g : List Nat → Bool) : Prop := (∀ x ∈ sgs, f [x] = g [x]) ∧ (∀ x ∈ sgs, ∀ y ∈ sgs, f [x, y] = g [x, y]) ∧ ∀ x ∈ sgs, ∀ y ∈ sgs, ∀ u ∈ sgs, f [x, y, u] = g [x, y, u]
theorem short2 : Short (takesB [Str.ofString "*"]) (fitsB [Str.ofString "any"]) := ⟨by decide +kernel, by decide +kernel, by decide +kernel⟩
theorem short4 : Short (takesB [Str.ofString "?", Str.ofString "*"]) (fitsB [Str.ofString "one", Str.ofString "any"]) := ⟨by decide +kernel, by decide +kernel, by decide +kernel⟩
theorem short1 : Short (takesB [Str.ofString "*", Str.ofString "\\."]) (fitsB [Str.ofString "any", Str.ofString "."]) := ⟨by decide +kernel, by decide +kernel, by decide +kernel⟩
theorem short5 : Short (takesB [Str.ofString "*", Str.ofString "\"", Str.ofString "*"]) (fitsB [Str.ofString "any", Str.ofString "\"", Str.ofString "any"]) := ⟨by decide +kernel, by decide +kernel, by decide +kernel⟩
theorem short3 : Short (takesB [Str.ofString "[^a]", Str.ofString "*"]) (fitsB [Str.ofString "b.\" \\\n", Str.ofString "any"]) := ⟨by decide +kernel, by decide +kernel, by decide +kernel⟩
theorem taken_due {res its : List Str} (h : Short (takesB res) (fitsB its)) (zs : List Int) : takenS res zs = dueT its zs := by
  unfold takenS dueT
  congr 1
  refine List.filter_congr fun nm hm => ?_
  obtain ⟨z, -, rfl⟩ := List.mem_map.mp hm
  obtain ⟨x, y, u, hx, hy, hu, e | e | e⟩ := words_shape z
  · rw [e]; exact h.1 x hx
  · rw [e]; exact h.2.1 x hx y hy
  · rw [e]; exact h.2.2 x hx y hy u hu
theorem nlt_trans {a b c : Str} (h1 : ltCps b.cps.toList a.cps.toList = false) (h2 : ltCps c.cps.toList b.cps.toList = false) : ltCps c.cps.toList a.cps.toList = false := by
  rw [ltCps_eq, decide_eq_false_iff_not] at *
  exact List.not_lt.mpr (List.le_trans (List.not_lt.mp h1) (List.not_lt.mp h2))
theorem rising_pw : ∀ (l : List Str) (p : Str), risingS p l = true → (p :: l).Pairwise (fun a b => ltCps b.cps.toList a.cps.toList = false)
  | [], p, _ => by simp
  | x :: r, p, h => by
    have h' : (!ltCps x.cps.toList p.cps.toList && risingS x r) = true := h
    rw [Bool.and_eq_true] at h'
    have h1 : ltCps x.cps.toList p.cps.toList = false := by simpa using h'.1
    have ih := rising_pw r x h'.2
    refine List.pairwise_cons.mpr ⟨fun b hb => ?_, ih⟩
    rcases List.mem_cons.mp hb with rfl | hb
    · exact h1
    · exact nlt_trans h1 (List.rel_of_pairwise_cons ih hb)
theorem sorted_pw : ∀ (l : List Str), sortedS l = true → l.Pairwise (fun a b => ltCps b.cps.toList a.cps.toList = false)
  | [], _ => .nil
  | x :: r, h => rising_pw r x h
theorem sorted_uniq {a b : List Str} (h : a.Perm b) (h1 : sortedS a = true) (h2 : sortedS b = true) : a = b := by
  refine List.Perm.eq_of_pairwise (fun x y _ _ e1 e2 => ?_) (sorted_pw a h1) (sorted_pw b h2) h
  rw [ltCps_eq, decide_eq_false_iff_not] at e1 e2
  have := List.le_antisymm (List.not_lt.mp e1) (List.not_lt.mp e2)
  obtain ⟨⟨x⟩⟩ := x
  obtain ⟨⟨y⟩⟩ := y
  simp at this
  rw [this]
theorem cnt_pos {r b : Nat} (h : 0 < b) : r - (b - 1) = r + 1 - b ∧ b - 1 - r = b - (r + 1) := by
  cases b with
  | zero => cases h
  | succ b => exact ⟨(Nat.add_sub_add_right r 1 b).symm, (Nat.add_sub_add_right b 1 r).symm⟩
theorem diff_count (x : Str) : ∀ (es a b : List Str), (diffL es (a, b)).1.count x = a.count x + (es.count x - b.count x) ∧ (diffL es (a, b)).2.count x = b.count x - es.count x
  | [], a, b => by simp [diffL]
  | y :: r, a, b => by
    rw [diffL]
    by_cases hy : y ∈ b
    · rw [if_pos hy]
      obtain ⟨h1, h2⟩ := diff_count x r a (b.erase y)
      rw [h1, h2, List.count_erase, List.count_cons]
      by_cases e : y = x
      · subst e
        have := List.count_pos_iff.mpr hy
        simp
        exact cnt_pos this
      · simp [e]
    · rw [if_neg hy]
      obtain ⟨h1, h2⟩ := diff_count x r (a ++ [y]) b
      show (diffL r (a ++ [y], b)).1.count x = _ ∧ (diffL r (a ++ [y], b)).2.count x = _
      rw [h1, h2, List.count_append, List.count_cons]
      by_cases e : y = x
      · subst e
        have := List.count_eq_zero.mpr hy
        simp [this]
        exact Nat.add_right_comm _ _ _
      · simp [e]
theorem more_count (x : Str) (ps us : List Str) : ∀ i, (moreUpTo ps us i).count x = (ps.take i).count x - us.count x
  | 0 => by simp [moreUpTo]
  | i + 1 => by
    rw [moreUpTo, List.count_append, more_count x ps us i, List.take_add_one]
    cases hp : ps[i]? with
    | none => simp
    | some y =>
      have e3 : (if us.count y < (ps.take i ++ (some y).toList).count y then [y] else ([] : List Str)).count x = if y = x ∧ us.count y < (ps.take i).count y + 1 then 1 else 0 := by
        have e4 : (ps.take i ++ (some y).toList).count y = (ps.take i).count y + 1 := by
          rw [List.count_append]
          show _ + List.count y [y] = _
          simp
        rw [e4]
        by_cases h : us.count y < (ps.take i).count y + 1
        · rw [if_pos h]
          by_cases e : y = x
          · rw [if_pos ⟨e, h⟩, e]
            simp
          · rw [if_neg (fun q => e q.1)]
            simp [e]
        · rw [if_neg h, if_neg (fun q => h q.2)]
          rfl
      show _ + (if us.count y < (ps.take i ++ (some y).toList).count y then [y] else ([] : List Str)).count x = _
      rw [e3, List.count_append]
      show _ = _ + List.count x [y] - _
      by_cases e : y = x
      · subst e
        simp only [true_and, List.count_singleton_self]
        split <;> omega
      · rw [if_neg (fun q => e q.1)]
        simp [e]
theorem diff_more1 (ps us : List Str) : (diffL ps.reverse ([], us)).1.Perm (moreUpTo ps us ps.length) := by
  refine List.perm_iff_count.mpr fun x => ?_
  rw [(diff_count x _ _ _).1, more_count, List.take_length, List.count_reverse]
  simp
theorem diff_more2 (ps us : List Str) : (diffL ps.reverse ([], us)).2.Perm (moreUpTo us ps us.length) := by
  refine List.perm_iff_count.mpr fun x => ?_
  rw [(diff_count x _ _ _).2, more_count, List.take_length, List.count_reverse]
end Mine
end
section
open PySem PySem.W PyProof.Rows PyProof.Rows.LCg PyProof.Rows.LCt PySem.Spec PySem.Calls PyProof.Rows.LCp
namespace Mine
section
variable {prog : Program} {w : World} {A : Around} {E : Value → Shared → Prop} {s : Shared} {h₀ : Heap} {L : Addr} {m : Str → Option Value} {env : Env}
theorem assign_two {elts : List Expr} {k : Nat} {pos : Pos} {l : Addr} {items : Array Value} {Q : Unit → Shared → Prop} (hh : A.handled = none) (hl : s.heap.IsList l items) (hn : (assignEach elts env).length = items.size)
    (hstar : (assignEach elts env).findIdx? (·.1) = none) (h : ∀ h', Heap.ExtBut s.heap.objs.size s.heap h' → wpAny (model prog w) A (assignInOrder ((assignEach elts env).map (·.2)) items.toList) Q E { s with heap := h' }) :
    wpAny (model prog w) A (assign (.Tuple elts k pos) env (.ref l)) Q E s := by
  rw [assign_Tuple]
  refine wpAny_bind (wpAny_standAt ?_)
  unfold unpack
  rw [hn, hstar]
  exact wpAny_bind (wpAny_holding (kun_itemsOf hh hl h))
inductive TwoItem (prog : Program) (w : World) (A : Around) (h₀ : Heap) (L : Addr) (m : Str → Option Value) (env : Env) (elt : Expr) (x x₂ : Str) (scope : Scope) (cl : List (Str × Addr)) (Jn : List Value → Led → Prop) (ax : Addr) (oA : Obj) (s₁ : Shared) (ys : List Value) (nw : Led) (v : Value) : Prop
  | intro : ∀ (t : Addr) (ot : Obj) (v₁ v₂ : Value) (nt : Nat), v = .ref t → (t, ot) ∈ nw → ot.cls = .type "list" → ot.data = .seq #[v₁, v₂] nt →
        (∀ I oI C oC D m₂ h tk (E' : Value → Shared → Prop), NsObj oC m₂ → m₂ x = some v₁ → m₂ x₂ = some v₂ → Fr h₀ L h m → News h₀ L h ((I, oI) :: (C, oC) :: (D, lst ys) :: nw) → Off3 I C D nw → ((@Ne Nat I C) ∧ (@Ne Nat I D) ∧ (@Ne Nat C D)) →
        wpAny (model prog w) A (eval elt (compEnvC scope cl C env)) (CompEnd h₀ L m { s₁ with heap := h, toks := tk } I oI C oC D (lst ys) (fun nw => (ax, oA) ∈ nw) (fun y nw' => Jn (ys ++ [y]) nw')) E' { s₁ with heap := h, toks := tk }) → TwoItem prog w A h₀ L m env elt x x₂ scope cl Jn ax oA s₁ ys nw v
inductive TwoSrc (prog : Program) (w : World) (A : Around) (h₀ : Heap) (L : Addr) (m : Str → Option Value) (env : Env) (elt : Expr) (x x₂ y : Str) (scope : Scope) (cl : List (Str × Addr)) (J : Nat → List Value → Led → Prop) (Q : Flow → Shared → Prop) (v : Value) (s₁ : Shared) : Prop
  | intro : ∀ ax oA its news, v = .ref ax → Fr h₀ L s₁.heap m → News h₀ L s₁.heap news → (ax, oA) ∈ news → oA.cls = .type "list" → (∃ n, oA.data = .seq its n) → its.size ≤ sizeLine → J 0 [] news →
      (∀ i ys nw v, i < its.size → J i ys nw → its[i]? = some v → TwoItem prog w A h₀ L m env elt x x₂ scope cl (J (i + 1)) ax oA s₁ ys nw v) →
      (∀ ys nw, J its.size ys nw → FinA h₀ L m s₁ y Q ys nw) → TwoSrc prog w A h₀ L m env elt x x₂ y scope cl J Q v s₁
inductive TwoAt (h₀ : Heap) (L : Addr) (m : Str → Option Value) (J : Nat → List Value → Led → Prop) (I ax D C : Addr) (oA : Obj) (its : Array Value) (s₁ : Shared) (k : Nat) (s' : Shared) : Prop
  | intro : ∀ h' tk i ys m₂ nw, s' = { s₁ with heap := h', toks := tk } → k + i = its.size → ys.length = i → (h'.IsListIter I ax i ∧ h'.IsList ax its) → Fr h₀ L h' m → h'.Ns C m₂ →
      News h₀ L h' ((D, lst ys) :: nw) → Off3 I C D nw → (ax, oA) ∈ nw → J i ys nw → TwoAt h₀ L m J I ax D C oA its s₁ k s'
/-- a comprehension `[.. for x, x₂ in a list of two-item lists]`, stored in a local name, by an invariant of its turns -/
theorem Assign_ListComp_two {elt iter : Expr} {x x₂ y : Str} {px px₂ tp py : Pos} {tk} {scope : Scope} {cl : List (Str × Addr)} {pos spos : Pos} {Q : Flow → Shared → Prop} (F₀ : Fr h₀ L s.heap m) (hLe : env.locals = L) (J : Nat → List Value → Led → Prop)
    (hsw : swapsWith (.ListComp elt [⟨.Tuple [.Name x px, .Name x₂ px₂] tk tp, iter, [], 0⟩] scope pos) (some (.Name y py)) spos.line env = pure true)
    (hclos : closureFor scope env = pure cl) (hcell : ∀ z ∈ scope.names, z.2 ≠ .cell) (hkind : scope.kind = .function)
    (hnames : ∀ z ∈ scope.names, z.2 = .local → scope.names.lookup z.1 = some .local) (hx : scope.names.lookup x = some .local) (hx₂ : scope.names.lookup x₂ = some .local) (hxx : x ≠ x₂)
    (hy : env.kindOf y = some .local) (hp : (env.scope.kind == .class || (env.scope.kind == .module && env.locals != env.globals)) = false) (hs : ∀ x, foldedSetIterable iter env x = pure x) (hh : A.handled = none)
    (h : wpAny (model prog w) A (eval iter env) (TwoSrc prog w A h₀ L m env elt x x₂ y scope cl J Q) E s) :
    wpAny (model prog w) A (exec (.Assign [.Name y py] (.ListComp elt [⟨.Tuple [.Name x px, .Name x₂ px₂] tk tp, iter, [], 0⟩] scope pos) spos) env) Q E s := by
  subst hLe
  rw [exec_Assign_Name_used _ _ _ _ hsw]
  refine wpAny_bind (wpAny_standAt (wpAny_bind ?_))
  show wpAny _ A (do let _ ← comprehension (.ListComp elt [⟨.Tuple [.Name x px, .Name x₂ px₂] tk tp, iter, [], 0⟩] scope pos) scope env _ (newList []) false (eval iter env) (some (assign (.Name y py) env))) _ _ s
  refine wpAny_bind (wpAny_mono (wpAny_comprehension_free (use := some (assign (.Name y py) env)) (Q := fun _ s' => Q .next s') rfl hs hclos hkind hnames
    (wpAny_mono h (fun xv s₁ h₁ => ?_) fun _ _ e => e)) (fun _ s' hq => wpAny_pure (wpAny_pure hq)) fun _ _ e => e)
  clear h hs hsw F₀
  obtain ⟨ax, oA, its, news, rfl, F, N, hm, hoc, hod, hsz, j0, turn, fin⟩ := h₁
  have hl : s₁.heap.IsList ax its := ⟨oA, (N _ hm).1, hoc, hod⟩
  have hlt : ax < s₁.heap.objs.size := Heap.lt_size (N _ hm).1
  refine wpAny_pyIter_list hl ?_
  generalize hI : s₁.heap.objs.size = I at *
  generalize hg : s₁.heap.push _ = g
  have hgI : g.IsListIter I ax 0 := by subst hg; exact ⟨_, hI ▸ Heap.get?_push_size _ rfl, rfl, rfl⟩
  have hgl : g.IsList ax its := by subst hg; exact hl.push _
  have hgs : g.objs.size = I + 1 := by subst hg; rw [Heap.size_push, hI]
  have up : ∀ b o, s₁.heap.get? b = some o → g.get? b = some o := fun b o e => by subst hg; exact Heap.get?_push_of_some _ e
  have hIn : h₀.get? I = none := hI ▸ next_is_new F
  have Fg := F.keeps up
  have Ng := N.grown up
  have hIL : env.locals ≠ I := Nat.ne_of_lt (hI ▸ F.ns.lt)
  have offI : ∀ p ∈ news, p.1 ≠ I := fun p hp => Nat.ne_of_lt (hI ▸ Heap.lt_size (N p hp).1)
  have W := Walks.list (prog := prog) (w := w) hh I ax (Nat.ne_of_lt hlt) its
  refine wpAny_newObj_type (wpAny_newFunctionEnv hcell (by intro y hy; simp at hy) (fun h₁ hns₁ hsb₁ => ?_) hkind)
  dsimp only at hns₁ hsb₁ ⊢
  generalize hH2 : g.push { cls := .type "list", dict := none, data := .seq ([] : List Value).toArray } = H2 at hns₁ hsb₁ ⊢
  have hC : H2.objs.size = g.objs.size + 1 := by rw [← hH2, Heap.size_push]
  have gH : ∀ b o, g.get? b = some o → H2.get? b = some o := fun b o e => hH2 ▸ Heap.get?_push_of_some _ e
  have hHD : H2.get? g.objs.size = some (lst []) := hH2 ▸ Heap.get?_push_size _ rfl
  clear hH2
  obtain ⟨D, hDe⟩ : ∃ D, g.objs.size = D := ⟨_, rfl⟩
  obtain ⟨C, hCe⟩ : ∃ C, H2.objs.size = C := ⟨_, rfl⟩
  rw [hDe] at hHD hC ⊢
  rw [hCe] at hC hns₁ hsb₁ ⊢
  have eD : @Eq Nat D (I + 1) := hDe.symm.trans hgs
  have eC : @Eq Nat C (D + 1) := hC
  have hID : @Ne Nat I D := by omega
  have hIC : @Ne Nat I C := by omega
  have hCD : @Ne Nat C D := by omega
  have lower : ∀ b o, g.get? b = some o → @Ne Nat b C ∧ @Ne Nat b D := fun b o e => by
    have q : @LT.lt Nat _ b D := hDe ▸ Heap.lt_size e
    exact ⟨by omega, by omega⟩
  have new0 : ∀ b, @LE.le Nat _ D b → h₀.get? b = none := fun b hb => by
    cases e : h₀.get? b with
    | none => rfl
    | some o =>
      have q : @LT.lt Nat _ b D := hDe ▸ Heap.lt_size (Fg.keep b o e)
      omega
  have hD₀ := new0 D (Nat.le_refl _)
  have hC₀ := new0 C (by omega)
  have hLD : @LT.lt Nat _ env.locals D := hDe ▸ Fg.ns.lt
  have hDL : @Ne Nat D env.locals := by omega
  have hCL : @Ne Nat C env.locals := by omega
  have up1 : ∀ b o, g.get? b = some o → h₁.get? b = some o := fun b o e => hsb₁.extBut b o (lower b o e).1 (Heap.get?_push_of_some _ (gH b o e))
  have hfp : ∀ b ∈ [I, ax], b ≠ C ∧ b ≠ D := fun b hb => by
    rcases List.mem_cons.mp hb with rfl | hb
    · exact ⟨hIC, hID⟩
    · rw [List.mem_singleton.mp hb]
      obtain ⟨o, e, _⟩ := hgl
      exact lower _ _ e
  have N₁ : News h₀ env.locals h₁ ((D, lst []) :: news) := fun p hp => by
    rcases List.mem_cons.mp hp with rfl | hp
    · exact ⟨hsb₁.extBut _ _ (Ne.symm hCD) (Heap.get?_push_of_some _ hHD), hDL, hD₀⟩
    · exact ⟨up1 _ _ (Ng p hp).1, (Ng p hp).2⟩
  have off₀ : Off3 I C D news := Off3.of fun p hp => ⟨offI p hp, lower _ _ (Ng p hp).1⟩
  have st₁ : h₁.IsListIter I ax 0 ∧ h₁.IsList ax its := W.frame _ _ _ ⟨hgI, hgl⟩ fun b _ o e => up1 b o e
  have F₁ : Fr h₀ env.locals h₁ m := Fg.keeps up1
  obtain ⟨m₁, hn₁⟩ : ∃ m₁, h₁.Ns C m₁ := ⟨_, hns₁⟩
  clear N Ng Fg F up1 lower gH hHD hns₁ hsb₁ new0 hl hlt
  have loop : codeAny (model prog w) A (.compLoop (.ListComp elt [⟨.Tuple [.Name x px, .Name x₂ px₂] tk tp, iter, [], 0⟩] scope pos) 0 (.ref I) (.ref D) (compEnvC scope cl C env))
      (compPost (model prog w) A E (some (assign (.Name y py) env)) (fun _ s' => Q .next s') (.ref D) C) { s₁ with heap := h₁, toks := s₁.toks + 0 } := by
    refine codeAny_compLoop_pair (TwoAt h₀ env.locals m J I ax D C oA its s₁) ?_ its.size ⟨h₁, _, 0, [], m₁, news, rfl, rfl, rfl, st₁, F₁, hn₁, N₁, off₀, hm, j0⟩
    rintro k s' ⟨h', tk', i, ys, m₂, nw, rfl, hki, hyl, st, F', hn, N', off, hm', hJ⟩
    have o3 := off.mem
    by_cases hlt : i < its.size
    · refine W.item i _ _ _ hlt st fun v h₂ tk₂ hv st₂ hk₂ => ?_
      obtain ⟨t, ot, v₁, v₂, nt, rfl, hmt, hct, hdt, turn'⟩ := turn i ys nw v hlt hJ hv
      have N₂ : News h₀ env.locals h₂ ((D, lst ys) :: nw) := news_but N' hk₂ fun p hp => by
        rcases List.mem_cons.mp hp with rfl | hp
        · exact Ne.symm hID
        · exact (o3 p hp).1
      have ht : h₂.IsList t #[v₁, v₂] := ⟨ot, (N₂ _ (.tail _ hmt)).1, hct, nt, hdt⟩
      refine wpAny_letOwnedTupleGo_listiter st₂.1 (assign_two hh ht rfl rfl fun h₃ he => ?_)
      have up3 : ∀ b o, h₂.get? b = some o → h₃.get? b = some o := fun b o e => he b o (Nat.ne_of_lt (Heap.lt_size e)) e
      refine assignInOrder_cons (wpAny_assign_Name (wpAny_storeName_local (lookup_relabel_local hx) ((hn.at' fun o e => hk₂ _ o (by simpa using Ne.symm hIC) e).at' fun o e => up3 _ o e) (fun h₄ hn₄ hs₄ => ?_) (by simp [compEnvC, relabel, hkind])))
      refine assignInOrder_cons (wpAny_assign_Name (wpAny_storeName_local (lookup_relabel_local hx₂) hn₄ (fun h₅ hn₅ hs₅ => ?_) (by simp [compEnvC, relabel, hkind])))
      refine assignInOrder_nil ?_
      have up5 : ∀ b o, b ≠ C → h₂.get? b = some o → h₅.get? b = some o := fun b o hb e => hs₅.extBut b o hb (hs₄.extBut b o hb (up3 b o e))
      have st₅ := W.frame _ _ _ st₂ fun b hb o e => up5 b o (hfp b hb).1 e
      obtain ⟨oI, heI, hrI⟩ := st₅.1
      obtain ⟨oC, heC, hoC⟩ := ns_obj hn₅
      have F₅ : Fr h₀ env.locals h₅ m := (((fr_but F' hk₂ hIL hIn).keeps up3).change hs₄ hCL hC₀).change hs₅ hCL hC₀
      have N₅ : News h₀ env.locals h₅ ((I, oI) :: (C, oC) :: (D, lst ys) :: nw) := fun p hp => by
        rcases List.mem_cons.mp hp with rfl | hp
        · exact ⟨heI, Ne.symm hIL, hIn⟩
        rcases List.mem_cons.mp hp with rfl | hp
        · exact ⟨heC, hCL, hC₀⟩
        refine ⟨up5 _ _ ?_ (N₂ p hp).1, (N₂ p hp).2⟩
        rcases List.mem_cons.mp hp with rfl | hp
        · exact Ne.symm hCD
        · exact (o3 p hp).2.1
      refine wpAny_mono (turn' I oI C oC D _ h₅ _ _ hoC (by simp [hxx]) (by simp) F₅ N₅ off ⟨hIC, hID, hCD⟩) (fun z s₆ h₆ => ?_) fun _ _ e => e
      obtain ⟨h₆, tk₆, nw₆, rfl, F₆, N₆, off₆, hm₆, j₆⟩ := h₆
      have zI : h₆.IsListIter I ax (i + 1) := ⟨oI, (N₆ _ (.head _)).1, hrI⟩
      have zC := (N₆ _ (.tail _ (.head _))).1
      have zD := (N₆ _ (.tail _ (.tail _ (.head _)))).1
      have zA : h₆.IsList ax its := ⟨oA, (N₆ _ (.tail _ (.tail _ (.tail _ hm₆)))).1, hoc, hod⟩
      have o6 := off₆.mem
      refine append_at (hsz := by show ys.toArray.size ≤ sizeLine; rw [List.size_toArray, hyl]; omega) zD fun h₇ hs₇ hD₇ => ?_
      refine ⟨k - 1, by omega, h₇, tk₆, i + 1, ys ++ [z], _, nw₆, rfl, by omega, by rw [List.length_append, hyl]; rfl, W.frame _ _ _ ⟨zI, zA⟩ fun b hb o e => hs₇.extBut b o (hfp b hb).2 e, F₆.change hs₇ hDL hD₀, (hoC.ns zC).sameBut hs₇ hCD,
        fun p hp => ?_, off₆, hm₆, j₆⟩
      rcases List.mem_cons.mp hp with rfl | hp
      · exact ⟨hD₇.trans (congrArg some (lst_snoc ys z)), hDL, hD₀⟩
      · exact ⟨hs₇.extBut _ _ (o6 p hp).2.2 (N₆ _ (.tail _ (.tail _ (.tail _ hp)))).1, (N₆ _ (.tail _ (.tail _ (.tail _ hp)))).2⟩
    · obtain rfl : i = its.size := by omega
      refine W.done _ _ _ st fun h₂ tk₂ hk₂ => ?_
      have F₂ := fr_but F' hk₂ hIL hIn
      have N₂ : News h₀ env.locals h₂ ((D, lst ys) :: nw) := news_but N' hk₂ fun p hp => by
        rcases List.mem_cons.mp hp with rfl | hp
        · exact Ne.symm hID
        · exact (o3 p hp).1
      have hn₂ : h₂.Ns C m₂ := hn.at' fun o e => hk₂ _ o (by simpa using Ne.symm hIC) e
      show wpAny _ A (assign (.Name y py) env (.ref D)) _ _ _
      refine wpAny_assign_Name (wpAny_storeName_local hy F₂.ns (fun h₃ hn₃ hs₃ => ?_) hp)
      have hL₀ : h₀.get? env.locals = none := Heap.get?_none_of_le F₂.above
      have F₃ : Fr h₀ env.locals h₃ (fun z => if z = y then some (.ref D) else m z) := ⟨hn₃, fun b o e => hs₃.extBut b o (fun q => by rw [q, hL₀] at e; cases e) (F₂.keep b o e), F₂.above⟩
      refine ⟨_, hn₂.sameBut hs₃ hCL, fun h₄ hs₄ => fin ys nw hJ D h₄ _ (F₃.change hs₄ hCL hC₀) (fun p hp => ⟨hs₄.extBut _ _ ?_ (hs₃.extBut _ _ (N₂ p hp).2.1 (N₂ p hp).1), (N₂ p hp).2⟩) off.one⟩
      rcases List.mem_cons.mp hp with rfl | hp
      · exact Ne.symm hCD
      · exact (o3 p hp).2.1
  exact codeAny_compStart_list loop (W.self 0 _ _ _ st₁ loop)
end
end Mine
end
section
open PySem PySem.W PyProof.Rows PyProof.Rows.LCg PyProof.Rows.LCt PySem.Spec PySem.Calls PyProof.Rows.LCp
namespace Mine
section
variable {prog : Program} {w : World} {A A₀ : Around} {E : Value → Shared → Prop} {s : Shared} {base g : Heap} {outer : List Env} {L : Addr} {m : Str → Option Value} {news : Led} {env : Env}
/-- the end of a turn of a for whose body may turn the ground -/
inductive ForEndT (A₀ : Around) (base : Heap) (outer : List Env) (g : Heap) (L : Addr) (J : (Str → Option Value) → Led → Prop) (own : Led) (I : Addr) (s₁ : Shared) (f : Flow) (s₄ : Shared) : Prop
  | intro : ((f = .next ∨ f = .cont)) → ∀ g₂ h₂ tk₂ m₂ nw₂, s₄ = { s₁ with heap := h₂, toks := tk₂ } → KtsTurn (frs outer) g g₂ → Below A₀ base outer g₂ → Fr g₂ L h₂ m₂ → News g₂ L h₂ (own ++ nw₂) → (∀ p ∈ nw₂, p.1 ≠ I) → J m₂ nw₂ → ForEndT A₀ base outer g L J own I s₁ f s₄
inductive ForSrcT (prog : Program) (w : World) (A A₀ : Around) (base : Heap) (outer : List Env) (g : Heap) (L : Addr) (env : Env) (elts : List Expr) (k9 : Nat) (tp : Pos) (body : List Stmt) (Q : Flow → Shared → Prop) (E : Value → Shared → Prop) (v : Value) (s₁ : Shared) : Prop
  | intro : ∀ (J : Nat → (Str → Option Value) → Led → Prop) (ax : Addr) (oA : Obj) (its : Array Value) (m : Str → Option Value) (news : Led), v = .ref ax → Fr g L s₁.heap m → News g L s₁.heap ((ax, oA) :: news) → oA.cls = .type "list" → (∃ n, oA.data = .seq its n) → J 0 m news → (∀ (i : Nat) (v : Value), its[i]? = some v → ∃ b, v = .ref b) →
      (∀ i v I oI m₁ nw h₁ tk₁ g₁, its[i]? = some v → KtsTurn (frs outer) g g₁ → Below A₀ base outer g₁ → Fr g₁ L h₁ m₁ → News g₁ L h₁ ((I, oI) :: (ax, oA) :: nw) → (@Ne Nat ax I) → (∀ p ∈ nw, p.1 ≠ I) → J i m₁ nw →
        wpAny (model prog w) A (assign (.Tuple elts k9 tp) env v) (fun _ s₃ => wpAny (model prog w) A (execs body env) (ForEndT A₀ base outer g L (J (i + 1)) [(I, oI), (ax, oA)] I s₁) E s₃) E { s₁ with heap := h₁, toks := tk₁ }) →
      (∀ m₁ nw h₁ tk₁ g₁, KtsTurn (frs outer) g g₁ → Below A₀ base outer g₁ → Fr g₁ L h₁ m₁ → News g₁ L h₁ ((ax, oA) :: nw) → J its.size m₁ nw → Q .next { s₁ with heap := h₁, toks := tk₁ }) → ForSrcT prog w A A₀ base outer g L env elts k9 tp body Q E v s₁
inductive ForAtT (A₀ : Around) (base : Heap) (outer : List Env) (g : Heap) (L : Addr) (J : Nat → (Str → Option Value) → Led → Prop) (ax I : Addr) (oA : Obj) (z : Nat) (s₁ : Shared) (k : Nat) (s' : Shared) : Prop
  | intro : ∀ i g₁ h₁ tk₁ m₁ nw, s' = { s₁ with heap := h₁, toks := tk₁ } → k + i = z + 1 → i ≤ z → KtsTurn (frs outer) g g₁ → Below A₀ base outer g₁ → Fr g₁ L h₁ m₁ → News g₁ L h₁ ((ax, oA) :: nw) → (∀ p ∈ nw, p.1 ≠ I) → h₁.IsListIter I ax i → g₁.get? I = none → J i m₁ nw → ForAtT A₀ base outer g L J ax I oA z s₁ k s'
/-- a for over a list, its body may turn the ground -/
theorem for_invT {elts : List Expr} {k9 : Nat} {tp : Pos} {iter : Expr} {body : List Stmt} {pos : Pos} {Q : Flow → Shared → Prop} (hh : A.handled = none) (B : Below A₀ base outer g)
    (h : wpAny (model prog w) A (eval iter env) (ForSrcT prog w A A₀ base outer g L env elts k9 tp body Q E) E s)
    (hs : ∀ x, foldedSetIterable iter env x = pure x := by intro _; rfl)
    (hE : PassesOwn (model prog w) A env E := by passes_own) :
    wpAny (model prog w) A (exec (.For (.Tuple elts k9 tp) iter body [] pos) env) Q E s := by
  refine wpAny_For (wpAny_mono h (fun xv s₁ h₁ => ?_) fun _ _ e => e) hs
  clear h hs
  obtain ⟨J, ax, oA, its, m, news, rfl, F, N, hoc, hod, j0, refs, turn, done⟩ := h₁
  have hl : s₁.heap.IsList ax its := ⟨oA, (N _ (.head _)).1, hoc, hod⟩
  have hlt : @LT.lt Nat _ ax s₁.heap.objs.size := Heap.lt_size (N _ (.head _)).1
  refine wpAny_pyIter_list hl ?_
  have up : ∀ b o, s₁.heap.get? b = some o → (s₁.heap.push { cls := .type "list_iterator", data := .fields #[.ref ax, .int 0 0] }).get? b = some o := fun b o e => Heap.get?_push_of_some _ e
  have F₁ := F.keeps up
  have N₁ := N.grown up
  have hIL : s₁.heap.objs.size ≠ L := Ne.symm (Nat.ne_of_lt F.ns.lt)
  have hI0 : g.get? s₁.heap.objs.size = none := next_is_new F
  have offI : ∀ p ∈ (ax, oA) :: news, p.1 ≠ s₁.heap.objs.size := fun p hp => Nat.ne_of_lt (Heap.lt_size (N p hp).1)
  have hIg : (s₁.heap.push { cls := .type "list_iterator", data := .fields #[.ref ax, .int 0 0] }).IsListIter s₁.heap.objs.size ax 0 := ⟨_, Heap.get?_push_size _ rfl, rfl, rfl⟩
  generalize s₁.heap.push { cls := .type "list_iterator", data := .fields #[.ref ax, .int 0 0] } = g5 at *
  generalize s₁.heap.objs.size = I at *
  clear F N up hl
  refine codeAny_forLoop_any (R := fun r s' => match r with | .ok f => Q f s' | .error e => cameBackBy (model prog w) A env E e s')
    (ForAtT A₀ base outer g L J ax I oA its.size s₁) ?_ (its.size + 1)
    ⟨0, g, g5, s₁.toks, m, news, rfl, by omega, by omega, KtsTurn.refl, B, F₁, N₁, fun p hp => offI p (.tail _ hp), hIg, hI0, j0⟩
  have hxI : ax ≠ I := offI _ (.head _)
  clear F₁ N₁ offI hI0 hIg j0 B
  rintro k s' ⟨i, g₁, h₁, tk₁, m₁, nw, rfl, hki, hi, T₁, B₁, F₁, N₁, o₁, hit, hI0, J₁⟩
  have hl₁ : h₁.IsList ax its := ⟨oA, (N₁ _ (.head _)).1, hoc, hod⟩
  by_cases hlt' : i < its.size
  · refine wpAny_pyNext_list_item hit hl₁ (x := its[i]) (by simp [hlt']) fun h₂ hit₂ hs₂ => ?_
    obtain ⟨b, hb⟩ := refs i its[i] (by simp [hlt'])
    have turn' := turn i its[i]
    rw [hb] at turn' ⊢
    refine wpAny_letOwnedTupleGo_listiter (s := { s₁ with heap := h₂, toks := tk₁ }) hit₂ ?_
    obtain ⟨oI, heI, hrI⟩ := hit₂
    have F₂ : Fr g₁ L h₂ m₁ := F₁.change hs₂ hIL hI0
    have N₂ : News g₁ L h₂ ((I, oI) :: (ax, oA) :: nw) := fun p hp => by
      rcases List.mem_cons.mp hp with rfl | hp
      · exact ⟨heI, hIL, hI0⟩
      · refine ⟨hs₂.extBut _ _ ?_ (N₁ p hp).1, (N₁ p hp).2⟩
        rcases List.mem_cons.mp hp with rfl | hp
        · exact hxI
        · exact o₁ p hp
    refine wpAny_mono (turn' I oI m₁ nw h₂ tk₁ g₁ (by rw [← hb]; simp [hlt']) T₁ B₁ F₂ N₂ hxI o₁ J₁) (fun _ s₃ h₃ => ?_) fun _ _ e => hE _ _ e
    refine wpAny_mono h₃ (fun f s₄ h₄ => ?_) fun _ _ e => hE _ _ e
    obtain ⟨hf, g₃, h₃', tk₃, m₃, nw₃, rfl, T₃, B₃, F₃, N₃, o₃, J₃⟩ := h₄
    have fin : ∃ m, m < k ∧ ForAtT A₀ base outer g L J ax I oA its.size s₁ m { s₁ with heap := h₃', toks := tk₃ } :=
      ⟨k - 1, by omega, i + 1, g₃, h₃', tk₃, m₃, nw₃, rfl, by omega, by omega, T₃, B₃, F₃, fun p hp => N₃ p (.tail _ hp), o₃, ⟨oI, (N₃ _ (.head _)).1, hrI⟩, (N₃ _ (.head _)).2.2, J₃⟩
    rcases hf with rfl | rfl
    · exact fin
    · exact fin
  · obtain rfl : i = its.size := by omega
    refine wpAny_pyNext_list_end hh hit hl₁ (by simp) fun h₂ hs₂ => ?_
    refine wpAny_execs_nil ?_
    refine done m₁ nw h₂ tk₁ g₁ T₁ B₁ ⟨F₁.ns.at' fun o e => hs₂ L o (Ne.symm hIL) e, fun b o e => hs₂ b o (fun q => by rw [q, hI0] at e; cases e) (F₁.keep b o e), F₁.above⟩ (fun p hp => ⟨hs₂ _ _ ?_ (N₁ p hp).1, (N₁ p hp).2⟩) J₁
    rcases List.mem_cons.mp hp with rfl | hp
    · exact hxI
    · exact o₁ p hp
end
theorem SiteB.mk {w : World} {dN uN : Nat} {h₀ : Heap} {L : Addr} {p : Program} {loose : List Str} {mean : ExcName → Option Value} {mg mb : Str → Option Value} {dp un : Nat} {gd : Option (List Code)} {cn : Str} {cs : Scope} {a : Addr} {ccd : Value} {cl : List (Str × Addr)} {outer : List Env} {A₀ : Around} {base : Heap}
    (B : Below A₀ base outer h₀) (X : (Mine.K w.params).In base) (T : Top p loose mean mg mb base) (hk : cs.kind = .function) (hd : dp + dN < recursionLimit) (hu : un + uN < cLine) :
    SiteB w dN uN (ktrTop dp un gd cn cs L a ccd cl outer) A₀ base outer h₀ L := ⟨p, loose, mean, mg, mb, dp, un, gd, cn, cs, a, ccd, cl, rfl, B, X, T, hk, hd, hu⟩
section
variable {prog : Program} {w : World} {A : Around} {E : Value → Shared → Prop} {s : Shared} {env : Env}
theorem ListComp_TupG {elt iter : Expr} {x : Str} {px : Pos} {scope : Scope} {cl : List (Str × Addr)} {pos : Pos} {Q : Value → Shared → Prop}
    (hclos : closureFor scope env = pure cl) (hcell : ∀ y ∈ scope.names, y.2 ≠ .cell) (hkind : scope.kind = .function)
    (hnames : ∀ y ∈ scope.names, y.2 = .local → scope.names.lookup y.1 = some .local) (hx : scope.names.lookup x = some .local)
    (h : wpAny (model prog w) A (eval iter env) (fun v s₁ => ∃ h₀ L m, SrcU prog w A h₀ L m env elt x scope cl (fun s₂ => FinE h₀ L m s₂ Q) v s₁) E s)
    (hs : ∀ x, foldedSetIterable iter env x = pure x := by intro _; rfl) :
    wpAny (model prog w) A (eval (.ListComp elt [⟨.Name x px, iter, [], 0⟩] scope pos) env) Q E s := by
  rw [eval_ListComp]
  refine wpAny_comprehension_free (use := none) rfl hs hclos hkind hnames (wpAny_mono h (fun xv s₁ h₁ => ?_) fun _ _ e => e)
  obtain ⟨h₀, L, m, ax, o, its, news, rfl, hh, F, N, hm, hoc, hod, hsz, R⟩ := h₁
  have hl : s₁.heap.IsTuple ax its := ⟨o, (N _ hm).1, hoc, hod⟩
  have hlt : ax < s₁.heap.objs.size := Heap.lt_size (N _ hm).1
  refine wpAny_pyIter_tuple hl ?_
  refine block_U (Walks.tuple hh s₁.heap.objs.size ax (Nat.ne_of_lt hlt) its) hsz (fun i h st => by obtain ⟨o, e, _⟩ := st.1; exact ⟨o, e⟩) (fun i h h' o' nw st e e' _ N' hS => ?_) hcell hkind hx ⟨⟨_, Heap.get?_push_size _ rfl, rfl, rfl⟩, hl.at fun o e => Heap.get?_push_of_some _ e⟩ (fun b hb => ?_)
      (F.keeps fun _ _ e => Heap.get?_push_of_some _ e) (N.grown fun _ _ e => Heap.get?_push_of_some _ e) (Nat.ne_of_lt F.ns.lt) (next_is_new F) (fun p hp => Nat.ne_of_lt (Heap.lt_size (N p hp).1)) hm (R _ ⟨_, rfl⟩) ?_
  · refine ⟨?_, ⟨o, (N' _ hS).1, hoc, hod⟩⟩
    obtain ⟨o'', q, r⟩ := st.1
    rw [e] at q
    cases q
    exact ⟨o', e', r⟩
  · show b < (s₁.heap.push _).objs.size
    rw [Heap.size_push]
    rcases List.mem_cons.mp hb with rfl | hb
    · exact Nat.lt_succ_self _
    · rw [List.mem_singleton.mp hb]; exact Nat.lt_succ_of_lt hlt
  · intro D C h tk m' ys news' F' N' o1 hn hC₀ hD₀ hCL hDL hCD offC fin
    refine ⟨m', hn, fun h'' hs'' => fin D h'' tk (F'.change hs'' hCL hC₀) (fun p hp => ?_) o1⟩
    refine ⟨hs''.extBut _ _ ?_ (N' p hp).1, (N' p hp).2⟩
    rcases List.mem_cons.mp hp with rfl | hp
    · exact Ne.symm hCD
    · exact offC p hp
end
end Mine
namespace Mine
theorem halt_post {prog : Program} {w : World} {A : Around} {α : Type} {t : Sem α} {Q : α → Shared → Prop} {E : Value → Shared → Prop} {s : Shared} (h : wpAny (model prog w) A t (fun v s => Halt (Q v s)) E s) : wpAny (model prog w) A t Q E s :=
  wpAny_mono h (fun _ _ x => x) fun _ _ e => e
end Mine
end
section
open PySem PySem.W PyProof.Rows
namespace Mine
local macro_rules | `(tactic| walk_at $s:str) => `(tactic| k_extra $s)
local macro_rules | `(tactic| k_all) => `(tactic| k_extra "k_all")
local macro_rules | `(tactic| k_ne) => `(tactic| k_extra "k_ne")
local macro_rules | `(tactic| size_fits) => `(tactic| k_extra "size_fits")
local macro_rules | `(tactic| ktr_room) => `(tactic| k_extra "ktr_room")
local macro_rules | `(tactic| k_in) => `(tactic| k_extra "k_in")
local macro_rules | `(tactic| ktr_units) => `(tactic| k_extra "ktr_units")
/-- what unorderable_list_difference leaves -/
inductive DiffPost (es us : List Str) (U : Addr) (st : Led) (v : Value) (led' : Led) : Prop
  | intro : ∀ (Tt M : Addr) (ms rl' : List Value) (c j' : Nat), v = .ref Tt → led' = (Tt, ({ cls := .type "tuple", data := .seq #[.ref M, .ref U] } : Obj)) :: (M, listOf ms.toArray c) :: (U, listOf rl'.toArray j') :: st → StrsAre ms (diffL es.reverse ([], us)).1 → StrsAre rl' (diffL es.reverse ([], us)).2 → (∀ p ∈ st, p.1 ≠ Tt) → (∀ p ∈ st, p.1 ≠ M) → DiffPost es us U st v led'
inductive DiffJ (pl rl : List Value) (es us : List Str) (P U M : Addr) (st : Led) (n : Nat) (m : Str → Option Value) (nw : Led) : Prop
  | intro : ∀ (p rl' ms : List Value) (ps us' mss : List Str) (c k' j' : Nat), n = p.length → StrsAre p ps → StrsAre rl' us' → StrsAre ms mss → diffL ps.reverse (mss, us') = diffL es.reverse ([], us) → p.length ≤ pl.length → rl'.length ≤ rl.length → ms.length + p.length ≤ pl.length →
    m (Str.ofString "expected") = some (.ref P) → m (Str.ofString "actual") = some (.ref U) → m (Str.ofString "missing") = some (.ref M) → nw = (M, listOf ms.toArray c) :: (P, listOf p.toArray k') :: (U, listOf rl'.toArray j') :: st → DiffJ pl rl es us P U M st n m nw
set_option maxRecDepth 100000 in
set_option maxHeartbeats 8000000 in
theorem diff_con {w : World} (P U : Addr) (pl rl : List Value) (es us : List Str) (hP : StrsAre pl es) (hU : StrsAre rl us) (hz : pl.length ≤ 60) (hz2 : rl.length ≤ 60) (k j : Nat) (st : Led) (hPU : @Ne Nat P U) (hoffP : ∀ p ∈ st, p.1 ≠ P) (hoffU : ∀ p ∈ st, p.1 ≠ U) : ConD w 111 [.ref P, .ref U] ((P, listOf pl.toArray k) :: (U, listOf rl.toArray j) :: st) 12 80 (DiffPost es us U st) := by
  k_with_none
  k_with "line" => (first | exact ln2 ‹_ < PySem.recursionLimit› rfl | exact ln2 ‹_ < PySem.cLine› rfl | exact ln1 ‹_ < PySem.recursionLimit› rfl | exact ln1 ‹_ < PySem.cLine› rfl | (simp only [ktrTop] at *; first | exact ln2 ‹_ < PySem.recursionLimit› rfl | exact ln2 ‹_ < PySem.cLine› rfl | exact ln1 ‹_ < PySem.recursionLimit› rfl | exact ln1 ‹_ < PySem.cLine› rfl | omega))
  k_with "pr" => ((intro hcW; first | exact hcW.1 | exact hcW.2.1 | exact hcW.2.2.1 | exact hcW.2.2.2.1 | exact hcW.2.2.2.2.1 | exact hcW.2.2.2.2.2.1 | exact hcW.2.2.2.2.2.2.1 | exact hcW.2.2.2.2.2.2.2.1 | exact hcW.2.2.2.2.2.2.2.2.1 | exact hcW.2.2.2.2.2.2.2.2.2.1 | exact hcW.2.2.2.2.2.2.2.2.2.2.1 | exact hcW.2.2.2.2.2.2.2.2.2.2.2.1))
  k_with "k_ne" => ((refine neN ?_; (try dsimp only); first | (with_reducible assumption) | exact Ne.symm (by with_reducible assumption) | (refine ne_c1 (by with_reducible assumption) ?_; walk_at "pr") | (refine ne_c2 (by with_reducible assumption) ?_; walk_at "pr") | (refine ne_c3 (by with_reducible assumption) ?_; walk_at "pr") | (refine ne_c4 (by with_reducible assumption) ?_; walk_at "pr") | (refine ne_f1 (by with_reducible assumption) ?_; walk_at "pr") | (refine ne_f2 (by with_reducible assumption) ?_; walk_at "pr") | (refine ne_d1 (by with_reducible assumption) (by with_reducible assumption) ?_; walk_at "pr") | (refine ne_d2 (by with_reducible assumption) (by with_reducible assumption) ?_; walk_at "pr") | exact Nat.ne_of_lt (by with_reducible assumption) | exact Nat.ne_of_gt (by with_reducible assumption) | exact Nat.succ_ne_self _ | exact (Nat.succ_ne_self _).symm | ((repeat (rename (@Ne Nat _ _) => hz9W; clear hz9W)); omega)))
  k_with "le" => (first | exact Nat.le_refl _ | exact Nat.le_of_lt (by with_reducible assumption) | exact Nat.le_succ _ | exact Nat.le_succ_of_le (Nat.le_succ _) | omega)
  k_with "ktr_room" => (exact lt_room (by assumption))
  k_with "ktr_units" => ((first | exact ln1 (by assumption) rfl | exact ln2 (by assumption) rfl | (simp only [units_in1, units_deeper, Around.mark_units, units_caller]; first | exact ln2 (by assumption) rfl | exact ln1 (by assumption) rfl)))
  k_with "k_in" => (first | (with_reducible assumption) | k_in_fast | exact Frag.In.keeps (by k_asm) (Fr.keep (by k_asm)))
  k_with "sz" => (first | exact le_n (by with_reducible assumption) rfl | omega)
  k_with "pt" => ((intro hcW; with_reducible first | exact hcW.2 | exact hcW.2.2 | exact hcW.2.2.2 | exact hcW.2.2.2.2 | exact hcW.2.2.2.2.2 | exact hcW.2.2.2.2.2.2 | exact hcW.2.2.2.2.2.2.2 | exact hcW.2.2.2.2.2.2.2.2 | exact hcW.2.2.2.2.2.2.2.2.2 | exact hcW.2.2.2.2.2.2.2.2.2.2 | exact hcW.2.2.2.2.2.2.2.2.2.2.2 | exact hcW.2.2.2.2.2.2.2.2.2.2.2.2))
  k_with "size_fits" => (exact Nat.le_of_ble_eq_true rfl)
  k_with "mine tl" => (first | (with_reducible assumption) | ((with_reducible rename AllLt _ _ => hl9W); first | exact allLt_ne hl9W (by walk_at "sz") | (clear hl9W; walk_at "mine tl")) | ((with_reducible rename (_ ∧ _) => hq9W); (have ha9W := hq9W.1); (have hb9W := hq9W.2); clear hq9W; walk_at "mine tl"))
  k_with "k_all" => (first | exact List.forall_mem_nil _ | (with_reducible assumption) | ((with_reducible show ∀ p ∈ _ :: _, _); refine' List.forall_mem_cons.mpr ⟨(by k_ne), (by k_all)⟩) | (refine tl_eq (by with_reducible assumption) ?_; walk_at "pt") | (refine tl_s (by with_reducible assumption) ?_; walk_at "pt") | (refine tl_t (by with_reducible assumption) ?_; walk_at "pt") | ((with_reducible rename AllLt _ _ => hl9W); with_reducible exact allLt_ne hl9W (by walk_at "le")) | (refine' List.forall_mem_cons.mpr ⟨(by k_ne), (by k_all)⟩) | walk_at "mine tl")
  k_with "compareOp NotEq ref ref" => ((k_here; k_dflt (first | (refine' ne_nil_nil (by k_asm) (by k_mem) (by k_mem) (by ktr_units) ?_; k_whole) | (refine' ne_cons_nil (by k_asm) (by k_mem) (by k_mem) (by ktr_units) ?_; k_whole))))
  k_with "compareOp Eq ref ref" => ((k_here; k_dflt (first | (refine' eq_nil_nil (by k_asm) (by k_mem) (by k_mem) (by ktr_units) ?_; k_whole) | (refine' eq_cons_nil (by k_asm) (by k_mem) (by k_mem) (by ktr_units) ?_; k_whole))))
  k_with "truthy ref" => ((k_here; k_dflt (first | (refine' truthy_cat (by k_asm) (by k_mem) (by walk_at "sz") ?_; k_whole) | (refine' truthy_nil (by k_asm) (by k_mem) ?_; k_whole)); intro _))
  k_with "exec While Name cons nil" => ((refine Halt.out ?_))
  k_with "call builtin:list.pop" => (((k_here; k_dflt (refine' pop_led (by k_asm) (by k_asm) (by k_upd) (by assumption) ?_; k_whole); intro h' F' N'; (try k_sweep))); (first | revert h' F' N' | ((try revert N'); (try revert F'); (try revert h'))); (try intros))
  k_with "call builtin:list.remove" => ((refine Halt.out ?_))
  k_with "noteFrame ref" => ((refine Halt.out ?_))
  intro A A₀ base outer h₀ L m s R S F N hret
  obtain ⟨p, loose, mean, mg, mb, dp, un, gd, cn, cs, a, ccd, cl, rfl, B, XB, TB, hk, hd, hu⟩ := S
  revert XB; k_fill; intro XB
  have X := XB.keeps B.stays
  have T := TB.keeps B.stays
  (refine' code_raw (binds := [(PySem.Str.ofString "expected", .ref P), (PySem.Str.ofString "actual", .ref U)]) ?k1 ?k2 ?k3 ?k4 ?k5 ?kA ?kF ?kK ?k6 ?k7 ?k8 ?k9 ?kB ?_ ?c2 ?c3 ?c4 ?c5; (case kA => exact rfl); (case kF => exact rfl); (case kK => assumption); (case k1 => k_asm); (case k2 => k_asm); (case k3 => k_asm); (case k4 => k_asm); (case k5 => k_asm); (case k6 => k_is); (case k7 => k_is); (case k8 => ktr_room); (case k9 => exact BindsTo.of_eq rfl); (case c5 => decide); (case kB => exact locs rfl); (case c2 => exact rfl); (case c3 => exact rfl); (case c4 => exact rfl); k_whole; intro g' L' h' FG' F' N' B' X' T'; (try dsimp only); (try k_fold))
  try subst ek
  try subst qk
  revert hP hU hz hz2 hPU hoffP hoffU F N hret B TB hk hd hu XB X T FG' F' N' B' X' T'
  have hkU0 : Unit := ()
  have hkU1 : Unit := ()
  revert w P U pl rl es us k j st A₀ base outer h₀ L m s R p loose mean mg mb dp un gd cn cs a ccd cl g' L' h' hkU0 hkU1
  refine no_implicit_lambda% (hk36 8742415 ?hkdDiff0 ?hkPDiff0 ?hkGDiff0)
  case hkdDiff0 => exact (dWorld, (0 : Nat), (0 : Nat), [], [], [], [], 0, 0, [], {}, default, [], default, (0 : Nat), fun _ => none, {}, fun _ _ => True, default, [], fun _ => none, fun _ => none, fun _ => none, 0, 0, none, ⟨#[]⟩, default, (0 : Nat), .none, [], default, (0 : Nat), default, (), ())
  refine (?hkFDiff0 : ∀ x0 x1 x2 x3 x4 x5 x6 x7 x8 x9 x10 x11 x12 x13 x14 x15 x16 x17 x18 x19 x20 x21 x22 x23 x24 x25 x26 x27 x28 x29 x30 x31 x32 x33 x34 x35, ?hkPDiff0 x0 x1 x2 x3 x4 x5 x6 x7 x8 x9 x10 x11 x12 x13 x14 x15 x16 x17 x18 x19 x20 x21 x22 x23 x24 x25 x26 x27 x28 x29 x30 x31 x32 x33 x34 x35) _ _ _ _ _ _ _ _ _ _ _ _ _ _ _ _ _ _ _ _ _ _ _ _ _ _ _ _ _ _ _ _ _ _ () ()
  intro w P U pl rl es us k j st A₀ base outer h₀ L m s R p loose mean mg mb dp un gd cn cs a ccd cl g' L' h' hkU0 hkU1 hP hU hz hz2 hPU hoffP hoffU F N hret B TB hk hd hu XB X T FG' F' N' B' X' T'
  clear hkU0 hkU1
  (try k_fold)
  k_steps
  show wpAny _ _ _ _ _ _
  rename News _ _ _ _ => kN
  rename Fr _ _ _ _ => kF
  rename (_ ∧ _ ∧ AllLt _ _) => hlt
  refine while_invT (J := DiffJ pl rl es us P U _ st)
    B' kF kN ⟨pl, rl, [], es, us, [], 0, k, j, rfl, hP, hU, .nil, rfl, Nat.le_refl _, Nat.le_refl _, by simp, rfl, rfl, rfl, rfl⟩ ?turn
  case turn =>
    rintro n m₁ nw h₁ tk₁ g₁ T₁ B₁ F₁ N₁ ⟨p, rl', ms, ps, us', mss, c, k', j', rfl, h1, h2, h3, h4, q1, q2, q3, e1, e2, e3, rfl⟩
    clear kN kF X' T'
    have B0 := B'
    clear B'
    have X1 := XB.keeps B₁.stays
    have T1 := TB.keeps B₁.stays
    have F2 := fr_eq F₁ (m' := fun y => if y = Str.ofString "expected" then some (.ref P) else if y = Str.ofString "actual" then some (.ref U) else if y = Str.ofString "missing" then some (.ref _) else m₁ y) (by
      intro y
      by_cases g1 : y = Str.ofString "expected"
      · rw [if_pos g1, g1, e1]
      rw [if_neg g1]
      by_cases g2 : y = Str.ofString "actual"
      · rw [if_pos g2, g2, e2]
      rw [if_neg g2]
      by_cases g3 : y = Str.ofString "missing"
      · rw [if_pos g3, g3, e3]
      rw [if_neg g3])
    clear F₁
    try subst ek
    try subst qk
    rename_i hkIDiff118 hkIDiff153 hkIDiff154 hkIDiff155 hkIDiff157
    revert hP hU hz hz2 hPU hoffP hoffU F N hret B TB hk hd hu XB X T FG' hlt T₁ B₁ h1 h2 h3 h4 q1 q2 q3 e1 e2 e3 N₁ B0 X1 T1 F2
    have hkU0 : Unit := ()
    have hkU1 : Unit := ()
    have hkU2 : Unit := ()
    have hkU3 : Unit := ()
    have hkU4 : Unit := ()
    revert w P U pl rl es us k j st A₀ base outer h₀ L m s R hkIDiff118 loose mean mg mb dp un gd cn cs a ccd cl g' L' h' hkIDiff153 hkIDiff154 hkIDiff155 hkIDiff157 tk m₁ h₁ tk₁ g₁ p rl' ms ps us' mss c k' j' hkU0 hkU1 hkU2 hkU3 hkU4
    refine no_implicit_lambda% (hk57 10348486 ?hkdDiff1 ?hkPDiff1 ?hkGDiff1)
    case hkdDiff1 => exact (dWorld, (0 : Nat), (0 : Nat), [], [], [], [], 0, 0, [], {}, default, [], default, (0 : Nat), fun _ => none, {}, fun _ _ => True, default, [], fun _ => none, fun _ => none, fun _ => none, 0, 0, none, ⟨#[]⟩, default, (0 : Nat), .none, [], default, (0 : Nat), default, 0, (0 : Nat), default, default, 0, fun _ => none, default, 0, default, [], [], [], [], [], [], 0, 0, 0, (), (), (), (), ())
    refine (?hkFDiff1 : ∀ x0 x1 x2 x3 x4 x5 x6 x7 x8 x9 x10 x11 x12 x13 x14 x15 x16 x17 x18 x19 x20 x21 x22 x23 x24 x25 x26 x27 x28 x29 x30 x31 x32 x33 x34 x35 x36 x37 x38 x39 x40 x41 x42 x43 x44 x45 x46 x47 x48 x49 x50 x51 x52 x53 x54 x55 x56, ?hkPDiff1 x0 x1 x2 x3 x4 x5 x6 x7 x8 x9 x10 x11 x12 x13 x14 x15 x16 x17 x18 x19 x20 x21 x22 x23 x24 x25 x26 x27 x28 x29 x30 x31 x32 x33 x34 x35 x36 x37 x38 x39 x40 x41 x42 x43 x44 x45 x46 x47 x48 x49 x50 x51 x52 x53 x54 x55 x56) _ _ _ _ _ _ _ _ _ _ _ _ _ _ _ _ _ _ _ _ _ _ _ _ _ _ _ _ _ _ _ _ _ (default) (0) _ (default) _ _ _ _ _ _ _ _ _ _ _ _ _ _ _ () () () () ()
    intro w P U pl rl es us k j st A₀ base outer h₀ L m s R p loose mean mg mb dp un gd cn cs a ccd cl g' L' h' tk _ _ _ tk m₁ h₁ tk₁ g₁ p rl' ms ps us' mss c k' j' hkU0 hkU1 hkU2 hkU3 hkU4 hP hU hz hz2 hPU hoffP hoffU F N hret B TB hk hd hu XB X T FG' hlt T₁ B₁ h1 h2 h3 h4 q1 q2 q3 e1 e2 e3 N₁ B0 X1 T1 F2
    clear hkU0 hkU1 hkU2 hkU3 hkU4
    (try k_fold)
    rcases List.eq_nil_or_concat p with rfl | ⟨p', y, rfl⟩
    · cases h1
      k_steps
      rename News _ _ _ _ => kN8
      rename Fr _ _ _ _ => kF8
      show R (.ok (.ret (.ref _))) _
      obtain ⟨h₁', Th, Fh, Nh, Bh⟩ := turn_back B FG' T₁ kF8 kN8
      have Nh2 := news_drop3 Nh
      refine hret _ _ _ _ h₁' Th ⟨_, _, ms, rl', c, j', rfl, rfl, ?_, ?_, ?_, ?_⟩ Fh Nh2 Bh
      · rw [← h4]; exact h3
      · rw [← h4]; exact h2
      · walk_at "mine tl"
      · walk_at "mine tl"
    · rw [List.concat_eq_append] at *
      obtain ⟨ps', x, tx, rfl, rfl, h1'⟩ := strsAre_concat_inv h1
      rw [List.reverse_append] at h4
      simp only [List.length_append, List.length_cons, List.length_nil] at q1 q3
      have hz9 : (p' ++ [Value.str x tx]).length ≤ sizeLine := by rw [List.length_append, sizeLine_eq]; simp; omega
      k_steps
      show wpAny _ _ _ _ _ _
      rename News _ _ _ _ => kN8
      rename Fr _ _ _ _ => kF8
      refine' remove_or kF8 kN8 rfl h2 ?o1 ?o2 ?o3 ?o4 ?h0 ?h1
      case o1 => k_ne
      case o2 => k_ne
      case o3 => exact hoffU
      case o4 => rw [sizeLine_eq]; omega
      case h0 =>
        intro hx h' tk e hne
        k_steps
        show wpAny _ _ _ _ _ _
        refine' caught_new (X := "ValueError") (T' := "ValueError") B₁ kF8 kN8 hne XB TB ?ex PyProof.Rows.Boot.«ValueError» ?hn PySem.F.isExc_ValueError PySem.F.notTuple_ValueError ?s3 ?_
        case ex => k_is
        case hn => decide
        case s3 => kts_sub
        intro h9 g9 T9 F9 N9 B9 X9 P9
        clear kN8 kF8 X1 T1
        k_steps
        rename News _ _ _ _ => kN8
        rename Fr _ _ _ _ => kF8
        refine ⟨.inl rfl, p'.length, g9, _, _, _, _, by simp, rfl, T₁.trans T9, B9, kF8, kN8, ⟨p', rl', ms ++ [.str x tx], ps', us', mss ++ [x], c + 1, k' + 1, j', rfl, h1', h2, strsAre_snoc h3, ?_, by omega, q2, by simp; omega, rfl, rfl, rfl, by simp⟩⟩
        rw [← h4]
        show _ = diffL (x :: ps'.reverse) (mss, us')
        rw [diffL, if_neg hx]
      case h1 =>
        intro hx h' rl'' n'' hS'' F'' N''
        clear kN8 kF8
        k_steps
        rename News _ _ _ _ => kN8
        rename Fr _ _ _ _ => kF8
        refine ⟨.inl rfl, p'.length, g₁, _, _, _, _, by simp, rfl, T₁, B₁, kF8, kN8, ⟨p', rl'', ms, ps', us'.erase x, mss, c, _, n'', rfl, h1', hS'', h3, ?_, by omega, ?_, by omega, rfl, rfl, rfl, rfl⟩⟩
        · rw [← h4]
          show _ = diffL (x :: ps'.reverse) (mss, us')
          rw [diffL, if_pos hx]
        · have := strsAre_len hS''
          have := strsAre_len h2
          rw [List.length_erase_of_mem hx] at *
          omega
end Mine
end
section
open PySem PySem.W PyProof.Rows
namespace Mine
local macro_rules | `(tactic| walk_at $s:str) => `(tactic| k_extra $s)
local macro_rules | `(tactic| k_all) => `(tactic| k_extra "k_all")
local macro_rules | `(tactic| k_ne) => `(tactic| k_extra "k_ne")
local macro_rules | `(tactic| size_fits) => `(tactic| k_extra "size_fits")
local macro_rules | `(tactic| ktr_room) => `(tactic| k_extra "ktr_room")
local macro_rules | `(tactic| k_in) => `(tactic| k_extra "k_in")
local macro_rules | `(tactic| ktr_units) => `(tactic| k_extra "ktr_units")
inductive ReadJ (w : World) (cs : List Nat) (da S pb l xa c9 : Addr) (oc tb' : Obj) (st1 : Led) (i : Nat) (ys : List Value) (nw : Led) : Prop
  | intro : ∀ (rs : List Nat) (vs : List Value) (k : LexTok) (ln : Int) (n : Nat), rs = lexRest cs i → StrsAre vs (rs.map one) → ln + nls rs = 1 + nls cs → StrsAre ys ((lexToks cs i).map mk) →
    nw = (da, lexD w k ln S pb) :: (l, W.listOf vs.toArray n) :: ((pb, W.listOf #[] 0) :: (xa, instObj 76 da) :: (c9, oc) :: (113, tb') :: st1) → ReadJ w cs da S pb l xa c9 oc tb' st1 i ys nw
set_option maxRecDepth 100000 in
set_option maxHeartbeats 8000000 in
theorem read_con {w : World} (x : Str) (t : Tok) (k : Nat) (kz : Int) (hkz : KB kz k) (tk : Tok) (tb : Obj) (st0 st : Led) (hx : x.length ≤ sizeLine) (htb : TabOk tb st0) (hoff : ∀ p ∈ st, p.1 ≠ 113) (hsub : ∀ p ∈ st0, p ∈ st) : Con w 145 [.str x t, .int kz tk] ((113, tb) :: st) 14 120 (LawRead x.cps.toList k st0 st) := by
  k_with_none
  k_with "line" => (first | exact ln2 ‹_ < PySem.recursionLimit› rfl | exact ln2 ‹_ < PySem.cLine› rfl | exact ln1 ‹_ < PySem.recursionLimit› rfl | exact ln1 ‹_ < PySem.cLine› rfl | (simp only [ktrTop] at *; first | exact ln2 ‹_ < PySem.recursionLimit› rfl | exact ln2 ‹_ < PySem.cLine› rfl | exact ln1 ‹_ < PySem.recursionLimit› rfl | exact ln1 ‹_ < PySem.cLine› rfl | omega))
  k_with "pr" => ((intro hcW; first | exact hcW.1 | exact hcW.2.1 | exact hcW.2.2.1 | exact hcW.2.2.2.1 | exact hcW.2.2.2.2.1 | exact hcW.2.2.2.2.2.1 | exact hcW.2.2.2.2.2.2.1 | exact hcW.2.2.2.2.2.2.2.1 | exact hcW.2.2.2.2.2.2.2.2.1 | exact hcW.2.2.2.2.2.2.2.2.2.1 | exact hcW.2.2.2.2.2.2.2.2.2.2.1 | exact hcW.2.2.2.2.2.2.2.2.2.2.2.1))
  k_with "k_ne" => ((refine neN ?_; (try dsimp only); first | (with_reducible assumption) | exact Ne.symm (by with_reducible assumption) | (refine ne_c1 (by with_reducible assumption) ?_; walk_at "pr") | (refine ne_c2 (by with_reducible assumption) ?_; walk_at "pr") | (refine ne_c3 (by with_reducible assumption) ?_; walk_at "pr") | (refine ne_c4 (by with_reducible assumption) ?_; walk_at "pr") | (refine ne_f1 (by with_reducible assumption) ?_; walk_at "pr") | (refine ne_f2 (by with_reducible assumption) ?_; walk_at "pr") | (refine ne_d1 (by with_reducible assumption) (by with_reducible assumption) ?_; walk_at "pr") | (refine ne_d2 (by with_reducible assumption) (by with_reducible assumption) ?_; walk_at "pr") | exact Nat.ne_of_lt (by with_reducible assumption) | exact Nat.ne_of_gt (by with_reducible assumption) | exact Nat.succ_ne_self _ | exact (Nat.succ_ne_self _).symm | ((repeat (rename (@Ne Nat _ _) => hz9W; clear hz9W)); omega)))
  k_with "le" => (first | exact Nat.le_refl _ | exact Nat.le_of_lt (by with_reducible assumption) | exact Nat.le_succ _ | exact Nat.le_succ_of_le (Nat.le_succ _) | omega)
  k_with "ktr_room" => (exact lt_room (by assumption))
  k_with "ktr_units" => ((first | exact ln1 (by assumption) rfl | exact ln2 (by assumption) rfl | (simp only [units_in1, units_deeper, Around.mark_units, units_caller]; first | exact ln2 (by assumption) rfl | exact ln1 (by assumption) rfl)))
  k_with "k_in" => (first | (with_reducible assumption) | k_in_fast | exact Frag.In.keeps (by k_asm) (Fr.keep (by k_asm)))
  k_with "sz" => (first | exact le_n (by with_reducible assumption) rfl | omega)
  k_with "pt" => ((intro hcW; with_reducible first | exact hcW.2 | exact hcW.2.2 | exact hcW.2.2.2 | exact hcW.2.2.2.2 | exact hcW.2.2.2.2.2 | exact hcW.2.2.2.2.2.2 | exact hcW.2.2.2.2.2.2.2 | exact hcW.2.2.2.2.2.2.2.2 | exact hcW.2.2.2.2.2.2.2.2.2 | exact hcW.2.2.2.2.2.2.2.2.2.2 | exact hcW.2.2.2.2.2.2.2.2.2.2.2 | exact hcW.2.2.2.2.2.2.2.2.2.2.2.2))
  k_with "size_fits" => (exact Nat.le_of_ble_eq_true rfl)
  k_with "mine tl" => (first | (with_reducible assumption) | ((with_reducible rename AllLt _ _ => hl9W); first | exact allLt_ne hl9W (by walk_at "sz") | (clear hl9W; walk_at "mine tl")) | ((with_reducible rename (_ ∧ _) => hq9W); (have ha9W := hq9W.1); (have hb9W := hq9W.2); clear hq9W; walk_at "mine tl"))
  k_with "k_all" => (first | exact List.forall_mem_nil _ | (with_reducible assumption) | ((with_reducible show ∀ p ∈ _ :: _, _); refine' List.forall_mem_cons.mpr ⟨(by k_ne), (by k_all)⟩) | (refine tl_eq (by with_reducible assumption) ?_; walk_at "pt") | (refine tl_s (by with_reducible assumption) ?_; walk_at "pt") | (refine tl_t (by with_reducible assumption) ?_; walk_at "pt") | ((with_reducible rename AllLt _ _ => hl9W); with_reducible exact allLt_ne hl9W (by walk_at "le")) | (refine' List.forall_mem_cons.mpr ⟨(by k_ne), (by k_all)⟩) | walk_at "mine tl")
  k_with "call type:list" => (((k_here; (with_reducible show wpAny _ _ (call (Value.type _) [Value.str _ _]) _ _ _); k_dflt (refine' list_str_led (by exact rfl) (by k_asm) (by k_asm) (by assumption) ?_; k_whole); intro l' h' tk' vs' n' F' N' l1 S'; (try k_lt l1))); (first | revert l' h' tk' vs' n' F' N' l1 S' | ((try revert S'); (try revert l1); (try revert N'); (try revert F'); (try revert n'); (try revert vs'); (try revert tk'); (try revert h'); (try revert l'))); (try intros))
  k_with "setAttr ref" => (((k_here; (with_reducible show wpAny _ _ (setAttr (Value.ref _) _ _) _ _ _); k_dflt (refine' fn_setAttr_led (by k_asm) (by k_asm) (by k_updF) (by exact fn_no_read) ?_; k_whole); intro D' h' kt' tk' F' N' l1; (try dsimp only at N'); (try k_lt l1); (try k_sweep))); (first | revert D' h' kt' tk' F' N' l1 | ((try revert l1); (try revert N'); (try revert F'); (try revert tk'); (try revert kt'); (try revert h'); (try revert D'))); (try intros))
  k_with "getMethod ref" => ((k_here; k_dflt (refine' fn_method_led (by k_asm) (by k_mem) (by k_mem) (by rfl) (by exact fn_no_read) (by rfl) ?_; k_whole)))
  k_with "compareOp NotEq ref ref" => ((k_here; k_dflt (first | (refine' ne_nil_nil (by k_asm) (by k_mem) (by k_mem) (by ktr_units) ?_; k_whole) | (refine' ne_cons_nil (by k_asm) (by k_mem) (by k_mem) (by ktr_units) ?_; k_whole))))
  k_with "call builtin:list.pop" => (((k_here; k_dflt (refine' pop0_led (by k_asm) (by k_asm) (by k_upd) (by assumption) ?_; k_whole); intro h' F' N'; (try k_sweep))); (first | revert h' F' N' | ((try revert N'); (try revert F'); (try revert h'))); (try intros))
  k_with "mine enter" => (first | (refine' code_def (by k_asm) (by k_asm) (by k_asm) (by k_asm) (by k_asm) (by exact rfl) (by exact rfl) (by (first | exact rfl | assumption)) (by k_is) (by k_is) (by ktr_room) (by exact BindsTo.of_eq rfl) (by exact locs rfl) ?_ (by exact rfl) (by exact rfl) (by exact rfl) (by decide); k_whole; intro g' L' h' FG' F' N' B' X' T'; (try dsimp only); (first | revert g' L' h' FG' F' N' B' X' T' | ((try revert T'); (try revert X'); (try revert B'); (try revert N'); (try revert F'); (try revert FG'); (try revert h'); (try revert L'); (try revert g'))); (try intros); (try k_fold)) | (refine' code_defC (by k_asm) (by k_asm) (by k_asm) (by k_asm) (by k_asm) (by exact rfl) (by exact rfl) (by (first | exact rfl | assumption)) (by k_is) (by k_is) (by ktr_room) (by exact BindsTo.of_eq rfl) (by exact rfl) (by decide +kernel) ?_ (by exact rfl) (by exact rfl) (by exact rfl); k_whole; intro g' L' h' tk' cells' FG' F' N' Y' B' X' T' l1; (try k_lt l1); k_cells Y'; (try simp only [List.cons_append, List.nil_append] at N'); (try dsimp only); (first | revert g' L' h' tk' cells' FG' F' N' Y' B' X' T' l1 | ((try revert l1); (try revert T'); (try revert X'); (try revert B'); (try revert Y'); (try revert N'); (try revert F'); (try revert FG'); (try revert cells'); (try revert tk'); (try revert h'); (try revert L'); (try revert g'))); (try intros); (try k_fold)))
  k_with "mine new" => ((k_dflt (refine' call_cls (by k_asm) (by k_asm) (by k_asm) (by k_is) (by k_is) (by k_is) ?_; k_whole; intro x' d' h' F' N' l1 l2; (try k_lt l1); (try k_lt2 l2); (try k_sweep); (first | revert x' d' h' F' N' l1 l2 | ((try revert l2); (try revert l1); (try revert N'); (try revert F'); (try revert h'); (try revert d'); (try revert x'))); (try intros); walk_at "mine enter")))
  k_with "call builtin:iter" => (((k_here; k_dflt (refine' iter2_led (by k_asm) (by k_asm) (by k_mem) ?_; k_whole); intro it' h' F' N' l1; (try k_lt l1))); (first | revert it' h' F' N' l1 | ((try revert l1); (try revert N'); (try revert F'); (try revert h'); (try revert it'))); (try intros))
  k_with "gt eq" => (((intro y; by_cases e1 : y = Str.ofString "ch"; (subst e1; rfl); by_cases e2 : y = Str.ofString "fiter"; (subst e2; rfl); by_cases e3 : y = Str.ofString "token"; (subst e3; rfl); by_cases e4 : y = Str.ofString "self"; (subst e4; rfl); (simp only [gtm, if_neg e1, if_neg e2, if_neg e3, if_neg e4]; try (show (match y == Str.ofString "self" with | true => _ | false => _) = none; rw [show (y == Str.ofString "self") = false from by simpa using e4]; rfl)))); (first | revert y | ((try revert y))); (try intros))
  intro A h₀ L m s R S F N hret
  obtain ⟨p, loose, mean, mg, mb, dp, un, gd, cn, cs, a, ccd, cl, outer, A₀, base, rfl, B, X, T, hk, hd, hu⟩ := S
  revert X; k_fill; intro X
  (refine' code_defC (binds := [(PySem.Str.ofString "text", .str x t), (PySem.Str.ofString "count", .int kz tk)]) ?k1 ?k2 ?k3 ?k4 ?k5 ?kA ?kF ?kK ?k6 ?k7 ?k8 ?k9 ?kB ?kD ?_ ?c2 ?c3 ?c4; (case kA => exact rfl); (case kF => exact rfl); (case kK => assumption); (case k1 => k_asm); (case k2 => k_asm); (case k3 => k_asm); (case k4 => k_asm); (case k5 => k_asm); (case k6 => k_is); (case k7 => k_is); (case k8 => ktr_room); (case k9 => exact BindsTo.of_eq rfl); (case kB => exact rfl); (case kD => decide +kernel); (case c2 => exact rfl); (case c3 => exact rfl); (case c4 => exact rfl); k_whole; intro g' L' h' tk' cells' FG' F' N' Y' B' X' T' l1; (try k_lt l1); k_cells Y'; (try simp only [List.cons_append, List.nil_append] at N'); (try dsimp only); (try k_fold))
  have hx0 := hx
  have hMk9 := kstMark
  rename_i hkIReadLaw054 hkIReadLaw055
  revert hkz hx htb hoff hsub F N hret B T hk hd hu X FG' F' B' X' T' l1 hkIReadLaw055 N' hx0
  have hkU0 : Unit := ()
  revert w x t k kz tk tb st0 st h₀ L m s R p loose mean mg mb dp un gd cn cs a ccd cl outer A₀ base g' L' h' tk' hkIReadLaw054 hkU0
  refine no_implicit_lambda% (hk36 13358549 ?hkdReadLaw0 ?hkPReadLaw0 ?hkGReadLaw0)
  case hkdReadLaw0 => exact (dWorld, ⟨#[]⟩, (0 : Nat), 0, 0, (0 : Nat), dObj, [], [], default, (0 : Nat), fun _ => none, {}, fun _ _ => True, default, [], fun _ => none, fun _ => none, fun _ => none, 0, 0, none, ⟨#[]⟩, default, (0 : Nat), .none, [], [], {}, default, default, (0 : Nat), default, 0, dObj, ())
  refine (?hkFReadLaw0 : ∀ x0 x1 x2 x3 x4 x5 x6 x7 x8 x9 x10 x11 x12 x13 x14 x15 x16 x17 x18 x19 x20 x21 x22 x23 x24 x25 x26 x27 x28 x29 x30 x31 x32 x33 x34 x35, ?hkPReadLaw0 x0 x1 x2 x3 x4 x5 x6 x7 x8 x9 x10 x11 x12 x13 x14 x15 x16 x17 x18 x19 x20 x21 x22 x23 x24 x25 x26 x27 x28 x29 x30 x31 x32 x33 x34 x35) _ _ _ _ _ _ _ _ _ _ _ _ _ _ _ _ _ _ _ _ _ _ _ _ _ _ _ _ _ _ _ _ _ _ _ ()
  intro w x t k kz tk tb st0 st h₀ L m s R p loose mean mg mb dp un gd cn cs a ccd cl outer A₀ base g' L' h' tk' _ hkU0 hkz hx htb hoff hsub F N hret B T hk hd hu X FG' F' B' X' T' l1 _ N' hx0
  clear hkU0
  k_steps
  have o1 := allLt_ne l1.2 (Nat.le_succ L')
  have N2 := news_swap N'
  refine' (stream_con x t hx tb st0 _ htb ?h2).call (Site.mk B' X' T' rfl (by walk_at "line") (by walk_at "line")) F' N2 ?_
  case h2 => exact List.forall_mem_cons.mpr ⟨by k_ne, hoff⟩
  rintro v led' h' tk' ⟨S, l, vs, n, tb', new, rfl, rfl, hV, hap, p1, p2, p3, htb', hst⟩ F'' N''
  replace N'' := news_pull N''
  have q1 := off_apart hap o1
  have hap' := Apart.tail hap
  obtain ⟨p1, p1'⟩ := off_pull p1
  obtain ⟨p3, -⟩ := off_pull p3
  generalize hst1 : new ++ st = st1 at *
  (try dsimp only at p1' q1)
  replace p1' := neN p1'
  replace p2 := neN p2
  (try dsimp only)
  rename_i hkIReadLaw133 hkIReadLaw134 hkIReadLaw135 hkIReadLaw156 hkIReadLaw171 hkIReadLaw172
  revert hkz hx htb hoff hsub F N hret B T hk hd hu X FG' F' B' X' T' l1 hkIReadLaw156 N' hx0 o1 N2 hV hap hkIReadLaw171 hkIReadLaw172 htb' hst F'' hap' hst1 N'' q1 p1 p3 p1' p2
  have hkU0 : Unit := ()
  have hkU1 : Unit := ()
  revert w x t k kz tk tb st0 st h₀ L m s R p loose mean mg mb dp un gd cn cs a ccd cl outer A₀ base g' L' hkIReadLaw133 hkIReadLaw134 hkIReadLaw135 h' tk' S l vs n tb' new st1 hkU0 hkU1
  refine no_implicit_lambda% (hk46 14419743 ?hkdReadLaw1 ?hkPReadLaw1 ?hkGReadLaw1)
  case hkdReadLaw1 => exact (dWorld, ⟨#[]⟩, (0 : Nat), 0, 0, (0 : Nat), dObj, [], [], default, (0 : Nat), fun _ => none, {}, fun _ _ => True, default, [], fun _ => none, fun _ => none, fun _ => none, 0, 0, none, ⟨#[]⟩, default, (0 : Nat), .none, [], [], {}, default, default, (0 : Nat), default, 0, dObj, default, 0, (0 : Nat), (0 : Nat), [], 0, dObj, [], [], (), ())
  refine (?hkFReadLaw1 : ∀ x0 x1 x2 x3 x4 x5 x6 x7 x8 x9 x10 x11 x12 x13 x14 x15 x16 x17 x18 x19 x20 x21 x22 x23 x24 x25 x26 x27 x28 x29 x30 x31 x32 x33 x34 x35 x36 x37 x38 x39 x40 x41 x42 x43 x44 x45, ?hkPReadLaw1 x0 x1 x2 x3 x4 x5 x6 x7 x8 x9 x10 x11 x12 x13 x14 x15 x16 x17 x18 x19 x20 x21 x22 x23 x24 x25 x26 x27 x28 x29 x30 x31 x32 x33 x34 x35 x36 x37 x38 x39 x40 x41 x42 x43 x44 x45) _ _ _ _ _ _ _ _ _ _ _ _ _ _ _ _ _ _ _ _ _ _ _ _ _ _ _ _ _ _ _ _ _ (0) _ _ _ _ _ _ _ _ _ _ () ()
  intro w x t k kz tk tb st0 st h₀ L m s R p loose mean mg mb dp un gd cn cs a ccd cl outer A₀ base g' L' h' tk' _ h' tk' S l vs n tb' new st1 hkU0 hkU1 hkz hx htb hoff hsub F N hret B T hk hd hu X FG' F' B' X' T' l1 _ N' hx0 o1 N2 hV hap p1 p3 htb' hst F'' hap' hst1 N'' q1 p1 p3 p1' p2
  clear hkU0 hkU1
  k_steps
  walk_at "mine new"
  k_steps
  rename_i xa da h8 l11 l2 g1 L1 h7 B1 X1 T1 tk2 h6 h5 h4 pb h3 l12 h2 F1 N1 tk1 Tc kX h1 oc F2 N2 hoc h0 tkr tR uR vR hR FR NR hK
  clear F1 F2 N1 N2 T1 X1 B1
  obtain ⟨kk, NR⟩ : ∃ kk : LexTok, News g' L' h0 ((pb, W.listOf #[] 0) :: (xa, instObj 76 da) :: (da, lexD w kk 1 S pb) :: (L' + 1, oc) :: (l, W.listOf vs.toArray n) :: (113, tb') :: st1) := ⟨⟨_, _, _, _, _, _⟩, NR⟩
  have hsm : Builtin.Range.small 0 kz 1 = true := by
    obtain ⟨rfl, hk1⟩ := hkz
    exact PySem.small_one (by decide) (by decide) (by omega) (by omega)
  have hn : Builtin.Range.rangeSize 0 kz 1 = ((k : Nat) : Int) := by
    obtain ⟨rfl, hk1⟩ := hkz
    rw [rangeSize_nat]
    omega
  have hsz : k ≤ sizeLine := by
    have := hkz.2
    simp only [sizeLine_eq]
    omega
  refine' LCg.CompSrc.range (news := (da, lexD w kk 1 S pb) :: (l, W.listOf vs.toArray n) :: ((pb, W.listOf #[] 0) :: (xa, instObj 76 da) :: (L' + 1, oc) :: (113, tb') :: st1)) (n := k) rfl FR (news_of NR ?sub) hR hsm hn hsz ?_
  case sub =>
    intro p hp
    simp only [List.mem_cons] at hp ⊢
    rcases hp with h | h | h | h | h | h | h
    · exact .inr (.inr (.inl h))
    · exact .inr (.inr (.inr (.inr (.inl h))))
    · exact .inl h
    · exact .inr (.inl h)
    · exact .inr (.inr (.inr (.inl h)))
    · exact .inr (.inr (.inr (.inr (.inr (.inl h)))))
    · exact .inr (.inr (.inr (.inr (.inr (.inr h)))))
  intro g9
  refine' comp_rest (n := k) (J := ReadJ w x.cps.toList da S pb l xa (L' + 1) oc tb' st1) ?fin ?turn k 0 [] _ (Nat.zero_add k) ⟨_, vs, kk, 1, n, rfl, hV, rfl, .nil, rfl⟩
  case fin =>
    rintro ys nw ⟨rs, vs7, k7, ln7, n7, rfl, hV7, hln, hys, rfl⟩
    intro D h tk F7 N7 o1D
    have o1' := o1D
    k_steps
    rename News _ _ _ _ => kN8
    rename Fr _ _ _ _ => kF8
    rename_i Rr h9 F9 N9 l19 Tc9 kX9
    obtain ⟨m1, m2, m3, m4, m5, m6, m7⟩ := o1D
    have e7 : ln7 = 1 + nls x.cps.toList - nls (lexRest x.cps.toList k) := by omega
    subst e7
    have f0 : ∀ p ∈ new ++ st, p ∈ st1 := fun p hp => hst1 ▸ hp
    have hRr := allLt_ne l19.2.2.2.2.2.2.2 (Nat.le_refl Rr)
    have hda := allLt_ne l11.2.2.2 (Nat.le_refl da)
    have hpb := allLt_ne l12.2.2.2.2.2 (Nat.le_refl pb)
    have hxa := allLt_ne l11.2.2.2 (Nat.le_of_lt l2)
    have hD := off1_mem m7
    refine' hret (.ref Rr) ((113, tb') :: (((Rr, W.listOf #[.ref D, .int (1 + nls x.cps.toList - nls (lexRest x.cps.toList k)) k7.tl] 0) :: (D, LCg.lst ys) :: (da, lexD w k7 (1 + nls x.cps.toList - nls (lexRest x.cps.toList k)) S pb) :: (l, W.listOf vs7.toArray n7) :: (pb, W.listOf #[] 0) :: (xa, instObj 76 da) :: (L' + 1, oc) :: new) ++ st)) _ _
      ⟨Rr, D, ys, k7.tl, tb', _, rfl, rfl, ?a1, ?a2, ?a3, .head _, .tail _ (.head _), hys⟩ kF8 (news_of kN8 ?a4)
    case a1 =>
      intro p hp q hq
      have hq1 := f0 q (List.mem_append_right _ hq)
      simp only [List.mem_cons] at hp
      rcases hp with rfl | rfl | rfl | rfl | rfl | rfl | rfl | hp
      · exact hRr q hq1
      · exact hD q hq1
      · exact hda q hq1
      · exact p1 q hq1
      · exact hpb q hq1
      · exact hxa q hq1
      · exact q1 q hq1
      · exact hap' p hp q hq
    case a2 =>
      intro p hp
      simp only [List.cons_append, List.mem_cons] at hp
      rcases hp with rfl | rfl | rfl | rfl | rfl | rfl | rfl | hp
      · exact Nat.ne_of_gt l19.2.2.2.2.2.2.1
      · exact Ne.symm m6
      · exact Nat.ne_of_gt l11.2.2.1
      · exact Ne.symm p2
      · exact Nat.ne_of_gt (by omega)
      · exact Nat.ne_of_gt (by omega)
      · exact Nat.ne_of_gt (by omega)
      · exact p3 p (f0 p hp)
    case a3 => exact htb'.mono fun p hp => .tail _ (.tail _ (.tail _ (.tail _ (.tail _ (.tail _ (.tail _ hp))))))
    case a4 =>
      rw [← hst1]
      intro p hp
      simp only [List.cons_append, List.mem_cons] at hp ⊢
      rcases hp with h | h | h | h | h | h | h | h | h
      · exact .inr (.inr (.inr (.inr (.inr (.inr (.inr (.inl h)))))))
      · exact .inl h
      · exact .inr (.inl h)
      · exact .inr (.inr (.inl h))
      · exact .inr (.inr (.inr (.inl h)))
      · exact .inr (.inr (.inr (.inr (.inl h))))
      · exact .inr (.inr (.inr (.inr (.inr (.inl h)))))
      · exact .inr (.inr (.inr (.inr (.inr (.inr (.inl h))))))
      · exact .inr (.inr (.inr (.inr (.inr (.inr (.inr (.inr h)))))))
  case turn =>
    rintro i ys nw hi ⟨rs, vs7, k7, ln7, n7, rfl, hV7, hln, hys, rfl⟩ v I oI C oC D m₂ h tk E' hP hN hx F N o3 ne
    have hlen : (lexRest x.cps.toList i).length ≤ sizeLine := Nat.le_trans (lexRest_len _ _) (by show x.cps.toList.length ≤ _; rw [Array.length_toList]; exact hx0)
    obtain ⟨⟨d1, d2, d3⟩, ⟨d4, d5, d6⟩, -⟩ := id o3
    have X6 : Lexer w ((I, oI) :: (C, oC) :: (D, LCg.lst ys) :: ((pb, W.listOf #[] 0) :: (xa, instObj 76 da) :: (L' + 1, oc) :: (113, tb') :: st1)) xa da S pb l := by
      refine ⟨.tail _ (.tail _ (.tail _ (.tail _ (.head _)))), .tail _ (.tail _ (.tail _ (.head _))), hst.mono fun p hp => ?_, ?_, ?_, ?_⟩
      · refine .tail _ (.tail _ (.tail _ (.tail _ (.tail _ (.tail _ (.tail _ ?_))))))
        rw [← hst1]
        exact (List.mem_append.mp hp).elim (fun h => List.mem_append_left _ h) fun h => List.mem_append_right _ (hsub _ h)
      · simp only [List.forall_mem_cons]
        exact ⟨Ne.symm d1, Ne.symm d2, Ne.symm d3, by k_ne, by k_ne, by k_ne, by k_ne, allLt_ne l11.2.2.2 (Nat.le_refl _)⟩
      · simp only [List.forall_mem_cons]
        exact ⟨Ne.symm d4, Ne.symm d5, Ne.symm d6, by k_ne, by k_ne, by k_ne, by k_ne, p1⟩
      · exact neN (by omega)
    try subst ek
    try subst qk
    rename_i hkIReadLaw26 hkIReadLaw233 hkIReadLaw234 hkIReadLaw235 hkIReadLaw246 hkIReadLaw250 hkIReadLaw251 hkIReadLaw264 hkIReadLaw269 hkIReadLaw270 hkIReadLaw2102 hkIReadLaw2110
    revert hkz hkIReadLaw246 htb hoff hsub hkIReadLaw250 hkIReadLaw251 hret B T hk hd hu X FG' B' X' T' l1 hkIReadLaw264 hx0 o1 hV hap hkIReadLaw269 hkIReadLaw270 htb' hst hap' hst1 q1 p1 p3 p1' p2 l11 l2 l12 Tc kX hoc hR FR hkIReadLaw2110 hK NR hsm hn hsz hi hys hV7 hln hP hN hx F N o3 ne hlen d1 d2 d3 d4 d5 d6 X6
    revert w x t k kz hkIReadLaw26 tb st0 st h₀ L m s R p loose mean mg mb dp un gd cn cs a ccd cl outer A₀ base g' L' hkIReadLaw233 hkIReadLaw234 hkIReadLaw235 h' tk' S l vs n tb' new st1 xa da h8 g1 L1 h7 tk2 h6 h5 h4 pb h3 h2 tk1 h1 oc hkIReadLaw2102 h0 tkr tR uR vR kk g9 i ys vs7 k7 ln7 n7 v I oI C oC D m₂ h tk E'
    refine no_implicit_lambda% (hk84 10683239 ?hkdReadLaw2 ?hkPReadLaw2 ?hkGReadLaw2)
    case hkdReadLaw2 => exact (dWorld, ⟨#[]⟩, (0 : Nat), 0, 0, (0 : Nat), dObj, [], [], default, (0 : Nat), fun _ => none, {}, fun _ _ => True, default, [], fun _ => none, fun _ => none, fun _ => none, 0, 0, none, ⟨#[]⟩, default, (0 : Nat), .none, [], [], {}, default, default, (0 : Nat), default, 0, dObj, default, 0, (0 : Nat), (0 : Nat), [], 0, dObj, [], [], (0 : Nat), (0 : Nat), default, default, (0 : Nat), default, 0, default, default, default, (0 : Nat), default, default, 0, default, dObj, 0, default, 0, (0 : Nat), (0 : Nat), (0 : Nat), ⟨0, 0, 0, 0, 0, 0⟩, default, 0, [], [], ⟨0, 0, 0, 0, 0, 0⟩, 0, 0, .none, (0 : Nat), dObj, (0 : Nat), dObj, (0 : Nat), fun _ => none, default, 0, fun _ _ => True)
    refine (?hkFReadLaw2 : ∀ x0 x1 x2 x3 x4 x5 x6 x7 x8 x9 x10 x11 x12 x13 x14 x15 x16 x17 x18 x19 x20 x21 x22 x23 x24 x25 x26 x27 x28 x29 x30 x31 x32 x33 x34 x35 x36 x37 x38 x39 x40 x41 x42 x43 x44 x45 x46 x47 x48 x49 x50 x51 x52 x53 x54 x55 x56 x57 x58 x59 x60 x61 x62 x63 x64 x65 x66 x67 x68 x69 x70 x71 x72 x73 x74 x75 x76 x77 x78 x79 x80 x81 x82 x83, ?hkPReadLaw2 x0 x1 x2 x3 x4 x5 x6 x7 x8 x9 x10 x11 x12 x13 x14 x15 x16 x17 x18 x19 x20 x21 x22 x23 x24 x25 x26 x27 x28 x29 x30 x31 x32 x33 x34 x35 x36 x37 x38 x39 x40 x41 x42 x43 x44 x45 x46 x47 x48 x49 x50 x51 x52 x53 x54 x55 x56 x57 x58 x59 x60 x61 x62 x63 x64 x65 x66 x67 x68 x69 x70 x71 x72 x73 x74 x75 x76 x77 x78 x79 x80 x81 x82 x83) _ _ _ _ _ _ _ _ _ _ _ _ _ _ _ _ _ _ _ _ _ _ _ _ _ _ _ _ _ _ _ _ (default) (0) _ (default) (0) _ _ _ _ _ _ _ _ _ (default) (default) ((0 : Nat)) (default) _ (default) (default) (default) _ (default) (default) (0) _ _ _ _ _ _ _ _ _ _ _ _ _ _ _ _ _ _ _ _ _ _ _ _ _ _
    intro w x t k kz tk tb st0 st h₀ L m s R p loose mean mg mb dp un gd cn cs a ccd cl outer A₀ base g' L' h' tk' _ h' tk' S l vs n tb' new st1 xa da h8 g1 L1 h7 tk2 h6 h5 h4 pb h3 h2 tk1 h1 oc tk h0 tkr tR uR vR kk g9 i ys vs7 k7 ln7 n7 v I oI C oC D m₂ h tk E' hkz hx htb hoff hsub F N hret B T hk hd hu X FG' B' X' T' l1 _ hx0 o1 hV hap p1 p3 htb' hst hap' hst1 q1 p1 p3 p1' p2 l11 l2 l12 Tc kX hoc hR FR NR hK NR hsm hn hsz hi hys hV7 hln hP hN hx F N o3 ne hlen d1 d2 d3 d4 d5 d6 X6
    (try k_fold)
    k_steps
    (try dsimp only)
    rename News _ _ _ _ => kN8
    rename Fr _ _ _ _ => kF8
    have kN9 : News g' L' _ ((da, lexD w k7 ln7 S pb) :: (l, listOf vs7.toArray n7) :: ((I, oI) :: (C, oC) :: (D, LCg.lst ys) :: ((pb, W.listOf #[] 0) :: (xa, instObj 76 da) :: (L' + 1, oc) :: (113, tb') :: st1))) := news_of kN8 fun p hp => by
      simp only [List.mem_cons] at hp ⊢
      rcases hp with h | h | h | h | h | h
      · exact .inr (.inr (.inr (.inl h)))
      · exact .inr (.inr (.inr (.inr (.inl h))))
      · exact .inl h
      · exact .inr (.inl h)
      · exact .inr (.inr (.inl h))
      · exact .inr (.inr (.inr (.inr (.inr h))))
    refine' (gt_con _ vs7 hV7 n7 xa da S pb l k7 ln7 _ X6 hlen).call (Site.mk B' X' T' rfl (by walk_at "line") (by walk_at "line")) kF8 kN9 ?_
    rintro v7 led7 h7 tk7 ⟨t7, vr, kk7, nn7, rfl, hV8, rfl⟩ F8 N8
    refine' LCg.CompEnd.intro F8 N8 ((da, lexD w kk7 (ln7 + nls (lexRest x.cps.toList i) - nls (tokRun (lexRest x.cps.toList i)).2) S pb) :: (l, listOf vr.toArray nn7) :: ((pb, W.listOf #[] 0) :: (xa, instObj 76 da) :: (L' + 1, oc) :: (113, tb') :: st1)) ?s1 ?s2 trivial ⟨_, vr, kk7, _, nn7, rfl, hV8, ?s3, ?s4, rfl⟩
    case s1 =>
      intro p hp
      simp only [List.mem_cons] at hp ⊢
      rcases hp with h | h | h | h | h | h
      · exact .inr (.inr (.inl h))
      · exact .inr (.inr (.inr (.inl h)))
      · exact .inr (.inr (.inr (.inr (.inl h))))
      · exact .inl h
      · exact .inr (.inl h)
      · exact .inr (.inr (.inr (.inr (.inr h))))
    case s2 => exact ⟨⟨d1, d2, d3⟩, ⟨d4, d5, d6⟩, o3.2.2⟩
    case s3 =>
      show _ - nls (tokRun _).2 + nls (tokRun _).2 = _
      omega
    case s4 =>
      show StrsAre _ (List.map mk (lexToks _ i ++ [_]))
      rw [List.map_append]
      exact strsAre_snoc hys
end Mine
end
section
open PySem PySem.W PyProof.Rows PySem.Builtin PySem.Builtin.ObjectAttr PySem.Calls
set_option maxRecDepth 100000
namespace Mine
/-- what res.append is -/
abbrev bapp (l : Addr) : Obj := { cls := .type "builtin_function_or_method", data := .fields #[.builtin "list.append", .ref l] }
theorem md_slot_get : Slot "method_descriptor" "__get__" "method_descriptor.__get__" :=
  .of (owner := "method_descriptor") (n := "__get__") (by rw [typeLookup_type, builtinLookup_eq_fast]; kernel_rfl) (by decide +kernel) (by decide +kernel) (by decide +kernel)
    (by first | exact .inl (by decide +kernel) | exact .inr (by decide +kernel)) (by rw [isSubtype_type]; kernel_rfl)
theorem md_entry_get : entryFor table "method_descriptor.__get__" = some Builtin.«method_descriptor.__get__» := entryFor_of_tree (by kernel_rfl)
theorem md_args_get (a b c : Value) : argsOk "method_descriptor.__get__" ⟨[a, b, c], []⟩ := by unfold argsOk; kernel_rfl
theorem md_no_set : typeLookup (.type "method_descriptor") "__set__" = pure none := by rw [typeLookup_type, builtinLookup_eq_fast]; kernel_rfl
theorem md_no_delete : typeLookup (.type "method_descriptor") "__delete__" = pure none := by rw [typeLookup_type, builtinLookup_eq_fast]; kernel_rfl
theorem list_sub_list : isSubtype (.type "list") (.type "list") = pure true := by rw [isSubtype_type]; kernel_rfl
theorem list_sub_module : isSubtype (.type "list") (.type "module") = pure false := by rw [isSubtype_type]; kernel_rfl
theorem sig_app : Manifest.signature? "list.append" = some ⟨.oneArg, "list.append", "append", .self, [⟨"object", .posOnly, true⟩]⟩ := by
  rw [signature?_of (id := "list.append") (n := ['d', 'n', 'e', 'p', 'p', 'a']) (o := ['t', 's', 'i', 'l']) (by kernel_rfl) F.owner_list]; kernel_rfl
theorem app_checkArgs (a b : Value) : Bind.checkArgs "list.append" ⟨.oneArg, toString (Bind.lastOf "list") ++ toString "." ++ toString (Bind.lastOf "list.append"), "append", .self, [⟨"object", .posOnly, true⟩]⟩ ⟨[a, b], []⟩ = pure () := by kernel_rfl
theorem quiet_app {as : Args} : (Code.builtin "list.append" as).quiet = true := Code.quiet_builtin _ (by decide +kernel)
section
variable {prog : Program} {w : World} {A : Around} {E : Value → Shared → Prop} {s : Shared} {h₀ : Heap} {L : Addr} {m : Str → Option Value} {led : Led}
theorem md_get {l : Addr} {its : Array Value} {n : Nat} {Q : Value → Shared → Prop} (hl : s.heap.get? l = some (listOf its n))
    (h : Q (.ref s.heap.objs.size) { s with heap := s.heap.push (bapp l) }) : wpAny (model prog w) A (call (.builtin "method_descriptor.__get__") [.builtin "list.append", .ref l, .type "list"]) Q E s := by
  have hT : s.TypeIs (.builtin "list.append") "method_descriptor" := type_list_append
  refine wpAny_call_entry md_slot_get hT md_entry_get ?_ (md_args_get _ _ _)
  unfold Builtin.«method_descriptor.__get__»
  refine wpAny_bind (wpAny_of_eq (a := (.builtin "list.append", some (.ref l), some (.type "list"))) (by first | rfl | kernel_rfl) ?_)
  dsimp only
  rw [if_neg (by decide +kernel)]
  refine wpAny_bind ?_
  refine wpAny_bind (wpAny_of_eq (a := (Str.ofString "append", Value.type "list")) (by first | rfl | kernel_rfl) ?_)
  refine wpAny_bind (wpAny_isInstance (T := "list") (b := true) ⟨_, hl, rfl⟩ list_sub_list ?_)
  rw [if_neg (by decide)]
  refine wpAny_pure ?_
  exact wpAny_bind (wpAny_newObj_type (wpAny_pure ⟨_, rfl, h⟩) (by size_fits))
theorem app_attr {l : Addr} {its : Array Value} {n : Nat} {Q : Value → Shared → Prop} (hl : s.heap.get? l = some (listOf its n))
    (h : Q (.ref s.heap.objs.size) { s with heap := s.heap.push (bapp l), toks := s.toks + 1 }) : wpAny (model prog w) A (getAttr (.ref l) (Str.ofString "append") true) Q E s := by
  obtain ⟨hh, g, dr, t, os⟩ := s
  dsimp only at hl h
  unfold getAttr getAttrBy
  refine wpAny_bind (wpAny_mkText (wpAny_holding (wpAny_bind (wpAny_typeOf ⟨_, hl, rfl⟩ ?_))))
  rw [F.slot_list_getattribute.lookup]
  refine wpAny_bind (wpAny_pure ?_)
  dsimp only
  rw [if_neg (by decide +kernel)]
  unfold getAttrByItsOwn
  rw [show hookBefore (.type "list") = pure none from rfl]
  refine wpAny_bind (wpAny_pure (wpAny_bind (wpAny_attempt (wpAny_holding ?_))))
  unfold callGetattribute
  rw [if_neg (by decide +kernel)]
  unfold boundAndCalled
  rw [F.slot_list_getattribute.bind]
  refine wpAny_bind (wpAny_pure ?_)
  show wpAny _ _ (call (.builtin "list.__getattribute__") [.ref l, .str (Str.ofString "append") t]) _ _ _
  refine wpAny_call_entry F.slot_list_getattribute (s := ⟨hh, g, dr, t + 1, os⟩) ⟨_, hl, rfl⟩ am_entry_list_getattribute ?_ (F.args_list_getattribute_2 _ _)
  rw [show Builtin.«object.__getattribute__» ⟨[.ref l, .str (Str.ofString "append") t], []⟩ = (typeOf (.ref l) >>= fun tp => find (.ref l) tp (Str.ofString "append") >>= fun r => match r with
    | .value v => ret v
    | .bind g a => bindTo g a (.ref l) tp
    | .missing => do
      if tp == .type "module" then
        if ← isOpaqueModuleObj (.ref l) then
          let byTheModulesOwnEntry := match (← stack).drop 1 with
            | (.builtin "module.__getattribute__" ⟨m :: _, _⟩, _) :: _ => m == (.ref l)
            | _ => false
          if !byTheModulesOwnEntry then unsupported "thirdparty:object.__getattribute__:a-miss-on-an-opaque-module"
      if tp == .type "type" then
        if let some key ← opaqueClassAbove (.ref l) then unsupported s!"thirdparty:{key.toString}.{(Str.ofString "append").toString}:object.__getattribute__-misses-on-an-opaque-class"
      noSuchAttribute (.ref l) (Str.ofString "append")) from rfl]
  refine wpAny_bind (wpAny_typeOf ⟨_, hl, rfl⟩ (wpAny_bind ?_))
  unfold find
  rw [slot_list_append.lookup]
  have hT : (⟨hh, g, dr, t + 1, os⟩ : Shared).TypeIs (.builtin "list.append") "method_descriptor" := type_list_append
  refine wpAny_bind (wpAny_pure (wpAny_bind (wpAny_specialOf hT md_slot_get.lookup ?_)))
  refine wpAny_bind ?_
  unfold dataDescriptor? takesStores
  dsimp only
  refine wpAny_bind ?_
  refine wpAny_bind (wpAny_specialOf hT md_no_set ?_)
  rw [if_neg (by decide)]
  refine wpAny_bind (wpAny_specialOf hT md_no_delete (wpAny_pure ?_))
  rw [if_neg (by decide)]
  refine wpAny_pure ?_
  dsimp only
  unfold ownThenClass inOwnDict ObjectAttr.ownDict loadHead
  refine wpAny_bind (wpAny_bind (wpAny_bind (wpAny_loadPart hl ?_)))
  dsimp only
  unfold instanceDict
  refine wpAny_bind (wpAny_loadPart hl ?_)
  dsimp only
  rw [if_pos (by decide)]
  refine wpAny_pure (wpAny_pure ?_)
  dsimp only
  refine wpAny_bind ?_
  rw [show copiedAttributeGuard (Str.ofString "append") (.ref l) = pure () from by unfold copiedAttributeGuard; dsimp only; rw [if_neg (by decide +kernel)]]
  refine wpAny_pure ?_
  refine wpAny_bind (wpAny_rule (wpAny_pure ?_))
  dsimp only
  unfold bindTo
  dsimp only
  refine wpAny_bind (wpAny_holding (md_get hl ?_))
  refine wpAny_pure ⟨_, rfl, ?_⟩
  dsimp only
  exact wpAny_pure h
theorem app_call {u l : Addr} {its : Array Value} {n : Nat} {x : Value} {Q : Value → Shared → Prop} (hu : s.heap.get? u = some (bapp l)) (hl : s.heap.get? l = some (listOf its n)) (hsz : its.size ≤ sizeLine)
    (h : ∀ h', h'.get? l = some (listOf (its.push x) (n + 1)) → Heap.SameBut l s.heap h' → Q .none { s with heap := h' }) : wpAny (model prog w) A (call (.ref u) [x]) Q E s := by
  refine wpAny_call (codeAny_of_tree ?_)
  show wpAny _ A.in1 (callAny (.ref u) ⟨[x], []⟩) _ _ s
  simp only [callAny]
  refine wpAny_bind (wpAny_load hu ?_)
  simp only [show (Value.type "builtin_function_or_method" == Value.type "method" || Value.type "builtin_function_or_method" == Value.type "builtin_function_or_method" || Value.type "builtin_function_or_method" == Value.type "method-wrapper") = true by decide, if_true]
  refine KFB.if_so (by decide) ?_
  refine wpAny_bind ?_
  rw [show (#[Value.builtin "list.append", Value.ref l][1] : Value) = .ref l from rfl]
  unfold checkBoundCall
  rw [sig_app, show builtinKind "list.append" = some .method from by decide +kernel]
  dsimp only
  rw [if_neg (by decide)]
  refine wpAny_bind (wpAny_isInstance (T := "list") (b := false) ⟨_, hl, rfl⟩ list_sub_module ?_)
  rw [if_neg (by decide +kernel)]
  unfold isType loadHead
  refine wpAny_bind (wpAny_bind (wpAny_loadPart hl ?_))
  refine wpAny_pure ?_
  dsimp only
  rw [if_neg (by decide)]
  refine wpAny_bind (wpAny_typeOf ⟨_, hl, rfl⟩ ?_)
  dsimp only
  rw [app_checkArgs]
  refine wpAny_bind (wpAny_pure (wpAny_pure ?_))
  refine wpAny_pure ⟨quiet_app, codeAny_builtin entry_list_append ?_⟩
  show wpAny _ _ (updateSeq l (·.push x) >>= fun _ => ret .none) _ _ s
  refine wpAny_bind ?_
  refine wpAny_updateSeq hl rfl (wpAny_pure ?_)
  refine h _ ?_ (Heap.SameBut.update ..)
  have q := PySem.IsL.update hl (·.push x)
  rw [if_neg (by simp)] at q
  exact q
def BAt (u l : Addr) (h : Heap) : Prop := h.get? u = some (bapp l)
theorem bat_of {u l : Addr} {h : Heap} (N : News h₀ L h led) (hm : (u, bapp l) ∈ led) : BAt u l h := (N _ hm).1
theorem app_attr_led {l : Addr} {its : Array Value} {n : Nat} {Q : Value → Shared → Prop} (F : Fr h₀ L s.heap m) (N : News h₀ L s.heap led) (hl : (l, listOf its n) ∈ led)
    (h : ∀ u h', Fr h₀ L h' m → News h₀ L h' ((u, bapp l) :: led) → (∀ p ∈ led, p.1 < u) → Q (.ref u) { s with heap := h', toks := s.toks + 1 }) : wpAny (model prog w) A (getAttr (.ref l) (Str.ofString "append") true) Q E s :=
  app_attr (N _ hl).1 (h _ _ (F.push _) (News.push F N _) fun p hp => Heap.lt_size (N p hp).1)
theorem app_call_led {u l : Addr} {its : Array Value} {n : Nat} {x : Value} {led' : Led} {Q : Value → Shared → Prop} (F : Fr h₀ L s.heap m) (N : News h₀ L s.heap led) (hu : (u, bapp l) ∈ led) (U : Upd l (listOf its n) (listOf (its.push x) (n + 1)) led led')
    (h : ∀ h', Fr h₀ L h' m → News h₀ L h' led' → Q .none { s with heap := h' }) (hsz : its.size ≤ sizeLine := by size_fits) : wpAny (model prog w) A (call (.ref u) [x]) Q E s := by
  obtain ⟨pre, post, rfl, rfl, a, b⟩ := U.split
  have z := N (l, listOf its n) (List.mem_append.mpr (.inr (.head _)))
  exact app_call (N _ hu).1 z.1 hsz fun h' e hs => h h' (F.change hs z.2.1 z.2.2) (news_set N a b hs e)
theorem bapp_callWith {pos : Pos} {u l : Addr} {first : List Value} {env : Env} {e : Expr} {rest : List Expr} {Q : Value → Shared → Prop} {M : Model} (_N : News h₀ L s.heap led) (_hm : (u, bapp l) ∈ led)
    (h : wpAny M A (spliced (backTo pos (starEach (e :: rest) env))) (fun vs s₁ => BAt u l s₁.heap ∧ wpAny M A (call (.ref u) (first ++ vs)) Q E s₁) E s)
    (he : starEach (e :: rest) env = (false, eval e env) :: starEach rest env := by rfl) (hplain : (backTo pos (starEach rest env)).any (·.1) = false := by rfl) :
    wpAny M A (callWith pos (.ref u) first (backTo pos (starEach (e :: rest) env)) []) Q E s := by
  rw [he] at h ⊢
  refine callWith_of (P := BAt u l) (by show ((false || (backTo pos (starEach rest env)).any (·.1)) || false) = false; rw [hplain]; rfl) (fun g hg => ⟨.machine, .inr (.inl rfl), ?_⟩) (evalArgs_plain h)
  exact (Looks.ld (part := none) hg).andThen .now
end
end Mine
end
section
open PySem PySem.W PyProof.Rows PySem.Builtin PySem.Builtin.Str PySem.Calls
set_option maxRecDepth 100000
namespace Mine
theorem key_sub : isSubtype (.type "KeyError") (.type "LookupError") = pure true := by rw [isSubtype_type]; kernel_rfl
section
variable {prog : Program} {w : World} {A : Around} {E : Value → Shared → Prop} {s : Shared} {h₀ : Heap} {L : Addr} {m : PySem.Str → Option Value} {led : Led}
theorem str_getm_translate {x : PySem.Str} {t : Tok} {pl : Sem Bool} {Q : Value × List Value → Shared → Prop} (h : Q (.builtin "str.translate", [.str x t]) s) :
    wpAny (model prog w) A (getMethod (.str x t) (PySem.Str.ofString "translate") pl) Q E s :=
  by with_reducible exact PySem.GM.of (.str x t) (typeIs_str _ _ _) PySem.F.slot_str_translate PySem.F.type_str_translate PySem.GM.noRef h
theorem look_hit {d : Addr} {f : Int → Option Value} {x : PySem.Str} {u : Tok} {c : Nat} {Q : Mapped → Shared → Prop} (hm : s.heap.MapOf (intKind prog w) d f) (hv : f (c : Int) = some (.str x u)) (h : ∀ tk, Q (.text x) { s with toks := tk }) :
    wpAny (model prog w) A (tableLookup (.ref d) c) Q E s := by
  unfold tableLookup
  refine wpAny_bind (wpAny_attempt (wpAny_bind (wpAny_mkInt (wpAny_getItem_of (knd := intKind prog w) (k := (c : Int)) (intKind_is _ _ _ _) hm hv ?_))))
  dsimp only
  refine wpAny_bind (wpAny_of_eq (a := none) rfl ?_)
  refine wpAny_bind (wpAny_of_eq (a := some x) rfl ?_)
  exact wpAny_pure (h _)
theorem look_miss {d : Addr} {f : Int → Option Value} {c : Nat} {Q : Mapped → Shared → Prop} (hd : (d == sysModules) = false) (hh : A.handled = none) (hm : s.heap.MapOf (intKind prog w) d f) (hv : f (c : Int) = none)
    (h : ∀ h', (∀ b o, s.heap.get? b = some o → h'.get? b = some o) → Q .keep { s with heap := h', toks := s.toks + 1 + 1 }) :
    wpAny (model prog w) A (tableLookup (.ref d) c) Q E s := by
  unfold tableLookup
  refine wpAny_bind (wpAny_attempt (wpAny_bind (wpAny_mkInt (wpAny_getItem_missing_of (knd := intKind prog w) (k := (c : Int)) (intKind_is _ _ _ _) hd hh hm hv fun h' e he => ?_))))
  dsimp only
  refine wpAny_bind (wpAny_isInstance (T := "KeyError") (b := true) (by obtain ⟨ob, t, e1, e2, _⟩ := he.there; exact ⟨ob, e1, e2⟩) key_sub ?_)
  rw [if_pos rfl]
  exact wpAny_bind (wpAny_rule (wpAny_pure (h _ he.keeps)))
theorem translate_46 {d : Addr} {f : Int → Option Value} {x : PySem.Str} {u t : Tok} {Q : Value → Shared → Prop} (hm : s.heap.MapOf (intKind prog w) d f) (hv : f 46 = some (.str x u)) (hx : x = PySem.Str.ofString "\\.")
    (h : ∀ tk u, Q (.str x u) { s with toks := tk }) : wpAny (model prog w) A (call (.builtin "str.translate") [.str (one 46) t, .ref d]) Q E s := by
  refine wpAny_call_entry F.slot_str_translate (typeIs_str _ _ _) F.entry_str_translate ?_ (F.args_str_translate_2 _ _)
  unfold Builtin.«str.translate»
  refine wpAny_bind (wpAny_of_eq (a := (.str (one 46) t, one 46, .ref d)) rfl ?_)
  dsimp only
  rw [if_neg (by decide)]
  rw [show (#[46] : Array Nat) = [46].toArray from rfl]
  simp only [List.forIn_toArray, List.forIn_cons, List.forIn_nil]
  rw [show tooLong 0 = false from by decide +kernel]
  rw [if_neg (by decide)]
  refine wpAny_bind (wpAny_bind ?_)
  rw [if_pos (by simp)]
  dsimp only [List.lookup]
  refine wpAny_bind ?_
  refine look_hit (c := 46) hm hv fun tk => ?_
  subst hx
  dsimp only
  rw [if_neg (by decide +kernel)]
  dsimp only
  refine wpAny_bind (wpAny_pure ?_)
  dsimp only
  refine wpAny_bind (wpAny_rule ?_)
  rw [if_neg (by decide)]
  refine wpAny_bind (look_hit (c := 46) hm hv fun tk => ?_)
  dsimp only
  refine wpAny_pure ?_
  dsimp only
  refine wpAny_pure ?_
  rw [if_neg (by decide +kernel)]
  rw [show ({ cps := List.foldl (fun acc p => acc ++ p.cps) #[] [PySem.Str.ofString "\\."].reverse } : PySem.Str) = PySem.Str.ofString "\\." from by decide +kernel]
  unfold retStr
  exact wpAny_bind (wpAny_mkStr (wpAny_pure ⟨_, rfl, h _ _⟩) (by decide +kernel))
theorem translate_34 {d : Addr} {f : Int → Option Value} {t : Tok} {Q : Value → Shared → Prop} (hd : (d == sysModules) = false) (hh : A.handled = none) (hm : s.heap.MapOf (intKind prog w) d f) (hv : f 34 = none)
    (h : ∀ h' tk, (∀ b o, s.heap.get? b = some o → h'.get? b = some o) → Q (.str (one 34) (s.toks + 1 + 1)) { s with heap := h', toks := tk }) : wpAny (model prog w) A (call (.builtin "str.translate") [.str (one 34) t, .ref d]) Q E s := by
  refine wpAny_call_entry F.slot_str_translate (typeIs_str _ _ _) F.entry_str_translate ?_ (F.args_str_translate_2 _ _)
  unfold Builtin.«str.translate»
  refine wpAny_bind (wpAny_of_eq (a := (.str (one 34) t, one 34, .ref d)) rfl ?_)
  dsimp only
  rw [if_neg (by decide)]
  rw [show (#[34] : Array Nat) = [34].toArray from rfl]
  simp only [List.forIn_toArray, List.forIn_cons, List.forIn_nil]
  rw [show tooLong 0 = false from by decide +kernel]
  rw [if_neg (by decide)]
  refine wpAny_bind (wpAny_bind ?_)
  rw [if_pos (by simp)]
  dsimp only [List.lookup]
  refine wpAny_bind ?_
  refine look_miss (c := 34) hd (by exact hh) hm hv fun h' hk => ?_
  dsimp only
  refine wpAny_bind (wpAny_pure ?_)
  dsimp only
  refine wpAny_pure ?_
  dsimp only
  refine wpAny_pure ?_
  rw [if_neg (by decide +kernel)]
  rw [show ({ cps := List.foldl (fun acc p => acc ++ p.cps) #[] [({ cps := #[34] } : PySem.Str)].reverse } : PySem.Str) = one 34 from by decide +kernel]
  unfold retStr
  exact wpAny_bind (wpAny_mkStr (wpAny_pure ⟨_, rfl, h _ _ hk⟩) (by decide +kernel))
end
end Mine
end
section
open PySem PySem.W PyProof.Rows
namespace Mine
/-- the count of tokens never falls -/
theorem runs_toks {M : Model} {Γ : Ctx} {p : Pos} {t : Sem Fin} {fs : List Frame} {s : Shared} {e : End} {s' : Shared} (h : Runs M Γ p t fs s e s') : @LE.le Nat _ s.toks s'.toks := by
  induction h <;> first | omega | (simp only [Shared.setGen] at *; omega) | (dsimp only [Shared.setGen] at *; omega)
theorem codeAny_toks {M : Model} {A : Around} {c : Code} {R : Result → Shared → Prop} {s : Shared} (h : codeAny M A c R s) : codeAny M A c (fun r s' => @LE.le Nat _ s.toks s'.toks ∧ R r s') s := fun Γ p hc hΓ => by
  obtain ⟨r, s', hr, hR⟩ := h Γ p hc hΓ
  exact ⟨r, s', hr, runs_toks hr, hR⟩
theorem wakes_toks {M : Model} {Γ : Ctx} {p : Pos} {g : Nat} {r : Resume} {s s' : Shared} {res : GenResult} (h : Wakes M Γ p g r s res s') : @LE.le Nat _ s.toks s'.toks := by
  unfold Wakes at h
  split at h
  · exact h.elim
  · split at h
    · obtain ⟨e₁, s₁, hr, _, _, rfl⟩ := h
      have t := runs_toks hr
      exact t
    · obtain ⟨_, rfl⟩ := h
      exact Nat.le_refl _
    · obtain ⟨_, rfl⟩ := h
      exact Nat.le_refl _
  · obtain ⟨e₁, s₁, hr, _, _, rfl⟩ := h
    have t := runs_toks hr
    exact t
  · obtain ⟨_, rfl⟩ := h
    exact Nat.le_refl _
  · obtain ⟨_, rfl⟩ := h
    exact Nat.le_refl _
theorem wp_toks {α : Type} {M : Model} {Γ : Ctx} : ∀ (t : Sem α) (Q : α → Pos → Shared → Prop) (E : Value → Pos → Shared → Prop) (p : Pos) (s : Shared) (T : Nat), @LE.le Nat _ T s.toks → Sem.wp M Γ t Q E p s →
    Sem.wp M Γ t (fun a p' s' => @LE.le Nat _ T s'.toks ∧ Q a p' s') (fun e p' s' => @LE.le Nat _ T s'.toks ∧ E e p' s') p s := by
  intro t
  induction t with
  | pure a => intro Q E p s T hT h; exact ⟨hT, h⟩
  | raise e => intro Q E p s T hT h; exact ⟨hT, h⟩
  | unsupported w => intro Q E p s T hT h; exact h
  | finish e => intro Q E p s T hT h; exact h
  | rule t k ih => intro Q E p s T hT h; exact ih _ Q E p s T hT h
  | «at» p' k ih => intro Q E p s T hT h; exact ih _ Q E p' s T hT h
  | load a pt k ih => intro Q E p s T hT h; obtain ⟨o, ho, h⟩ := h; exact ⟨o, ho, ih _ Q E p s T hT h⟩
  | update a pt f k ih => intro Q E p s T hT h; exact ⟨h.1, ih _ Q E p _ T hT h.2⟩
  | alloc o k ih => intro Q E p s T hT h; exact ih _ Q E p _ T hT h
  | loadIfAlive a k ih => intro Q E p s T hT h; exact ih _ Q E p s T hT h
  | point l k ih => intro Q E p s T hT h; exact ih _ Q E p s T hT h
  | register a k ih => intro Q E p s T hT h; exact h
  | fresh k ih => intro Q E p s T hT h; exact ih _ Q E p _ T (Nat.le_succ_of_le hT) h
  | ask k ih => intro Q E p s T hT h; exact ih _ Q E p s T hT h
  | choose src n k ih => intro Q E p s T hT h; exact ⟨h.1, ih _ Q E p _ T hT h.2⟩
  | os q l k ih => intro Q E p s T hT h; exact ih _ Q E p _ T hT h
  | call c hd g l k ih =>
    intro Q E p s T hT h
    obtain ⟨r, s', hr, h⟩ := h
    exact ⟨r, s', hr, ih _ Q E p s' T (Nat.le_trans hT (runs_toks hr)) h⟩
  | handled own k ih => intro Q E p s T hT h; exact ih _ Q E p s T hT h
  | newGen c k ih => intro Q E p s T hT h; exact ih _ Q E p _ T hT h
  | genState g k ih => intro Q E p s T hT h; obtain ⟨st, e, h⟩ := h; exact ⟨st, e, ih _ Q E p s T hT h⟩
  | resume g r l k ih =>
    intro Q E p s T hT h
    obtain ⟨res, s', hr, h⟩ := h
    exact ⟨res, s', hr, ih _ Q E p s' T (Nat.le_trans hT (wakes_toks hr)) h⟩
  | «yield» v g l k ih => intro Q E p s T hT h; exact h
  | stack k ih => intro Q E p s T hT h; exact ih _ Q E p s T hT h
  | fork c k ih => intro Q E p s T hT h; exact h
  | thread k ih => intro Q E p s T hT h; exact ih _ Q E p s T hT h
  | await a t d l k ih => intro Q E p s T hT h; exact h
theorem wpAny_toks {α : Type} {M : Model} {A : Around} {t : Sem α} {Q : α → Shared → Prop} {E : Value → Shared → Prop} {s : Shared} (h : wpAny M A t Q E s) :
    wpAny M A t (fun a s' => @LE.le Nat _ s.toks s'.toks ∧ Q a s') (fun e s' => @LE.le Nat _ s.toks s'.toks ∧ E e s') s := fun Γ p hΓ => wp_toks t _ _ p s s.toks (Nat.le_refl _) (h Γ p hΓ)
/-- use: a step whose end may lean on it that no token was taken back -/
theorem wpAny_low {α : Type} {M : Model} {A : Around} {t : Sem α} {Q : α → Shared → Prop} {E : Value → Shared → Prop} {s : Shared} (h : wpAny M A t (fun a s' => @LE.le Nat _ s.toks s'.toks → Q a s') (fun e s' => @LE.le Nat _ s.toks s'.toks → E e s') s) : wpAny M A t Q E s :=
  wpAny_mono (wpAny_toks h) (fun _ _ x => x.2 x.1) fun _ _ x => x.2 x.1
theorem codeAny_low {M : Model} {A : Around} {c : Code} {R : Result → Shared → Prop} {s : Shared} (h : codeAny M A c (fun r s' => @LE.le Nat _ s.toks s'.toks → R r s') s) : codeAny M A c R s := fun Γ p hc hΓ => by
  obtain ⟨r, s', hr, hR⟩ := h Γ p hc hΓ
  exact ⟨r, s', hr, hR (runs_toks hr)⟩
end Mine
end
section
open PySem PySem.W PyProof.Rows
namespace Mine
theorem wp_gen {α : Type} {M : Model} {A : Around} {t : Sem α} {Q : α → Shared → Prop} {E : Value → Shared → Prop} {h : Heap} {g : Array GenState} {d : Drawn} {X : Nat} {os : OsState}
    (k : ∀ tk, @LE.le Nat _ X tk → wpAny M A t Q E ⟨h, g, d, tk, os⟩) : wpAny M A t Q E ⟨h, g, d, X, os⟩ := k X (Nat.le_refl _)
theorem isnot_strs {M : Model} {A : Around} {E : Value → Shared → Prop} {s : Shared} {x y : Str} {t u : Tok} {Q : Value → Shared → Prop} (ht : @Ne Nat t 0) (hu : @Ne Nat u 0) (htu : @Ne Nat t u) (hxy : (x == y) = false) (h : Q (.bool true) s) :
    wpAny M A (compareOp .IsNot (.str x t) (.str y u)) Q E s := by
  show wpAny M A (do return .bool (!(← isSame (.str x t) (.str y u)))) Q E s
  have e : isSame (.str x t) (.str y u) = pure false := by
    unfold isSame isSame.created
    have h1 : (t == 0) = false := beq_eq_false_iff_ne.mpr ht
    have h2 : (u == 0) = false := beq_eq_false_iff_ne.mpr hu
    have h3 : (t == u) = false := beq_eq_false_iff_ne.mpr htu
    simp only [h1, h2, h3, hxy, Bool.or_false, Bool.false_eq_true, if_false, Bool.not_false, if_true]
  rw [e]
  exact wpAny_bind (wpAny_pure (wpAny_pure h))
/-- as Con, where the count of tokens matters -/
def ConT (w : World) (f : Addr) (args : List Value) (led : Led) (dN uN : Nat) (Pre : Nat → Prop) (P : Nat → Value → Led → Prop) : Prop :=
  ∀ (A : Around) (h₀ : Heap) (L : Addr) (m : Str → Option Value) (s : Shared) (R : Result → Shared → Prop),
    Pre s.toks → Site w dN uN A h₀ L → Fr h₀ L s.heap m → News h₀ L s.heap led →
    (∀ v led' h' tk', P s.toks v led' → Fr h₀ L h' m → News h₀ L h' led' → R (.ok (.ret v)) { s with heap := h', toks := tk' }) →
    codeAny (model PySem.Challenge.rw_in0213_01.row.prog w) A (.call (.ref f) ⟨args, []⟩) R s
theorem ConT.call {w : World} {f : Addr} {args : List Value} {led : Led} {dN uN : Nat} {Pre : Nat → Prop} {P : Nat → Value → Led → Prop} (c : ConT w f args led dN uN Pre P) {A : Around} {h₀ : Heap} {L : Addr} {m : Str → Option Value} {s : Shared} {Q E : Value → Shared → Prop}
    (hp : Pre s.toks) (S : Site w dN uN A h₀ L) (F : Fr h₀ L s.heap m) (N : News h₀ L s.heap led)
    (h : ∀ v led' h' tk', @LE.le Nat _ s.toks tk' → P s.toks v led' → Fr h₀ L h' m → News h₀ L h' led' → Q v { s with heap := h', toks := tk' }) :
    wpAny (model PySem.Challenge.rw_in0213_01.row.prog w) A (PySem.call (.ref f) args) Q E s :=
  wpAny_call (codeAny_low (c A h₀ L m s _ hp S F N fun v led' h' tk' hP F' N' hle => h v led' h' tk' hle hP F' N'))
theorem Con.callT {w : World} {f : Addr} {args : List Value} {led : Led} {dN uN : Nat} {P : Value → Led → Prop} (c : Con w f args led dN uN P) {A : Around} {h₀ : Heap} {L : Addr} {m : Str → Option Value} {s : Shared} {Q E : Value → Shared → Prop}
    (S : Site w dN uN A h₀ L) (F : Fr h₀ L s.heap m) (N : News h₀ L s.heap led)
    (h : ∀ v led' h' tk', @LE.le Nat _ s.toks tk' → P v led' → Fr h₀ L h' m → News h₀ L h' led' → Q v { s with heap := h', toks := tk' }) :
    wpAny (model PySem.Challenge.rw_in0213_01.row.prog w) A (PySem.call (.ref f) args) Q E s :=
  wpAny_call (codeAny_low (c A h₀ L m s _ S F N fun v led' h' tk' hP F' N' hle => h v led' h' tk' hle hP F' N'))
end Mine
end
section
open PySem PySem.W PyProof.Rows
set_option maxRecDepth 100000
namespace Mine
theorem keys_of {prog : Program} {w : World} {l : List DictEntry} (h : ∀ e ∈ l, ∃ k t, e.key = .int k t ∧ e.hash = (intKind prog w).hash k) : KeysOf (intKind prog w) l.toArray := by
  intro e he
  obtain ⟨k, t, e1, e2⟩ := h e (by simpa using he)
  exact ⟨k, by rw [e1]; exact intKind_is prog w k t, e2⟩
theorem map_of {prog : Program} {w : World} {h : Heap} {a : Addr} {l : List DictEntry} {n : Nat} (ho : h.get? a = some (dictOf l n)) (hk : ∀ e ∈ l, ∃ k t, e.key = .int k t ∧ e.hash = (intKind prog w).hash k) :
    h.MapOf (intKind prog w) a (fun k => findBy (intKind prog w).is l.toArray k) := ⟨_, _, _, ho, ⟨rfl, rfl, rfl⟩, rfl, keys_of hk, fun _ => rfl⟩
theorem tab87 {prog : Program} {w : World} {h : Heap} (X : (Mine.K w.params).In h) : ∃ f u, h.MapOf (intKind prog w) 87 f ∧ f 46 = some (.str (Str.ofString "\\.") u) ∧ f 34 = none := by
  have e : ∃ l n, (Mine.K w.params).lookup 87 = some (dictOf l n) ∧ (∀ e ∈ l, ∃ k t, e.key = .int k t ∧ e.hash = (intKind prog w).hash k) ∧ (∃ u, findBy (intKind prog w).is l.toArray 46 = some (.str (Str.ofString "\\.") u)) ∧ findBy (intKind prog w).is l.toArray 34 = none := by
    refine ⟨_, _, rfl, ?_, ⟨_, rfl⟩, rfl⟩
    repeat (first | exact List.forall_mem_nil _ | refine List.forall_mem_cons.mpr ⟨⟨_, _, rfl, rfl⟩, ?_⟩)
  obtain ⟨l, n, ho, hk, ⟨u, h1⟩, h2⟩ := e
  exact ⟨_, u, map_of (X _ _ ho) hk, h1, h2⟩
theorem truthy_some {prog : Program} {w : World} {A : Around} {E : Value → Shared → Prop} {s : Shared} {h₀ : Heap} {L : Addr} {led : Led} {a : Addr} {its : Array Value} {n : Nat} {Q : Bool → Shared → Prop} (N : News h₀ L s.heap led) (hm : (a, listOf its n) ∈ led) (hne : its.isEmpty = false) (hf : (its.size : Int) < 2 ^ 63)
    (h : Q true { s with toks := s.toks + 1 + 1 }) : wpAny (model prog w) A (truthy (.ref a)) Q E s :=
  wpAny_truthy_list (listOf_is N hm) hf (by rw [hne]; exact h)
end Mine
end
section
open PySem PySem.W PyProof.Rows
namespace Mine
local macro_rules | `(tactic| walk_at $s:str) => `(tactic| k_extra $s)
local macro_rules | `(tactic| k_all) => `(tactic| k_extra "k_all")
local macro_rules | `(tactic| k_ne) => `(tactic| k_extra "k_ne")
local macro_rules | `(tactic| size_fits) => `(tactic| k_extra "size_fits")
local macro_rules | `(tactic| ktr_room) => `(tactic| k_extra "ktr_room")
local macro_rules | `(tactic| k_in) => `(tactic| k_extra "k_in")
local macro_rules | `(tactic| ktr_units) => `(tactic| k_extra "ktr_units")
set_option maxRecDepth 100000 in
set_option maxHeartbeats 8000000 in
theorem esc_46 {w : World} (t1 : Tok) (st : Led) : ConT w 97 [.str (Str.ofString ".") t1] st 8 40 (fun _ => True) (fun T v led' => (∃ u, v = .str (Str.ofString "\\.") u) ∧ led' = st) := by
  k_with_none
  k_with "line" => (first | exact ln2 ‹_ < PySem.recursionLimit› rfl | exact ln2 ‹_ < PySem.cLine› rfl | exact ln1 ‹_ < PySem.recursionLimit› rfl | exact ln1 ‹_ < PySem.cLine› rfl | (simp only [ktrTop] at *; first | exact ln2 ‹_ < PySem.recursionLimit› rfl | exact ln2 ‹_ < PySem.cLine› rfl | exact ln1 ‹_ < PySem.recursionLimit› rfl | exact ln1 ‹_ < PySem.cLine› rfl | omega))
  k_with "pr" => ((intro hcW; first | exact hcW.1 | exact hcW.2.1 | exact hcW.2.2.1 | exact hcW.2.2.2.1 | exact hcW.2.2.2.2.1 | exact hcW.2.2.2.2.2.1 | exact hcW.2.2.2.2.2.2.1 | exact hcW.2.2.2.2.2.2.2.1 | exact hcW.2.2.2.2.2.2.2.2.1 | exact hcW.2.2.2.2.2.2.2.2.2.1 | exact hcW.2.2.2.2.2.2.2.2.2.2.1 | exact hcW.2.2.2.2.2.2.2.2.2.2.2.1))
  k_with "k_ne" => ((refine neN ?_; (try dsimp only); first | (with_reducible assumption) | exact Ne.symm (by with_reducible assumption) | (refine ne_c1 (by with_reducible assumption) ?_; walk_at "pr") | (refine ne_c2 (by with_reducible assumption) ?_; walk_at "pr") | (refine ne_c3 (by with_reducible assumption) ?_; walk_at "pr") | (refine ne_c4 (by with_reducible assumption) ?_; walk_at "pr") | (refine ne_f1 (by with_reducible assumption) ?_; walk_at "pr") | (refine ne_f2 (by with_reducible assumption) ?_; walk_at "pr") | (refine ne_d1 (by with_reducible assumption) (by with_reducible assumption) ?_; walk_at "pr") | (refine ne_d2 (by with_reducible assumption) (by with_reducible assumption) ?_; walk_at "pr") | exact Nat.ne_of_lt (by with_reducible assumption) | exact Nat.ne_of_gt (by with_reducible assumption) | exact Nat.succ_ne_self _ | exact (Nat.succ_ne_self _).symm | ((repeat (rename (@Ne Nat _ _) => hz9W; clear hz9W)); omega)))
  k_with "le" => (first | exact Nat.le_refl _ | exact Nat.le_of_lt (by with_reducible assumption) | exact Nat.le_succ _ | exact Nat.le_succ_of_le (Nat.le_succ _) | omega)
  k_with "ktr_room" => (exact lt_room (by assumption))
  k_with "ktr_units" => ((first | exact ln1 (by assumption) rfl | exact ln2 (by assumption) rfl | (simp only [units_in1, units_deeper, Around.mark_units, units_caller]; first | exact ln2 (by assumption) rfl | exact ln1 (by assumption) rfl)))
  k_with "k_in" => (first | (with_reducible assumption) | k_in_fast | exact Frag.In.keeps (by k_asm) (Fr.keep (by k_asm)))
  k_with "sz" => (first | exact le_n (by with_reducible assumption) rfl | omega)
  k_with "pt" => ((intro hcW; with_reducible first | exact hcW.2 | exact hcW.2.2 | exact hcW.2.2.2 | exact hcW.2.2.2.2 | exact hcW.2.2.2.2.2 | exact hcW.2.2.2.2.2.2 | exact hcW.2.2.2.2.2.2.2 | exact hcW.2.2.2.2.2.2.2.2 | exact hcW.2.2.2.2.2.2.2.2.2 | exact hcW.2.2.2.2.2.2.2.2.2.2 | exact hcW.2.2.2.2.2.2.2.2.2.2.2 | exact hcW.2.2.2.2.2.2.2.2.2.2.2.2))
  k_with "size_fits" => (exact Nat.le_of_ble_eq_true rfl)
  k_with "mine tl" => (first | (with_reducible assumption) | ((with_reducible rename AllLt _ _ => hl9W); first | exact allLt_ne hl9W (by walk_at "sz") | (clear hl9W; walk_at "mine tl")) | ((with_reducible rename (_ ∧ _) => hq9W); (have ha9W := hq9W.1); (have hb9W := hq9W.2); clear hq9W; walk_at "mine tl"))
  k_with "k_all" => (first | exact List.forall_mem_nil _ | (with_reducible assumption) | ((with_reducible show ∀ p ∈ _ :: _, _); refine' List.forall_mem_cons.mpr ⟨(by k_ne), (by k_all)⟩) | (refine tl_eq (by with_reducible assumption) ?_; walk_at "pt") | (refine tl_s (by with_reducible assumption) ?_; walk_at "pt") | (refine tl_t (by with_reducible assumption) ?_; walk_at "pt") | ((with_reducible rename AllLt _ _ => hl9W); with_reducible exact allLt_ne hl9W (by walk_at "le")) | (refine' List.forall_mem_cons.mpr ⟨(by k_ne), (by k_all)⟩) | walk_at "mine tl")
  k_with "call type:list" => (((k_here; (with_reducible show wpAny _ _ (call (Value.type _) [Value.str _ _]) _ _ _); k_dflt (refine' list_str_led (by exact rfl) (by k_asm) (by k_asm) (by assumption) ?_; k_whole); intro l' h' tk' vs' n' F' N' l1 S'; (try k_lt l1))); (first | revert l' h' tk' vs' n' F' N' l1 S' | ((try revert S'); (try revert l1); (try revert N'); (try revert F'); (try revert n'); (try revert vs'); (try revert tk'); (try revert h'); (try revert l'))); (try intros))
  k_with "setAttr ref" => (((k_here; (with_reducible show wpAny _ _ (setAttr (Value.ref _) _ _) _ _ _); k_dflt (refine' fn_setAttr_led (by k_asm) (by k_asm) (by k_updF) (by exact fn_no_read) ?_; k_whole); intro D' h' kt' tk' F' N' l1; (try dsimp only at N'); (try k_lt l1); (try k_sweep))); (first | revert D' h' kt' tk' F' N' l1 | ((try revert l1); (try revert N'); (try revert F'); (try revert tk'); (try revert kt'); (try revert h'); (try revert D'))); (try intros))
  k_with "getMethod ref" => ((k_here; k_dflt (refine' fn_method_led (by k_asm) (by k_mem) (by k_mem) (by rfl) (by exact fn_no_read) (by rfl) ?_; k_whole)))
  k_with "compareOp NotEq ref ref" => ((k_here; k_dflt (first | (refine' ne_nil_nil (by k_asm) (by k_mem) (by k_mem) (by ktr_units) ?_; k_whole) | (refine' ne_cons_nil (by k_asm) (by k_mem) (by k_mem) (by ktr_units) ?_; k_whole))))
  k_with "call builtin:list.pop" => (((k_here; k_dflt (refine' pop0_led (by k_asm) (by k_asm) (by k_upd) (by assumption) ?_; k_whole); intro h' F' N'; (try k_sweep))); (first | revert h' F' N' | ((try revert N'); (try revert F'); (try revert h'))); (try intros))
  k_with "mine enter" => (first | (refine' code_def (by k_asm) (by k_asm) (by k_asm) (by k_asm) (by k_asm) (by exact rfl) (by exact rfl) (by (first | exact rfl | assumption)) (by k_is) (by k_is) (by ktr_room) (by exact BindsTo.of_eq rfl) (by exact locs rfl) ?_ (by exact rfl) (by exact rfl) (by exact rfl) (by decide); k_whole; intro g' L' h' FG' F' N' B' X' T'; (try dsimp only); (first | revert g' L' h' FG' F' N' B' X' T' | ((try revert T'); (try revert X'); (try revert B'); (try revert N'); (try revert F'); (try revert FG'); (try revert h'); (try revert L'); (try revert g'))); (try intros); (try k_fold)) | (refine' code_defC (by k_asm) (by k_asm) (by k_asm) (by k_asm) (by k_asm) (by exact rfl) (by exact rfl) (by (first | exact rfl | assumption)) (by k_is) (by k_is) (by ktr_room) (by exact BindsTo.of_eq rfl) (by exact rfl) (by decide +kernel) ?_ (by exact rfl) (by exact rfl) (by exact rfl); k_whole; intro g' L' h' tk' cells' FG' F' N' Y' B' X' T' l1; (try k_lt l1); k_cells Y'; (try simp only [List.cons_append, List.nil_append] at N'); (try dsimp only); (first | revert g' L' h' tk' cells' FG' F' N' Y' B' X' T' l1 | ((try revert l1); (try revert T'); (try revert X'); (try revert B'); (try revert Y'); (try revert N'); (try revert F'); (try revert FG'); (try revert cells'); (try revert tk'); (try revert h'); (try revert L'); (try revert g'))); (try intros); (try k_fold)))
  k_with "mine new" => ((k_dflt (refine' call_cls (by k_asm) (by k_asm) (by k_asm) (by k_is) (by k_is) (by k_is) ?_; k_whole; intro x' d' h' F' N' l1 l2; (try k_lt l1); (try k_lt2 l2); (try k_sweep); (first | revert x' d' h' F' N' l1 l2 | ((try revert l2); (try revert l1); (try revert N'); (try revert F'); (try revert h'); (try revert d'); (try revert x'))); (try intros); walk_at "mine enter")))
  k_with "call builtin:iter" => (((k_here; k_dflt (refine' iter2_led (by k_asm) (by k_asm) (by k_mem) ?_; k_whole); intro it' h' F' N' l1; (try k_lt l1))); (first | revert it' h' F' N' l1 | ((try revert l1); (try revert N'); (try revert F'); (try revert h'); (try revert it'))); (try intros))
  k_with "gt eq" => (((intro y; by_cases e1 : y = Str.ofString "ch"; (subst e1; rfl); by_cases e2 : y = Str.ofString "fiter"; (subst e2; rfl); by_cases e3 : y = Str.ofString "token"; (subst e3; rfl); by_cases e4 : y = Str.ofString "self"; (subst e4; rfl); (simp only [gtm, if_neg e1, if_neg e2, if_neg e3, if_neg e4]; try (show (match y == Str.ofString "self" with | true => _ | false => _) = none; rw [show (y == Str.ofString "self") = false from by simpa using e4]; rfl)))); (first | revert y | ((try revert y))); (try intros))
  k_with "getAttr ref" => (((k_here; (with_reducible show wpAny _ _ (getAttr (Value.ref _) _ true) _ _ _); k_dflt (refine' app_attr_led (by k_asm) (by k_asm) (by k_mem) ?_; k_whole); intro u' h' F' N' l1; (try k_lt l1))); (first | revert u' h' F' N' l1 | ((try revert l1); (try revert N'); (try revert F'); (try revert h'); (try revert u'))); (try intros))
  k_with "callWith ref" => ((k_here; (with_reducible show wpAny _ _ (callWith _ (Value.ref _) _ (backTo _ (starEach (_ :: _) _)) []) _ _ _); k_dflt (refine' bapp_callWith (by k_asm) (by k_mem) ?_; k_whole)))
  k_with "And" => (((with_reducible show BAt _ _ _ ∧ _); k_dflt (refine' ⟨bat_of (by k_asm) (by k_mem), ?_⟩); (try dsimp only [List.nil_append, List.cons_append])))
  k_with "call ref" => (((k_here; (with_reducible show wpAny _ _ (call (Value.ref _) [_]) _ _ _); k_dflt (refine' app_call_led (by k_asm) (by k_asm) (by k_mem) (by k_upd) ?_ (by size_fits); k_whole); intro h' F' N'; (try k_sweep))); (first | revert h' F' N' | ((try revert N'); (try revert F'); (try revert h'))); (try intros))
  k_with "execs cons" => (((k_here; (with_reducible show wpAny _ _ _ _ _ (Shared.mk _ _ _ (_ + _) _)); refine' wp_gen ?_; intro tk htk)); (first | revert tk htk | ((try revert htk); (try revert tk))); (try intros))
  k_with "execs nil" => (((k_here; (with_reducible show wpAny _ _ _ _ _ (Shared.mk _ _ _ (_ + _) _)); refine' wp_gen ?_; intro tk htk)); (first | revert tk htk | ((try revert htk); (try revert tk))); (try intros))
  k_with "compareOp IsNot str str" => ((k_here; refine' isnot_strs (by walk_at "sz") (by walk_at "sz") (by walk_at "sz") (by decide) ?_))
  k_with "getMethod str" => ((k_here; k_dflt (refine' str_getm_translate ?_)))
  intro A h₀ L m s R _ S F N hret
  obtain ⟨p, loose, mean, mg, mb, dp, un, gd, cn, cs, a, ccd, cl, outer, A₀, base, rfl, B, X, T, hk, hd, hu⟩ := S
  revert X; k_fill; intro X
  (refine' code_def (binds := [(PySem.Str.ofString "pattern", .str (Str.ofString ".") t1)]) ?k1 ?k2 ?k3 ?k4 ?k5 ?kA ?kF ?kK ?k6 ?k7 ?k8 ?k9 ?kB ?_ ?c2 ?c3 ?c4 ?c5; (case kA => exact rfl); (case kF => exact rfl); (case kK => assumption); (case k1 => k_asm); (case k2 => k_asm); (case k3 => k_asm); (case k4 => k_asm); (case k5 => k_asm); (case k6 => k_is); (case k7 => k_is); (case k8 => ktr_room); (case k9 => exact BindsTo.of_eq rfl); (case c5 => decide); (case kB => exact locs rfl); (case c2 => exact rfl); (case c3 => exact rfl); (case c4 => exact rfl); k_whole; intro g' L' h' FG' F' N' B' X' T'; (try dsimp only); (try k_fold))
  have hMk9 := kstMark
  k_steps
  rename News _ _ _ _ => kN8
  rename Fr _ _ _ _ => kF8
  obtain ⟨f, u, hm, h1, h2⟩ := tab87 (prog := PySem.Challenge.rw_in0213_01.row.prog) (X'.keeps kF8.keep)
  rw [show Str.ofString "." = one 46 from by decide +kernel]
  (try dsimp only)
  refine' translate_46 hm h1 rfl fun tk u => ?_
  k_steps
  rename News _ _ _ _ => kN9
  rename Fr _ _ _ _ => kF9
  exact hret _ _ _ _ ⟨⟨_, rfl⟩, rfl⟩ kF9 kN9
set_option maxRecDepth 100000 in
set_option maxHeartbeats 8000000 in
theorem esc_34 {w : World} (t1 : Tok) (st : Led) : ConT w 97 [.str (Str.ofString "\"") t1] st 8 40 (fun _ => True) (fun T v led' => (∃ u, v = .str (Str.ofString "\"") u ∧ @LE.le Nat _ T u) ∧ led' = st) := by
  k_with_none
  k_with "line" => (first | exact ln2 ‹_ < PySem.recursionLimit› rfl | exact ln2 ‹_ < PySem.cLine› rfl | exact ln1 ‹_ < PySem.recursionLimit› rfl | exact ln1 ‹_ < PySem.cLine› rfl | (simp only [ktrTop] at *; first | exact ln2 ‹_ < PySem.recursionLimit› rfl | exact ln2 ‹_ < PySem.cLine› rfl | exact ln1 ‹_ < PySem.recursionLimit› rfl | exact ln1 ‹_ < PySem.cLine› rfl | omega))
  k_with "pr" => ((intro hcW; first | exact hcW.1 | exact hcW.2.1 | exact hcW.2.2.1 | exact hcW.2.2.2.1 | exact hcW.2.2.2.2.1 | exact hcW.2.2.2.2.2.1 | exact hcW.2.2.2.2.2.2.1 | exact hcW.2.2.2.2.2.2.2.1 | exact hcW.2.2.2.2.2.2.2.2.1 | exact hcW.2.2.2.2.2.2.2.2.2.1 | exact hcW.2.2.2.2.2.2.2.2.2.2.1 | exact hcW.2.2.2.2.2.2.2.2.2.2.2.1))
  k_with "k_ne" => ((refine neN ?_; (try dsimp only); first | (with_reducible assumption) | exact Ne.symm (by with_reducible assumption) | (refine ne_c1 (by with_reducible assumption) ?_; walk_at "pr") | (refine ne_c2 (by with_reducible assumption) ?_; walk_at "pr") | (refine ne_c3 (by with_reducible assumption) ?_; walk_at "pr") | (refine ne_c4 (by with_reducible assumption) ?_; walk_at "pr") | (refine ne_f1 (by with_reducible assumption) ?_; walk_at "pr") | (refine ne_f2 (by with_reducible assumption) ?_; walk_at "pr") | (refine ne_d1 (by with_reducible assumption) (by with_reducible assumption) ?_; walk_at "pr") | (refine ne_d2 (by with_reducible assumption) (by with_reducible assumption) ?_; walk_at "pr") | exact Nat.ne_of_lt (by with_reducible assumption) | exact Nat.ne_of_gt (by with_reducible assumption) | exact Nat.succ_ne_self _ | exact (Nat.succ_ne_self _).symm | ((repeat (rename (@Ne Nat _ _) => hz9W; clear hz9W)); omega)))
  k_with "le" => (first | exact Nat.le_refl _ | exact Nat.le_of_lt (by with_reducible assumption) | exact Nat.le_succ _ | exact Nat.le_succ_of_le (Nat.le_succ _) | omega)
  k_with "ktr_room" => (exact lt_room (by assumption))
  k_with "ktr_units" => ((first | exact ln1 (by assumption) rfl | exact ln2 (by assumption) rfl | (simp only [units_in1, units_deeper, Around.mark_units, units_caller]; first | exact ln2 (by assumption) rfl | exact ln1 (by assumption) rfl)))
  k_with "k_in" => (first | (with_reducible assumption) | k_in_fast | exact Frag.In.keeps (by k_asm) (Fr.keep (by k_asm)))
  k_with "sz" => (first | exact le_n (by with_reducible assumption) rfl | omega)
  k_with "pt" => ((intro hcW; with_reducible first | exact hcW.2 | exact hcW.2.2 | exact hcW.2.2.2 | exact hcW.2.2.2.2 | exact hcW.2.2.2.2.2 | exact hcW.2.2.2.2.2.2 | exact hcW.2.2.2.2.2.2.2 | exact hcW.2.2.2.2.2.2.2.2 | exact hcW.2.2.2.2.2.2.2.2.2 | exact hcW.2.2.2.2.2.2.2.2.2.2 | exact hcW.2.2.2.2.2.2.2.2.2.2.2 | exact hcW.2.2.2.2.2.2.2.2.2.2.2.2))
  k_with "size_fits" => (exact Nat.le_of_ble_eq_true rfl)
  k_with "mine tl" => (first | (with_reducible assumption) | ((with_reducible rename AllLt _ _ => hl9W); first | exact allLt_ne hl9W (by walk_at "sz") | (clear hl9W; walk_at "mine tl")) | ((with_reducible rename (_ ∧ _) => hq9W); (have ha9W := hq9W.1); (have hb9W := hq9W.2); clear hq9W; walk_at "mine tl"))
  k_with "k_all" => (first | exact List.forall_mem_nil _ | (with_reducible assumption) | ((with_reducible show ∀ p ∈ _ :: _, _); refine' List.forall_mem_cons.mpr ⟨(by k_ne), (by k_all)⟩) | (refine tl_eq (by with_reducible assumption) ?_; walk_at "pt") | (refine tl_s (by with_reducible assumption) ?_; walk_at "pt") | (refine tl_t (by with_reducible assumption) ?_; walk_at "pt") | ((with_reducible rename AllLt _ _ => hl9W); with_reducible exact allLt_ne hl9W (by walk_at "le")) | (refine' List.forall_mem_cons.mpr ⟨(by k_ne), (by k_all)⟩) | walk_at "mine tl")
  k_with "call type:list" => (((k_here; (with_reducible show wpAny _ _ (call (Value.type _) [Value.str _ _]) _ _ _); k_dflt (refine' list_str_led (by exact rfl) (by k_asm) (by k_asm) (by assumption) ?_; k_whole); intro l' h' tk' vs' n' F' N' l1 S'; (try k_lt l1))); (first | revert l' h' tk' vs' n' F' N' l1 S' | ((try revert S'); (try revert l1); (try revert N'); (try revert F'); (try revert n'); (try revert vs'); (try revert tk'); (try revert h'); (try revert l'))); (try intros))
  k_with "setAttr ref" => (((k_here; (with_reducible show wpAny _ _ (setAttr (Value.ref _) _ _) _ _ _); k_dflt (refine' fn_setAttr_led (by k_asm) (by k_asm) (by k_updF) (by exact fn_no_read) ?_; k_whole); intro D' h' kt' tk' F' N' l1; (try dsimp only at N'); (try k_lt l1); (try k_sweep))); (first | revert D' h' kt' tk' F' N' l1 | ((try revert l1); (try revert N'); (try revert F'); (try revert tk'); (try revert kt'); (try revert h'); (try revert D'))); (try intros))
  k_with "getMethod ref" => ((k_here; k_dflt (refine' fn_method_led (by k_asm) (by k_mem) (by k_mem) (by rfl) (by exact fn_no_read) (by rfl) ?_; k_whole)))
  k_with "compareOp NotEq ref ref" => ((k_here; k_dflt (first | (refine' ne_nil_nil (by k_asm) (by k_mem) (by k_mem) (by ktr_units) ?_; k_whole) | (refine' ne_cons_nil (by k_asm) (by k_mem) (by k_mem) (by ktr_units) ?_; k_whole))))
  k_with "call builtin:list.pop" => (((k_here; k_dflt (refine' pop0_led (by k_asm) (by k_asm) (by k_upd) (by assumption) ?_; k_whole); intro h' F' N'; (try k_sweep))); (first | revert h' F' N' | ((try revert N'); (try revert F'); (try revert h'))); (try intros))
  k_with "mine enter" => (first | (refine' code_def (by k_asm) (by k_asm) (by k_asm) (by k_asm) (by k_asm) (by exact rfl) (by exact rfl) (by (first | exact rfl | assumption)) (by k_is) (by k_is) (by ktr_room) (by exact BindsTo.of_eq rfl) (by exact locs rfl) ?_ (by exact rfl) (by exact rfl) (by exact rfl) (by decide); k_whole; intro g' L' h' FG' F' N' B' X' T'; (try dsimp only); (first | revert g' L' h' FG' F' N' B' X' T' | ((try revert T'); (try revert X'); (try revert B'); (try revert N'); (try revert F'); (try revert FG'); (try revert h'); (try revert L'); (try revert g'))); (try intros); (try k_fold)) | (refine' code_defC (by k_asm) (by k_asm) (by k_asm) (by k_asm) (by k_asm) (by exact rfl) (by exact rfl) (by (first | exact rfl | assumption)) (by k_is) (by k_is) (by ktr_room) (by exact BindsTo.of_eq rfl) (by exact rfl) (by decide +kernel) ?_ (by exact rfl) (by exact rfl) (by exact rfl); k_whole; intro g' L' h' tk' cells' FG' F' N' Y' B' X' T' l1; (try k_lt l1); k_cells Y'; (try simp only [List.cons_append, List.nil_append] at N'); (try dsimp only); (first | revert g' L' h' tk' cells' FG' F' N' Y' B' X' T' l1 | ((try revert l1); (try revert T'); (try revert X'); (try revert B'); (try revert Y'); (try revert N'); (try revert F'); (try revert FG'); (try revert cells'); (try revert tk'); (try revert h'); (try revert L'); (try revert g'))); (try intros); (try k_fold)))
  k_with "mine new" => ((k_dflt (refine' call_cls (by k_asm) (by k_asm) (by k_asm) (by k_is) (by k_is) (by k_is) ?_; k_whole; intro x' d' h' F' N' l1 l2; (try k_lt l1); (try k_lt2 l2); (try k_sweep); (first | revert x' d' h' F' N' l1 l2 | ((try revert l2); (try revert l1); (try revert N'); (try revert F'); (try revert h'); (try revert d'); (try revert x'))); (try intros); walk_at "mine enter")))
  k_with "call builtin:iter" => (((k_here; k_dflt (refine' iter2_led (by k_asm) (by k_asm) (by k_mem) ?_; k_whole); intro it' h' F' N' l1; (try k_lt l1))); (first | revert it' h' F' N' l1 | ((try revert l1); (try revert N'); (try revert F'); (try revert h'); (try revert it'))); (try intros))
  k_with "gt eq" => (((intro y; by_cases e1 : y = Str.ofString "ch"; (subst e1; rfl); by_cases e2 : y = Str.ofString "fiter"; (subst e2; rfl); by_cases e3 : y = Str.ofString "token"; (subst e3; rfl); by_cases e4 : y = Str.ofString "self"; (subst e4; rfl); (simp only [gtm, if_neg e1, if_neg e2, if_neg e3, if_neg e4]; try (show (match y == Str.ofString "self" with | true => _ | false => _) = none; rw [show (y == Str.ofString "self") = false from by simpa using e4]; rfl)))); (first | revert y | ((try revert y))); (try intros))
  k_with "getAttr ref" => (((k_here; (with_reducible show wpAny _ _ (getAttr (Value.ref _) _ true) _ _ _); k_dflt (refine' app_attr_led (by k_asm) (by k_asm) (by k_mem) ?_; k_whole); intro u' h' F' N' l1; (try k_lt l1))); (first | revert u' h' F' N' l1 | ((try revert l1); (try revert N'); (try revert F'); (try revert h'); (try revert u'))); (try intros))
  k_with "callWith ref" => ((k_here; (with_reducible show wpAny _ _ (callWith _ (Value.ref _) _ (backTo _ (starEach (_ :: _) _)) []) _ _ _); k_dflt (refine' bapp_callWith (by k_asm) (by k_mem) ?_; k_whole)))
  k_with "And" => (((with_reducible show BAt _ _ _ ∧ _); k_dflt (refine' ⟨bat_of (by k_asm) (by k_mem), ?_⟩); (try dsimp only [List.nil_append, List.cons_append])))
  k_with "call ref" => (((k_here; (with_reducible show wpAny _ _ (call (Value.ref _) [_]) _ _ _); k_dflt (refine' app_call_led (by k_asm) (by k_asm) (by k_mem) (by k_upd) ?_ (by size_fits); k_whole); intro h' F' N'; (try k_sweep))); (first | revert h' F' N' | ((try revert N'); (try revert F'); (try revert h'))); (try intros))
  k_with "execs cons" => (((k_here; (with_reducible show wpAny _ _ _ _ _ (Shared.mk _ _ _ (_ + _) _)); refine' wp_gen ?_; intro tk htk)); (first | revert tk htk | ((try revert htk); (try revert tk))); (try intros))
  k_with "execs nil" => (((k_here; (with_reducible show wpAny _ _ _ _ _ (Shared.mk _ _ _ (_ + _) _)); refine' wp_gen ?_; intro tk htk)); (first | revert tk htk | ((try revert htk); (try revert tk))); (try intros))
  k_with "compareOp IsNot str str" => ((k_here; refine' isnot_strs (by walk_at "sz") (by walk_at "sz") (by walk_at "sz") (by decide) ?_))
  k_with "getMethod str" => ((k_here; k_dflt (refine' str_getm_translate ?_)))
  intro A h₀ L m s R _ S F N hret
  obtain ⟨p, loose, mean, mg, mb, dp, un, gd, cn, cs, a, ccd, cl, outer, A₀, base, rfl, B, X, T, hk, hd, hu⟩ := S
  revert X; k_fill; intro X
  (refine' code_def (binds := [(PySem.Str.ofString "pattern", .str (Str.ofString "\"") t1)]) ?k1 ?k2 ?k3 ?k4 ?k5 ?kA ?kF ?kK ?k6 ?k7 ?k8 ?k9 ?kB ?_ ?c2 ?c3 ?c4 ?c5; (case kA => exact rfl); (case kF => exact rfl); (case kK => assumption); (case k1 => k_asm); (case k2 => k_asm); (case k3 => k_asm); (case k4 => k_asm); (case k5 => k_asm); (case k6 => k_is); (case k7 => k_is); (case k8 => ktr_room); (case k9 => exact BindsTo.of_eq rfl); (case c5 => decide); (case kB => exact locs rfl); (case c2 => exact rfl); (case c3 => exact rfl); (case c4 => exact rfl); k_whole; intro g' L' h' FG' F' N' B' X' T'; (try dsimp only); (try k_fold))
  have hMk9 := kstMark
  k_steps
  rename News _ _ _ _ => kN8
  rename Fr _ _ _ _ => kF8
  obtain ⟨f, u, hm, h1, h2⟩ := tab87 (prog := PySem.Challenge.rw_in0213_01.row.prog) (X'.keeps kF8.keep)
  rw [show Str.ofString "\"" = one 34 from by decide +kernel]
  (try dsimp only)
  refine' translate_34 (by decide) rfl hm h2 fun h' tk hk => ?_
  have F9 := kF8.keeps hk
  have N9 : News g' L' h' _ := fun p hp => ⟨hk _ _ (kN8 p hp).1, (kN8 p hp).2⟩
  clear kF8 kN8
  k_steps
  rename News _ _ _ _ => kN9
  rename Fr _ _ _ _ => kF9
  exact hret _ _ _ _ ⟨⟨_, by rw [show Str.ofString "\"" = one 34 from by decide +kernel], by show s.toks ≤ _ + 1 + 1; omega⟩, rfl⟩ kF9 kN9
end Mine
end
section
open PySem PySem.W PyProof.Rows PySem.Builtin PySem.Builtin.Re PySem.Calls
set_option maxRecDepth 100000
namespace Mine
abbrev patO (t1 t2 t3 t4 : Tok) : Obj := { cls := .type "re.Pattern", data := .fields #[.str (Str.ofString "([&~|])") t1, .int 32 t2, .int 1 t3, .none, .none, .ref 84, .int 0 t4] }
abbrev patCode : List Int := [14, 14, 4, 1, 1, 9, 0, 64, 0, 1342177280, 0, 0, 0, 0, 0, 17, 0, 13, 11, 9, 0, 64, 0, 1342177280, 0, 0, 0, 0, 0, 17, 1, 1]
abbrev patTup : Obj := { cls := .type "tuple", data := .seq (patCode.map rawInt).toArray }
theorem re_slot_sub : Slot "re.Pattern" "sub" "re.Pattern.sub" :=
  .of (owner := "re.Pattern") (n := "sub") (by rw [typeLookup_type, builtinLookup_eq_fast]; kernel_rfl) (by decide +kernel) (by decide +kernel) (by decide +kernel)
    (by first | exact .inl (by decide +kernel) | exact .inr (by decide +kernel)) (by rw [isSubtype_type]; kernel_rfl)
theorem re_entry_sub : entryFor table "re.Pattern.sub" = some Builtin.«re.Pattern.sub» := entryFor_of_tree (by kernel_rfl)
theorem re_entry_loop : entryFor table "re.Pattern.sub.loop" = some Builtin.«re.Pattern.sub.loop» := entryFor_of_tree (by kernel_rfl)
theorem re_args_sub (a b c : Value) : argsOk "re.Pattern.sub" ⟨[a, b, c], []⟩ := by unfold argsOk; kernel_rfl
theorem re_plain : PlainAttrs "re.Pattern" := ⟨⟨"object.__getattribute__", by rw [typeLookup_type, builtinLookup_eq_fast]; kernel_rfl, by decide +kernel⟩, by rw [typeLookup_type, builtinLookup_eq_fast]; kernel_rfl⟩
theorem re_type_sub : typeOf (.builtin "re.Pattern.sub") = pure (.type "method_descriptor") := by kernel_rfl
theorem fn_call : typeLookup (.type "function") "__call__" = pure (some (.builtin "function.__call__")) := by rw [typeLookup_type, builtinLookup_eq_fast]; kernel_rfl
theorem str_not_ba : isSubtype (.type "str") (.type "bytearray") = pure false := by rw [isSubtype_type]; kernel_rfl
theorem quiet_subloop {as : Args} : (Code.builtin "re.Pattern.sub.loop" as).quiet = true := Code.quiet_builtin _ (by decide +kernel)
section
variable {prog : Program} {w : World} {A : Around} {E : Value → Shared → Prop} {s : Shared} {h₀ : Heap} {L : Addr} {m : PySem.Str → Option Value} {led : Led}
theorem re_getm_sub {t1 t2 t3 t4 : Tok} {p : Addr} {pl : Sem Bool} {Q : Value × List Value → Shared → Prop} (hp : s.heap.get? p = some (patO t1 t2 t3 t4)) (h : Q (.builtin "re.Pattern.sub", [.ref p]) s) :
    wpAny (model prog w) A (getMethod (.ref p) (PySem.Str.ofString "sub") pl) Q E s :=
  getMethod_builtin ⟨_, hp, rfl⟩ re_plain re_slot_sub re_type_sub (fun a e => by cases e; exact ⟨_, hp, rfl⟩) h
theorem re_named (a b : Value) : reNamed "re.Pattern.sub" "sub" ["repl", "string", "count"] 2 [a, b] [] = pure [some a, some b, none] := by kernel_rfl
theorem re_target {t1 t2 t3 t4 : Tok} {p : Addr} {t : Tok} {Q : ReTarget → Shared → Prop} (hp : s.heap.get? p = some (patO t1 t2 t3 t4)) (hc : s.heap.get? 84 = some patTup)
    (h : Q { pattern := .ref p, string := .str (PySem.Str.ofString "!a") t, code := (patCode.map Int.toNat).toArray, text := #[33, 97], kind := 0, groups := 1, pos := 0, lim := 2 } s) :
    wpAny (model prog w) A (reWholeTarget (.ref p) (.str (PySem.Str.ofString "!a") t)) Q E s := by
  unfold reWholeTarget
  refine wpAny_bind (wpAny_fieldsOf hp rfl ?_)
  refine wpAny_bind (wpAny_of_eq (a := (#[33, 97], 0)) (by first | rfl | kernel_rfl) ?_)
  dsimp only
  rw [if_neg (by simp [reRawNat]), if_neg (by simp [reRawNat])]
  refine wpAny_bind (wpAny_of_eq (a := ()) (by first | rfl | kernel_rfl) ?_)
  unfold reRawItems
  refine wpAny_bind (wpAny_bind (wpAny_seqItems hc rfl ?_))
  refine wpAny_pure (wpAny_pure ?_)
  have e : Array.map (fun x => x.toNat) (Array.map reRawOf ((some (List.map rawInt patCode).toArray).getD #[])) = (patCode.map Int.toNat).toArray := by simp [patCode, reRawOf, rawInt]
  rw [e]
  exact h
theorem rules_loop {prog : Program} (f : Nat → Bool) (g : Nat → String) {Q : PUnit → Shared → Prop} (h : Q PUnit.unit s) : ∀ l : List Nat, wpAny (model prog w) A (forIn l PUnit.unit fun i (_ : PUnit) => (do
    if f i = true then do
      rule (g i)
      pure (ForInStep.yield PUnit.unit)
    else pure (ForInStep.yield PUnit.unit) : Sem (ForInStep PUnit))) Q E s
  | [] => by
    rw [List.forIn_nil]
    exact wpAny_pure h
  | i :: l => by
    rw [List.forIn_cons]
    refine wpAny_bind ?_
    by_cases hf : f i = true
    · rw [if_pos hf]
      exact wpAny_bind (wpAny_rule (wpAny_pure (rules_loop f g h l)))
    · rw [if_neg hf]
      exact wpAny_pure (rules_loop f g h l)
theorem re_failed : ((Sre.forSearch (patCode.map Int.toNat).toArray #[33, 97] 1 0 2 false).runFor reTurnSteps).outcome = some .failed := by kernel_rfl
theorem re_found {prog : Program} {p : Addr} {t : Tok} {Q : Option Sre.M → Shared → Prop} (h : Q none s) :
    wpAny (model prog w) A (reNextFound { pattern := .ref p, string := .str (PySem.Str.ofString "!a") t, code := (patCode.map Int.toNat).toArray, text := #[33, 97], kind := 0, groups := 1, pos := 0, lim := 2 } 0 false) Q E s := by
  unfold reNextFound reRunToEnd
  rw [show (2 : Nat) ^ 64 = 18446744073709551615 + 1 from rfl]
  have e := re_failed
  dsimp only
  generalize Sre.forSearch (patCode.map Int.toNat).toArray #[33, 97] 1 0 2 false = M0 at *
  refine wpAny_bind ?_
  unfold reDrive
  dsimp only
  generalize M0.runFor reTurnSteps = M1 at *
  rw [if_pos (by rw [e]; rfl)]
  refine wpAny_pure ?_
  refine wpAny_bind (rules_loop _ _ ?_ _)
  rw [e]
  exact wpAny_pure h
theorem re_sub {t1 t2 t3 t4 : Tok} {p lam : Addr} {t : Tok} {Q : Value → Shared → Prop} (hp : s.heap.get? p = some (patO t1 t2 t3 t4)) (hc : s.heap.get? 84 = some patTup) (hl : s.TypeIs (.ref lam) "function")
    (h : ∀ h' tk u, (∀ b o, s.heap.get? b = some o → h'.get? b = some o) → Q (.str (PySem.Str.ofString "!a") u) { s with heap := h', toks := tk }) :
    wpAny (model prog w) A (call (.builtin "re.Pattern.sub") [.ref p, .ref lam, .str (PySem.Str.ofString "!a") t]) Q E s := by
  refine wpAny_call (codeAny_call_builtin re_slot_sub.plain re_entry_sub (re_slot_sub.check _ _ _ _ _ _ _ _ ⟨_, hp, rfl⟩ (re_args_sub _ _ _) ?_))
  unfold Builtin.«re.Pattern.sub» reSubstitute
  dsimp only
  refine wpAny_bind (wpAny_of_eq (re_named _ _) ?_)
  dsimp only
  refine wpAny_bind (wpAny_pure ?_)
  refine wpAny_bind (wpAny_specialOf hl fn_call ?_)
  rw [if_pos (by decide)]
  refine wpAny_bind (wpAny_pure ?_)
  rw [if_pos (by decide)]
  refine wpAny_bind (wpAny_pure ?_)
  dsimp only
  refine wpAny_bind (wpAny_holding (re_target hp hc ?_))
  rw [if_pos (by decide)]
  refine wpAny_bind ?_
  unfold reNotHeld
  refine wpAny_bind (wpAny_isInstance (T := "str") (b := false) rfl str_not_ba ?_)
  rw [if_neg (by decide)]
  refine wpAny_pure ?_
  refine wpAny_bind (wpAny_newList ?_)
  refine wpAny_pure ⟨quiet_subloop, codeAny_builtin re_entry_loop ?_⟩
  have k1 : ∀ b o, s.heap.get? b = some o → (s.heap.push { cls := .type "list", data := .seq ([] : List Value).toArray }).get? b = some o := fun b o e => Heap.get?_push_of_some _ e
  have k2 : (s.heap.push { cls := .type "list", data := .seq ([] : List Value).toArray }).get? s.heap.objs.size = some { cls := .type "list", data := .seq ([] : List Value).toArray } := Heap.get?_push_size _ rfl
  have k0 : ∀ b o, s.heap.get? b = some o → b ≠ s.heap.objs.size := fun b o e => Nat.ne_of_lt (Heap.lt_size e)
  generalize s.heap.push { cls := .type "list", data := .seq ([] : List Value).toArray } = h1 at *
  generalize s.heap.objs.size = D at *
  unfold Builtin.«re.Pattern.sub.loop»
  dsimp only [rawInt]
  refine wpAny_bind (re_target (k1 _ _ hp) (k1 _ _ hc) ?_)
  rw [if_neg (by decide)]
  refine wpAny_bind ?_
  rw [if_neg (by decide)]
  refine re_found ?_
  dsimp only
  rw [if_pos (by decide)]
  unfold reSlice
  rw [if_pos (by decide)]
  refine wpAny_bind (wpAny_mkStr ?_ (by decide +kernel))
  refine wpAny_bind (wpAny_updateSeq k2 rfl ?_)
  dsimp only
  have k3 : ∀ b o, s.heap.get? b = some o → (h1.update D (Obj.mapSeq (·.push (.str ⟨(#[33, 97] : Array Nat).extract (Int.toNat 0) 2⟩ s.toks)))).get? b = some o := fun b o e => (Heap.get?_update_other _ _ (Ne.symm (k0 b o e))).trans (k1 b o e)
  have k4 := Heap.get?_update_self (Obj.mapSeq (·.push (.str ⟨(#[33, 97] : Array Nat).extract (Int.toNat 0) 2⟩ s.toks))) k2 rfl
  generalize h1.update D (Obj.mapSeq (·.push (.str ⟨(#[33, 97] : Array Nat).extract (Int.toNat 0) 2⟩ s.toks))) = h2 at *
  rw [if_pos (by decide)]
  refine wpAny_bind (wpAny_mkStr ?_ (by decide +kernel))
  refine wpAny_bind (wpAny_seqItems k4 rfl ?_)
  rw [if_neg (by simp)]
  rw [if_pos (by decide)]
  refine wpAny_bind ?_
  refine join_list (items := #[.str (PySem.Str.ofString "!a") s.toks]) (ys := [PySem.Str.ofString "!a"]) ⟨_, k4, rfl, _, rfl⟩ (.cons _ _ .nil) (by decide +kernel) fun u tk => ?_
  rw [if_neg (by decide)]
  refine wpAny_pure ?_
  rw [show Txt.join { cps := #[33, 97].extract 0 0 } [PySem.Str.ofString "!a"] = PySem.Str.ofString "!a" from by decide +kernel]
  exact h _ _ _ k3
end
end Mine
end
section
open PySem PySem.W PyProof.Rows
namespace Mine
/-- what _translate leaves: a new list of these strs -/
inductive TrPost2 (res : List Str) (st : Led) (v : Value) (led' : Led) : Prop
  | intro : ∀ (l : Addr) (its : List Value) (n : Nat) (new : Led) (p99 : Array Value), v = .ref l → led' = (99, tabObj p99) :: (new ++ st) → (l, listOf its.toArray n) ∈ new → StrsAre its res → Apart new st → (∀ p ∈ new, p.1 ≠ 99) → TrPost2 res st v led'
structure LowMark : Prop where
  on : True
theorem lowMark : LowMark := ⟨trivial⟩
theorem repl_bang : Txt.replace (Str.ofString "!a") (Str.ofString "\\") (Str.ofString "\\\\") = Str.ofString "!a" := by decide +kernel
theorem pat85 {w : World} {h₀ h : Heap} {L : Addr} {m : Str → Option Value} (X : (Mine.K w.params).In h₀) (F : Fr h₀ L h m) : ∃ t1 t2 t3 t4, h.get? 85 = some (patO t1 t2 t3 t4) := ⟨_, _, _, _, F.keep _ _ (X 85 _ rfl)⟩
theorem pat84 {w : World} {h₀ h : Heap} {L : Addr} {m : Str → Option Value} (X : (Mine.K w.params).In h₀) (F : Fr h₀ L h m) : h.get? 84 = some patTup := F.keep _ _ (X 84 _ rfl)
theorem tr_end {h₀ h' : Heap} {L : Addr} {m : Str → Option Value} {s : Shared} {R : Result → Shared → Prop} {res : List Str} {st : Led} {e1 e2 : Addr × Obj} {l : Addr} {its : Array Value} {n : Nat} {p99 : Array Value} {tk' : Nat}
    (hret : ∀ v led' h' tk', TrPost2 res st v led' → Fr h₀ L h' m → News h₀ L h' led' → R (.ok (.ret v)) { s with heap := h', toks := tk' })
    (F : Fr h₀ L h' m) (N : News h₀ L h' (e1 :: e2 :: (l, listOf its n) :: (99, tabObj p99) :: st)) (hS : StrsAre its.toList res)
    (a1 : ∀ p ∈ st, p.1 ≠ e1.1) (a2 : ∀ p ∈ st, p.1 ≠ e2.1) (a3 : ∀ p ∈ st, p.1 ≠ l) (b1 : @Ne Nat e1.1 99) (b2 : @Ne Nat e2.1 99) (b3 : @Ne Nat l 99) :
    R (.ok (.ret (.ref l))) { s with heap := h', toks := tk' } := by
  refine hret _ ((99, tabObj p99) :: ([e1, e2, (l, listOf its n)] ++ st)) _ _ ⟨l, its.toList, n, [e1, e2, (l, listOf its n)], p99, rfl, rfl, by simp, hS, ?_, ?_⟩ F (news_of N fun p hp => ?_)
  · intro p hp q hq
    simp only [List.mem_cons, List.not_mem_nil, or_false] at hp
    rcases hp with rfl | rfl | rfl
    · exact a1 q hq
    · exact a2 q hq
    · exact a3 q hq
  · intro p hp
    simp only [List.mem_cons, List.not_mem_nil, or_false] at hp
    rcases hp with rfl | rfl | rfl
    · exact b1
    · exact b2
    · exact b3
  · simp only [List.cons_append, List.nil_append, List.mem_cons] at hp ⊢
    rcases hp with h | h | h | h | h
    · exact .inr (.inr (.inr (.inl h)))
    · exact .inl h
    · exact .inr (.inl h)
    · exact .inr (.inr (.inl h))
    · exact .inr (.inr (.inr (.inr h)))
theorem tr_end5 {h₀ h' : Heap} {L : Addr} {m : Str → Option Value} {s : Shared} {R : Result → Shared → Prop} {res : List Str} {st : Led} {e1 e2 e3 e4 : Addr × Obj} {l : Addr} {its : Array Value} {n : Nat} {p99 : Array Value} {tk' : Nat}
    (hret : ∀ v led' h' tk', TrPost2 res st v led' → Fr h₀ L h' m → News h₀ L h' led' → R (.ok (.ret v)) { s with heap := h', toks := tk' })
    (F : Fr h₀ L h' m) (N : News h₀ L h' (e1 :: e2 :: e3 :: e4 :: (l, listOf its n) :: (99, tabObj p99) :: st)) (hS : StrsAre its.toList res)
    (a1 : ∀ p ∈ st, p.1 ≠ e1.1) (a2 : ∀ p ∈ st, p.1 ≠ e2.1) (a3 : ∀ p ∈ st, p.1 ≠ e3.1) (a4 : ∀ p ∈ st, p.1 ≠ e4.1) (a5 : ∀ p ∈ st, p.1 ≠ l) (b1 : @Ne Nat e1.1 99) (b2 : @Ne Nat e2.1 99) (b3 : @Ne Nat e3.1 99) (b4 : @Ne Nat e4.1 99) (b5 : @Ne Nat l 99) :
    R (.ok (.ret (.ref l))) { s with heap := h', toks := tk' } := by
  refine hret _ ((99, tabObj p99) :: ([e1, e2, e3, e4, (l, listOf its n)] ++ st)) _ _ ⟨l, its.toList, n, [e1, e2, e3, e4, (l, listOf its n)], p99, rfl, rfl, by simp, hS, ?_, ?_⟩ F (news_of N fun p hp => ?_)
  · intro p hp q hq
    simp only [List.mem_cons, List.not_mem_nil, or_false] at hp
    rcases hp with rfl | rfl | rfl | rfl | rfl
    · exact a1 q hq
    · exact a2 q hq
    · exact a3 q hq
    · exact a4 q hq
    · exact a5 q hq
  · intro p hp
    simp only [List.mem_cons, List.not_mem_nil, or_false] at hp
    rcases hp with rfl | rfl | rfl | rfl | rfl
    · exact b1
    · exact b2
    · exact b3
    · exact b4
    · exact b5
  · simp only [List.cons_append, List.nil_append, List.mem_cons] at hp ⊢
    rcases hp with h | h | h | h | h | h | h
    · exact .inr (.inr (.inr (.inr (.inr (.inl h)))))
    · exact .inl h
    · exact .inr (.inl h)
    · exact .inr (.inr (.inl h))
    · exact .inr (.inr (.inr (.inl h)))
    · exact .inr (.inr (.inr (.inr (.inl h))))
    · exact .inr (.inr (.inr (.inr (.inr (.inr h)))))
theorem lit_set : Str.empty ++ Str.ofString "[" ++ Str.ofString "^a" ++ Str.ofString "]" = Str.ofString "[^a]" := by decide +kernel
section
variable {prog : Program} {w : World} {A : Around} {E : Value → Shared → Prop} {s : Shared} {h₀ : Heap} {L : Addr} {m : Str → Option Value} {led : Led}
theorem notin_lit {x y : Str} {u t : Tok} {Q : Value → Shared → Prop} (hx : (Builtin.Str.occurrences x y 0 x.length 1).isEmpty = true) (h : Q (.bool true) s) : wpAny (model prog w) A (compareOp .NotIn (.str y u) (.str x t)) Q E s :=
  P.notIn_str (by rw [hx]; exact h)
theorem getm85 {pl : Sem Bool} {Q : Value × List Value → Shared → Prop} (X : (Mine.K w.params).In h₀) (F : Fr h₀ L s.heap m) (h : Q (.builtin "re.Pattern.sub", [.ref 85]) s) :
    wpAny (model prog w) A (getMethod (.ref 85) (Str.ofString "sub") pl) Q E s := by
  obtain ⟨_, _, _, _, h85⟩ := pat85 X F
  exact re_getm_sub h85 h
theorem sub85 {lam : Addr} {o : Obj} {t : Tok} {Q : Value → Shared → Prop} (X : (Mine.K w.params).In h₀) (F : Fr h₀ L s.heap m) (N : News h₀ L s.heap led) (hm : (lam, o) ∈ led) (ho : o.cls = .type "function")
    (h : ∀ h' tk u, Fr h₀ L h' m → News h₀ L h' led → Q (.str (Str.ofString "!a") u) { s with heap := h', toks := tk }) :
    wpAny (model prog w) A (call (.builtin "re.Pattern.sub") [.ref 85, .ref lam, .str (Str.ofString "!a") t]) Q E s := by
  obtain ⟨_, _, _, _, h85⟩ := pat85 X F
  exact re_sub h85 (pat84 X F) ⟨_, (N _ hm).1, ho⟩ fun h' tk u hk => h h' tk u (F.keeps hk) (N.grown hk)
end
end Mine
end
section
open PySem PySem.W PyProof.Rows
namespace Mine
local macro_rules | `(tactic| walk_at $s:str) => `(tactic| k_extra $s)
local macro_rules | `(tactic| k_all) => `(tactic| k_extra "k_all")
local macro_rules | `(tactic| k_ne) => `(tactic| k_extra "k_ne")
local macro_rules | `(tactic| size_fits) => `(tactic| k_extra "size_fits")
local macro_rules | `(tactic| ktr_room) => `(tactic| k_extra "ktr_room")
local macro_rules | `(tactic| k_in) => `(tactic| k_extra "k_in")
local macro_rules | `(tactic| ktr_units) => `(tactic| k_extra "ktr_units")
theorem takenS_len (res : List Str) (zs : List Int) : (takenS res zs).length ≤ zs.length := by
  unfold takenS
  rw [List.length_map]
  refine Nat.le_trans (List.length_filter_le _ _) ?_
  rw [List.length_map]
  exact Nat.le_refl _
theorem diffL_len : ∀ (es a b : List Str), (diffL es (a, b)).1.length ≤ a.length + es.length ∧ (diffL es (a, b)).2.length ≤ b.length
  | [], a, b => by simp [diffL]
  | x :: r, a, b => by
    rw [diffL]
    by_cases hx : x ∈ b
    · rw [if_pos hx]
      have := diffL_len r a (b.erase x)
      have := List.length_erase_le (a := x) (l := b)
      simp only [List.length_cons]
      omega
    · rw [if_neg hx]
      have := diffL_len r (a ++ [x]) b
      simp only [List.length_cons, List.length_append, List.length_nil] at *
      omega
/-- what a bag holds: what is missing, what is unexpected, sorted -/
def BagOf (e : List Str × List Str) (x y : List Str) : Prop := x.Perm (diffL e.1.reverse ([], e.2)).1 ∧ sortedS x = true ∧ y.Perm (diffL e.1.reverse ([], e.2)).2 ∧ sortedS y = true
/-- what _law_told leaves -/
inductive ToldPost (res : List Str) (z1 z2 : List Int) (st : Led) (v : Value) (led' : Led) : Prop
  | intro : ∀ x1 y1 x2 y2, BagOf (takenS res z1, takenS res z2) x1 y1 → BagOf (takenS res z2, takenS res z1) x2 y2 → BTop led' v (dueE z1) (dueE z2) (x1, y1) (x2, y2) → (∀ p ∈ st, p ∈ led') → (∃ ps, (113, tabObj ps) ∈ led') → (∃ ps, (99, tabObj ps) ∈ led') → ToldPost res z1 z2 st v led'
inductive ToldJ1 (z1 z2 : List Int) (st : Led) (c9 Fi n1 n2 : Addr) (oC : Obj) (v1 v2 : List Value) (k1 k2 k3 : Nat) (i : Nat) (ys : List Value) (nw : Led) : Prop
  | intro : ∀ (tb1 : Obj) (rest : Led), nw = (113, tb1) :: (c9, oC) :: (99, tabObj #[]) :: (Fi, listOf #[.ref n1, .ref n2] k1) :: (n1, listOf v1.toArray k2) :: (n2, listOf v2.toArray k3) :: rest → TabOk tb1 rest → (∀ p ∈ rest, p.1 ≠ 113) → (∀ p ∈ rest, p.1 ≠ 99) → (∀ p ∈ rest, p.1 ≠ c9) → (∀ p ∈ st, p ∈ rest) → ys.length = i →
    (∀ (j : Nat) (v : Value) (zz : List Int), ys[j]? = some v → [z1, z2][j]? = some zz → BEntry rest v (dueE zz)) → ToldJ1 z1 z2 st c9 Fi n1 n2 oC v1 v2 k1 k2 k3 i ys nw
inductive ToldJ2 (res : List Str) (z1 z2 : List Int) (rest' : Led) (lp2 : Addr) (pl : List Value) (nI : Nat) (D : Addr) (d1' d2' : Value) (c9 : Addr) (oP : Obj) (Fi n1 n2 : Addr) (v1 v2 : List Value) (k1 k2 k3 : Nat) (i : Nat) (ys : List Value) (nw : Led) : Prop
  | intro : ∀ (extra : Led), nw = (lp2, listOf pl.toArray nI) :: (D, LCg.lst [d1', d2']) :: (c9, oP) :: (Fi, listOf #[.ref n1, .ref n2] k1) :: (n1, listOf v1.toArray k2) :: (n2, listOf v2.toArray k3) :: extra → (∀ p ∈ rest', p ∈ extra) → ys.length = i →
      (∀ (j : Nat) (v : Value) (zz : List Int), ys[j]? = some v → [z1, z2][j]? = some zz → BStrs extra v (takenS res zz)) → ToldJ2 res z1 z2 rest' lp2 pl nI D d1' d2' c9 oP Fi n1 n2 v1 v2 k1 k2 k3 i ys nw
inductive ToldJ3 (res : List Str) (z1 z2 : List Int) (low : Led) (bg lDr a1 a2 T D : Addr) (w1 w2 : List Value) (m1 m2 : Nat) (d1' d2' : Value) (i : Nat) (m : Str → Option Value) (nw : Led) : Prop
  | intro : ∀ (bl : List Value) (c9 : Nat) (ex : Led), m (Str.ofString "read") = some (.ref D) → m (Str.ofString "bags") = some (.ref bg) → bl.length = i →
        nw = (bg, listOf bl.toArray c9) :: (lDr, listOf #[.ref a2, .ref a1] 0) :: (a1, listOf w1.toArray m1) :: (a2, listOf w2.toArray m2) :: (T, listOf #[.ref a1, .ref a2] 2) :: (D, listOf #[d1', d2'] 2) :: ex → (∀ p ∈ low, p ∈ ex) →
        (∀ p ∈ ex, p.1 ≠ bg) → (∀ (j : Nat) (v : Value) (e : List Str × List Str), bl[j]? = some v → [(takenS res z1, takenS res z2), (takenS res z2, takenS res z1)][j]? = some e → ∃ x y, BagOf e x y ∧ BPair ex v (x, y)) → ToldJ3 res z1 z2 low bg lDr a1 a2 T D w1 w2 m1 m2 d1' d2' i m nw
inductive ToldJ4 (sp sq : List Str) (ex : Led) (Tt M Uc I hy3 bg lDr a1 a2 T D : Addr) (ms rl' bl w1 w2 : List Value) (c j' c9 m1 m2 : Nat) (oI : Obj) (d1' d2' : Value) (i : Nat) (ys : List Value) (nw : Led) : Prop
  | intro : ∀ (e2 : Led), nw = (Tt, ({ cls := .type "tuple", data := .seq #[.ref M, .ref Uc] } : Obj)) :: (M, listOf ms.toArray c) :: (Uc, listOf rl'.toArray j') :: (I, oI) :: (hy3, listOf #[.ref T, .ref lDr] 0) :: (bg, listOf bl.toArray c9) :: (lDr, listOf #[.ref a2, .ref a1] 0) :: (a1, listOf w1.toArray m1) :: (a2, listOf w2.toArray m2) :: (T, listOf #[.ref a1, .ref a2] 2) :: (D, listOf #[d1', d2'] 2) :: e2 →
          (∀ p ∈ ex, p ∈ e2) → (∀ p ∈ e2, p.1 ≠ bg) → (∀ p ∈ e2, p.1 ≠ I) → ys.length = i → (∀ (j : Nat) (v : Value) (pile : List Str), ys[j]? = some v → [(diffL sp.reverse ([], sq)).1, (diffL sp.reverse ([], sq)).2][j]? = some pile → ∃ ss, ss.Perm pile ∧ sortedS ss = true ∧ BStrs e2 v ss) → ToldJ4 sp sq ex Tt M Uc I hy3 bg lDr a1 a2 T D ms rl' bl w1 w2 c j' c9 m1 m2 oI d1' d2' i ys nw
inductive ToldPair (led : Led) (res : List Str) (z1 z2 : List Int) (i : Nat) (v : Value) : Prop
  | intro : ∀ (tt pp qq : Addr) (wp wq : List Value) (sp sq : List Str) (mp mq kt : Nat), v = .ref tt → (tt, listOf #[.ref pp, .ref qq] kt) ∈ led → (pp, listOf wp.toArray mp) ∈ led → (qq, listOf wq.toArray mq) ∈ led →
            StrsAre wp sp → StrsAre wq sq → wp.length ≤ 10 → wq.length ≤ 10 → [(takenS res z1, takenS res z2), (takenS res z2, takenS res z1)][i]? = some (sp, sq) → ToldPair led res z1 z2 i v
inductive ToldPile (sp sq : List Str) (M Uc : Addr) (ms rl' : List Value) (c j' i4 : Nat) (v : Value) : Prop
  | intro : ∀ (aa : Addr) (vs : List Value) (pile : List Str) (cc : Nat), v = .ref aa → ((aa, listOf vs.toArray cc) = (M, listOf ms.toArray c) ∨ (aa, listOf vs.toArray cc) = (Uc, listOf rl'.toArray j')) → StrsAre vs pile → vs.length ≤ 20 → [(diffL sp.reverse ([], sq)).1, (diffL sp.reverse ([], sq)).2][i4]? = some pile → ToldPile sp sq M Uc ms rl' c j' i4 v
theorem tab_obj {tb : Obj} {st : Led} (h : TabOk tb st) : ∃ ps, tb = tabObj ps := by
  rcases h with h | ⟨c1, c2, oc2, vs2, t2, h, -⟩
  · exact ⟨_, h⟩
  · exact ⟨_, h⟩
set_option maxRecDepth 100000 in
set_option maxHeartbeats 8000000 in
theorem told_con {w : World} (Fi n1 n2 : Addr) (v1 v2 : List Value) (z1 z2 : List Int) (pat : Str) (tp : Tok) (k1 k2 k3 : Nat) (h1 : IntsAre v1 z1) (h2 : IntsAre v2 z2) (hl1 : v1.length ≤ 10) (hl2 : v2.length ≤ 10) (st : Led) (hoff113 : ∀ p ∈ st, p.1 ≠ 113) (hoff99 : ∀ p ∈ st, p.1 ≠ 99) (f1 : @Ne Nat Fi 113) (f2 : @Ne Nat n1 113) (f3 : @Ne Nat n2 113) (f4 : @Ne Nat Fi 99) (f5 : @Ne Nat n1 99) (f6 : @Ne Nat n2 99) (P : Str) (res : List Str) (h5 : ∀ x ∈ res, Five x) (hpat : mk (tokRun pat.cps.toList).1 = P) (hpl : pat.length ≤ 100) (htr : ∀ (t1 t2 t3 : Tok) (_ : @Ne Nat t2 0) (_ : @Ne Nat t3 0) (_ : @Ne Nat t2 t3) (st : Led) (_ : ∀ p ∈ st, p.1 ≠ 99), ConT w 104 [.str P t1, .str (Str.ofString "*") t2, .str (Str.ofString "?") t3] ((99, tabObj #[]) :: st) 12 80 (fun T => @LT.lt Nat _ t2 T ∧ @LT.lt Nat _ t3 T) (fun _ => TrPost2 res st)) : ConD w 150 [.ref Fi, .str pat tp] ((113, tabObj #[]) :: (99, tabObj #[]) :: (Fi, listOf #[.ref n1, .ref n2] k1) :: (n1, listOf v1.toArray k2) :: (n2, listOf v2.toArray k3) :: st) 60 400 (ToldPost res z1 z2 ((Fi, listOf #[.ref n1, .ref n2] k1) :: (n1, listOf v1.toArray k2) :: (n2, listOf v2.toArray k3) :: st)) := by
  k_with_none
  k_with "line" => (first | exact ln2 ‹_ < PySem.recursionLimit› rfl | exact ln2 ‹_ < PySem.cLine› rfl | exact ln1 ‹_ < PySem.recursionLimit› rfl | exact ln1 ‹_ < PySem.cLine› rfl | (simp only [ktrTop] at *; first | exact ln2 ‹_ < PySem.recursionLimit› rfl | exact ln2 ‹_ < PySem.cLine› rfl | exact ln1 ‹_ < PySem.recursionLimit› rfl | exact ln1 ‹_ < PySem.cLine› rfl | omega))
  k_with "pr" => ((intro hcW; first | exact hcW.1 | exact hcW.2.1 | exact hcW.2.2.1 | exact hcW.2.2.2.1 | exact hcW.2.2.2.2.1 | exact hcW.2.2.2.2.2.1 | exact hcW.2.2.2.2.2.2.1 | exact hcW.2.2.2.2.2.2.2.1 | exact hcW.2.2.2.2.2.2.2.2.1 | exact hcW.2.2.2.2.2.2.2.2.2.1 | exact hcW.2.2.2.2.2.2.2.2.2.2.1 | exact hcW.2.2.2.2.2.2.2.2.2.2.2.1))
  k_with "k_ne" => ((refine neN ?_; (try dsimp only); first | (with_reducible assumption) | exact Ne.symm (by with_reducible assumption) | (refine ne_c1 (by with_reducible assumption) ?_; walk_at "pr") | (refine ne_c2 (by with_reducible assumption) ?_; walk_at "pr") | (refine ne_c3 (by with_reducible assumption) ?_; walk_at "pr") | (refine ne_c4 (by with_reducible assumption) ?_; walk_at "pr") | (refine ne_f1 (by with_reducible assumption) ?_; walk_at "pr") | (refine ne_f2 (by with_reducible assumption) ?_; walk_at "pr") | (refine ne_d1 (by with_reducible assumption) (by with_reducible assumption) ?_; walk_at "pr") | (refine ne_d2 (by with_reducible assumption) (by with_reducible assumption) ?_; walk_at "pr") | exact Nat.ne_of_lt (by with_reducible assumption) | exact Nat.ne_of_gt (by with_reducible assumption) | exact Nat.succ_ne_self _ | exact (Nat.succ_ne_self _).symm | ((repeat (rename (@Ne Nat _ _) => hz9W; clear hz9W)); omega)))
  k_with "le" => (first | exact Nat.le_refl _ | exact Nat.le_of_lt (by with_reducible assumption) | exact Nat.le_succ _ | exact Nat.le_succ_of_le (Nat.le_succ _) | omega)
  k_with "ktr_room" => (exact lt_room (by assumption))
  k_with "ktr_units" => ((first | exact ln1 (by assumption) rfl | exact ln2 (by assumption) rfl | (simp only [units_in1, units_deeper, Around.mark_units, units_caller]; first | exact ln2 (by assumption) rfl | exact ln1 (by assumption) rfl)))
  k_with "k_in" => (first | (with_reducible assumption) | k_in_fast | exact Frag.In.keeps (by k_asm) (Fr.keep (by k_asm)))
  k_with "sz" => (first | exact le_n (by with_reducible assumption) rfl | omega)
  k_with "pt" => ((intro hcW; with_reducible first | exact hcW.2 | exact hcW.2.2 | exact hcW.2.2.2 | exact hcW.2.2.2.2 | exact hcW.2.2.2.2.2 | exact hcW.2.2.2.2.2.2 | exact hcW.2.2.2.2.2.2.2 | exact hcW.2.2.2.2.2.2.2.2 | exact hcW.2.2.2.2.2.2.2.2.2 | exact hcW.2.2.2.2.2.2.2.2.2.2 | exact hcW.2.2.2.2.2.2.2.2.2.2.2 | exact hcW.2.2.2.2.2.2.2.2.2.2.2.2))
  k_with "size_fits" => (exact Nat.le_of_ble_eq_true rfl)
  k_with "mine tl" => (first | (with_reducible assumption) | ((with_reducible rename AllLt _ _ => hl9W); first | exact allLt_ne hl9W (by walk_at "sz") | (clear hl9W; walk_at "mine tl")) | ((with_reducible rename (_ ∧ _) => hq9W); (have ha9W := hq9W.1); (have hb9W := hq9W.2); clear hq9W; walk_at "mine tl"))
  k_with "k_all" => (first | exact List.forall_mem_nil _ | (with_reducible assumption) | ((with_reducible show ∀ p ∈ _ :: _, _); refine' List.forall_mem_cons.mpr ⟨(by k_ne), (by k_all)⟩) | (refine tl_eq (by with_reducible assumption) ?_; walk_at "pt") | (refine tl_s (by with_reducible assumption) ?_; walk_at "pt") | (refine tl_t (by with_reducible assumption) ?_; walk_at "pt") | ((with_reducible rename AllLt _ _ => hl9W); with_reducible exact allLt_ne hl9W (by walk_at "le")) | (refine' List.forall_mem_cons.mpr ⟨(by k_ne), (by k_all)⟩) | walk_at "mine tl")
  k_with "compareOp NotEq ref ref" => ((k_here; k_dflt (first | (refine' ne_nil_nil (by k_asm) (by k_mem) (by k_mem) (by ktr_units) ?_; k_whole) | (refine' ne_cons_nil (by k_asm) (by k_mem) (by k_mem) (by ktr_units) ?_; k_whole))))
  k_with "compareOp Eq ref ref" => ((k_here; k_dflt (first | (refine' eq_nil_nil (by k_asm) (by k_mem) (by k_mem) (by ktr_units) ?_; k_whole) | (refine' eq_cons_nil (by k_asm) (by k_mem) (by k_mem) (by ktr_units) ?_; k_whole))))
  k_with "call ref" => (((k_here; (with_reducible show wpAny _ _ (call (Value.ref 130) [_]) _ _ _); k_dflt (refine' (written_con _ _ _).call (Site.mk (by assumption) (by assumption) (by assumption) rfl (by walk_at "line") (by walk_at "line")) (by k_asm) (by k_asm) ?_); (rintro v' led' h' tk' ⟨⟨u', eVW'⟩, eLW'⟩ F' N'; (replace eLW' := eLW'.symm); subst eVW' eLW'; (try dsimp only); (try k_sweep)))); (first | revert v' led' h' tk' u' eVW' eLW' F' N' | ((try revert N'); (try revert F'); (try revert eLW'); (try revert eVW'); (try revert u'); (try revert tk'); (try revert h'); (try revert led'); (try revert v'))); (try intros))
  k_with "binaryOp Add ref ref" => (((k_here; k_dflt (refine' add_led (by k_asm) (by k_asm) (by k_mem) (by k_mem) (by ((first | omega | (simp only [List.length_cons, List.length_nil]; omega)))) ?_); intro D' h' F' N' l1; (try k_lt l1); (try k_sweep))); (first | revert D' h' F' N' l1 | ((try revert l1); (try revert N'); (try revert F'); (try revert h'); (try revert D'))); (try intros))
  k_with "eval ListComp" => ((k_here; refine Halt.out ?_))
  k_with "exec Assign cons ListComp" => ((k_here; refine Halt.out ?_))
  k_with "exec For Tuple List cons nil" => ((k_here; refine Halt.out ?_))
  k_with "CompSrc" => ((refine Halt.out ?_))
  k_with "CompSrcT" => ((refine Halt.out ?_))
  k_with "call ref" => ((k_here; (with_reducible show wpAny _ _ (call (Value.ref 145) [_, _]) _ _ _); refine Halt.out ?_))
  k_with "call ref" => ((k_here; (with_reducible show wpAny _ _ (call (Value.ref 104) [_, _, _]) _ _ _); refine Halt.out ?_))
  k_with "call ref" => ((k_here; (with_reducible show wpAny _ _ (call (Value.ref 111) [_, _]) _ _ _); refine Halt.out ?_))
  k_with "call ref" => ((k_here; (with_reducible show wpAny _ _ (call (Value.ref 135) [_, _]) _ _ _); refine Halt.out ?_))
  k_with "subscriptTail Name Slice ref ref" => (((k_here; (with_reducible show wpAny _ _ (subscriptTail _ (PySem.Expr.Slice none (some (PySem.Expr.UnaryOp _ _ _)) none _) (Value.ref _) (Value.ref _)) _ _ _); k_dflt (refine' kmk_slice_lit (by k_asm) (by k_asm) (by exact listOf_is (by k_asm) (by k_mem)) (by kmk_part) (by kmk_part) (slice_m2 (by walk_at "sz")) ?_ (by with_unfolding_all rfl) (by kmk_pure) (by ((rw [List.size_toArray, sizeLine_eq]; omega)))); intro D' h' F' N' l1; (try k_lt l1); (try k_sweep))); (first | revert D' h' F' N' l1 | ((try revert l1); (try revert N'); (try revert F'); (try revert h'); (try revert D'))); (try intros))
  k_with "subscriptTail Subscript Constant ref int" => ((k_here; refine' item_ledj 0 (by k_asm) (by k_mem) (by rfl) (by decide) (by rfl) ?_ (by with_unfolding_all rfl)))
  k_with "subscriptTail Call Constant ref int" => ((k_here; refine' item_ledj 0 (by k_asm) (by k_mem) (by rfl) (by decide) (by rfl) ?_ (by with_unfolding_all rfl)))
  k_with "call builtin:len" => ((k_here; (with_reducible show wpAny _ _ (call (Value.builtin _) [Value.ref _]) _ _ _); refine' len_led (by k_asm) (by k_mem) (by walk_at "sz") ?_; intro _ _))
  k_with "call builtin:str.join" => ((k_here; (with_reducible show wpAny _ _ (call (Value.builtin _) [Value.str _ _, Value.ref _]) _ _ _); (with_reducible rename StrsAre _ (List.map mk _) => hS9W); refine' join_mk_r (by k_asm) (by k_mem) hS9W (by rfl) (by exact ⟨_, rfl⟩) (by exact e_mk) (by walk_at "sz") ?_; intro _ _))
  intro A A₀ base outer h₀ L m s R S F N hret
  obtain ⟨p, loose, mean, mg, mb, dp, un, gd, cn, cs, a, ccd, cl, rfl, B, XB, TB, hk, hd, hu⟩ := S
  revert XB; k_fill; intro XB
  have X := XB.keeps B.stays
  have T := TB.keeps B.stays
  (refine' code_rawC (binds := [(PySem.Str.ofString "files", .ref Fi), (PySem.Str.ofString "pattern", .str pat tp)]) ?k1 ?k2 ?k3 ?k4 ?k5 ?kA ?kF ?kK ?k6 ?k7 ?k8 ?k9 ?kB ?kD ?_ ?c2 ?c3 ?c4; (case kA => exact rfl); (case kF => exact rfl); (case kK => assumption); (case k1 => k_asm); (case k2 => k_asm); (case k3 => k_asm); (case k4 => k_asm); (case k5 => k_asm); (case k6 => k_is); (case k7 => k_is); (case k8 => ktr_room); (case k9 => exact BindsTo.of_eq rfl); (case kB => exact rfl); (case kD => decide +kernel); (case c2 => exact rfl); (case c3 => exact rfl); (case c4 => exact rfl); k_whole; intro g' L' h' tk' cells' FG' F' N' Y' B' X' T' l1; (try k_lt l1); k_cells Y'; (try simp only [List.cons_append, List.nil_append] at N'); (try dsimp only); (try k_fold))
  rename_i hkITold074 hkITold075
  revert h1 h2 hl1 hl2 hoff113 hoff99 f1 f2 f3 f4 f5 f6 h5 hpat hpl htr F N hret B TB hk hd hu XB X T FG' F' B' X' T' l1 hkITold075 N'
  have hkU0 : Unit := ()
  have hkU1 : Unit := ()
  have hkU2 : Unit := ()
  have hkU3 : Unit := ()
  revert w Fi n1 n2 v1 v2 z1 z2 pat tp k1 k2 k3 st P res A₀ base outer h₀ L m s R p loose mean mg mb dp un gd cn cs a ccd cl g' L' h' tk' hkITold074 hkU0 hkU1 hkU2 hkU3
  refine no_implicit_lambda% (hk46 4812810 ?hkdTold0 ?hkPTold0 ?hkGTold0)
  case hkdTold0 => exact (dWorld, (0 : Nat), (0 : Nat), (0 : Nat), [], [], [], [], ⟨#[]⟩, (0 : Nat), 0, 0, 0, [], ⟨#[]⟩, [], {}, default, [], default, (0 : Nat), fun _ => none, {}, fun _ _ => True, default, [], fun _ => none, fun _ => none, fun _ => none, 0, 0, none, ⟨#[]⟩, default, (0 : Nat), .none, [], default, (0 : Nat), default, 0, dObj, (), (), (), ())
  refine (?hkFTold0 : ∀ x0 x1 x2 x3 x4 x5 x6 x7 x8 x9 x10 x11 x12 x13 x14 x15 x16 x17 x18 x19 x20 x21 x22 x23 x24 x25 x26 x27 x28 x29 x30 x31 x32 x33 x34 x35 x36 x37 x38 x39 x40 x41 x42 x43 x44 x45, ?hkPTold0 x0 x1 x2 x3 x4 x5 x6 x7 x8 x9 x10 x11 x12 x13 x14 x15 x16 x17 x18 x19 x20 x21 x22 x23 x24 x25 x26 x27 x28 x29 x30 x31 x32 x33 x34 x35 x36 x37 x38 x39 x40 x41 x42 x43 x44 x45) _ _ _ _ _ _ _ _ _ _ _ _ _ _ _ _ _ _ _ _ _ _ _ _ _ _ _ _ _ _ _ _ _ _ _ _ _ _ _ _ _ _ () () () ()
  intro w Fi n1 n2 v1 v2 z1 z2 pat tp k1 k2 k3 st P res A₀ base outer h₀ L m s R p loose mean mg mb dp un gd cn cs a ccd cl g' L' h' tk' _ hkU0 hkU1 hkU2 hkU3 h1 h2 hl1 hl2 hoff113 hoff99 f1 f2 f3 f4 f5 f6 h5 hpat hpl htr F N hret B TB hk hd hu XB X T FG' F' B' X' T' l1 _ N'
  clear hkU0 hkU1 hkU2 hkU3
  k_steps
  show wpAny _ _ _ _ _ _
  rename_i oC d1
  refine LCg.Assign_ListComp_U (F₀ := F') (by rfl) (by with_unfolding_all rfl) (by with_unfolding_all rfl) (by decide) (by rfl) (by decide) (by rfl) (by rfl) (by rfl) ?_
  k_steps
  show LCg.CompSrc _ _ _ _ _ _ _ _ _ _ _ _ _ _
  replace N' := news_swap N'
  refine LCg.CompSrc.ledger (its := #[.ref n1, .ref n2]) rfl F' N' (by k_mem) (by rw [sizeLine_eq]; simp) fun g9 => ?_
  refine comp_rest (n := 2) (J := ToldJ1 z1 z2 st (L' + 1) Fi n1 n2 oC v1 v2 k1 k2 k3) ?fin ?turn _ 0 [] _ (Nat.zero_add _) ⟨_, st, rfl, .inl rfl, hoff113, hoff99, (by walk_at "mine tl"), fun p hp => hp, rfl, fun j v zz h _ => nil_get h⟩
  case fin =>
    rintro ys nw ⟨tb1, rest, rfl, htb1, r1, r99, rL, r2, r3, r4⟩
    intro D h tk F7 N7 o1D
    obtain ⟨d1', d2', rfl⟩ : ∃ a b, ys = [a, b] := by
      rcases ys with _ | ⟨a, _ | ⟨b, _ | ⟨c, r⟩⟩⟩ <;> simp at r3
      exact ⟨a, b, rfl⟩
    have b1 := r4 0 d1' z1 rfl rfl
    have b2 := r4 1 d2' z2 rfl rfl
    clear r4 F' N'
    obtain ⟨x113, xL, x99, xF, xn1, xn2, xr⟩ := o1D
    revert h1 h2 hl1 hl2 hoff113 hoff99 f1 f2 f3 f4 f5 f6 h5 hpat hpl htr F N hret B TB hk hd hu XB X T FG' B' X' T' l1 d1 htb1 r1 r99 rL r2 F7 r3 N7 b1 b2 x113 xL x99 xF xn1 xn2 xr
    have hkU0 : Unit := ()
    have hkU1 : Unit := ()
    have hkU2 : Unit := ()
    have hkU3 : Unit := ()
    have hkU4 : Unit := ()
    have hkU5 : Unit := ()
    have hkU6 : Unit := ()
    revert w Fi n1 n2 v1 v2 z1 z2 pat tp k1 k2 k3 st P res A₀ base outer h₀ L m s R p loose mean mg mb dp un gd cn cs a ccd cl g' L' h' tk' oC g9 tb1 rest D h tk d1' d2' hkU0 hkU1 hkU2 hkU3 hkU4 hkU5 hkU6
    refine no_implicit_lambda% (hk57 3038016 ?hkdTold1 ?hkPTold1 ?hkGTold1)
    case hkdTold1 => exact (dWorld, (0 : Nat), (0 : Nat), (0 : Nat), [], [], [], [], ⟨#[]⟩, (0 : Nat), 0, 0, 0, [], ⟨#[]⟩, [], {}, default, [], default, (0 : Nat), fun _ => none, {}, fun _ _ => True, default, [], fun _ => none, fun _ => none, fun _ => none, 0, 0, none, ⟨#[]⟩, default, (0 : Nat), .none, [], default, (0 : Nat), default, 0, dObj, default, dObj, [], (0 : Nat), default, 0, .none, .none, (), (), (), (), (), (), ())
    refine (?hkFTold1 : ∀ x0 x1 x2 x3 x4 x5 x6 x7 x8 x9 x10 x11 x12 x13 x14 x15 x16 x17 x18 x19 x20 x21 x22 x23 x24 x25 x26 x27 x28 x29 x30 x31 x32 x33 x34 x35 x36 x37 x38 x39 x40 x41 x42 x43 x44 x45 x46 x47 x48 x49 x50 x51 x52 x53 x54 x55 x56, ?hkPTold1 x0 x1 x2 x3 x4 x5 x6 x7 x8 x9 x10 x11 x12 x13 x14 x15 x16 x17 x18 x19 x20 x21 x22 x23 x24 x25 x26 x27 x28 x29 x30 x31 x32 x33 x34 x35 x36 x37 x38 x39 x40 x41 x42 x43 x44 x45 x46 x47 x48 x49 x50 x51 x52 x53 x54 x55 x56) _ _ _ _ _ _ _ _ _ _ _ _ _ _ _ _ _ _ _ _ _ _ _ _ _ _ _ _ _ _ _ _ _ _ _ _ _ _ _ _ _ _ _ _ _ _ _ _ _ _ () () () () () () ()
    intro w Fi n1 n2 v1 v2 z1 z2 pat tp k1 k2 k3 st P res A₀ base outer h₀ L m s R p loose mean mg mb dp un gd cn cs a ccd cl g' L' h' tk' oC g9 tb1 rest D h tk d1' d2' hkU0 hkU1 hkU2 hkU3 hkU4 hkU5 hkU6 h1 h2 hl1 hl2 hoff113 hoff99 f1 f2 f3 f4 f5 f6 h5 hpat hpl htr F N hret B TB hk hd hu XB X T FG' B' X' T' l1 d1 htb1 r1 r99 rL r2 F7 r3 N7 b1 b2 x113 xL x99 xF xn1 xn2 xr
    clear hkU0 hkU1 hkU2 hkU3 hkU4 hkU5 hkU6
    k_steps
    show wpAny _ _ _ _ _ _
    rename News _ _ _ _ => kN8
    rename Fr _ _ _ _ => kF8
    have z113 : ∀ p ∈ (D, LCg.lst [d1', d2']) :: (L' + 1, oC) :: (99, tabObj #[]) :: (Fi, listOf #[.ref n1, .ref n2] k1) :: (n1, listOf v1.toArray k2) :: (n2, listOf v2.toArray k3) :: rest, p.1 ≠ 113 := by
      simp only [List.forall_mem_cons]
      exact ⟨Ne.symm x113, by k_ne, by decide, f1, f2, f3, r1⟩
    refine' (read_con pat tp 1 _ ⟨?kb1, ?kb2⟩ _ tb1 rest ((D, LCg.lst [d1', d2']) :: (L' + 1, oC) :: (99, tabObj #[]) :: (Fi, listOf #[.ref n1, .ref n2] k1) :: (n1, listOf v1.toArray k2) :: (n2, listOf v2.toArray k3) :: rest) ?kx htb1 z113 (fun p hp => by (repeat (first | exact hp | refine .tail _ ?_)))).callT (Site.mk B' X' T' rfl (by walk_at "line") (by walk_at "line")) kF8 (news_of kN8 fun p hp => ?sub) ?_
    case kb1 => rfl
    case kb2 => omega
    case kx => rw [sizeLine_eq]; omega
    case sub =>
      simp only [List.mem_cons] at hp
      rcases hp with rfl | rfl | rfl | rfl | rfl | rfl | rfl | hp
      all_goals first | k_mem | (repeat (first | exact hp | refine .tail _ ?_))
    rintro v led' h' tk' hle ⟨Rp, lp, yp, tt, tb', new, rfl, rfl, hap, p3, htb', hR, hlst, hS⟩ F9 N9
    obtain ⟨tw, rfl⟩ : ∃ tw, yp = [.str P tw] := by
      rw [← hpat]
      cases hS with
      | cons x t r => cases r; exact ⟨t, rfl⟩
    clear kN8 kF8
    have N10 := news_front (news_front N9 (List.mem_cons_of_mem _ (List.mem_append_left _ hlst))) (List.mem_cons_of_mem _ (List.mem_cons_of_mem _ (List.mem_append_left _ hR)))
    clear N9
    k_steps
    show wpAny _ _ _ _ _ _
    rename News _ _ _ _ => kN8
    rename Fr _ _ _ _ => kF8
    have z99 : ∀ p ∈ (D, LCg.lst [d1', d2']) :: (L' + 1, oC) :: (Fi, listOf #[.ref n1, .ref n2] k1) :: (n1, listOf v1.toArray k2) :: (n2, listOf v2.toArray k3) :: ((113, tb') :: rest), p.1 ≠ 99 := by
      simp only [List.forall_mem_cons]
      exact ⟨Ne.symm x99, by k_ne, f4, f5, f6, by decide, r99⟩
    change @LE.le Nat _ (_ + 1) tk' at hle
    refine' (htr tw _ _ ?g2 ?g3 ?g23 ((D, LCg.lst [d1', d2']) :: (L' + 1, oC) :: (Fi, listOf #[.ref n1, .ref n2] k1) :: (n1, listOf v1.toArray k2) :: (n2, listOf v2.toArray k3) :: ((113, tb') :: rest)) z99).call ?pre (Site.mk B' X' T' rfl (by walk_at "line") (by walk_at "line")) kF8 ?NN ?_
    case g2 => (show @Ne Nat _ _); omega
    case g3 => (show @Ne Nat _ _); omega
    case g23 => (show @Ne Nat _ _); omega
    case pre => exact ⟨(show @LT.lt Nat _ _ _ from by (try dsimp only); omega), (show @LT.lt Nat _ _ _ from by (try dsimp only); omega)⟩
    case NN =>
      refine news_of kN8 fun p hp => ?_
      simp only [List.mem_cons] at hp
      rcases hp with rfl | rfl | rfl | rfl | rfl | rfl | rfl | hp
      all_goals first | exact .tail _ (.tail _ (.head _)) | (refine .tail _ (.tail _ (.tail _ (List.mem_append_right _ ?_))); first | k_mem | (repeat (first | exact hp | refine .tail _ ?_)))
    rintro v led' h' tk' hle2 ⟨lp2, pl, nI, new2, p99, rfl, rfl, hl2, hS2, hap2, hn99⟩ F9 N9
    clear kN8 kF8
    have xlp : @Ne Nat lp2 (L' + 1) := Ne.symm (hap2 _ hl2 (L' + 1, oC) (by k_mem))
    have xlD : @Ne Nat lp2 D := Ne.symm (hap2 _ hl2 (D, LCg.lst [d1', d2']) (by k_mem))
    have N10 : News g' L' h' ((lp2, listOf pl.toArray nI) :: (D, LCg.lst [d1', d2']) :: (L' + 1, oC) :: (Fi, listOf #[.ref n1, .ref n2] k1) :: (n1, listOf v1.toArray k2) :: (n2, listOf v2.toArray k3) :: ((99, tabObj p99) :: (113, tb') :: rest)) := by
      refine news_of N9 fun p hp => ?_
      simp only [List.mem_cons] at hp
      rcases hp with rfl | rfl | rfl | rfl | rfl | rfl | rfl | rfl | hp
      all_goals first | exact .tail _ (List.mem_append_left _ hl2) | exact .head _ | exact .tail _ (List.mem_append_right _ (by k_mem)) | exact .tail _ (List.mem_append_right _ (by (repeat (first | exact hp | refine .tail _ ?_))))
    clear N9
    obtain ⟨ps113, rfl⟩ := tab_obj htb'
    obtain ⟨rest', hr', hg113, hg99, hrest'⟩ : ∃ rest', (∀ p ∈ rest, p ∈ rest') ∧ (∃ ps, (113, tabObj ps) ∈ rest') ∧ (∃ ps, (99, tabObj ps) ∈ rest') ∧ (99, tabObj p99) :: (113, tabObj ps113) :: rest = rest' := ⟨(99, tabObj p99) :: (113, tabObj ps113) :: rest, fun p hp => List.Mem.tail _ (List.Mem.tail _ hp), ⟨ps113, List.Mem.tail _ (List.Mem.head _)⟩, ⟨p99, List.Mem.head _⟩, rfl⟩
    rw [hrest'] at N10
    replace b1 := b1.mono hr'
    replace b2 := b2.mono hr'
    have rSt : ∀ p ∈ st, p ∈ rest' := fun p hp => hr' p (r2 p hp)
    have rL' : ∀ p ∈ rest', p.1 ≠ L' + 1 := by
      rw [← hrest']
      simp only [List.forall_mem_cons]
      exact ⟨by k_ne, by k_ne, rL⟩
    clear hrest' hr' r2
    rename_i hkITold239 hkITold240 hkITold253 hkITold296 hkITold297
    revert h1 h2 hl1 hkITold253 hoff113 hoff99 f1 f2 f3 f4 f5 f6 h5 hpat hpl htr F N hret B TB hk hd hu XB X T FG' B' X' T' l1 d1 htb1 r1 r99 rL r3 x113 xL x99 xF xn1 xn2 xr z113 hap p3 hR hlst hS hle hle2 hl2 hS2 hn99 F9 xlp xlD htb' z99 hap2 N10 hg113 hg99 b1 b2 rSt rL'
    revert w Fi n1 n2 v1 v2 z1 z2 pat tp k1 k2 k3 st P res A₀ base outer h₀ L m s R p loose mean mg mb dp un gd cn cs a ccd cl g' L' hkITold239 hkITold240 oC g9 tb1 rest D h tk d1' d2' hkITold296 hkITold297 Rp lp tt new tw h' tk' lp2 pl nI new2 p99 ps113 rest'
    refine no_implicit_lambda% (hk66 12488467 ?hkdTold2 ?hkPTold2 ?hkGTold2)
    case hkdTold2 => exact (dWorld, (0 : Nat), (0 : Nat), (0 : Nat), [], [], [], [], ⟨#[]⟩, (0 : Nat), 0, 0, 0, [], ⟨#[]⟩, [], {}, default, [], default, (0 : Nat), fun _ => none, {}, fun _ _ => True, default, [], fun _ => none, fun _ => none, fun _ => none, 0, 0, none, ⟨#[]⟩, default, (0 : Nat), .none, [], default, (0 : Nat), default, 0, dObj, default, dObj, [], (0 : Nat), default, 0, .none, .none, default, 0, (0 : Nat), (0 : Nat), (0 : Nat), [], (0 : Nat), default, 0, (0 : Nat), [], 0, [], #[], #[], [])
    refine (?hkFTold2 : ∀ x0 x1 x2 x3 x4 x5 x6 x7 x8 x9 x10 x11 x12 x13 x14 x15 x16 x17 x18 x19 x20 x21 x22 x23 x24 x25 x26 x27 x28 x29 x30 x31 x32 x33 x34 x35 x36 x37 x38 x39 x40 x41 x42 x43 x44 x45 x46 x47 x48 x49 x50 x51 x52 x53 x54 x55 x56 x57 x58 x59 x60 x61 x62 x63 x64 x65, ?hkPTold2 x0 x1 x2 x3 x4 x5 x6 x7 x8 x9 x10 x11 x12 x13 x14 x15 x16 x17 x18 x19 x20 x21 x22 x23 x24 x25 x26 x27 x28 x29 x30 x31 x32 x33 x34 x35 x36 x37 x38 x39 x40 x41 x42 x43 x44 x45 x46 x47 x48 x49 x50 x51 x52 x53 x54 x55 x56 x57 x58 x59 x60 x61 x62 x63 x64 x65) _ _ _ _ _ _ _ _ _ _ _ _ _ _ _ _ _ _ _ _ _ _ _ _ _ _ _ _ _ _ _ _ _ _ _ _ _ _ _ (default) (0) _ (default) _ _ _ (default) _ _ _ _ _ _ _ _ _ _ _ _ _ _ _ _ (#[]) _ _
    intro w Fi n1 n2 v1 v2 z1 z2 pat tp k1 k2 k3 st P res A₀ base outer h₀ L m s R p loose mean mg mb dp un gd cn cs a ccd cl g' L' _ _ oC g9 tb1 rest D h tk d1' d2' _ _ Rp lp tt new tw h' tk' lp2 pl nI new2 p99 ps113 rest' h1 h2 hl1 _ hoff113 hoff99 f1 f2 f3 f4 f5 f6 h5 hpat hpl htr F N hret B TB hk hd hu XB X T FG' B' X' T' l1 d1 htb1 r1 r99 rL r3 x113 xL x99 xF xn1 xn2 xr z113 hap p3 hR hlst hS hle hle2 hl2 hS2 hn99 F9 xlp xlD htb' z99 hap2 N10 hg113 hg99 b1 b2 rSt rL'
    k_steps
    show wpAny _ _ _ _ _ _
    rename News _ _ _ _ => kN8
    rename Fr _ _ _ _ => kF8
    rename_i oP dP
    refine Assign_ListComp_two kF8 (by rfl) (ToldJ2 res z1 z2 rest' lp2 pl nI D d1' d2' (L' + 1) oP Fi n1 n2 v1 v2 k1 k2 k3) (by with_unfolding_all rfl) (by with_unfolding_all rfl) (by decide) (by rfl) (by decide) (by rfl) (by rfl) (by decide) (by rfl) (by rfl) (by intro _; rfl) rfl ?_
    walk1
    refine ⟨D, LCg.lst [d1', d2'], #[d1', d2'], _, rfl, kF8, kN8, by k_mem, rfl, ⟨_, rfl⟩, by rw [sizeLine_eq]; simp, ⟨rest', rfl, fun p hp => hp, rfl, fun j v zz h _ => nil_get h⟩, ?tturn, ?tdone⟩
    case tturn =>
      rintro i ys nw v hi ⟨extra, rfl, hex, hyl, hys⟩ hv
      obtain ⟨zz, hzz, bE⟩ : ∃ zz, [z1, z2][i]? = some zz ∧ BEntry rest' v (dueE zz) := by
        have : i = 0 ∨ i = 1 := two hi
        rcases this with rfl | rfl
        · exact ⟨z1, rfl, by rw [← Option.some.inj hv]; exact b1⟩
        · exact ⟨z2, rfl, by rw [← Option.some.inj hv]; exact b2⟩
      clear b1 b2 kN8 kF8
      obtain ⟨ta, x, tz, nt, rfl, hta, ⟨wa, wv, nw9, rfl, hwa, hwS⟩⟩ := bE
      refine ⟨ta, listOf #[.ref wa, .int (dueE zz).2 tz] nt, .ref wa, .int (dueE zz).2 tz, nt, rfl, .tail _ (.tail _ (.tail _ (.tail _ (.tail _ (.tail _ (hex _ hta)))))), rfl, rfl, ?_⟩
      intro I oI C oC T9 m₂ h tk E' hN hx hx2 F N o3 ne
      have N2 := news_front N (.tail _ (.tail _ (.tail _ (.tail _ (.tail _ (.tail _ (.tail _ (.tail _ (.tail _ (hex _ hwa))))))))))
      clear N
      k_steps
      show wpAny _ _ _ _ _ _
      have hwl2 : wv.length = zz.length + 2 := by rw [strsAre_len hwS]; simp [dueE, wordsS]
      have hzz10 : zz.length ≤ 10 := by
        have q1 := intsAre_len h1
        have q2 := intsAre_len h2
        have : i = 0 ∨ i = 1 := two hi
        rcases this with rfl | rfl
        · obtain rfl := Option.some.inj hzz; exact (intsAre_len h1) ▸ ‹v1.length ≤ 10›
        · obtain rfl := Option.some.inj hzz; exact (intsAre_len h2) ▸ ‹v2.length ≤ 10›
      have hwS2 : StrsAre (wv.take (wv.length - 2)) (wordsS zz) := by
        have q := strsAre_take (wv.length - 2) hwS
        have e : (dueE zz).1.take (wv.length - 2) = wordsS zz := by
          rw [hwl2, show zz.length + 2 - 2 = (wordsS zz).length by simp [wordsS]]
          exact List.take_left
        rw [e] at q
        exact q
      refine LCt.ListComp_T (F₀ := F) (by with_unfolding_all rfl) (by decide) (by rfl) (by decide) (by rfl) ?_
      k_steps
      show LCt.CompSrcT _ _ _ _ _ _ _ _ _ _ _ _ _ _ _
      rename News _ _ _ _ => kN
      rename Fr _ _ _ _ => kF
      have hsl : (wv.take (wv.length - 2)).toArray.size = zz.length := by rw [List.size_toArray, List.length_take, ‹wv.length = zz.length + 2›]; exact Nat.min_eq_left (Nat.le_add_right zz.length 2)
      refine LCt.CompSrcT.ledger (its := (wv.take (wv.length - 2)).toArray) rfl kF kN (by k_mem) (by rw [hsl, sizeLine_eq]; exact le_n ‹zz.length ≤ 10› rfl) fun g9 => ?_
      refine comp_restT (n := (wv.take (wv.length - 2)).toArray.size) (J := fun i ys nw => StrsAre ys ((((zz.take i).map wordL).filter (takesB res)).map mk) ∧ nw = _) ?fin3 ?turn3 _ 0 [] _ (Nat.zero_add _) ⟨.nil, rfl⟩
      case turn3 =>
        rintro i2 ys3 nw hi2 ⟨hys3, rfl⟩ v I2 oI2 C2 oC2 D3 m₃ h tk E' hv2 hN2 hxx2 F N o32 ne2
        obtain ⟨x, tx, hx9, rfl⟩ := strsAre_get2 hwS2 (by simpa using hv2)
        obtain ⟨z, hz, rfl⟩ : ∃ z, zz[i2]? = some z ∧ mk (wordL z) = x := by
          unfold wordsS at hx9
          rw [List.getElem?_map] at hx9
          cases hq : zz[i2]? with
          | none => rw [hq] at hx9; cases hx9
          | some z => rw [hq] at hx9; exact ⟨z, rfl, Option.some.inj hx9⟩
        k_steps
        show wpAny _ _ _ _ _ _
        rename News _ _ _ _ => kN8
        rename Fr _ _ _ _ => kF8
        refine' (takes_con lp2 pl res hS2 h5 nI (wordL z) (wordL_len z) _ _).call (Site.mk B' X' T' rfl (by walk_at "line") (by walk_at "line")) kF8 (news_front kN8 (by k_mem)) ?_
        rintro v led' h' tk' ⟨hv9, rfl⟩ F9 N9
        replace hv9 : v = .bool (takesB res (wordL z)) := hv9
        subst hv9
        clear kN8 kF8
        replace N9 := news_of N9 fun p hp => List.mem_cons_of_mem _ hp
        k_steps
        all_goals
          rename News _ _ _ _ => kN8
          rename Fr _ _ _ _ => kF8
          rename (takesB _ _ = _) => hb
          refine LCg.CompEnd.intro kF8 kN8 _ (fun p hp => by (repeat (first | exact hp | refine .tail _ ?_))) o32 (show LCg.SrcAt g' _ (wv.take (wv.length - 2)).toArray _ from Or.inr ⟨_, by k_mem, rfl, _, rfl⟩) ⟨?_, rfl⟩
          rw [List.take_add_one, hz]
          first
            | (have e9 : (((zz.take i2 ++ (some z).toList).map wordL).filter (takesB res)).map mk = (((zz.take i2).map wordL).filter (takesB res)).map mk ++ [mk (wordL z)] := (by simp [hb]); rw [e9]; exact strsAre_snoc hys3)
            | (have e9 : (((zz.take i2 ++ (some z).toList).map wordL).filter (takesB res)).map mk = (((zz.take i2).map wordL).filter (takesB res)).map mk := (by simp [hb]); rw [e9]; exact hys3)
      case fin3 =>
        rintro ys3 nw ⟨hys3, rfl⟩
        rw [hsl, List.take_length] at hys3
        intro D3 h tk F9 N9 o1D3
        obtain ⟨-, -, y1, y2, y3, -⟩ := o1D3
        refine LCg.CompEnd.intro F9 N9 ((lp2, listOf pl.toArray nI) :: (D, LCg.lst [d1', d2']) :: (L' + 1, oP) :: (Fi, listOf #[.ref n1, .ref n2] k1) :: (n1, listOf v1.toArray k2) :: (n2, listOf v2.toArray k3) :: (D3, LCg.lst ys3) :: extra) (fun p hp => ?s1) (LCg.Off3.of fun p hp => ?s2) (.tail _ (.head _)) ⟨_, rfl, fun p hp => .tail _ (hex p hp), by simp [hyl], fun j v zz' hj hzj => ?s5⟩
        case s1 =>
          simp only [List.mem_cons] at hp
          rcases hp with rfl | rfl | rfl | rfl | rfl | rfl | rfl | rfl | rfl | rfl | hp
          all_goals first | k_mem | (repeat (first | exact hp | refine .tail _ ?_))
        case s2 =>
          have hoff3 := LCg.Off3.mem o3
          simp only [List.mem_cons] at hp
          rcases hp with rfl | rfl | rfl | rfl | rfl | rfl | rfl | hp
          all_goals first | exact hoff3 _ (by k_mem) | exact ⟨Ne.symm y1, Ne.symm y2, Ne.symm y3⟩ | exact hoff3 _ (by (repeat (first | exact hp | refine .tail _ ?_)))
        case s5 =>
          refine snoc_get (P := fun v => BStrs ((D3, LCg.lst ys3) :: extra) v (takenS res zz')) hyl hj (fun hq => (hys j v zz' hq hzj).mono fun p hp => .tail _ hp) fun e9 => ?_
          rw [e9, hzz] at hzj
          obtain rfl := Option.some.inj hzj
          exact ⟨D3, ys3, ys3.length, rfl, .head _, hys3⟩
    case tdone =>
      rintro ys nw ⟨extra, rfl, hex, hyl, hys⟩
      obtain ⟨t1, t2, rfl⟩ : ∃ a b, ys = [a, b] := by
        rcases ys with _ | ⟨a, _ | ⟨b, _ | ⟨c, r⟩⟩⟩ <;> simp at hyl
        exact ⟨a, b, rfl⟩
      obtain ⟨a1, w1, m1, rfl, hm1, hs1⟩ := hys 0 t1 z1 rfl rfl
      obtain ⟨a2, w2, m2, rfl, hm2, hs2⟩ := hys 1 t2 z2 rfl rfl
      clear hys kN8 kF8
      intro T h tk F8 N8 o1T
      have N10 := news_front (news_front N8 (List.mem_cons_of_mem _ (List.mem_cons_of_mem _ (List.mem_cons_of_mem _ (List.mem_cons_of_mem _ (List.mem_cons_of_mem _ (List.mem_cons_of_mem _ (List.mem_cons_of_mem _ hm2)))))))) (List.mem_cons_of_mem _ (List.mem_cons_of_mem _ (List.mem_cons_of_mem _ (List.mem_cons_of_mem _ (List.mem_cons_of_mem _ (List.mem_cons_of_mem _ (List.mem_cons_of_mem _ (List.mem_cons_of_mem _ hm1))))))))
      clear N8
      obtain ⟨xT1, xT2, xT3, xT4, xT5, xT6, xT7⟩ := o1T
      rename_i hkITold339 hkITold340 hkITold346 hkITold347 hkITold350 hkITold351 hkITold369 hkITold392 hkITold3133 hkITold3136
      revert h1 h2 hl1 hkITold369 hoff113 hoff99 f1 f2 f3 f4 f5 f6 h5 hpat hpl htr F N hret B TB hk hd hu XB X hkITold392 FG' B' X' T' l1 d1 htb1 r1 r99 rL r3 x113 xL x99 xF xn1 xn2 xr z113 hap p3 hR hlst hS hle hle2 hl2 hS2 hn99 xlp xlD htb' z99 hap2 hg113 hg99 b1 b2 rSt rL' dP hex hm1 hs1 hm2 hs2 hyl F8 N10 xT1 xT2 xT3 xT4 xT5 xT6 xT7
      have hkU0 : Unit := ()
      have hkU1 : Unit := ()
      have hkU2 : Unit := ()
      have hkU3 : Unit := ()
      have hkU4 : Unit := ()
      revert w Fi n1 n2 v1 v2 z1 z2 pat tp k1 k2 k3 st P res A₀ base outer h₀ L m s R p loose mean mg mb dp un gd cn cs a ccd cl g' L' hkITold339 hkITold340 oC g9 tb1 rest D hkITold346 hkITold347 d1' d2' hkITold350 hkITold351 Rp lp tt new tw h' tk' lp2 pl nI new2 p99 ps113 rest' hkITold3133 oP hkITold3136 extra a1 w1 m1 a2 w2 m2 T h tk hkU0 hkU1 hkU2 hkU3 hkU4
      refine no_implicit_lambda% (hk84 2706662 ?hkdTold3 ?hkPTold3 ?hkGTold3)
      case hkdTold3 => exact (dWorld, (0 : Nat), (0 : Nat), (0 : Nat), [], [], [], [], ⟨#[]⟩, (0 : Nat), 0, 0, 0, [], ⟨#[]⟩, [], {}, default, [], default, (0 : Nat), fun _ => none, {}, fun _ _ => True, default, [], fun _ => none, fun _ => none, fun _ => none, 0, 0, none, ⟨#[]⟩, default, (0 : Nat), .none, [], default, (0 : Nat), default, 0, dObj, default, dObj, [], (0 : Nat), default, 0, .none, .none, default, 0, (0 : Nat), (0 : Nat), (0 : Nat), [], (0 : Nat), default, 0, (0 : Nat), [], 0, [], #[], #[], [], default, dObj, 0, [], (0 : Nat), [], 0, (0 : Nat), [], 0, (0 : Nat), default, 0, (), (), (), (), ())
      refine (?hkFTold3 : ∀ x0 x1 x2 x3 x4 x5 x6 x7 x8 x9 x10 x11 x12 x13 x14 x15 x16 x17 x18 x19 x20 x21 x22 x23 x24 x25 x26 x27 x28 x29 x30 x31 x32 x33 x34 x35 x36 x37 x38 x39 x40 x41 x42 x43 x44 x45 x46 x47 x48 x49 x50 x51 x52 x53 x54 x55 x56 x57 x58 x59 x60 x61 x62 x63 x64 x65 x66 x67 x68 x69 x70 x71 x72 x73 x74 x75 x76 x77 x78 x79 x80 x81 x82 x83, ?hkPTold3 x0 x1 x2 x3 x4 x5 x6 x7 x8 x9 x10 x11 x12 x13 x14 x15 x16 x17 x18 x19 x20 x21 x22 x23 x24 x25 x26 x27 x28 x29 x30 x31 x32 x33 x34 x35 x36 x37 x38 x39 x40 x41 x42 x43 x44 x45 x46 x47 x48 x49 x50 x51 x52 x53 x54 x55 x56 x57 x58 x59 x60 x61 x62 x63 x64 x65 x66 x67 x68 x69 x70 x71 x72 x73 x74 x75 x76 x77 x78 x79 x80 x81 x82 x83) _ _ _ _ _ _ _ _ _ _ _ _ _ _ _ _ _ _ _ _ _ _ _ _ _ _ _ _ _ _ _ _ _ _ _ _ _ _ _ (default) (0) _ (default) _ _ _ (default) _ _ _ _ _ _ _ _ _ _ (default) _ _ _ _ _ (#[]) _ _ _ _ _ _ _ _ _ _ _ _ _ _ _ () () () () ()
      intro w Fi n1 n2 v1 v2 z1 z2 pat tp k1 k2 k3 st P res A₀ base outer h₀ L m s R p loose mean mg mb dp un gd cn cs a ccd cl g' L' _ _ oC g9 tb1 rest D _ _ d1' d2' _ _ Rp lp tt new tw h' tk' lp2 pl nI new2 p99 ps113 rest' _ oP _ extra a1 w1 m1 a2 w2 m2 T h tk hkU0 hkU1 hkU2 hkU3 hkU4 h1 h2 hl1 _ hoff113 hoff99 f1 f2 f3 f4 f5 f6 h5 hpat hpl htr F N hret B TB hk hd hu XB X _ FG' B' X' T' l1 d1 htb1 r1 r99 rL r3 x113 xL x99 xF xn1 xn2 xr z113 hap p3 hR hlst hS hle hle2 hl2 hS2 hn99 xlp xlD htb' z99 hap2 hg113 hg99 b1 b2 rSt rL' dP hex hm1 hs1 hm2 hs2 hyl F8 N10 xT1 xT2 xT3 xT4 xT5 xT6 xT7
      clear hkU0 hkU1 hkU2 hkU3 hkU4
      k_steps
      show wpAny _ _ _ _ _ _
      rename News _ _ _ _ => kN8
      rename Fr _ _ _ _ => kF8
      rename_i bg hx1 lbg hx2
      have lw1 : w1.length ≤ 10 := Nat.le_trans (Nat.le_of_eq (strsAre_len hs1)) (Nat.le_trans (takenS_len res z1) ((intsAre_len h1) ▸ ‹v1.length ≤ 10›))
      have lw2 : w2.length ≤ 10 := Nat.le_trans (Nat.le_of_eq (strsAre_len hs2)) (Nat.le_trans (takenS_len res z2) ((intsAre_len h2) ▸ ‹v2.length ≤ 10›))
      refine for_invT (L := L') rfl B' ?_
      refine halt_post ?_
      k_steps
      rename News _ _ _ _ => kN9
      rename Fr _ _ _ _ => kF9
      rename_i Dr hy1 lDr hy2 la hy3 lla hy4
      have o9 : ∀ p ∈ (lp2, listOf pl.toArray nI) :: (L' + 1, oP) :: (Fi, listOf #[.ref n1, .ref n2] k1) :: (n1, listOf v1.toArray k2) :: (n2, listOf v2.toArray k3) :: extra, p.1 ≠ bg := by
        simp only [List.forall_mem_cons]
        obtain ⟨-, -, -, y1, -, y2, y3, y4, y5, y6⟩ := lbg
        exact ⟨Nat.ne_of_lt y1, Nat.ne_of_lt y2, Nat.ne_of_lt y3, Nat.ne_of_lt y4, Nat.ne_of_lt y5, allLt_ne y6 (Nat.le_refl _)⟩
      refine ⟨ToldJ3 res z1 z2 ((Fi, listOf #[.ref n1, .ref n2] k1) :: (n1, listOf v1.toArray k2) :: (n2, listOf v2.toArray k3) :: extra) bg lDr a1 a2 T D w1 w2 m1 m2 d1' d2',
        hy3, listOf #[.ref T, .ref lDr] 0, #[.ref T, .ref lDr], _, (bg, listOf #[] 0) :: (lDr, listOf #[.ref a2, .ref a1] 0) :: (a1, listOf w1.toArray m1) :: (a2, listOf w2.toArray m2) :: (T, listOf #[.ref a1, .ref a2] 2) :: (D, listOf #[d1', d2'] 2) :: (lp2, listOf pl.toArray nI) :: (L' + 1, oP) :: (Fi, listOf #[.ref n1, .ref n2] k1) :: (n1, listOf v1.toArray k2) :: (n2, listOf v2.toArray k3) :: extra,
        rfl, kF9, ?fsub, rfl, ⟨_, rfl⟩, ⟨[], 0, _, rfl, rfl, rfl, rfl, ?fex, o9, fun j v zz h _ => nil_get h⟩, ?frefs, ?fturn, ?fdone⟩
      case fsub =>
        refine news_of kN9 fun p hp => ?_
        simp only [List.mem_cons] at hp
        rcases hp with rfl | rfl | rfl | rfl | rfl | rfl | rfl | rfl | rfl | rfl | rfl | rfl | hp
        all_goals first | k_mem | (repeat (first | exact hp | refine .tail _ ?_))
      case fex =>
        intro p hp
        (repeat (first | exact hp | refine .tail _ ?_))
      case frefs =>
        intro i v hv
        have : i < 2 := (Array.getElem?_eq_some_iff.mp hv).1
        have : i = 0 ∨ i = 1 := by first | exact two (by assumption) | omega
        rcases this with rfl | rfl
        · exact ⟨_, (Option.some.inj hv).symm⟩
        · exact ⟨_, (Option.some.inj hv).symm⟩
      case fdone =>
        rintro m₁ nw h tk g₃ T₃ B₃ F₃ N₃ ⟨bl, c9, ex, e1, e2, hbl, rfl, hex2, hob, hbags⟩
        change News g₃ L' h _ at N₃
        change Fr g₃ L' h _ at F₃
        clear kN9 kF9
        obtain ⟨g1', g2', rfl⟩ : ∃ a b, bl = [a, b] := by
          rcases bl with _ | ⟨a, _ | ⟨b, _ | ⟨c, r⟩⟩⟩ <;> simp at hbl
          exact ⟨a, b, rfl⟩
        obtain ⟨u1, w1', q1, r1'⟩ := hbags 0 g1' _ rfl rfl
        obtain ⟨u2, w2', q2, r2'⟩ := hbags 1 g2' _ rfl rfl
        clear hbags
        have X3 := XB.keeps B₃.stays
        have P3 := TB.keeps B₃.stays
        have F₄ := fr_eq F₃ (m' := fun y => if y = Str.ofString "read" then some (.ref D) else if y = Str.ofString "bags" then some (.ref bg) else m₁ y) (by
          intro y
          by_cases g1 : y = Str.ofString "read"
          · rw [if_pos g1, g1, e1]
          rw [if_neg g1]
          by_cases g2 : y = Str.ofString "bags"
          · rw [if_pos g2, g2, e2]
          rw [if_neg g2])
        clear F₃
        k_steps
        rename News _ _ _ _ => kN8
        rename Fr _ _ _ _ => kF8
        show R (.ok (.ret (.ref _))) _
        obtain ⟨h₁', Th, Fh, Nh, Bh⟩ := turn_back B FG' T₃ kF8 kN8
        have hsubt : ∀ p ∈ rest', p ∈ ex := fun p hp => hex2 p (by (repeat (first | exact hex p hp | refine .tail _ ?_)))
        refine hret _ _ _ _ h₁' Th ⟨u1, w1', u2, w2', q1, q2, ⟨_, d1', d2', g1', g2', _, rfl, by k_mem, b1.mono (fun p hp => by have := hsubt p hp; (repeat (first | exact this | refine .tail _ ?_))), b2.mono (fun p hp => by have := hsubt p hp; (repeat (first | exact this | refine .tail _ ?_))), r1'.mono (fun p hp => by (repeat (first | exact hp | refine .tail _ ?_))), r2'.mono (fun p hp => by (repeat (first | exact hp | refine .tail _ ?_)))⟩, fun p hp => ?gs, ?g1, ?g2⟩ Fh Nh Bh
        case g1 =>
          obtain ⟨ps, h⟩ := hg113
          have := hsubt _ h
          exact ⟨ps, by (repeat (first | exact this | refine .tail _ ?_))⟩
        case g2 =>
          obtain ⟨ps, h⟩ := hg99
          have := hsubt _ h
          exact ⟨ps, by (repeat (first | exact this | refine .tail _ ?_))⟩
        have h7 : p ∈ (Fi, listOf #[.ref n1, .ref n2] k1) :: (n1, listOf v1.toArray k2) :: (n2, listOf v2.toArray k3) :: extra := by
          simp only [List.mem_cons] at hp ⊢
          rcases hp with hp | hp | hp | hp
          · exact .inl hp
          · exact .inr (.inl hp)
          · exact .inr (.inr (.inl hp))
          · exact .inr (.inr (.inr (hex p (rSt p hp))))
        have := hex2 p h7
        (repeat (first | exact this | refine .tail _ ?_))
      case fturn =>
        rintro i v I oI m₁ nw h tk₁ g₁ hv T₁ B₁ F₁ N₁ hxI oI2 ⟨bl, c9, ex, e1, e2, hbl, rfl, hex2, hob, hbags⟩
        clear kN9 kF9
        change News g₁ L' h _ at N₁
        change Fr g₁ L' h _ at F₁
        have hi : i < 2 := (Array.getElem?_eq_some_iff.mp hv).1
        obtain ⟨tt, pp, qq, wp, wq, sp, sq, mp, mq, kt, rfl, ht, hp, hq, hwp, hwq, hlp, hlq, hget⟩ : ToldPair ((lDr, listOf #[.ref a2, .ref a1] 0) :: (a1, listOf w1.toArray m1) :: (a2, listOf w2.toArray m2) :: (T, listOf #[.ref a1, .ref a2] 2) :: (D, listOf #[d1', d2'] 2) :: ex) res z1 z2 i v := by
          have : i = 0 ∨ i = 1 := by first | exact two (by assumption) | omega
          rcases this with rfl | rfl
          · exact ⟨T, a1, a2, w1, w2, _, _, m1, m2, _, (Option.some.inj hv).symm, by k_mem, by k_mem, by k_mem, hs1, hs2, lw1, lw2, rfl⟩
          · exact ⟨lDr, a2, a1, w2, w1, _, _, m2, m1, _, (Option.some.inj hv).symm, by k_mem, by k_mem, by k_mem, hs2, hs1, lw2, lw1, rfl⟩
        have N₂ := news_front (news_front (news_front N₁ (.tail _ (.tail _ (.tail _ ht)))) (.tail _ (.tail _ (.tail _ (.tail _ hp))))) (.tail _ (.tail _ (.tail _ (.tail _ (.tail _ hq)))))
        have F₂ := fr_eq F₁ (m' := fun y => if y = Str.ofString "read" then some (.ref D) else if y = Str.ofString "bags" then some (.ref bg) else m₁ y) (by
          intro y
          by_cases g1 : y = Str.ofString "read"
          · rw [if_pos g1, g1, e1]
          rw [if_neg g1]
          by_cases g2 : y = Str.ofString "bags"
          · rw [if_pos g2, g2, e2]
          rw [if_neg g2])
        clear N₁ F₁ hv
        rename_i hkITold439 hkITold440 hkITold446 hkITold447 hkITold450 hkITold451 hkITold454 hkITold466 hkITold468 hkITold477 hkITold478
        revert h1 h2 hl1 Dr hoff113 hoff99 f1 f2 f3 f4 f5 f6 h5 hpat hpl htr F N hret B TB hk hd hu XB X hy1 FG' B' X' T' l1 d1 htb1 r1 r99 rL r3 x113 xL x99 xF xn1 xn2 xr z113 hap p3 hR hlst hS hle hle2 hl2 hS2 hn99 xlp xlD htb' z99 hap2 hg113 hg99 b1 b2 rSt rL' dP hex hm1 hs1 hm2 hs2 hyl xT1 xT2 xT3 xT4 xT5 xT6 xT7 lbg lw1 lw2 la hy4 o9 T₁ B₁ hxI e1 e2 hbl hex2 hob hbags oI2 hi ht hp hq hwp hwq hlp hlq hget N₂ F₂
        revert w Fi n1 n2 v1 v2 z1 z2 pat tp k1 k2 k3 st P res A₀ base outer h₀ L m s R p loose mean mg mb dp un gd cn cs a ccd cl g' L' hkITold439 hkITold440 oC g9 tb1 rest D hkITold446 hkITold447 d1' d2' hkITold450 hkITold451 Rp lp hkITold454 new tw h' tk' lp2 pl nI new2 p99 ps113 rest' hkITold466 oP hkITold468 extra a1 w1 m1 a2 w2 m2 T hkITold477 hkITold478 bg hx1 hx2 tk lDr hy2 hy3 lla i I oI m₁ h tk₁ g₁ bl c9 ex tt pp qq wp wq sp sq mp mq kt
        refine no_implicit_lambda% (hk107 3629145 ?hkdTold4 ?hkPTold4 ?hkGTold4)
        case hkdTold4 => exact (dWorld, (0 : Nat), (0 : Nat), (0 : Nat), [], [], [], [], ⟨#[]⟩, (0 : Nat), 0, 0, 0, [], ⟨#[]⟩, [], {}, default, [], default, (0 : Nat), fun _ => none, {}, fun _ _ => True, default, [], fun _ => none, fun _ => none, fun _ => none, 0, 0, none, ⟨#[]⟩, default, (0 : Nat), .none, [], default, (0 : Nat), default, 0, dObj, default, dObj, [], (0 : Nat), default, 0, .none, .none, default, 0, (0 : Nat), (0 : Nat), (0 : Nat), [], (0 : Nat), default, 0, (0 : Nat), [], 0, [], #[], #[], [], default, dObj, 0, [], (0 : Nat), [], 0, (0 : Nat), [], 0, (0 : Nat), default, 0, (0 : Nat), default, default, 0, (0 : Nat), default, (0 : Nat), default, 0, (0 : Nat), dObj, fun _ => none, default, 0, default, [], 0, [], (0 : Nat), (0 : Nat), (0 : Nat), [], [], [], [], 0, 0, 0)
        refine (?hkFTold4 : ∀ x0 x1 x2 x3 x4 x5 x6 x7 x8 x9 x10 x11 x12 x13 x14 x15 x16 x17 x18 x19 x20 x21 x22 x23 x24 x25 x26 x27 x28 x29 x30 x31 x32 x33 x34 x35 x36 x37 x38 x39 x40 x41 x42 x43 x44 x45 x46 x47 x48 x49 x50 x51 x52 x53 x54 x55 x56 x57 x58 x59 x60 x61 x62 x63 x64 x65 x66 x67 x68 x69 x70 x71 x72 x73 x74 x75 x76 x77 x78 x79 x80 x81 x82 x83 x84 x85 x86 x87 x88 x89 x90 x91 x92 x93 x94 x95 x96 x97 x98 x99 x100 x101 x102 x103 x104 x105 x106, ?hkPTold4 x0 x1 x2 x3 x4 x5 x6 x7 x8 x9 x10 x11 x12 x13 x14 x15 x16 x17 x18 x19 x20 x21 x22 x23 x24 x25 x26 x27 x28 x29 x30 x31 x32 x33 x34 x35 x36 x37 x38 x39 x40 x41 x42 x43 x44 x45 x46 x47 x48 x49 x50 x51 x52 x53 x54 x55 x56 x57 x58 x59 x60 x61 x62 x63 x64 x65 x66 x67 x68 x69 x70 x71 x72 x73 x74 x75 x76 x77 x78 x79 x80 x81 x82 x83 x84 x85 x86 x87 x88 x89 x90 x91 x92 x93 x94 x95 x96 x97 x98 x99 x100 x101 x102 x103 x104 x105 x106) _ _ _ _ _ _ _ _ _ _ _ _ _ _ _ _ _ _ _ _ _ _ _ _ _ _ _ _ _ _ _ _ _ _ _ _ _ _ _ (default) (0) _ (default) _ _ _ (default) _ _ _ _ _ _ _ _ _ _ (default) _ _ _ _ _ (#[]) _ _ (default) _ (0) _ _ _ _ _ _ _ _ (default) (0) _ (default) (default) _ _ _ _ _ _ _ _ _ _ _ _ _ _ _ _ _ _ _ _ _ _ _ _ _
        intro w Fi n1 n2 v1 v2 z1 z2 pat tp k1 k2 k3 st P res A₀ base outer h₀ L m s R p loose mean mg mb dp un gd cn cs a ccd cl g' L' _ _ oC g9 tb1 rest D _ _ d1' d2' _ _ Rp lp _ new tw h' tk' lp2 pl nI new2 p99 ps113 rest' _ oP _ extra a1 w1 m1 a2 w2 m2 T _ _ bg hx1 hx2 tk lDr hy2 hy3 lla i I oI m₁ h tk₁ g₁ bl c9 ex tt pp qq wp wq sp sq mp mq kt h1 h2 hl1 Dr hoff113 hoff99 f1 f2 f3 f4 f5 f6 h5 hpat hpl htr F N hret B TB hk hd hu XB X hy1 FG' B' X' T' l1 d1 htb1 r1 r99 rL r3 x113 xL x99 xF xn1 xn2 xr z113 hap p3 hR hlst hS hle hle2 hl2 hS2 hn99 xlp xlD htb' z99 hap2 hg113 hg99 b1 b2 rSt rL' dP hex hm1 hs1 hm2 hs2 hyl xT1 xT2 xT3 xT4 xT5 xT6 xT7 lbg lw1 lw2 la hy4 o9 T₁ B₁ hxI e1 e2 hbl hex2 hob hbags oI2 hi ht hp hq hwp hwq hlp hlq hget N₂ F₂
        k_steps
        show wpAny _ _ _ _ _ _
        refine ListComp_TupG (by with_unfolding_all rfl) (by decide) (by rfl) (by decide) (by rfl) ?_
        refine halt_post ?_
        have X1 := XB.keeps B₁.stays
        have P1 := TB.keeps B₁.stays
        k_steps
        show wpAny _ _ _ _ _ _
        rename News _ _ _ _ => kN8
        rename Fr _ _ _ _ => kF8
        rename_i hA FA NA hB FB NB hC
        have qA : ∀ p ∈ (qq, listOf wq.toArray mq) :: (pp, listOf wp.toArray mp) :: (tt, listOf #[.ref pp, .ref qq] kt) :: (I, oI) :: (hy3, listOf #[.ref T, .ref lDr] 0) :: (bg, listOf bl.toArray c9) :: (lDr, listOf #[.ref a2, .ref a1] 0) :: (a1, listOf w1.toArray m1) :: (a2, listOf w2.toArray m2) :: (T, listOf #[.ref a1, .ref a2] 2) :: (D, listOf #[d1', d2'] 2) :: ex, @LT.lt Nat _ p.1 hA.objs.size :=
          fun p hp => Heap.lt_size (NA p hp).1
        have qB : @LT.lt Nat _ (hA.objs.size + 1) hB.objs.size := Heap.lt_size (NB _ (.head _)).1
        have N4 := kN8
        rw [slicePick_all, slicePick_all] at N4
        replace N4 := news_swap N4
        clear kN8 FA NA FB NB
        refine' (diff_con (hA.objs.size + 1) (hB.objs.size + 1) wp wq sp sq hwp hwq (le_n hlp rfl) (le_n hlq rfl) 0 0 _ (Nat.ne_of_lt (Nat.lt_succ_of_lt (by assumption))) (fun p hp => Nat.ne_of_lt (Nat.lt_succ_of_lt (qA p hp))) (fun p hp => q2 (qA p hp) (by assumption))).call (SiteB.mk B₁ XB TB rfl (by walk_at "line") (by walk_at "line")) kF8 N4 ?_
        rintro v led' h' tk' g₂ T₂ ⟨Tt, M, ms, rl', c, j', rfl, rfl, hms, hrl, hT1, hM1⟩ F5 N5 B2
        clear N4 kF8
        have hlm := strsAre_len hms
        have hlr := strsAre_len hrl
        have hdl := diffL_len sp.reverse [] sq
        rw [List.length_reverse] at hdl
        have hlsp := strsAre_len hwp
        have hlsq := strsAre_len hwq
        have hml : ms.length ≤ 20 := by have := hdl.1; simp at this; omega
        have hrl2 : rl'.length ≤ 20 := by have := hdl.2; omega
        have qU : ∀ p ∈ (I, oI) :: (hy3, listOf #[.ref T, .ref lDr] 0) :: (bg, listOf bl.toArray c9) :: (lDr, listOf #[.ref a2, .ref a1] 0) :: (a1, listOf w1.toArray m1) :: (a2, listOf w2.toArray m2) :: (T, listOf #[.ref a1, .ref a2] 2) :: (D, listOf #[d1', d2'] 2) :: ex, @Ne Nat p.1 Tt ∧ @Ne Nat p.1 M ∧ @Ne Nat p.1 (hB.objs.size + 1) := fun p hp =>
          ⟨hT1 p (.tail _ (.tail _ (.tail _ hp))), hM1 p (.tail _ (.tail _ (.tail _ hp))), q2 (qA p (.tail _ (.tail _ (.tail _ hp)))) (by assumption)⟩
        generalize eUc : hB.objs.size + 1 = Uc at *
        have N6 := news_of N5 (l' := (Tt, ({ cls := .type "tuple", data := .seq #[.ref M, .ref Uc] } : Obj)) :: (M, listOf ms.toArray c) :: (Uc, listOf rl'.toArray j') :: (I, oI) :: (hy3, listOf #[.ref T, .ref lDr] 0) :: (bg, listOf bl.toArray c9) :: (lDr, listOf #[.ref a2, .ref a1] 0) :: (a1, listOf w1.toArray m1) :: (a2, listOf w2.toArray m2) :: (T, listOf #[.ref a1, .ref a2] 2) :: (D, listOf #[d1', d2'] 2) :: ex) (fun p hp => by
          rcases List.mem_cons.mp hp with rfl | hp
          · exact .head _
          rcases List.mem_cons.mp hp with rfl | hp
          · exact .tail _ (.head _)
          rcases List.mem_cons.mp hp with rfl | hp
          · exact .tail _ (.tail _ (.head _))
          exact .tail _ (.tail _ (.tail _ (.tail _ (.tail _ (.tail _ hp))))))
        clear N5
        have X2 := XB.keeps B2.stays
        have P2 := TB.keeps B2.stays
        clear X1 P1
        refine ⟨g₂, L', _, Tt, ({ cls := .type "tuple", data := .seq #[.ref M, .ref Uc] } : Obj), #[.ref M, .ref Uc], _, rfl, rfl, F5, N6, .head _, rfl, ⟨_, rfl⟩, by rw [sizeLine_eq]; simp, ?_⟩
        clear F5
        rintro s₂ ⟨g9, rfl⟩
        refine comp_rest (n := 2) (J := ToldJ4 sp sq ex Tt M Uc I hy3 bg lDr a1 a2 T D ms rl' bl w1 w2 c j' c9 m1 m2 oI d1' d2') ?fin4 ?turn4 _ 0 [] _ (Nat.zero_add _) ?init4
        case init4 => exact ⟨ex, rfl, fun p hp => hp, hob, fun p hp => oI2 p (.tail _ (.tail _ (.tail _ (.tail _ (.tail _ (.tail _ hp)))))), rfl, fun j v zz h _ => nil_get h⟩
        case turn4 =>
          rintro i4 ys nw hi4 ⟨e2, rfl, x1, x2, x3, x4, x5⟩ v I4 oI4 C4 oC4 D4 m₂ h tk E' hv4 hN4 hx4 F N o34 ne4
          obtain ⟨aa, vs, pile, cc, rfl, hm4, hs4, hl4, hg4⟩ : ToldPile sp sq M Uc ms rl' c j' i4 v := by
            have : i4 = 0 ∨ i4 = 1 := by first | exact two (by assumption) | omega
            rcases this with rfl | rfl
            · exact ⟨M, ms, _, c, (Option.some.inj hv4).symm, .inl rfl, hms, hml, rfl⟩
            · exact ⟨Uc, rl', _, j', (Option.some.inj hv4).symm, .inr rfl, hrl, hrl2, rfl⟩
          have N7 := news_front N (a := (aa, listOf vs.toArray cc)) (by
            rcases hm4 with q | q
            · rw [q]; k_mem
            · rw [q]; k_mem)
          clear N
          k_steps
          show wpAny _ _ (call (.builtin "sorted") _) _ _ _
          rename News _ _ _ _ => kN8
          rename Fr _ _ _ _ => kF8
          refine' sorted_N_str kF8 kN8 ⟨_, (kN8 _ (.head _)).1, rfl, _, rfl⟩ hs4 (Nat.lt_of_le_of_lt hl4 (by decide)) ?_
          intro h2 vs' ss' e F8 N8 hS' hp' hs'
          have qS : ∀ p ∈ _, _ := fun p hp => Heap.lt_size (kN8 p hp).1
          clear kN8 kF8
          k_steps
          have hoff3 := LCg.Off3.mem o34
          have q9 : ∀ p ∈ (I4, oI4) :: (C4, oC4) :: (D4, LCg.lst ys) :: (I, oI) :: (bg, listOf bl.toArray c9) :: [], @Ne Nat (h.objs.size + 1) p.1 := fun p hp => by
            have : @LT.lt Nat _ p.1 h.objs.size := qS p (by
              simp only [List.mem_cons, List.not_mem_nil, or_false] at hp
              rcases hp with rfl | rfl | rfl | rfl | rfl
              all_goals k_mem)
            omega
          refine LCg.CompEnd.intro F8 N8 ((Tt, ({ cls := .type "tuple", data := .seq #[.ref M, .ref Uc] } : Obj)) :: (M, listOf ms.toArray c) :: (Uc, listOf rl'.toArray j') :: (I, oI) :: (hy3, listOf #[.ref T, .ref lDr] 0) :: (bg, listOf bl.toArray c9) :: (lDr, listOf #[.ref a2, .ref a1] 0) :: (a1, listOf w1.toArray m1) :: (a2, listOf w2.toArray m2) :: (T, listOf #[.ref a1, .ref a2] 2) :: (D, listOf #[d1', d2'] 2) :: (h.objs.size + 1, seqObj "list" vs'.toArray e) :: e2) (fun p hp => ?s1) (LCg.Off3.of fun p hp => ?s2) (.head _) ⟨_, rfl, fun p hp => .tail _ (x1 p hp), ?s3, ?s4, by simp [x4], fun j v pile' hj hzj => ?s5⟩
          case s1 =>
            simp only [List.mem_cons] at hp
            rcases hp with rfl | rfl | rfl | rfl | rfl | rfl | rfl | rfl | rfl | rfl | rfl | rfl | rfl | rfl | rfl | hp
            all_goals first | k_mem | (repeat (first | exact hp | refine .tail _ ?_))
          case s2 =>
            simp only [List.mem_cons] at hp
            rcases hp with rfl | rfl | rfl | rfl | rfl | rfl | rfl | rfl | rfl | rfl | rfl | rfl | hp
            all_goals first | exact hoff3 _ (by k_mem) | exact ⟨q9 _ (.head _), q9 _ (.tail _ (.head _)), q9 _ (.tail _ (.tail _ (.head _)))⟩ | exact hoff3 _ (by (repeat (first | exact hp | refine .tail _ ?_)))
          case s3 => exact List.forall_mem_cons.mpr ⟨q9 _ (.tail _ (.tail _ (.tail _ (.tail _ (.head _))))), x2⟩
          case s4 => exact List.forall_mem_cons.mpr ⟨q9 _ (.tail _ (.tail _ (.tail _ (.head _)))), x3⟩
          case s5 =>
            refine snoc_get (P := fun v => ∃ ss, ss.Perm pile' ∧ sortedS ss = true ∧ BStrs ((h.objs.size + 1, seqObj "list" vs'.toArray e) :: e2) v ss) x4 hj (fun hq => by obtain ⟨ss, y1, y2, y3⟩ := x5 j v pile' hq hzj; exact ⟨ss, y1, y2, y3.mono fun p hp => .tail _ hp⟩) fun e9 => ?_
            rw [e9, hg4] at hzj
            obtain rfl := Option.some.inj hzj
            exact ⟨ss', hp', hs', _, vs', e, rfl, .head _, hS'⟩
        case fin4 =>
          rintro ys nw ⟨e2, rfl, x1, x2, x3, x4, x5⟩
          obtain ⟨t1, t2, rfl⟩ : ∃ a b, ys = [a, b] := by
            rcases ys with _ | ⟨a, _ | ⟨b, _ | ⟨c, r⟩⟩⟩ <;> simp at x4
            exact ⟨a, b, rfl⟩
          obtain ⟨s1, p1, so1, b1'⟩ := x5 0 t1 _ rfl rfl
          obtain ⟨s2, p2, so2, b2'⟩ := x5 1 t2 _ rfl rfl
          clear x5
          intro D5 h tk F7 N7 o1D
          obtain ⟨-, -, -, u4, -, u6, -, -, -, -, -, -⟩ := o1D
          have hD5I : D5 ≠ I := Ne.symm u4
          clear u4
          (try dsimp only at u6)
          replace u6 := neN u6
          have vI : @Ne Nat bg I := oI2 _ (.head _)
          have vh : @Ne Nat bg hy3 := by obtain ⟨-, y, -⟩ := hy4; exact Nat.ne_of_lt y
          have vl : @Ne Nat bg lDr := by obtain ⟨y, -⟩ := la; exact Nat.ne_of_lt y
          have va : @Ne Nat a1 bg ∧ @Ne Nat a2 bg ∧ @Ne Nat T bg ∧ @Ne Nat D bg := by
            obtain ⟨y1, y2, y3, -, y4, -⟩ := lbg
            exact ⟨Nat.ne_of_lt y1, Nat.ne_of_lt y2, Nat.ne_of_lt y3, Nat.ne_of_lt y4⟩
          obtain ⟨va1, va2, va3, va4⟩ := va
          have N8 := news_of N7 (l' := (bg, listOf bl.toArray c9) :: (D5, listOf #[t1, t2] 2) :: (I, oI) :: (hy3, listOf #[.ref T, .ref lDr] 0) :: (lDr, listOf #[.ref a2, .ref a1] 0) :: (a1, listOf w1.toArray m1) :: (a2, listOf w2.toArray m2) :: (T, listOf #[.ref a1, .ref a2] 2) :: (D, listOf #[d1', d2'] 2) :: e2) (fun p hp => by
            simp only [List.mem_cons] at hp
            rcases hp with rfl | rfl | rfl | rfl | rfl | rfl | rfl | rfl | rfl | hp
            all_goals first | k_mem | (repeat (first | exact hp | refine .tail _ ?_)))
          clear N7
          k_steps
          rename News _ _ _ _ => kN8
          rename Fr _ _ _ _ => kF8
          refine ⟨.inl rfl, g₂, _, _, _, (bg, listOf (bl ++ [Value.ref D5]).toArray (c9 + 1)) :: (lDr, listOf #[.ref a2, .ref a1] 0) :: (a1, listOf w1.toArray m1) :: (a2, listOf w2.toArray m2) :: (T, listOf #[.ref a1, .ref a2] 2) :: (D, listOf #[d1', d2'] 2) :: (D5, listOf #[t1, t2] 2) :: e2, rfl, T₁.trans T₂, B2, kF8, news_of kN8 fun p hp => ?y1, ?y2,
            ⟨bl ++ [Value.ref D5], c9 + 1, _, rfl, rfl, by simp [hbl], rfl, fun p hp => .tail _ (x1 p (hex2 p hp)), ?y3, fun j v e hj hej => ?y4⟩⟩
          case y1 =>
            simp only [List.cons_append, List.nil_append, List.mem_cons] at hp
            rw [← List.push_toArray] at hp
            rcases hp with rfl | rfl | rfl | rfl | rfl | rfl | rfl | rfl | rfl | hp
            all_goals first | k_mem | (repeat (first | exact hp | refine .tail _ ?_))
          case y2 =>
            simp only [List.forall_mem_cons] at oI2
            obtain ⟨i1, i2, i3, i4', i5, i6, -⟩ := oI2
            simp only [List.forall_mem_cons]
            exact ⟨i1, i2, i3, i4', i5, i6, hD5I, x3⟩
          case y3 => exact List.forall_mem_cons.mpr ⟨Ne.symm u6, x2⟩
          case y4 =>
            refine snoc_get (P := fun v => ∃ x y, BagOf e x y ∧ BPair ((D5, listOf #[t1, t2] 2) :: e2) v (x, y)) hbl hj (fun hq => by obtain ⟨x, y, z1', z2'⟩ := hbags j v e hq hej; exact ⟨x, y, z1', z2'.mono fun p hp => .tail _ (x1 p hp)⟩) fun e9 => ?_
            rw [e9, hget] at hej
            obtain rfl := Option.some.inj hej
            exact ⟨s1, s2, ⟨p1, so1, p2, so2⟩, D5, t1, t2, 2, rfl, .head _, b1'.mono fun p hp => .tail _ hp, b2'.mono fun p hp => .tail _ hp⟩
  case turn =>
    rintro i ys nw hi ⟨tb1, rest, rfl, htb1, r1, r99, rL, r2, r3, r4⟩ v I2 oI2 C oC2 D m₂ h tk E' hv2 hN2 hx2 F N o32 ne2
    obtain ⟨nn, vv, zz, kk, rfl, hmn, hIz, hzz, hnn, hvl⟩ : FilePick v1 v2 z1 z2 n1 n2 L' k2 k3 i v := by
      have : i = 0 ∨ i = 1 := by first | exact two (by assumption) | omega
      rcases this with rfl | rfl
      · exact ⟨n1, v1, z1, k2, by simpa using hv2.symm, .inl rfl, h1, rfl, l1.2.2.2.1, hl1⟩
      · exact ⟨n2, v2, z2, k3, by simpa using hv2.symm, .inr rfl, h2, rfl, l1.2.2.2.2.1, hl2⟩
    have hzl := intsAre_len hIz
    have N3 := news_front N (a := (nn, listOf vv.toArray kk)) (by
      rcases hmn with q | q
      · rw [q]; k_mem
      · rw [q]; k_mem)
    clear N
    rename_i hkITold558
    revert h1 h2 hl1 hl2 hoff113 hoff99 f1 f2 f3 f4 f5 f6 h5 hpat hpl htr hkITold558 N hret B TB hk hd hu XB X T FG' F' B' X' T' l1 d1 N' hi htb1 r1 r99 rL r2 r3 r4 hN2 F o32 ne2 hmn hIz hzz hnn hvl hv2 hx2 hzl N3
    have hkU0 : Unit := ()
    have hkU1 : Unit := ()
    have hkU2 : Unit := ()
    have hkU3 : Unit := ()
    have hkU4 : Unit := ()
    have hkU5 : Unit := ()
    revert w Fi n1 n2 v1 v2 z1 z2 pat tp k1 k2 k3 st P res A₀ base outer h₀ L m s R p loose mean mg mb dp un gd cn cs a ccd cl g' L' h' tk' oC g9 i ys tb1 rest I2 oI2 C oC2 D m₂ h tk E' nn vv zz kk hkU0 hkU1 hkU2 hkU3 hkU4 hkU5
    refine no_implicit_lambda% (hk66 2140231 ?hkdTold5 ?hkPTold5 ?hkGTold5)
    case hkdTold5 => exact (dWorld, (0 : Nat), (0 : Nat), (0 : Nat), [], [], [], [], ⟨#[]⟩, (0 : Nat), 0, 0, 0, [], ⟨#[]⟩, [], {}, default, [], default, (0 : Nat), fun _ => none, {}, fun _ _ => True, default, [], fun _ => none, fun _ => none, fun _ => none, 0, 0, none, ⟨#[]⟩, default, (0 : Nat), .none, [], default, (0 : Nat), default, 0, dObj, default, 0, [], dObj, [], (0 : Nat), dObj, (0 : Nat), dObj, (0 : Nat), fun _ => none, default, 0, fun _ _ => True, (0 : Nat), [], [], 0, (), (), (), (), (), ())
    refine (?hkFTold5 : ∀ x0 x1 x2 x3 x4 x5 x6 x7 x8 x9 x10 x11 x12 x13 x14 x15 x16 x17 x18 x19 x20 x21 x22 x23 x24 x25 x26 x27 x28 x29 x30 x31 x32 x33 x34 x35 x36 x37 x38 x39 x40 x41 x42 x43 x44 x45 x46 x47 x48 x49 x50 x51 x52 x53 x54 x55 x56 x57 x58 x59 x60 x61 x62 x63 x64 x65, ?hkPTold5 x0 x1 x2 x3 x4 x5 x6 x7 x8 x9 x10 x11 x12 x13 x14 x15 x16 x17 x18 x19 x20 x21 x22 x23 x24 x25 x26 x27 x28 x29 x30 x31 x32 x33 x34 x35 x36 x37 x38 x39 x40 x41 x42 x43 x44 x45 x46 x47 x48 x49 x50 x51 x52 x53 x54 x55 x56 x57 x58 x59 x60 x61 x62 x63 x64 x65) _ _ _ _ _ _ _ _ _ _ _ _ _ _ _ _ _ _ _ _ _ _ _ _ _ _ _ _ _ _ _ _ _ _ _ _ _ _ _ _ _ _ _ _ _ _ _ _ _ _ _ _ _ _ _ _ _ _ _ _ () () () () () ()
    intro w Fi n1 n2 v1 v2 z1 z2 pat tp k1 k2 k3 st P res A₀ base outer h₀ L m s R p loose mean mg mb dp un gd cn cs a ccd cl g' L' h' tk' oC g9 i ys tb1 rest I2 oI2 C oC2 D m₂ h tk E' nn vv zz kk hkU0 hkU1 hkU2 hkU3 hkU4 hkU5 h1 h2 hl1 hl2 hoff113 hoff99 f1 f2 f3 f4 f5 f6 h5 hpat hpl htr _ N hret B TB hk hd hu XB X T FG' F' B' X' T' l1 d1 N' hi htb1 r1 r99 rL r2 r3 r4 hN2 F o32 ne2 hmn hIz hzz hnn hvl hv2 hx2 hzl N3
    clear hkU0 hkU1 hkU2 hkU3 hkU4 hkU5
    k_steps
    show wpAny _ _ _ _ _ _
    rename News _ _ _ _ => kN
    rename Fr _ _ _ _ => kF
    refine LCg.ListComp_U (F₀ := kF) (by with_unfolding_all rfl) (by decide) (by rfl) (by decide) (by rfl) ?_
    k_steps
    show LCg.CompSrc _ _ _ _ _ _ _ _ _ _ _ _ _ _
    refine LCg.CompSrc.ledger (its := vv.toArray) rfl kF kN (by k_mem) (by rw [List.size_toArray, sizeLine_eq]; exact le_n hvl rfl) fun g9 => ?_
    refine comp_rest (n := vv.toArray.size) (J := fun i ys nw => StrsAre ys ((zz.take i).map fun z => mk (writtenL z)) ∧ nw = _) ?fin2 ?turn2 _ 0 [] _ (Nat.zero_add _) ⟨.nil, rfl⟩
    case turn2 =>
      rintro i2 ys2 nw hi2 ⟨hys2, rfl⟩ v I3 oI3 C3 oC3 D2 m₃ h tk E' hv3 hN3 hx3 F N o33 ne3
      obtain ⟨z, tz, hz, rfl⟩ := intsAre_get2 hIz (by simpa using hv3)
      k_steps
      rename News _ _ _ _ => kN9
      rename Fr _ _ _ _ => kF9
      refine LCg.CompEnd.intro kF9 kN9 _ (fun p hp => by (repeat (first | exact hp | refine .tail _ ?_))) o33 (show LCg.SrcAt g' nn vv.toArray _ from Or.inr ⟨_, by k_mem, rfl, _, rfl⟩) ⟨?_, rfl⟩
      rw [take_map_succI hz]
      exact strsAre_snoc hys2
    case fin2 =>
      rintro ys2 nw ⟨hys2, rfl⟩
      rw [List.size_toArray, hzl, List.take_length] at hys2
      rw [show zz.map (fun z => mk (writtenL z)) = (zz.map writtenL).map mk by rw [List.map_map]; rfl] at hys2
      have hwf : ((zz.map writtenL).flatten).length ≤ 9 * zz.length := written_flat zz
      intro D2 h tk F8 N8 o1D2
      clear o1D2
      k_steps
      show wpAny _ _ _ _ _ _
      rename News _ _ _ _ => kN8
      rename Fr _ _ _ _ => kF8
      have z113 : ∀ p ∈ (I2, oI2) :: (C, oC2) :: (D, LCg.lst ys) :: (L' + 1, oC) :: (99, tabObj #[]) :: (Fi, listOf #[.ref n1, .ref n2] k1) :: (n1, listOf v1.toArray k2) :: (n2, listOf v2.toArray k3) :: rest, p.1 ≠ 113 := by
        obtain ⟨⟨y1, y2, y3⟩, -⟩ := o32
        simp only [List.forall_mem_cons]
        exact ⟨Ne.symm y1, Ne.symm y2, Ne.symm y3, by k_ne, by decide, f1, f2, f3, r1⟩
      refine' (read_con (mk (flatW zz)) _ (vv.length + 2) _ ⟨?kb1, ?kb2⟩ _ tb1 rest ((I2, oI2) :: (C, oC2) :: (D, LCg.lst ys) :: (L' + 1, oC) :: (99, tabObj #[]) :: (Fi, listOf #[.ref n1, .ref n2] k1) :: (n1, listOf v1.toArray k2) :: (n2, listOf v2.toArray k3) :: rest) ?kx htb1 z113 ?ksb).call ?SS ?FF ?NN ?_
      case SS => exact (Site.mk B' X' T' rfl (by walk_at "line") (by walk_at "line"))
      case FF => exact kF8
      case ksb => intro p hp; (repeat (first | exact hp | refine .tail _ ?_))
      case kb1 => omega
      case kb2 => omega
      case kx => rw [len_mk, sizeLine_eq]; exact Nat.le_trans hwf (by omega)
      case NN =>
        refine news_of kN8 fun p hp => ?_
        simp only [List.mem_cons] at hp
        rcases hp with rfl | rfl | rfl | rfl | rfl | rfl | rfl | rfl | rfl | hp
        all_goals first | k_mem | (repeat (first | exact hp | refine .tail _ ?_))
      rintro v led' h' tk' ⟨Rr, lst', ys', tt, tb', new, rfl, rfl, hap, p3, htb', hR, hlst, hS⟩ F9 N9
      have hoff3 := LCg.Off3.mem o32
      rw [show (mk (flatW zz)).cps.toList = flatW zz by simp] at hR hS
      rw [hzl, lex_words] at hS
      rw [hzl, lex_rest, nls_count] at hR
      have hfin : ∀ p ∈ (I2, oI2) :: (C, oC2) :: (D, LCg.lst ys) :: (113, tb') :: (L' + 1, oC) :: (99, tabObj #[]) :: (Fi, listOf #[.ref n1, .ref n2] k1) :: (n1, listOf v1.toArray k2) :: (n2, listOf v2.toArray k3) :: (new ++ rest), p ∈ (113, tb') :: (new ++ ((I2, oI2) :: (C, oC2) :: (D, LCg.lst ys) :: (L' + 1, oC) :: (99, tabObj #[]) :: (Fi, listOf #[.ref n1, .ref n2] k1) :: (n1, listOf v1.toArray k2) :: (n2, listOf v2.toArray k3) :: rest)) := by
        intro p hp
        simp only [List.mem_cons, List.mem_append] at hp ⊢
        rcases hp with hp | hp | hp | hp | hp | hp | hp | hp | hp | hp | hp
        · exact .inr (.inr (.inl hp))
        · exact .inr (.inr (.inr (.inl hp)))
        · exact .inr (.inr (.inr (.inr (.inl hp))))
        · exact .inl hp
        · exact .inr (.inr (.inr (.inr (.inr (.inl hp)))))
        · exact .inr (.inr (.inr (.inr (.inr (.inr (.inl hp))))))
        · exact .inr (.inr (.inr (.inr (.inr (.inr (.inr (.inl hp)))))))
        · exact .inr (.inr (.inr (.inr (.inr (.inr (.inr (.inr (.inl hp))))))))
        · exact .inr (.inr (.inr (.inr (.inr (.inr (.inr (.inr (.inr (.inl hp)))))))))
        · exact .inr (.inl hp)
        · exact .inr (.inr (.inr (.inr (.inr (.inr (.inr (.inr (.inr (.inr hp)))))))))
      have hnewoff : ∀ p ∈ new, p.1 ≠ I2 ∧ p.1 ≠ C ∧ p.1 ≠ D := fun p hp => ⟨Ne.symm (hap p hp _ (.head _)), Ne.symm (hap p hp _ (.tail _ (.head _))), Ne.symm (hap p hp _ (.tail _ (.tail _ (.head _))))⟩
      have hsub2 : ∀ p ∈ rest, p ∈ new ++ rest := fun p hp => List.mem_append_right _ hp
      refine LCg.CompEnd.intro F9 N9 ((113, tb') :: (L' + 1, oC) :: (99, tabObj #[]) :: (Fi, listOf #[.ref n1, .ref n2] k1) :: (n1, listOf v1.toArray k2) :: (n2, listOf v2.toArray k3) :: (new ++ rest)) hfin (LCg.Off3.of fun p hp => ?off) (show LCg.SrcAt g' Fi #[.ref n1, .ref n2] _ from Or.inr ⟨_, by k_mem, rfl, _, rfl⟩) ⟨tb', new ++ rest, rfl, htb', fun p hp => ?o113, fun p hp => ?o99, fun p hp => ?oL, fun p hp => hsub2 p (r2 p hp), by rw [List.length_append, r3]; rfl, fun j v zz' hj hzj => ?ent⟩
      case off =>
        simp only [List.mem_cons, List.mem_append] at hp
        rcases hp with rfl | hp | hp | hp | hp | hp | hp | hp
        · exact hoff3 (113, tb1) (.head _)
        · exact hp ▸ hoff3 _ (.tail _ (.head _))
        · exact hp ▸ hoff3 _ (.tail _ (.tail _ (.head _)))
        · exact hp ▸ hoff3 _ (.tail _ (.tail _ (.tail _ (.head _))))
        · exact hp ▸ hoff3 _ (.tail _ (.tail _ (.tail _ (.tail _ (.head _)))))
        · exact hp ▸ hoff3 _ (.tail _ (.tail _ (.tail _ (.tail _ (.tail _ (.head _))))))
        · exact hnewoff p hp
        · exact hoff3 _ (.tail _ (.tail _ (.tail _ (.tail _ (.tail _ (.tail _ hp))))))
      case o113 =>
        rcases List.mem_append.mp hp with hp | hp
        · exact p3 p (List.mem_append_left _ hp)
        · exact r1 p hp
      case o99 =>
        rcases List.mem_append.mp hp with hp | hp
        · exact Ne.symm (hap p hp (99, tabObj #[]) (by k_mem))
        · exact r99 p hp
      case oL =>
        rcases List.mem_append.mp hp with hp | hp
        · exact Ne.symm (hap p hp (L' + 1, oC) (by k_mem))
        · exact rL p hp
      case ent =>
        refine snoc_get (P := fun v => BEntry _ v (dueE zz')) r3 hj (fun h => (r4 j v zz' h hzj).mono hsub2) fun e => ?_
        rw [e, hzz] at hzj
        obtain rfl := Option.some.inj hzj
        refine ⟨Rr, .ref lst', tt, 0, rfl, List.mem_append_left _ ?_, ⟨lst', ys', ys'.length, rfl, List.mem_append_left _ hlst, ?_⟩⟩
        · have e9 : (1 : Int) + (((flatW zz).count 10 : Nat) : Int) - nls [] = (dueE zz).2 := by
            show (1 : Int) + (((flatW zz).count 10 : Nat) : Int) - 0 = _
            rw [Int.sub_zero]
            rfl
          rw [← e9]
          exact hR
        · rw [List.map_append, List.map_map] at hS
          exact hS
end Mine
end
section
open PySem PySem.W PyProof.Rows PySem.Builtin PySem.Builtin.Str PySem.Spec PySem.Calls
set_option linter.unusedSimpArgs false
namespace Mine
def OkS (ss : List Str) : Prop := ∀ s ∈ ss, PyData.strOk s = true
theorem strOk_mk {l : List Nat} (h : ∀ c ∈ l, c < 128) : PyData.strOk (mk l) = true := by
  unfold PyData.strOk
  rw [← Array.all_toList]
  simp only [List.all_eq_true]
  intro c hc
  have : c < 128 := h c hc
  exact decide_eq_true (by omega)
theorem strOk_word (z : Int) : PyData.strOk (mk (wordL z)) = true := strOk_mk (wordL_asc z)
theorem ok_words (zs : List Int) : OkS (wordsS zs ++ [mk [], mk []]) := by
  intro s hs
  rcases List.mem_append.mp hs with hs | hs
  · obtain ⟨z, -, rfl⟩ := List.mem_map.mp hs
    exact strOk_word z
  · simp only [List.mem_cons, List.not_mem_nil, or_false] at hs
    rcases hs with rfl | rfl <;> exact strOk_mk fun c hc => nomatch hc
theorem ok_dueT (its : List Str) (zs : List Int) : OkS (dueT its zs) := by
  intro s hs
  obtain ⟨nm, hnm, rfl⟩ := List.mem_map.mp hs
  obtain ⟨z, -, rfl⟩ := List.mem_map.mp (List.mem_filter.mp hnm).1
  exact strOk_word z
theorem ok_more {ps us : List Str} (h : OkS ps) {m : List Str} (hm : m.Perm (moreUpTo ps us ps.length)) : OkS m := by
  intro s hs
  refine h s ?_
  have h1 : 0 < (moreUpTo ps us ps.length).count s := List.count_pos_iff.mpr (hm.mem_iff.mp hs)
  rw [more_count, List.take_length] at h1
  exact List.count_pos_iff.mp (by omega)
theorem can_strs : ∀ ss : List Str, OkS ss → PyData.canLayAll0 (ss.map .str) = true
  | [], _ => rfl
  | s :: r, h => by
    show (PyData.strOk s && PyData.canLayAll0 (r.map .str)) = true
    rw [h s (.head _), can_strs r fun x hx => h x (.tail _ hx)]
    rfl
theorem depth_strs : ∀ ss : List Str, PyData.depthAll (ss.map PyData.str) = 0
  | [] => rfl
  | s :: r => by
    show max 0 (PyData.depthAll (r.map PyData.str)) = 0
    rw [depth_strs r]
    rfl
theorem shaped_top {e1 e2 : List Str × Int} {b1 b2 : List Str × List Str} (h1 : OkS e1.1) (h2 : OkS e2.1) (h3 : OkS b1.1) (h4 : OkS b1.2) (h5 : OkS b2.1) (h6 : OkS b2.2) : SeqAt.shaped (dTop e1 e2 b1 b2) = true := by
  unfold SeqAt.shaped
  have e : PyData.canLay0 (dTop e1 e2 b1 b2) = true := by
    simp only [dTop, dEntry, dPair, dStrs, PyData.canLay0, PyData.canLayAll0, can_strs _ h1, can_strs _ h2, can_strs _ h3, can_strs _ h4, can_strs _ h5, can_strs _ h6, Bool.and_self]
  have d : PyData.depth (dTop e1 e2 b1 b2) ≤ 64 := by
    simp only [dTop, dEntry, dPair, dStrs, PyData.depth, PyData.depthAll, depth_strs]
    decide
  rw [e, decide_eq_true d]
  rfl
/-- told and due say the same -/
theorem bags_eq {res its : List Str} (hS : Short (takesB res) (fitsB its)) {z1 z2 : List Int} {x1 y1 x2 y2 m12 m21 : List Str} (h1 : BagOf (takenS res z1, takenS res z2) x1 y1) (h2 : BagOf (takenS res z2, takenS res z1) x2 y2)
    (p1 : m12.Perm (moreUpTo (dueT its z1) (dueT its z2) (dueT its z1).length)) (s1 : sortedS m12 = true) (p2 : m21.Perm (moreUpTo (dueT its z2) (dueT its z1) (dueT its z2).length)) (s2 : sortedS m21 = true) :
    x1 = m12 ∧ y1 = m21 ∧ x2 = m21 ∧ y2 = m12 := by
  obtain ⟨a1, a2, a3, a4⟩ := h1
  obtain ⟨b1, b2, b3, b4⟩ := h2
  rw [taken_due hS, taken_due hS] at a1 a3 b1 b3
  exact ⟨sorted_uniq (a1.trans ((diff_more1 _ _).trans p1.symm)) a2 s1, sorted_uniq (a3.trans ((diff_more2 _ _).trans p2.symm)) a4 s2,
    sorted_uniq (b1.trans ((diff_more1 _ _).trans p2.symm)) b2 s2, sorted_uniq (b3.trans ((diff_more2 _ _).trans p1.symm)) b4 s1⟩
section
variable {prog : Program} {w : World} {A : Around} {E : Value → Shared → Prop} {s : Shared} {h₀ : Heap} {L : Addr} {m : Str → Option Value} {led : Led}
theorem law_eq {res its : List Str} (hS : Short (takesB res) (fitsB its)) {z1 z2 : List Int} {v1 v2 : Value} {led1 led2 st0 st1 : Led} {Q : Value → Shared → Prop} (N : News h₀ L s.heap led2) (hsub : ∀ p ∈ led1, p ∈ led2) (T : ToldPost res z1 z2 st0 v1 led1) (D : DuePost its z1 z2 st1 v2 led2) (hu : A.units + 64 < cLine) (h : Q (.bool true) s) :
    wpAny (model prog w) A (compareOp .Eq v1 v2) Q E s := by
  obtain ⟨x1, y1, x2, y2, B1, B2, BT, -⟩ := T
  obtain ⟨m12, m21, p1, s1, p2, s2, BD, -⟩ := D
  obtain ⟨rfl, rfl, rfl, rfl⟩ := bags_eq hS B1 B2 p1 s1 p2 s2
  obtain ⟨as, ra⟩ := (BT.mono hsub).reads N
  obtain ⟨bs, rb⟩ := BD.reads N
  have hsh : SeqAt.shaped (dTop (dueE z1) (dueE z2) (y2, x2) (x2, y2)) = true := shaped_top (ok_words z1) (ok_words z2) (ok_more (ok_dueT _ _) p1) (ok_more (ok_dueT _ _) p2) (ok_more (ok_dueT _ _) p2) (ok_more (ok_dueT _ _) p1)
  refine eq_dataH ra rb hsh hsh hu ?_
  rw [SeqAt.eqv_refl _ (SeqAt.canLay_of_shaped hsh)]
  exact h
theorem slice_ints {w : List Value} {ns : List Int} (h : IntsAre w ns) (lo hi st : Option Int) : ∃ zs, IntsAre (slicePick w.toArray lo hi st).toList zs := by
  have key : ∀ (l : List Nat), ∃ zs, IntsAre (l.filterMap (w.toArray[·]?)) zs := by
    intro l
    induction l with
    | nil => exact ⟨[], .nil⟩
    | cons a r ih =>
      obtain ⟨zs, hz⟩ := ih
      rw [List.filterMap_cons]
      cases e : w.toArray[a]? with
      | none => exact ⟨zs, hz⟩
      | some v =>
        obtain ⟨z, t, -, rfl⟩ := intsAre_get2 h (by simpa using e)
        exact ⟨z :: zs, .cons z t hz⟩
  unfold slicePick
  simpa using key _
theorem slice_len3 {its : Array Value} {lo hi : Option Int} (h : (sliceRange (sliceBounds lo hi (some 2) its.size).1 (sliceBounds lo hi (some 2) its.size).2.1 (sliceBounds lo hi (some 2) its.size).2.2).length ≤ 3) : (slicePick its lo hi (some 2)).size ≤ 3 := by
  unfold slicePick
  rw [List.size_toArray]
  exact Nat.le_trans (List.length_filterMap_le _ _) h
theorem slice_a (its : Array Value) : (slicePick its none (some 6) (some 2)).size ≤ 3 := by
  refine slice_len3 ?_
  have e : sliceBounds none (some 6) (some 2) its.size = (0, min 6 (its.size : Int), 2) := by
    unfold sliceBounds
    simp
    omega
  rw [e]
  unfold sliceRange
  simp
  split <;> omega
theorem slice_b (its : Array Value) : (slicePick its (some 1) (some 6) (some 2)).size ≤ 3 := by
  refine slice_len3 ?_
  have e : sliceBounds (some 1) (some 6) (some 2) its.size = (min 1 (its.size : Int), min 6 (its.size : Int), 2) := by
    unfold sliceBounds
    simp
    omega
  rw [e]
  unfold sliceRange
  simp
  split <;> omega
theorem intsAre_app : ∀ {vs ws : List Value} {ns ms : List Int}, IntsAre vs ns → IntsAre ws ms → IntsAre (vs ++ ws) (ns ++ ms)
  | _, _, _, _, .nil, h => h
  | _, _, _, _, .cons x t r, h => .cons x t (intsAre_app r h)
/-- written ints, and ints cut out of the script -/
theorem add_cut {l b : Addr} {vs w9 : List Value} {ns zs0 : List Int} {lo hi : Option Int} {n1 n2 : Nat} {Q : Value → Shared → Prop} (hw : IntsAre w9 ns) (F : Fr h₀ L s.heap m) (N : News h₀ L s.heap ((b, listOf (slicePick w9.toArray lo hi (some 2)) n2) :: (l, listOf vs.toArray n1) :: led))
    (hv : IntsAre vs zs0) (h3 : (slicePick w9.toArray lo hi (some 2)).size ≤ 3) (hz : vs.length ≤ 7)
    (h : ∀ D h' ws zs, ws.length ≤ 10 → IntsAre ws zs → Fr h₀ L h' m → News h₀ L h' ((D, listOf ws.toArray 0) :: led) → (∀ p ∈ led, p.1 < D) → Q (.ref D) { s with heap := h' }) :
    wpAny (model prog w) A (binaryOp .Add (.ref l) (.ref b)) Q E s := by
  obtain ⟨zs, hzs⟩ := slice_ints hw lo hi (some 2)
  have hl3 : (slicePick w9.toArray lo hi (some 2)).toList.length ≤ 3 := by rw [Array.length_toList]; exact h3
  generalize slicePick w9.toArray lo hi (some 2) = arr at *
  have ea : arr = arr.toList.toArray := by simp
  rw [ea] at N
  generalize arr.toList = ws at *
  refine add_led F N (.tail _ (.head _)) (.head _) (by omega) fun D h' F' N' hlt => ?_
  refine h D h' (vs ++ ws) _ (by rw [List.length_append]; omega) (intsAre_app hv hzs) F' (news_of N' fun p hp => ?_) (fun p hp => hlt p (.tail _ (.tail _ hp)))
  rcases List.mem_cons.mp hp with rfl | hp
  · exact .head _
  · exact .tail _ (.tail _ (.tail _ hp))
end
end Mine
end
section
open PySem PySem.W PyProof.Rows
namespace Mine
local macro_rules | `(tactic| walk_at $s:str) => `(tactic| k_extra $s)
local macro_rules | `(tactic| k_all) => `(tactic| k_extra "k_all")
local macro_rules | `(tactic| k_ne) => `(tactic| k_extra "k_ne")
local macro_rules | `(tactic| size_fits) => `(tactic| k_extra "size_fits")
local macro_rules | `(tactic| ktr_room) => `(tactic| k_extra "ktr_room")
local macro_rules | `(tactic| k_in) => `(tactic| k_extra "k_in")
local macro_rules | `(tactic| ktr_units) => `(tactic| k_extra "ktr_units")
set_option maxRecDepth 100000 in
set_option maxHeartbeats 8000000 in
theorem tr_1 {w : World} (t1 t2 t3 : Tok) (g2 : @Ne Nat t2 0) (g3 : @Ne Nat t3 0) (g23 : @Ne Nat t2 t3) (st : Led) (hoff : ∀ p ∈ st, p.1 ≠ 99) : ConT w 104 [.str (Str.ofString "*.") t1, .str (Str.ofString "*") t2, .str (Str.ofString "?") t3] ((99, tabObj #[]) :: st) 12 80 (fun T => @LT.lt Nat _ t2 T ∧ @LT.lt Nat _ t3 T) (fun _ => TrPost2 [Str.ofString "*", Str.ofString "\\."] st) := by
  k_with_none
  k_with "line" => (first | exact ln2 ‹_ < PySem.recursionLimit› rfl | exact ln2 ‹_ < PySem.cLine› rfl | exact ln1 ‹_ < PySem.recursionLimit› rfl | exact ln1 ‹_ < PySem.cLine› rfl | (simp only [ktrTop] at *; first | exact ln2 ‹_ < PySem.recursionLimit› rfl | exact ln2 ‹_ < PySem.cLine› rfl | exact ln1 ‹_ < PySem.recursionLimit› rfl | exact ln1 ‹_ < PySem.cLine› rfl | omega))
  k_with "pr" => ((intro hcW; first | exact hcW.1 | exact hcW.2.1 | exact hcW.2.2.1 | exact hcW.2.2.2.1 | exact hcW.2.2.2.2.1 | exact hcW.2.2.2.2.2.1 | exact hcW.2.2.2.2.2.2.1 | exact hcW.2.2.2.2.2.2.2.1 | exact hcW.2.2.2.2.2.2.2.2.1 | exact hcW.2.2.2.2.2.2.2.2.2.1 | exact hcW.2.2.2.2.2.2.2.2.2.2.1 | exact hcW.2.2.2.2.2.2.2.2.2.2.2.1))
  k_with "k_ne" => ((refine neN ?_; (try dsimp only); first | (with_reducible assumption) | exact Ne.symm (by with_reducible assumption) | (refine ne_c1 (by with_reducible assumption) ?_; walk_at "pr") | (refine ne_c2 (by with_reducible assumption) ?_; walk_at "pr") | (refine ne_c3 (by with_reducible assumption) ?_; walk_at "pr") | (refine ne_c4 (by with_reducible assumption) ?_; walk_at "pr") | (refine ne_f1 (by with_reducible assumption) ?_; walk_at "pr") | (refine ne_f2 (by with_reducible assumption) ?_; walk_at "pr") | (refine ne_d1 (by with_reducible assumption) (by with_reducible assumption) ?_; walk_at "pr") | (refine ne_d2 (by with_reducible assumption) (by with_reducible assumption) ?_; walk_at "pr") | exact Nat.ne_of_lt (by with_reducible assumption) | exact Nat.ne_of_gt (by with_reducible assumption) | exact Nat.succ_ne_self _ | exact (Nat.succ_ne_self _).symm | ((repeat (rename (@Ne Nat _ _) => hz9W; clear hz9W)); omega)))
  k_with "le" => (first | exact Nat.le_refl _ | exact Nat.le_of_lt (by with_reducible assumption) | exact Nat.le_succ _ | exact Nat.le_succ_of_le (Nat.le_succ _) | omega)
  k_with "ktr_room" => (exact lt_room (by assumption))
  k_with "ktr_units" => ((first | exact ln1 (by assumption) rfl | exact ln2 (by assumption) rfl | (simp only [units_in1, units_deeper, Around.mark_units, units_caller]; first | exact ln2 (by assumption) rfl | exact ln1 (by assumption) rfl)))
  k_with "k_in" => (first | (with_reducible assumption) | k_in_fast | exact Frag.In.keeps (by k_asm) (Fr.keep (by k_asm)))
  k_with "sz" => (first | exact le_n (by with_reducible assumption) rfl | omega)
  k_with "pt" => ((intro hcW; with_reducible first | exact hcW.2 | exact hcW.2.2 | exact hcW.2.2.2 | exact hcW.2.2.2.2 | exact hcW.2.2.2.2.2 | exact hcW.2.2.2.2.2.2 | exact hcW.2.2.2.2.2.2.2 | exact hcW.2.2.2.2.2.2.2.2 | exact hcW.2.2.2.2.2.2.2.2.2 | exact hcW.2.2.2.2.2.2.2.2.2.2 | exact hcW.2.2.2.2.2.2.2.2.2.2.2 | exact hcW.2.2.2.2.2.2.2.2.2.2.2.2))
  k_with "size_fits" => (exact Nat.le_of_ble_eq_true rfl)
  k_with "mine tl" => (first | (with_reducible assumption) | ((with_reducible rename AllLt _ _ => hl9W); first | exact allLt_ne hl9W (by walk_at "sz") | (clear hl9W; walk_at "mine tl")) | ((with_reducible rename (_ ∧ _) => hq9W); (have ha9W := hq9W.1); (have hb9W := hq9W.2); clear hq9W; walk_at "mine tl"))
  k_with "k_all" => (first | exact List.forall_mem_nil _ | (with_reducible assumption) | ((with_reducible show ∀ p ∈ _ :: _, _); refine' List.forall_mem_cons.mpr ⟨(by k_ne), (by k_all)⟩) | (refine tl_eq (by with_reducible assumption) ?_; walk_at "pt") | (refine tl_s (by with_reducible assumption) ?_; walk_at "pt") | (refine tl_t (by with_reducible assumption) ?_; walk_at "pt") | ((with_reducible rename AllLt _ _ => hl9W); with_reducible exact allLt_ne hl9W (by walk_at "le")) | (refine' List.forall_mem_cons.mpr ⟨(by k_ne), (by k_all)⟩) | walk_at "mine tl")
  k_with "call type:list" => (((k_here; (with_reducible show wpAny _ _ (call (Value.type _) [Value.str _ _]) _ _ _); k_dflt (refine' list_str_led (by exact rfl) (by k_asm) (by k_asm) (by assumption) ?_; k_whole); intro l' h' tk' vs' n' F' N' l1 S'; (try k_lt l1))); (first | revert l' h' tk' vs' n' F' N' l1 S' | ((try revert S'); (try revert l1); (try revert N'); (try revert F'); (try revert n'); (try revert vs'); (try revert tk'); (try revert h'); (try revert l'))); (try intros))
  k_with "setAttr ref" => (((k_here; (with_reducible show wpAny _ _ (setAttr (Value.ref _) _ _) _ _ _); k_dflt (refine' fn_setAttr_led (by k_asm) (by k_asm) (by k_updF) (by exact fn_no_read) ?_; k_whole); intro D' h' kt' tk' F' N' l1; (try dsimp only at N'); (try k_lt l1); (try k_sweep))); (first | revert D' h' kt' tk' F' N' l1 | ((try revert l1); (try revert N'); (try revert F'); (try revert tk'); (try revert kt'); (try revert h'); (try revert D'))); (try intros))
  k_with "getMethod ref" => ((k_here; k_dflt (refine' fn_method_led (by k_asm) (by k_mem) (by k_mem) (by rfl) (by exact fn_no_read) (by rfl) ?_; k_whole)))
  k_with "compareOp NotEq ref ref" => ((k_here; k_dflt (first | (refine' ne_nil_nil (by k_asm) (by k_mem) (by k_mem) (by ktr_units) ?_; k_whole) | (refine' ne_cons_nil (by k_asm) (by k_mem) (by k_mem) (by ktr_units) ?_; k_whole))))
  k_with "call builtin:list.pop" => (((k_here; k_dflt (refine' pop0_led (by k_asm) (by k_asm) (by k_upd) (by assumption) ?_; k_whole); intro h' F' N'; (try k_sweep))); (first | revert h' F' N' | ((try revert N'); (try revert F'); (try revert h'))); (try intros))
  k_with "mine enter" => (first | (refine' code_def (by k_asm) (by k_asm) (by k_asm) (by k_asm) (by k_asm) (by exact rfl) (by exact rfl) (by (first | exact rfl | assumption)) (by k_is) (by k_is) (by ktr_room) (by exact BindsTo.of_eq rfl) (by exact locs rfl) ?_ (by exact rfl) (by exact rfl) (by exact rfl) (by decide); k_whole; intro g' L' h' FG' F' N' B' X' T'; (try dsimp only); (first | revert g' L' h' FG' F' N' B' X' T' | ((try revert T'); (try revert X'); (try revert B'); (try revert N'); (try revert F'); (try revert FG'); (try revert h'); (try revert L'); (try revert g'))); (try intros); (try k_fold)) | (refine' code_defC (by k_asm) (by k_asm) (by k_asm) (by k_asm) (by k_asm) (by exact rfl) (by exact rfl) (by (first | exact rfl | assumption)) (by k_is) (by k_is) (by ktr_room) (by exact BindsTo.of_eq rfl) (by exact rfl) (by decide +kernel) ?_ (by exact rfl) (by exact rfl) (by exact rfl); k_whole; intro g' L' h' tk' cells' FG' F' N' Y' B' X' T' l1; (try k_lt l1); k_cells Y'; (try simp only [List.cons_append, List.nil_append] at N'); (try dsimp only); (first | revert g' L' h' tk' cells' FG' F' N' Y' B' X' T' l1 | ((try revert l1); (try revert T'); (try revert X'); (try revert B'); (try revert Y'); (try revert N'); (try revert F'); (try revert FG'); (try revert cells'); (try revert tk'); (try revert h'); (try revert L'); (try revert g'))); (try intros); (try k_fold)))
  k_with "mine new" => ((k_dflt (refine' call_cls (by k_asm) (by k_asm) (by k_asm) (by k_is) (by k_is) (by k_is) ?_; k_whole; intro x' d' h' F' N' l1 l2; (try k_lt l1); (try k_lt2 l2); (try k_sweep); (first | revert x' d' h' F' N' l1 l2 | ((try revert l2); (try revert l1); (try revert N'); (try revert F'); (try revert h'); (try revert d'); (try revert x'))); (try intros); walk_at "mine enter")))
  k_with "call builtin:iter" => (((k_here; k_dflt (refine' iter2_led (by k_asm) (by k_asm) (by k_mem) ?_; k_whole); intro it' h' F' N' l1; (try k_lt l1))); (first | revert it' h' F' N' l1 | ((try revert l1); (try revert N'); (try revert F'); (try revert h'); (try revert it'))); (try intros))
  k_with "gt eq" => (((intro y; by_cases e1 : y = Str.ofString "ch"; (subst e1; rfl); by_cases e2 : y = Str.ofString "fiter"; (subst e2; rfl); by_cases e3 : y = Str.ofString "token"; (subst e3; rfl); by_cases e4 : y = Str.ofString "self"; (subst e4; rfl); (simp only [gtm, if_neg e1, if_neg e2, if_neg e3, if_neg e4]; try (show (match y == Str.ofString "self" with | true => _ | false => _) = none; rw [show (y == Str.ofString "self") = false from by simpa using e4]; rfl)))); (first | revert y | ((try revert y))); (try intros))
  k_with "getAttr ref" => (((k_here; (with_reducible show wpAny _ _ (getAttr (Value.ref _) _ true) _ _ _); k_dflt (refine' app_attr_led (by k_asm) (by k_asm) (by k_mem) ?_; k_whole); intro u' h' F' N' l1; (try k_lt l1))); (first | revert u' h' F' N' l1 | ((try revert l1); (try revert N'); (try revert F'); (try revert h'); (try revert u'))); (try intros))
  k_with "callWith ref" => ((k_here; (with_reducible show wpAny _ _ (callWith _ (Value.ref _) _ (backTo _ (starEach (_ :: _) _)) []) _ _ _); k_dflt (refine' bapp_callWith (by k_asm) (by k_mem) ?_; k_whole)))
  k_with "And" => (((with_reducible show BAt _ _ _ ∧ _); k_dflt (refine' ⟨bat_of (by k_asm) (by k_mem), ?_⟩); (try dsimp only [List.nil_append, List.cons_append])))
  k_with "call ref" => (((k_here; (with_reducible show wpAny _ _ (call (Value.ref _) [_]) _ _ _); k_dflt (refine' app_call_led (by k_asm) (by k_asm) (by k_mem) (by k_upd) ?_ (by size_fits); k_whole); intro h' F' N'; (try k_sweep))); (first | revert h' F' N' | ((try revert N'); (try revert F'); (try revert h'))); (try intros))
  k_with "execs cons" => (((k_here; (fail_if_success (fail_if_success k_gentoks)); refine' wp_gen ?_; intro tk htk; (try dsimp only at htk))); (first | revert tk htk | ((try revert htk); (try revert tk))); (try intros))
  k_with "execs nil" => (((k_here; (fail_if_success (fail_if_success k_gentoks)); refine' wp_gen ?_; intro tk htk; (try dsimp only at htk))); (first | revert tk htk | ((try revert htk); (try revert tk))); (try intros))
  k_with "compareOp IsNot str str" => ((k_here; refine' isnot_strs (by ((try dsimp only); omega)) (by ((try dsimp only); omega)) (by ((try dsimp only); omega)) (by (first | decide | decide +kernel)) ?_))
  k_with "call ref" => (((k_here; (with_reducible show wpAny _ _ (call (Value.ref 97) [Value.str _ _]) _ _ _); (first | (refine' (esc_46 _ _).call True.intro (Site.mk (by assumption) (by assumption) (by assumption) rfl (by walk_at "line") (by walk_at "line")) (by k_asm) (by k_asm) ?_; intro v led' h' tk' hle hP9W F' N'; (have eP9W := hP9W.2); subst eP9W; (obtain ⟨u, eQ9W⟩ := hP9W.1); subst eQ9W; clear hP9W; (try dsimp only)) | (refine' (esc_34 _ _).call True.intro (Site.mk (by assumption) (by assumption) (by assumption) rfl (by walk_at "line") (by walk_at "line")) (by k_asm) (by k_asm) ?_; intro v led' h' tk' hle hP9W F' N'; (have eP9W := hP9W.2); subst eP9W; (obtain ⟨u, eQ9W, eR9W⟩ := hP9W.1); subst eQ9W; clear hP9W; (try dsimp only at *))))); (first | revert v led' h' tk' hle hP9W F' N' | ((try revert N'); (try revert F'); (try revert hP9W); (try revert hle); (try revert tk'); (try revert h'); (try revert led'); (try revert v))); (try intros))
  k_with "truthy ref" => ((k_here; k_dflt (refine' truthy_some (by k_asm) (by k_mem) (by rfl) (by simp) ?_; k_whole)))
  k_with "call builtin:str.replace" => (((k_here; refine' wpAny_low (PySem.SC.replaceW (by exact (show @Ne Nat _ 0 from by omega)) (by exact (show @Ne Nat _ 0 from by omega)) (by exact (show @Ne Nat _ _ from by omega)) (by decide +kernel) (by decide +kernel) (by decide +kernel) ?_); intro t' k' hle9W; (try dsimp only at hle9W); (try rw [repl_bang]))); (first | revert t' k' hle9W | ((try revert hle9W); (try revert k'); (try revert t'))); (try intros))
  k_with "call builtin:str.find" => ((exfalso; (rename (_ = false) => h9W; exact absurd h9W (by decide +kernel))))
  k_with "subscriptTail Name Slice str ref" => (((k_here; (fail_if_success (with_reducible rename LowMark => zl9W)); refine' wpAny_low ?_; (have zl9W := lowMark); walk_at "subscriptTail Name Slice str ref"; intro hle9W; (clear zl9W); (try dsimp only at hle9W))); (first | revert hle9W | ((try revert hle9W))); (try intros))
  intro A h₀ L m s R hpre S F N hret; obtain ⟨hpre1, hpre2⟩ := hpre
  obtain ⟨p, loose, mean, mg, mb, dp, un, gd, cn, cs, a, ccd, cl, outer, A₀, base, rfl, B, X, T, hk, hd, hu⟩ := S
  revert X; k_fill; intro X
  (refine' code_def (binds := [(PySem.Str.ofString "pat", .str (Str.ofString "*.") t1), (PySem.Str.ofString "STAR", .str (Str.ofString "*") t2), (PySem.Str.ofString "QUESTION_MARK", .str (Str.ofString "?") t3)]) ?k1 ?k2 ?k3 ?k4 ?k5 ?kA ?kF ?kK ?k6 ?k7 ?k8 ?k9 ?kB ?_ ?c2 ?c3 ?c4 ?c5; (case kA => exact rfl); (case kF => exact rfl); (case kK => assumption); (case k1 => k_asm); (case k2 => k_asm); (case k3 => k_asm); (case k4 => k_asm); (case k5 => k_asm); (case k6 => k_is); (case k7 => k_is); (case k8 => ktr_room); (case k9 => exact BindsTo.of_eq rfl); (case c5 => decide); (case kB => exact locs rfl); (case c2 => exact rfl); (case c3 => exact rfl); (case c4 => exact rfl); k_whole; intro g' L' h' FG' F' N' B' X' T'; (try dsimp only); (try k_fold))
  have hMk9 := kstMark
  have C1 := codeHd103 X'
  try subst ek
  try subst qk
  revert g2 g3 g23 hoff F N hret hpre1 hpre2 B T hk hd hu X FG' F' N' B' X' T' C1
  revert w t1 t2 t3 st h₀ L m s R p loose mean mg mb dp un gd cn cs a ccd cl outer A₀ base g' L' h'
  refine no_implicit_lambda% (hk29 14414283 ?hkdTl10 ?hkPTl10 ?hkGTl10)
  case hkdTl10 => exact (dWorld, (0 : Nat), (0 : Nat), (0 : Nat), [], default, (0 : Nat), fun _ => none, {}, fun _ _ => True, default, [], fun _ => none, fun _ => none, fun _ => none, 0, 0, none, ⟨#[]⟩, default, (0 : Nat), .none, [], [], {}, default, default, (0 : Nat), default)
  refine (?hkFTl10 : ∀ x0 x1 x2 x3 x4 x5 x6 x7 x8 x9 x10 x11 x12 x13 x14 x15 x16 x17 x18 x19 x20 x21 x22 x23 x24 x25 x26 x27 x28, ?hkPTl10 x0 x1 x2 x3 x4 x5 x6 x7 x8 x9 x10 x11 x12 x13 x14 x15 x16 x17 x18 x19 x20 x21 x22 x23 x24 x25 x26 x27 x28) _ _ _ _ _ _ _ _ _ _ _ _ _ _ _ _ _ _ _ _ _ _ _ _ _ _ _ _ _
  intro w t1 t2 t3 st h₀ L m s R p loose mean mg mb dp un gd cn cs a ccd cl outer A₀ base g' L' h' g2 g3 g23 hoff F N hret hpre1 hpre2 B T hk hd hu X FG' F' N' B' X' T' C1
  (try k_fold)
  k_steps
  all_goals try (rename (_ < _ ∨ _ ≤ _) => h9; exact absurd h9 (by decide +kernel))
  rename News _ _ _ _ => kN8
  rename Fr _ _ _ _ => kF8
  refine tr_end (s := s) hret kF8 kN8 ?e1 ?a1 ?a2 ?a3 ?b1 ?b2 ?b3
  case e1 => (repeat (first | exact .nil | refine .cons _ _ ?_))
  case a1 => walk_at "mine tl"
  case a2 => walk_at "mine tl"
  case a3 => walk_at "mine tl"
  case b1 => k_ne
  case b2 => k_ne
  case b3 => k_ne
end Mine
end
section
open PySem PySem.W PyProof.Rows
namespace Mine
local macro_rules | `(tactic| walk_at $s:str) => `(tactic| k_extra $s)
local macro_rules | `(tactic| k_all) => `(tactic| k_extra "k_all")
local macro_rules | `(tactic| k_ne) => `(tactic| k_extra "k_ne")
local macro_rules | `(tactic| size_fits) => `(tactic| k_extra "size_fits")
local macro_rules | `(tactic| ktr_room) => `(tactic| k_extra "ktr_room")
local macro_rules | `(tactic| k_in) => `(tactic| k_extra "k_in")
local macro_rules | `(tactic| ktr_units) => `(tactic| k_extra "ktr_units")
set_option maxRecDepth 100000 in
set_option maxHeartbeats 8000000 in
theorem tr_2 {w : World} (t1 t2 t3 : Tok) (g2 : @Ne Nat t2 0) (g3 : @Ne Nat t3 0) (g23 : @Ne Nat t2 t3) (st : Led) (hoff : ∀ p ∈ st, p.1 ≠ 99) : ConT w 104 [.str (Str.ofString "*") t1, .str (Str.ofString "*") t2, .str (Str.ofString "?") t3] ((99, tabObj #[]) :: st) 12 80 (fun T => @LT.lt Nat _ t2 T ∧ @LT.lt Nat _ t3 T) (fun _ => TrPost2 [Str.ofString "*"] st) := by
  k_with_none
  k_with "line" => (first | exact ln2 ‹_ < PySem.recursionLimit› rfl | exact ln2 ‹_ < PySem.cLine› rfl | exact ln1 ‹_ < PySem.recursionLimit› rfl | exact ln1 ‹_ < PySem.cLine› rfl | (simp only [ktrTop] at *; first | exact ln2 ‹_ < PySem.recursionLimit› rfl | exact ln2 ‹_ < PySem.cLine› rfl | exact ln1 ‹_ < PySem.recursionLimit› rfl | exact ln1 ‹_ < PySem.cLine› rfl | omega))
  k_with "pr" => ((intro hcW; first | exact hcW.1 | exact hcW.2.1 | exact hcW.2.2.1 | exact hcW.2.2.2.1 | exact hcW.2.2.2.2.1 | exact hcW.2.2.2.2.2.1 | exact hcW.2.2.2.2.2.2.1 | exact hcW.2.2.2.2.2.2.2.1 | exact hcW.2.2.2.2.2.2.2.2.1 | exact hcW.2.2.2.2.2.2.2.2.2.1 | exact hcW.2.2.2.2.2.2.2.2.2.2.1 | exact hcW.2.2.2.2.2.2.2.2.2.2.2.1))
  k_with "k_ne" => ((refine neN ?_; (try dsimp only); first | (with_reducible assumption) | exact Ne.symm (by with_reducible assumption) | (refine ne_c1 (by with_reducible assumption) ?_; walk_at "pr") | (refine ne_c2 (by with_reducible assumption) ?_; walk_at "pr") | (refine ne_c3 (by with_reducible assumption) ?_; walk_at "pr") | (refine ne_c4 (by with_reducible assumption) ?_; walk_at "pr") | (refine ne_f1 (by with_reducible assumption) ?_; walk_at "pr") | (refine ne_f2 (by with_reducible assumption) ?_; walk_at "pr") | (refine ne_d1 (by with_reducible assumption) (by with_reducible assumption) ?_; walk_at "pr") | (refine ne_d2 (by with_reducible assumption) (by with_reducible assumption) ?_; walk_at "pr") | exact Nat.ne_of_lt (by with_reducible assumption) | exact Nat.ne_of_gt (by with_reducible assumption) | exact Nat.succ_ne_self _ | exact (Nat.succ_ne_self _).symm | ((repeat (rename (@Ne Nat _ _) => hz9W; clear hz9W)); omega)))
  k_with "le" => (first | exact Nat.le_refl _ | exact Nat.le_of_lt (by with_reducible assumption) | exact Nat.le_succ _ | exact Nat.le_succ_of_le (Nat.le_succ _) | omega)
  k_with "ktr_room" => (exact lt_room (by assumption))
  k_with "ktr_units" => ((first | exact ln1 (by assumption) rfl | exact ln2 (by assumption) rfl | (simp only [units_in1, units_deeper, Around.mark_units, units_caller]; first | exact ln2 (by assumption) rfl | exact ln1 (by assumption) rfl)))
  k_with "k_in" => (first | (with_reducible assumption) | k_in_fast | exact Frag.In.keeps (by k_asm) (Fr.keep (by k_asm)))
  k_with "sz" => (first | exact le_n (by with_reducible assumption) rfl | omega)
  k_with "pt" => ((intro hcW; with_reducible first | exact hcW.2 | exact hcW.2.2 | exact hcW.2.2.2 | exact hcW.2.2.2.2 | exact hcW.2.2.2.2.2 | exact hcW.2.2.2.2.2.2 | exact hcW.2.2.2.2.2.2.2 | exact hcW.2.2.2.2.2.2.2.2 | exact hcW.2.2.2.2.2.2.2.2.2 | exact hcW.2.2.2.2.2.2.2.2.2.2 | exact hcW.2.2.2.2.2.2.2.2.2.2.2 | exact hcW.2.2.2.2.2.2.2.2.2.2.2.2))
  k_with "size_fits" => (exact Nat.le_of_ble_eq_true rfl)
  k_with "mine tl" => (first | (with_reducible assumption) | ((with_reducible rename AllLt _ _ => hl9W); first | exact allLt_ne hl9W (by walk_at "sz") | (clear hl9W; walk_at "mine tl")) | ((with_reducible rename (_ ∧ _) => hq9W); (have ha9W := hq9W.1); (have hb9W := hq9W.2); clear hq9W; walk_at "mine tl"))
  k_with "k_all" => (first | exact List.forall_mem_nil _ | (with_reducible assumption) | ((with_reducible show ∀ p ∈ _ :: _, _); refine' List.forall_mem_cons.mpr ⟨(by k_ne), (by k_all)⟩) | (refine tl_eq (by with_reducible assumption) ?_; walk_at "pt") | (refine tl_s (by with_reducible assumption) ?_; walk_at "pt") | (refine tl_t (by with_reducible assumption) ?_; walk_at "pt") | ((with_reducible rename AllLt _ _ => hl9W); with_reducible exact allLt_ne hl9W (by walk_at "le")) | (refine' List.forall_mem_cons.mpr ⟨(by k_ne), (by k_all)⟩) | walk_at "mine tl")
  k_with "call type:list" => (((k_here; (with_reducible show wpAny _ _ (call (Value.type _) [Value.str _ _]) _ _ _); k_dflt (refine' list_str_led (by exact rfl) (by k_asm) (by k_asm) (by assumption) ?_; k_whole); intro l' h' tk' vs' n' F' N' l1 S'; (try k_lt l1))); (first | revert l' h' tk' vs' n' F' N' l1 S' | ((try revert S'); (try revert l1); (try revert N'); (try revert F'); (try revert n'); (try revert vs'); (try revert tk'); (try revert h'); (try revert l'))); (try intros))
  k_with "setAttr ref" => (((k_here; (with_reducible show wpAny _ _ (setAttr (Value.ref _) _ _) _ _ _); k_dflt (refine' fn_setAttr_led (by k_asm) (by k_asm) (by k_updF) (by exact fn_no_read) ?_; k_whole); intro D' h' kt' tk' F' N' l1; (try dsimp only at N'); (try k_lt l1); (try k_sweep))); (first | revert D' h' kt' tk' F' N' l1 | ((try revert l1); (try revert N'); (try revert F'); (try revert tk'); (try revert kt'); (try revert h'); (try revert D'))); (try intros))
  k_with "getMethod ref" => ((k_here; k_dflt (refine' fn_method_led (by k_asm) (by k_mem) (by k_mem) (by rfl) (by exact fn_no_read) (by rfl) ?_; k_whole)))
  k_with "compareOp NotEq ref ref" => ((k_here; k_dflt (first | (refine' ne_nil_nil (by k_asm) (by k_mem) (by k_mem) (by ktr_units) ?_; k_whole) | (refine' ne_cons_nil (by k_asm) (by k_mem) (by k_mem) (by ktr_units) ?_; k_whole))))
  k_with "call builtin:list.pop" => (((k_here; k_dflt (refine' pop0_led (by k_asm) (by k_asm) (by k_upd) (by assumption) ?_; k_whole); intro h' F' N'; (try k_sweep))); (first | revert h' F' N' | ((try revert N'); (try revert F'); (try revert h'))); (try intros))
  k_with "mine enter" => (first | (refine' code_def (by k_asm) (by k_asm) (by k_asm) (by k_asm) (by k_asm) (by exact rfl) (by exact rfl) (by (first | exact rfl | assumption)) (by k_is) (by k_is) (by ktr_room) (by exact BindsTo.of_eq rfl) (by exact locs rfl) ?_ (by exact rfl) (by exact rfl) (by exact rfl) (by decide); k_whole; intro g' L' h' FG' F' N' B' X' T'; (try dsimp only); (first | revert g' L' h' FG' F' N' B' X' T' | ((try revert T'); (try revert X'); (try revert B'); (try revert N'); (try revert F'); (try revert FG'); (try revert h'); (try revert L'); (try revert g'))); (try intros); (try k_fold)) | (refine' code_defC (by k_asm) (by k_asm) (by k_asm) (by k_asm) (by k_asm) (by exact rfl) (by exact rfl) (by (first | exact rfl | assumption)) (by k_is) (by k_is) (by ktr_room) (by exact BindsTo.of_eq rfl) (by exact rfl) (by decide +kernel) ?_ (by exact rfl) (by exact rfl) (by exact rfl); k_whole; intro g' L' h' tk' cells' FG' F' N' Y' B' X' T' l1; (try k_lt l1); k_cells Y'; (try simp only [List.cons_append, List.nil_append] at N'); (try dsimp only); (first | revert g' L' h' tk' cells' FG' F' N' Y' B' X' T' l1 | ((try revert l1); (try revert T'); (try revert X'); (try revert B'); (try revert Y'); (try revert N'); (try revert F'); (try revert FG'); (try revert cells'); (try revert tk'); (try revert h'); (try revert L'); (try revert g'))); (try intros); (try k_fold)))
  k_with "mine new" => ((k_dflt (refine' call_cls (by k_asm) (by k_asm) (by k_asm) (by k_is) (by k_is) (by k_is) ?_; k_whole; intro x' d' h' F' N' l1 l2; (try k_lt l1); (try k_lt2 l2); (try k_sweep); (first | revert x' d' h' F' N' l1 l2 | ((try revert l2); (try revert l1); (try revert N'); (try revert F'); (try revert h'); (try revert d'); (try revert x'))); (try intros); walk_at "mine enter")))
  k_with "call builtin:iter" => (((k_here; k_dflt (refine' iter2_led (by k_asm) (by k_asm) (by k_mem) ?_; k_whole); intro it' h' F' N' l1; (try k_lt l1))); (first | revert it' h' F' N' l1 | ((try revert l1); (try revert N'); (try revert F'); (try revert h'); (try revert it'))); (try intros))
  k_with "gt eq" => (((intro y; by_cases e1 : y = Str.ofString "ch"; (subst e1; rfl); by_cases e2 : y = Str.ofString "fiter"; (subst e2; rfl); by_cases e3 : y = Str.ofString "token"; (subst e3; rfl); by_cases e4 : y = Str.ofString "self"; (subst e4; rfl); (simp only [gtm, if_neg e1, if_neg e2, if_neg e3, if_neg e4]; try (show (match y == Str.ofString "self" with | true => _ | false => _) = none; rw [show (y == Str.ofString "self") = false from by simpa using e4]; rfl)))); (first | revert y | ((try revert y))); (try intros))
  k_with "getAttr ref" => (((k_here; (with_reducible show wpAny _ _ (getAttr (Value.ref _) _ true) _ _ _); k_dflt (refine' app_attr_led (by k_asm) (by k_asm) (by k_mem) ?_; k_whole); intro u' h' F' N' l1; (try k_lt l1))); (first | revert u' h' F' N' l1 | ((try revert l1); (try revert N'); (try revert F'); (try revert h'); (try revert u'))); (try intros))
  k_with "callWith ref" => ((k_here; (with_reducible show wpAny _ _ (callWith _ (Value.ref _) _ (backTo _ (starEach (_ :: _) _)) []) _ _ _); k_dflt (refine' bapp_callWith (by k_asm) (by k_mem) ?_; k_whole)))
  k_with "And" => (((with_reducible show BAt _ _ _ ∧ _); k_dflt (refine' ⟨bat_of (by k_asm) (by k_mem), ?_⟩); (try dsimp only [List.nil_append, List.cons_append])))
  k_with "call ref" => (((k_here; (with_reducible show wpAny _ _ (call (Value.ref _) [_]) _ _ _); k_dflt (refine' app_call_led (by k_asm) (by k_asm) (by k_mem) (by k_upd) ?_ (by size_fits); k_whole); intro h' F' N'; (try k_sweep))); (first | revert h' F' N' | ((try revert N'); (try revert F'); (try revert h'))); (try intros))
  k_with "execs cons" => (((k_here; (fail_if_success (fail_if_success k_gentoks)); refine' wp_gen ?_; intro tk htk; (try dsimp only at htk))); (first | revert tk htk | ((try revert htk); (try revert tk))); (try intros))
  k_with "execs nil" => (((k_here; (fail_if_success (fail_if_success k_gentoks)); refine' wp_gen ?_; intro tk htk; (try dsimp only at htk))); (first | revert tk htk | ((try revert htk); (try revert tk))); (try intros))
  k_with "compareOp IsNot str str" => ((k_here; refine' isnot_strs (by ((try dsimp only); omega)) (by ((try dsimp only); omega)) (by ((try dsimp only); omega)) (by (first | decide | decide +kernel)) ?_))
  k_with "call ref" => (((k_here; (with_reducible show wpAny _ _ (call (Value.ref 97) [Value.str _ _]) _ _ _); (first | (refine' (esc_46 _ _).call True.intro (Site.mk (by assumption) (by assumption) (by assumption) rfl (by walk_at "line") (by walk_at "line")) (by k_asm) (by k_asm) ?_; intro v led' h' tk' hle hP9W F' N'; (have eP9W := hP9W.2); subst eP9W; (obtain ⟨u, eQ9W⟩ := hP9W.1); subst eQ9W; clear hP9W; (try dsimp only)) | (refine' (esc_34 _ _).call True.intro (Site.mk (by assumption) (by assumption) (by assumption) rfl (by walk_at "line") (by walk_at "line")) (by k_asm) (by k_asm) ?_; intro v led' h' tk' hle hP9W F' N'; (have eP9W := hP9W.2); subst eP9W; (obtain ⟨u, eQ9W, eR9W⟩ := hP9W.1); subst eQ9W; clear hP9W; (try dsimp only at *))))); (first | revert v led' h' tk' hle hP9W F' N' | ((try revert N'); (try revert F'); (try revert hP9W); (try revert hle); (try revert tk'); (try revert h'); (try revert led'); (try revert v))); (try intros))
  k_with "truthy ref" => ((k_here; k_dflt (refine' truthy_some (by k_asm) (by k_mem) (by rfl) (by simp) ?_; k_whole)))
  k_with "call builtin:str.replace" => (((k_here; refine' wpAny_low (PySem.SC.replaceW (by exact (show @Ne Nat _ 0 from by omega)) (by exact (show @Ne Nat _ 0 from by omega)) (by exact (show @Ne Nat _ _ from by omega)) (by decide +kernel) (by decide +kernel) (by decide +kernel) ?_); intro t' k' hle9W; (try dsimp only at hle9W); (try rw [repl_bang]))); (first | revert t' k' hle9W | ((try revert hle9W); (try revert k'); (try revert t'))); (try intros))
  k_with "call builtin:str.find" => ((exfalso; (rename (_ = false) => h9W; exact absurd h9W (by decide +kernel))))
  k_with "subscriptTail Name Slice str ref" => (((k_here; (fail_if_success (with_reducible rename LowMark => zl9W)); refine' wpAny_low ?_; (have zl9W := lowMark); walk_at "subscriptTail Name Slice str ref"; intro hle9W; (clear zl9W); (try dsimp only at hle9W))); (first | revert hle9W | ((try revert hle9W))); (try intros))
  intro A h₀ L m s R hpre S F N hret; obtain ⟨hpre1, hpre2⟩ := hpre
  obtain ⟨p, loose, mean, mg, mb, dp, un, gd, cn, cs, a, ccd, cl, outer, A₀, base, rfl, B, X, T, hk, hd, hu⟩ := S
  revert X; k_fill; intro X
  (refine' code_def (binds := [(PySem.Str.ofString "pat", .str (Str.ofString "*") t1), (PySem.Str.ofString "STAR", .str (Str.ofString "*") t2), (PySem.Str.ofString "QUESTION_MARK", .str (Str.ofString "?") t3)]) ?k1 ?k2 ?k3 ?k4 ?k5 ?kA ?kF ?kK ?k6 ?k7 ?k8 ?k9 ?kB ?_ ?c2 ?c3 ?c4 ?c5; (case kA => exact rfl); (case kF => exact rfl); (case kK => assumption); (case k1 => k_asm); (case k2 => k_asm); (case k3 => k_asm); (case k4 => k_asm); (case k5 => k_asm); (case k6 => k_is); (case k7 => k_is); (case k8 => ktr_room); (case k9 => exact BindsTo.of_eq rfl); (case c5 => decide); (case kB => exact locs rfl); (case c2 => exact rfl); (case c3 => exact rfl); (case c4 => exact rfl); k_whole; intro g' L' h' FG' F' N' B' X' T'; (try dsimp only); (try k_fold))
  have hMk9 := kstMark
  have C1 := codeHd103 X'
  try subst ek
  try subst qk
  revert g2 g3 g23 hoff F N hret hpre1 hpre2 B T hk hd hu X FG' F' N' B' X' T' C1
  revert w t1 t2 t3 st h₀ L m s R p loose mean mg mb dp un gd cn cs a ccd cl outer A₀ base g' L' h'
  refine no_implicit_lambda% (hk29 13638873 ?hkdTl20 ?hkPTl20 ?hkGTl20)
  case hkdTl20 => exact (dWorld, (0 : Nat), (0 : Nat), (0 : Nat), [], default, (0 : Nat), fun _ => none, {}, fun _ _ => True, default, [], fun _ => none, fun _ => none, fun _ => none, 0, 0, none, ⟨#[]⟩, default, (0 : Nat), .none, [], [], {}, default, default, (0 : Nat), default)
  refine (?hkFTl20 : ∀ x0 x1 x2 x3 x4 x5 x6 x7 x8 x9 x10 x11 x12 x13 x14 x15 x16 x17 x18 x19 x20 x21 x22 x23 x24 x25 x26 x27 x28, ?hkPTl20 x0 x1 x2 x3 x4 x5 x6 x7 x8 x9 x10 x11 x12 x13 x14 x15 x16 x17 x18 x19 x20 x21 x22 x23 x24 x25 x26 x27 x28) _ _ _ _ _ _ _ _ _ _ _ _ _ _ _ _ _ _ _ _ _ _ _ _ _ _ _ _ _
  intro w t1 t2 t3 st h₀ L m s R p loose mean mg mb dp un gd cn cs a ccd cl outer A₀ base g' L' h' g2 g3 g23 hoff F N hret hpre1 hpre2 B T hk hd hu X FG' F' N' B' X' T' C1
  (try k_fold)
  k_steps
  all_goals try (rename (_ < _ ∨ _ ≤ _) => h9; exact absurd h9 (by decide +kernel))
  rename News _ _ _ _ => kN8
  rename Fr _ _ _ _ => kF8
  refine tr_end (s := s) hret kF8 kN8 ?e1 ?a1 ?a2 ?a3 ?b1 ?b2 ?b3
  case e1 => (repeat (first | exact .nil | refine .cons _ _ ?_))
  case a1 => walk_at "mine tl"
  case a2 => walk_at "mine tl"
  case a3 => walk_at "mine tl"
  case b1 => k_ne
  case b2 => k_ne
  case b3 => k_ne
end Mine
end
section
open PySem PySem.W PyProof.Rows
namespace Mine
local macro_rules | `(tactic| walk_at $s:str) => `(tactic| k_extra $s)
local macro_rules | `(tactic| k_all) => `(tactic| k_extra "k_all")
local macro_rules | `(tactic| k_ne) => `(tactic| k_extra "k_ne")
local macro_rules | `(tactic| size_fits) => `(tactic| k_extra "size_fits")
local macro_rules | `(tactic| ktr_room) => `(tactic| k_extra "ktr_room")
local macro_rules | `(tactic| k_in) => `(tactic| k_extra "k_in")
local macro_rules | `(tactic| ktr_units) => `(tactic| k_extra "ktr_units")
set_option maxRecDepth 100000 in
set_option maxHeartbeats 8000000 in
theorem tr_3 {w : World} (t1 t2 t3 : Tok) (g2 : @Ne Nat t2 0) (g3 : @Ne Nat t3 0) (g23 : @Ne Nat t2 t3) (st : Led) (hoff : ∀ p ∈ st, p.1 ≠ 99) : ConT w 104 [.str (Str.ofString "[!a]*") t1, .str (Str.ofString "*") t2, .str (Str.ofString "?") t3] ((99, tabObj #[]) :: st) 12 80 (fun T => @LT.lt Nat _ t2 T ∧ @LT.lt Nat _ t3 T) (fun _ => TrPost2 [Str.ofString "[^a]", Str.ofString "*"] st) := by
  k_with_none
  k_with "line" => (first | exact ln2 ‹_ < PySem.recursionLimit› rfl | exact ln2 ‹_ < PySem.cLine› rfl | exact ln1 ‹_ < PySem.recursionLimit› rfl | exact ln1 ‹_ < PySem.cLine› rfl | (simp only [ktrTop] at *; first | exact ln2 ‹_ < PySem.recursionLimit› rfl | exact ln2 ‹_ < PySem.cLine› rfl | exact ln1 ‹_ < PySem.recursionLimit› rfl | exact ln1 ‹_ < PySem.cLine› rfl | omega))
  k_with "pr" => ((intro hcW; first | exact hcW.1 | exact hcW.2.1 | exact hcW.2.2.1 | exact hcW.2.2.2.1 | exact hcW.2.2.2.2.1 | exact hcW.2.2.2.2.2.1 | exact hcW.2.2.2.2.2.2.1 | exact hcW.2.2.2.2.2.2.2.1 | exact hcW.2.2.2.2.2.2.2.2.1 | exact hcW.2.2.2.2.2.2.2.2.2.1 | exact hcW.2.2.2.2.2.2.2.2.2.2.1 | exact hcW.2.2.2.2.2.2.2.2.2.2.2.1))
  k_with "k_ne" => ((refine neN ?_; (try dsimp only); first | (with_reducible assumption) | exact Ne.symm (by with_reducible assumption) | (refine ne_c1 (by with_reducible assumption) ?_; walk_at "pr") | (refine ne_c2 (by with_reducible assumption) ?_; walk_at "pr") | (refine ne_c3 (by with_reducible assumption) ?_; walk_at "pr") | (refine ne_c4 (by with_reducible assumption) ?_; walk_at "pr") | (refine ne_f1 (by with_reducible assumption) ?_; walk_at "pr") | (refine ne_f2 (by with_reducible assumption) ?_; walk_at "pr") | (refine ne_d1 (by with_reducible assumption) (by with_reducible assumption) ?_; walk_at "pr") | (refine ne_d2 (by with_reducible assumption) (by with_reducible assumption) ?_; walk_at "pr") | exact Nat.ne_of_lt (by with_reducible assumption) | exact Nat.ne_of_gt (by with_reducible assumption) | exact Nat.succ_ne_self _ | exact (Nat.succ_ne_self _).symm | ((repeat (rename (@Ne Nat _ _) => hz9W; clear hz9W)); omega)))
  k_with "le" => (first | exact Nat.le_refl _ | exact Nat.le_of_lt (by with_reducible assumption) | exact Nat.le_succ _ | exact Nat.le_succ_of_le (Nat.le_succ _) | omega)
  k_with "ktr_room" => (exact lt_room (by assumption))
  k_with "ktr_units" => ((first | exact ln1 (by assumption) rfl | exact ln2 (by assumption) rfl | (simp only [units_in1, units_deeper, Around.mark_units, units_caller]; first | exact ln2 (by assumption) rfl | exact ln1 (by assumption) rfl)))
  k_with "k_in" => (first | (with_reducible assumption) | k_in_fast | exact Frag.In.keeps (by k_asm) (Fr.keep (by k_asm)))
  k_with "sz" => (first | exact le_n (by with_reducible assumption) rfl | omega)
  k_with "pt" => ((intro hcW; with_reducible first | exact hcW.2 | exact hcW.2.2 | exact hcW.2.2.2 | exact hcW.2.2.2.2 | exact hcW.2.2.2.2.2 | exact hcW.2.2.2.2.2.2 | exact hcW.2.2.2.2.2.2.2 | exact hcW.2.2.2.2.2.2.2.2 | exact hcW.2.2.2.2.2.2.2.2.2 | exact hcW.2.2.2.2.2.2.2.2.2.2 | exact hcW.2.2.2.2.2.2.2.2.2.2.2 | exact hcW.2.2.2.2.2.2.2.2.2.2.2.2))
  k_with "size_fits" => (exact Nat.le_of_ble_eq_true rfl)
  k_with "mine tl" => (first | (with_reducible assumption) | ((with_reducible rename AllLt _ _ => hl9W); first | exact allLt_ne hl9W (by walk_at "sz") | (clear hl9W; walk_at "mine tl")) | ((with_reducible rename (_ ∧ _) => hq9W); (have ha9W := hq9W.1); (have hb9W := hq9W.2); clear hq9W; walk_at "mine tl"))
  k_with "k_all" => (first | exact List.forall_mem_nil _ | (with_reducible assumption) | ((with_reducible show ∀ p ∈ _ :: _, _); refine' List.forall_mem_cons.mpr ⟨(by k_ne), (by k_all)⟩) | (refine tl_eq (by with_reducible assumption) ?_; walk_at "pt") | (refine tl_s (by with_reducible assumption) ?_; walk_at "pt") | (refine tl_t (by with_reducible assumption) ?_; walk_at "pt") | ((with_reducible rename AllLt _ _ => hl9W); with_reducible exact allLt_ne hl9W (by walk_at "le")) | (refine' List.forall_mem_cons.mpr ⟨(by k_ne), (by k_all)⟩) | walk_at "mine tl")
  k_with "call type:list" => (((k_here; (with_reducible show wpAny _ _ (call (Value.type _) [Value.str _ _]) _ _ _); k_dflt (refine' list_str_led (by exact rfl) (by k_asm) (by k_asm) (by assumption) ?_; k_whole); intro l' h' tk' vs' n' F' N' l1 S'; (try k_lt l1))); (first | revert l' h' tk' vs' n' F' N' l1 S' | ((try revert S'); (try revert l1); (try revert N'); (try revert F'); (try revert n'); (try revert vs'); (try revert tk'); (try revert h'); (try revert l'))); (try intros))
  k_with "setAttr ref" => (((k_here; (with_reducible show wpAny _ _ (setAttr (Value.ref _) _ _) _ _ _); k_dflt (refine' fn_setAttr_led (by k_asm) (by k_asm) (by k_updF) (by exact fn_no_read) ?_; k_whole); intro D' h' kt' tk' F' N' l1; (try dsimp only at N'); (try k_lt l1); (try k_sweep))); (first | revert D' h' kt' tk' F' N' l1 | ((try revert l1); (try revert N'); (try revert F'); (try revert tk'); (try revert kt'); (try revert h'); (try revert D'))); (try intros))
  k_with "getMethod ref" => ((k_here; k_dflt (refine' fn_method_led (by k_asm) (by k_mem) (by k_mem) (by rfl) (by exact fn_no_read) (by rfl) ?_; k_whole)))
  k_with "compareOp NotEq ref ref" => ((k_here; k_dflt (first | (refine' ne_nil_nil (by k_asm) (by k_mem) (by k_mem) (by ktr_units) ?_; k_whole) | (refine' ne_cons_nil (by k_asm) (by k_mem) (by k_mem) (by ktr_units) ?_; k_whole))))
  k_with "call builtin:list.pop" => (((k_here; k_dflt (refine' pop0_led (by k_asm) (by k_asm) (by k_upd) (by assumption) ?_; k_whole); intro h' F' N'; (try k_sweep))); (first | revert h' F' N' | ((try revert N'); (try revert F'); (try revert h'))); (try intros))
  k_with "mine enter" => (first | (refine' code_def (by k_asm) (by k_asm) (by k_asm) (by k_asm) (by k_asm) (by exact rfl) (by exact rfl) (by (first | exact rfl | assumption)) (by k_is) (by k_is) (by ktr_room) (by exact BindsTo.of_eq rfl) (by exact locs rfl) ?_ (by exact rfl) (by exact rfl) (by exact rfl) (by decide); k_whole; intro g' L' h' FG' F' N' B' X' T'; (try dsimp only); (first | revert g' L' h' FG' F' N' B' X' T' | ((try revert T'); (try revert X'); (try revert B'); (try revert N'); (try revert F'); (try revert FG'); (try revert h'); (try revert L'); (try revert g'))); (try intros); (try k_fold)) | (refine' code_defC (by k_asm) (by k_asm) (by k_asm) (by k_asm) (by k_asm) (by exact rfl) (by exact rfl) (by (first | exact rfl | assumption)) (by k_is) (by k_is) (by ktr_room) (by exact BindsTo.of_eq rfl) (by exact rfl) (by decide +kernel) ?_ (by exact rfl) (by exact rfl) (by exact rfl); k_whole; intro g' L' h' tk' cells' FG' F' N' Y' B' X' T' l1; (try k_lt l1); k_cells Y'; (try simp only [List.cons_append, List.nil_append] at N'); (try dsimp only); (first | revert g' L' h' tk' cells' FG' F' N' Y' B' X' T' l1 | ((try revert l1); (try revert T'); (try revert X'); (try revert B'); (try revert Y'); (try revert N'); (try revert F'); (try revert FG'); (try revert cells'); (try revert tk'); (try revert h'); (try revert L'); (try revert g'))); (try intros); (try k_fold)))
  k_with "mine new" => ((k_dflt (refine' call_cls (by k_asm) (by k_asm) (by k_asm) (by k_is) (by k_is) (by k_is) ?_; k_whole; intro x' d' h' F' N' l1 l2; (try k_lt l1); (try k_lt2 l2); (try k_sweep); (first | revert x' d' h' F' N' l1 l2 | ((try revert l2); (try revert l1); (try revert N'); (try revert F'); (try revert h'); (try revert d'); (try revert x'))); (try intros); walk_at "mine enter")))
  k_with "call builtin:iter" => (((k_here; k_dflt (refine' iter2_led (by k_asm) (by k_asm) (by k_mem) ?_; k_whole); intro it' h' F' N' l1; (try k_lt l1))); (first | revert it' h' F' N' l1 | ((try revert l1); (try revert N'); (try revert F'); (try revert h'); (try revert it'))); (try intros))
  k_with "gt eq" => (((intro y; by_cases e1 : y = Str.ofString "ch"; (subst e1; rfl); by_cases e2 : y = Str.ofString "fiter"; (subst e2; rfl); by_cases e3 : y = Str.ofString "token"; (subst e3; rfl); by_cases e4 : y = Str.ofString "self"; (subst e4; rfl); (simp only [gtm, if_neg e1, if_neg e2, if_neg e3, if_neg e4]; try (show (match y == Str.ofString "self" with | true => _ | false => _) = none; rw [show (y == Str.ofString "self") = false from by simpa using e4]; rfl)))); (first | revert y | ((try revert y))); (try intros))
  k_with "getAttr ref" => (((k_here; (with_reducible show wpAny _ _ (getAttr (Value.ref _) _ true) _ _ _); k_dflt (refine' app_attr_led (by k_asm) (by k_asm) (by k_mem) ?_; k_whole); intro u' h' F' N' l1; (try k_lt l1))); (first | revert u' h' F' N' l1 | ((try revert l1); (try revert N'); (try revert F'); (try revert h'); (try revert u'))); (try intros))
  k_with "callWith ref" => ((k_here; (with_reducible show wpAny _ _ (callWith _ (Value.ref _) _ (backTo _ (starEach (_ :: _) _)) []) _ _ _); k_dflt (refine' bapp_callWith (by k_asm) (by k_mem) ?_; k_whole)))
  k_with "And" => (((with_reducible show BAt _ _ _ ∧ _); k_dflt (refine' ⟨bat_of (by k_asm) (by k_mem), ?_⟩); (try dsimp only [List.nil_append, List.cons_append])))
  k_with "call ref" => (((k_here; (with_reducible show wpAny _ _ (call (Value.ref _) [_]) _ _ _); k_dflt (refine' app_call_led (by k_asm) (by k_asm) (by k_mem) (by k_upd) ?_ (by size_fits); k_whole); intro h' F' N'; (try k_sweep))); (first | revert h' F' N' | ((try revert N'); (try revert F'); (try revert h'))); (try intros))
  k_with "execs cons" => (((k_here; (fail_if_success (fail_if_success k_gentoks)); refine' wp_gen ?_; intro tk htk; (try dsimp only at htk))); (first | revert tk htk | ((try revert htk); (try revert tk))); (try intros))
  k_with "execs nil" => (((k_here; (fail_if_success (fail_if_success k_gentoks)); refine' wp_gen ?_; intro tk htk; (try dsimp only at htk))); (first | revert tk htk | ((try revert htk); (try revert tk))); (try intros))
  k_with "compareOp IsNot str str" => ((k_here; refine' isnot_strs (by ((try dsimp only); omega)) (by ((try dsimp only); omega)) (by ((try dsimp only); omega)) (by (first | decide | decide +kernel)) ?_))
  k_with "call ref" => (((k_here; (with_reducible show wpAny _ _ (call (Value.ref 97) [Value.str _ _]) _ _ _); (first | (refine' (esc_46 _ _).call True.intro (Site.mk (by assumption) (by assumption) (by assumption) rfl (by walk_at "line") (by walk_at "line")) (by k_asm) (by k_asm) ?_; intro v led' h' tk' hle hP9W F' N'; (have eP9W := hP9W.2); subst eP9W; (obtain ⟨u, eQ9W⟩ := hP9W.1); subst eQ9W; clear hP9W; (try dsimp only)) | (refine' (esc_34 _ _).call True.intro (Site.mk (by assumption) (by assumption) (by assumption) rfl (by walk_at "line") (by walk_at "line")) (by k_asm) (by k_asm) ?_; intro v led' h' tk' hle hP9W F' N'; (have eP9W := hP9W.2); subst eP9W; (obtain ⟨u, eQ9W, eR9W⟩ := hP9W.1); subst eQ9W; clear hP9W; (try dsimp only at *))))); (first | revert v led' h' tk' hle hP9W F' N' | ((try revert N'); (try revert F'); (try revert hP9W); (try revert hle); (try revert tk'); (try revert h'); (try revert led'); (try revert v))); (try intros))
  k_with "truthy ref" => ((k_here; k_dflt (refine' truthy_some (by k_asm) (by k_mem) (by rfl) (by simp) ?_; k_whole)))
  k_with "call builtin:str.replace" => (((k_here; refine' wpAny_low (PySem.SC.replaceW (by exact (show @Ne Nat _ 0 from by omega)) (by exact (show @Ne Nat _ 0 from by omega)) (by exact (show @Ne Nat _ _ from by omega)) (by decide +kernel) (by decide +kernel) (by decide +kernel) ?_); intro t' k' hle9W; (try dsimp only at hle9W); (try rw [repl_bang]))); (first | revert t' k' hle9W | ((try revert hle9W); (try revert k'); (try revert t'))); (try intros))
  k_with "call builtin:str.find" => ((exfalso; (rename (_ = false) => h9W; exact absurd h9W (by decide +kernel))))
  k_with "subscriptTail Name Slice str ref" => (((k_here; (fail_if_success (with_reducible rename LowMark => zl9W)); refine' wpAny_low ?_; (have zl9W := lowMark); walk_at "subscriptTail Name Slice str ref"; intro hle9W; (clear zl9W); (try dsimp only at hle9W))); (first | revert hle9W | ((try revert hle9W))); (try intros))
  k_with "compareOp NotIn str str" => ((k_here; refine' notin_lit (by decide +kernel) ?_))
  k_with "getMethod ref" => ((k_here; (with_reducible show wpAny _ _ (getMethod (Value.ref 85) _ _) _ _ _); k_dflt (refine' getm85 (by assumption) (by k_asm) ?_)))
  k_with "call builtin:re.Pattern.sub" => (((k_here; refine' wpAny_low (sub85 (by assumption) (by k_asm) (by k_asm) (by k_mem) (by rfl) ?_); intro h' tk' u' F' N' hle9W; (try dsimp only at hle9W))); (first | revert h' tk' u' F' N' hle9W | ((try revert hle9W); (try revert N'); (try revert F'); (try revert u'); (try revert tk'); (try revert h'))); (try intros))
  k_with "binaryOp Add str str" => (((k_here; (fail_if_success (with_reducible rename LowMark => zl9W)); refine' wpAny_low ?_; (have zl9W := lowMark); walk_at "binaryOp Add str str"; intro hle9W; (clear zl9W); (try dsimp only at hle9W))); (first | revert hle9W | ((try revert hle9W))); (try intros))
  k_with "eval Lambda" => (((k_here; (fail_if_success (with_reducible rename LowMark => zl9W)); refine' wpAny_low ?_; (have zl9W := lowMark); walk_at "eval Lambda"; intro hle9W; (clear zl9W); (try dsimp only at hle9W))); (first | revert hle9W | ((try revert hle9W))); (try intros))
  k_with "formatField str" => (((k_here; (fail_if_success (with_reducible rename LowMark => zl9W)); refine' wpAny_low ?_; (have zl9W := lowMark); walk_at "formatField str"; intro hle9W; (clear zl9W); (try dsimp only at hle9W))); (first | revert hle9W | ((try revert hle9W))); (try intros))
  k_with "subscriptTail Name Constant str int" => (((k_here; (fail_if_success (with_reducible rename LowMark => zl9W)); refine' wpAny_low ?_; (have zl9W := lowMark); walk_at "subscriptTail Name Constant str int"; intro hle9W; (clear zl9W); (try dsimp only at hle9W))); (first | revert hle9W | ((try revert hle9W))); (try intros))
  k_with "truthy str" => (((k_here; (fail_if_success (with_reducible rename LowMark => zl9W)); refine' wpAny_low ?_; (have zl9W := lowMark); walk_at "truthy str"; intro hle9W; (clear zl9W); (try dsimp only at hle9W))); (first | revert hle9W | ((try revert hle9W))); (try intros))
  intro A h₀ L m s R hpre S F N hret; obtain ⟨hpre1, hpre2⟩ := hpre
  obtain ⟨p, loose, mean, mg, mb, dp, un, gd, cn, cs, a, ccd, cl, outer, A₀, base, rfl, B, X, T, hk, hd, hu⟩ := S
  revert X; k_fill; intro X
  (refine' code_def (binds := [(PySem.Str.ofString "pat", .str (Str.ofString "[!a]*") t1), (PySem.Str.ofString "STAR", .str (Str.ofString "*") t2), (PySem.Str.ofString "QUESTION_MARK", .str (Str.ofString "?") t3)]) ?k1 ?k2 ?k3 ?k4 ?k5 ?kA ?kF ?kK ?k6 ?k7 ?k8 ?k9 ?kB ?_ ?c2 ?c3 ?c4 ?c5; (case kA => exact rfl); (case kF => exact rfl); (case kK => assumption); (case k1 => k_asm); (case k2 => k_asm); (case k3 => k_asm); (case k4 => k_asm); (case k5 => k_asm); (case k6 => k_is); (case k7 => k_is); (case k8 => ktr_room); (case k9 => exact BindsTo.of_eq rfl); (case c5 => decide); (case kB => exact locs rfl); (case c2 => exact rfl); (case c3 => exact rfl); (case c4 => exact rfl); k_whole; intro g' L' h' FG' F' N' B' X' T'; (try dsimp only); (try k_fold))
  have C1 := codeHd103 X'
  try subst ek
  try subst qk
  revert g2 g3 g23 hoff F N hret hpre1 hpre2 B T hk hd hu X FG' F' N' B' X' T' C1
  revert w t1 t2 t3 st h₀ L m s R p loose mean mg mb dp un gd cn cs a ccd cl outer A₀ base g' L' h'
  refine no_implicit_lambda% (hk29 12991260 ?hkdTl30 ?hkPTl30 ?hkGTl30)
  case hkdTl30 => exact (dWorld, (0 : Nat), (0 : Nat), (0 : Nat), [], default, (0 : Nat), fun _ => none, {}, fun _ _ => True, default, [], fun _ => none, fun _ => none, fun _ => none, 0, 0, none, ⟨#[]⟩, default, (0 : Nat), .none, [], [], {}, default, default, (0 : Nat), default)
  refine (?hkFTl30 : ∀ x0 x1 x2 x3 x4 x5 x6 x7 x8 x9 x10 x11 x12 x13 x14 x15 x16 x17 x18 x19 x20 x21 x22 x23 x24 x25 x26 x27 x28, ?hkPTl30 x0 x1 x2 x3 x4 x5 x6 x7 x8 x9 x10 x11 x12 x13 x14 x15 x16 x17 x18 x19 x20 x21 x22 x23 x24 x25 x26 x27 x28) _ _ _ _ _ _ _ _ _ _ _ _ _ _ _ _ _ _ _ _ _ _ _ _ _ _ _ _ _
  intro w t1 t2 t3 st h₀ L m s R p loose mean mg mb dp un gd cn cs a ccd cl outer A₀ base g' L' h' g2 g3 g23 hoff F N hret hpre1 hpre2 B T hk hd hu X FG' F' N' B' X' T' C1
  (try k_fold)
  k_steps
  all_goals try (rename (_ < _ ∨ _ ≤ _) => h9; exact absurd h9 (by decide +kernel))
  rename News _ _ _ _ => kN8
  rename Fr _ _ _ _ => kF8
  refine tr_end5 (s := s) hret kF8 kN8 ?e1 ?a1 ?a2 ?a3 ?a4 ?a5 ?b1 ?b2 ?b3 ?b4 ?b5
  case e1 => (rw [lit_set]; repeat (first | exact .nil | refine .cons _ _ ?_))
  case a1 => walk_at "mine tl"
  case a2 => walk_at "mine tl"
  case a3 => walk_at "mine tl"
  case a4 => walk_at "mine tl"
  case a5 => walk_at "mine tl"
  case b1 => k_ne
  case b2 => k_ne
  case b3 => k_ne
  case b4 => k_ne
  case b5 => k_ne
end Mine
end
section
open PySem PySem.W PyProof.Rows
namespace Mine
local macro_rules | `(tactic| walk_at $s:str) => `(tactic| k_extra $s)
local macro_rules | `(tactic| k_all) => `(tactic| k_extra "k_all")
local macro_rules | `(tactic| k_ne) => `(tactic| k_extra "k_ne")
local macro_rules | `(tactic| size_fits) => `(tactic| k_extra "size_fits")
local macro_rules | `(tactic| ktr_room) => `(tactic| k_extra "ktr_room")
local macro_rules | `(tactic| k_in) => `(tactic| k_extra "k_in")
local macro_rules | `(tactic| ktr_units) => `(tactic| k_extra "ktr_units")
set_option maxRecDepth 100000 in
set_option maxHeartbeats 8000000 in
theorem tr_4 {w : World} (t1 t2 t3 : Tok) (g2 : @Ne Nat t2 0) (g3 : @Ne Nat t3 0) (g23 : @Ne Nat t2 t3) (st : Led) (hoff : ∀ p ∈ st, p.1 ≠ 99) : ConT w 104 [.str (Str.ofString "?*") t1, .str (Str.ofString "*") t2, .str (Str.ofString "?") t3] ((99, tabObj #[]) :: st) 12 80 (fun T => @LT.lt Nat _ t2 T ∧ @LT.lt Nat _ t3 T) (fun _ => TrPost2 [Str.ofString "?", Str.ofString "*"] st) := by
  k_with_none
  k_with "line" => (first | exact ln2 ‹_ < PySem.recursionLimit› rfl | exact ln2 ‹_ < PySem.cLine› rfl | exact ln1 ‹_ < PySem.recursionLimit› rfl | exact ln1 ‹_ < PySem.cLine› rfl | (simp only [ktrTop] at *; first | exact ln2 ‹_ < PySem.recursionLimit› rfl | exact ln2 ‹_ < PySem.cLine› rfl | exact ln1 ‹_ < PySem.recursionLimit› rfl | exact ln1 ‹_ < PySem.cLine› rfl | omega))
  k_with "pr" => ((intro hcW; first | exact hcW.1 | exact hcW.2.1 | exact hcW.2.2.1 | exact hcW.2.2.2.1 | exact hcW.2.2.2.2.1 | exact hcW.2.2.2.2.2.1 | exact hcW.2.2.2.2.2.2.1 | exact hcW.2.2.2.2.2.2.2.1 | exact hcW.2.2.2.2.2.2.2.2.1 | exact hcW.2.2.2.2.2.2.2.2.2.1 | exact hcW.2.2.2.2.2.2.2.2.2.2.1 | exact hcW.2.2.2.2.2.2.2.2.2.2.2.1))
  k_with "k_ne" => ((refine neN ?_; (try dsimp only); first | (with_reducible assumption) | exact Ne.symm (by with_reducible assumption) | (refine ne_c1 (by with_reducible assumption) ?_; walk_at "pr") | (refine ne_c2 (by with_reducible assumption) ?_; walk_at "pr") | (refine ne_c3 (by with_reducible assumption) ?_; walk_at "pr") | (refine ne_c4 (by with_reducible assumption) ?_; walk_at "pr") | (refine ne_f1 (by with_reducible assumption) ?_; walk_at "pr") | (refine ne_f2 (by with_reducible assumption) ?_; walk_at "pr") | (refine ne_d1 (by with_reducible assumption) (by with_reducible assumption) ?_; walk_at "pr") | (refine ne_d2 (by with_reducible assumption) (by with_reducible assumption) ?_; walk_at "pr") | exact Nat.ne_of_lt (by with_reducible assumption) | exact Nat.ne_of_gt (by with_reducible assumption) | exact Nat.succ_ne_self _ | exact (Nat.succ_ne_self _).symm | ((repeat (rename (@Ne Nat _ _) => hz9W; clear hz9W)); omega)))
  k_with "le" => (first | exact Nat.le_refl _ | exact Nat.le_of_lt (by with_reducible assumption) | exact Nat.le_succ _ | exact Nat.le_succ_of_le (Nat.le_succ _) | omega)
  k_with "ktr_room" => (exact lt_room (by assumption))
  k_with "ktr_units" => ((first | exact ln1 (by assumption) rfl | exact ln2 (by assumption) rfl | (simp only [units_in1, units_deeper, Around.mark_units, units_caller]; first | exact ln2 (by assumption) rfl | exact ln1 (by assumption) rfl)))
  k_with "k_in" => (first | (with_reducible assumption) | k_in_fast | exact Frag.In.keeps (by k_asm) (Fr.keep (by k_asm)))
  k_with "sz" => (first | exact le_n (by with_reducible assumption) rfl | omega)
  k_with "pt" => ((intro hcW; with_reducible first | exact hcW.2 | exact hcW.2.2 | exact hcW.2.2.2 | exact hcW.2.2.2.2 | exact hcW.2.2.2.2.2 | exact hcW.2.2.2.2.2.2 | exact hcW.2.2.2.2.2.2.2 | exact hcW.2.2.2.2.2.2.2.2 | exact hcW.2.2.2.2.2.2.2.2.2 | exact hcW.2.2.2.2.2.2.2.2.2.2 | exact hcW.2.2.2.2.2.2.2.2.2.2.2 | exact hcW.2.2.2.2.2.2.2.2.2.2.2.2))
  k_with "size_fits" => (exact Nat.le_of_ble_eq_true rfl)
  k_with "mine tl" => (first | (with_reducible assumption) | ((with_reducible rename AllLt _ _ => hl9W); first | exact allLt_ne hl9W (by walk_at "sz") | (clear hl9W; walk_at "mine tl")) | ((with_reducible rename (_ ∧ _) => hq9W); (have ha9W := hq9W.1); (have hb9W := hq9W.2); clear hq9W; walk_at "mine tl"))
  k_with "k_all" => (first | exact List.forall_mem_nil _ | (with_reducible assumption) | ((with_reducible show ∀ p ∈ _ :: _, _); refine' List.forall_mem_cons.mpr ⟨(by k_ne), (by k_all)⟩) | (refine tl_eq (by with_reducible assumption) ?_; walk_at "pt") | (refine tl_s (by with_reducible assumption) ?_; walk_at "pt") | (refine tl_t (by with_reducible assumption) ?_; walk_at "pt") | ((with_reducible rename AllLt _ _ => hl9W); with_reducible exact allLt_ne hl9W (by walk_at "le")) | (refine' List.forall_mem_cons.mpr ⟨(by k_ne), (by k_all)⟩) | walk_at "mine tl")
  k_with "call type:list" => (((k_here; (with_reducible show wpAny _ _ (call (Value.type _) [Value.str _ _]) _ _ _); k_dflt (refine' list_str_led (by exact rfl) (by k_asm) (by k_asm) (by assumption) ?_; k_whole); intro l' h' tk' vs' n' F' N' l1 S'; (try k_lt l1))); (first | revert l' h' tk' vs' n' F' N' l1 S' | ((try revert S'); (try revert l1); (try revert N'); (try revert F'); (try revert n'); (try revert vs'); (try revert tk'); (try revert h'); (try revert l'))); (try intros))
  k_with "setAttr ref" => (((k_here; (with_reducible show wpAny _ _ (setAttr (Value.ref _) _ _) _ _ _); k_dflt (refine' fn_setAttr_led (by k_asm) (by k_asm) (by k_updF) (by exact fn_no_read) ?_; k_whole); intro D' h' kt' tk' F' N' l1; (try dsimp only at N'); (try k_lt l1); (try k_sweep))); (first | revert D' h' kt' tk' F' N' l1 | ((try revert l1); (try revert N'); (try revert F'); (try revert tk'); (try revert kt'); (try revert h'); (try revert D'))); (try intros))
  k_with "getMethod ref" => ((k_here; k_dflt (refine' fn_method_led (by k_asm) (by k_mem) (by k_mem) (by rfl) (by exact fn_no_read) (by rfl) ?_; k_whole)))
  k_with "compareOp NotEq ref ref" => ((k_here; k_dflt (first | (refine' ne_nil_nil (by k_asm) (by k_mem) (by k_mem) (by ktr_units) ?_; k_whole) | (refine' ne_cons_nil (by k_asm) (by k_mem) (by k_mem) (by ktr_units) ?_; k_whole))))
  k_with "call builtin:list.pop" => (((k_here; k_dflt (refine' pop0_led (by k_asm) (by k_asm) (by k_upd) (by assumption) ?_; k_whole); intro h' F' N'; (try k_sweep))); (first | revert h' F' N' | ((try revert N'); (try revert F'); (try revert h'))); (try intros))
  k_with "mine enter" => (first | (refine' code_def (by k_asm) (by k_asm) (by k_asm) (by k_asm) (by k_asm) (by exact rfl) (by exact rfl) (by (first | exact rfl | assumption)) (by k_is) (by k_is) (by ktr_room) (by exact BindsTo.of_eq rfl) (by exact locs rfl) ?_ (by exact rfl) (by exact rfl) (by exact rfl) (by decide); k_whole; intro g' L' h' FG' F' N' B' X' T'; (try dsimp only); (first | revert g' L' h' FG' F' N' B' X' T' | ((try revert T'); (try revert X'); (try revert B'); (try revert N'); (try revert F'); (try revert FG'); (try revert h'); (try revert L'); (try revert g'))); (try intros); (try k_fold)) | (refine' code_defC (by k_asm) (by k_asm) (by k_asm) (by k_asm) (by k_asm) (by exact rfl) (by exact rfl) (by (first | exact rfl | assumption)) (by k_is) (by k_is) (by ktr_room) (by exact BindsTo.of_eq rfl) (by exact rfl) (by decide +kernel) ?_ (by exact rfl) (by exact rfl) (by exact rfl); k_whole; intro g' L' h' tk' cells' FG' F' N' Y' B' X' T' l1; (try k_lt l1); k_cells Y'; (try simp only [List.cons_append, List.nil_append] at N'); (try dsimp only); (first | revert g' L' h' tk' cells' FG' F' N' Y' B' X' T' l1 | ((try revert l1); (try revert T'); (try revert X'); (try revert B'); (try revert Y'); (try revert N'); (try revert F'); (try revert FG'); (try revert cells'); (try revert tk'); (try revert h'); (try revert L'); (try revert g'))); (try intros); (try k_fold)))
  k_with "mine new" => ((k_dflt (refine' call_cls (by k_asm) (by k_asm) (by k_asm) (by k_is) (by k_is) (by k_is) ?_; k_whole; intro x' d' h' F' N' l1 l2; (try k_lt l1); (try k_lt2 l2); (try k_sweep); (first | revert x' d' h' F' N' l1 l2 | ((try revert l2); (try revert l1); (try revert N'); (try revert F'); (try revert h'); (try revert d'); (try revert x'))); (try intros); walk_at "mine enter")))
  k_with "call builtin:iter" => (((k_here; k_dflt (refine' iter2_led (by k_asm) (by k_asm) (by k_mem) ?_; k_whole); intro it' h' F' N' l1; (try k_lt l1))); (first | revert it' h' F' N' l1 | ((try revert l1); (try revert N'); (try revert F'); (try revert h'); (try revert it'))); (try intros))
  k_with "gt eq" => (((intro y; by_cases e1 : y = Str.ofString "ch"; (subst e1; rfl); by_cases e2 : y = Str.ofString "fiter"; (subst e2; rfl); by_cases e3 : y = Str.ofString "token"; (subst e3; rfl); by_cases e4 : y = Str.ofString "self"; (subst e4; rfl); (simp only [gtm, if_neg e1, if_neg e2, if_neg e3, if_neg e4]; try (show (match y == Str.ofString "self" with | true => _ | false => _) = none; rw [show (y == Str.ofString "self") = false from by simpa using e4]; rfl)))); (first | revert y | ((try revert y))); (try intros))
  k_with "getAttr ref" => (((k_here; (with_reducible show wpAny _ _ (getAttr (Value.ref _) _ true) _ _ _); k_dflt (refine' app_attr_led (by k_asm) (by k_asm) (by k_mem) ?_; k_whole); intro u' h' F' N' l1; (try k_lt l1))); (first | revert u' h' F' N' l1 | ((try revert l1); (try revert N'); (try revert F'); (try revert h'); (try revert u'))); (try intros))
  k_with "callWith ref" => ((k_here; (with_reducible show wpAny _ _ (callWith _ (Value.ref _) _ (backTo _ (starEach (_ :: _) _)) []) _ _ _); k_dflt (refine' bapp_callWith (by k_asm) (by k_mem) ?_; k_whole)))
  k_with "And" => (((with_reducible show BAt _ _ _ ∧ _); k_dflt (refine' ⟨bat_of (by k_asm) (by k_mem), ?_⟩); (try dsimp only [List.nil_append, List.cons_append])))
  k_with "call ref" => (((k_here; (with_reducible show wpAny _ _ (call (Value.ref _) [_]) _ _ _); k_dflt (refine' app_call_led (by k_asm) (by k_asm) (by k_mem) (by k_upd) ?_ (by size_fits); k_whole); intro h' F' N'; (try k_sweep))); (first | revert h' F' N' | ((try revert N'); (try revert F'); (try revert h'))); (try intros))
  k_with "execs cons" => (((k_here; (fail_if_success (fail_if_success k_gentoks)); refine' wp_gen ?_; intro tk htk; (try dsimp only at htk))); (first | revert tk htk | ((try revert htk); (try revert tk))); (try intros))
  k_with "execs nil" => (((k_here; (fail_if_success (fail_if_success k_gentoks)); refine' wp_gen ?_; intro tk htk; (try dsimp only at htk))); (first | revert tk htk | ((try revert htk); (try revert tk))); (try intros))
  k_with "compareOp IsNot str str" => ((k_here; refine' isnot_strs (by ((try dsimp only); omega)) (by ((try dsimp only); omega)) (by ((try dsimp only); omega)) (by (first | decide | decide +kernel)) ?_))
  k_with "call ref" => (((k_here; (with_reducible show wpAny _ _ (call (Value.ref 97) [Value.str _ _]) _ _ _); (first | (refine' (esc_46 _ _).call True.intro (Site.mk (by assumption) (by assumption) (by assumption) rfl (by walk_at "line") (by walk_at "line")) (by k_asm) (by k_asm) ?_; intro v led' h' tk' hle hP9W F' N'; (have eP9W := hP9W.2); subst eP9W; (obtain ⟨u, eQ9W⟩ := hP9W.1); subst eQ9W; clear hP9W; (try dsimp only)) | (refine' (esc_34 _ _).call True.intro (Site.mk (by assumption) (by assumption) (by assumption) rfl (by walk_at "line") (by walk_at "line")) (by k_asm) (by k_asm) ?_; intro v led' h' tk' hle hP9W F' N'; (have eP9W := hP9W.2); subst eP9W; (obtain ⟨u, eQ9W, eR9W⟩ := hP9W.1); subst eQ9W; clear hP9W; (try dsimp only at *))))); (first | revert v led' h' tk' hle hP9W F' N' | ((try revert N'); (try revert F'); (try revert hP9W); (try revert hle); (try revert tk'); (try revert h'); (try revert led'); (try revert v))); (try intros))
  k_with "truthy ref" => ((k_here; k_dflt (refine' truthy_some (by k_asm) (by k_mem) (by rfl) (by simp) ?_; k_whole)))
  k_with "call builtin:str.replace" => (((k_here; refine' wpAny_low (PySem.SC.replaceW (by exact (show @Ne Nat _ 0 from by omega)) (by exact (show @Ne Nat _ 0 from by omega)) (by exact (show @Ne Nat _ _ from by omega)) (by decide +kernel) (by decide +kernel) (by decide +kernel) ?_); intro t' k' hle9W; (try dsimp only at hle9W); (try rw [repl_bang]))); (first | revert t' k' hle9W | ((try revert hle9W); (try revert k'); (try revert t'))); (try intros))
  k_with "call builtin:str.find" => ((exfalso; (rename (_ = false) => h9W; exact absurd h9W (by decide +kernel))))
  k_with "subscriptTail Name Slice str ref" => (((k_here; (fail_if_success (with_reducible rename LowMark => zl9W)); refine' wpAny_low ?_; (have zl9W := lowMark); walk_at "subscriptTail Name Slice str ref"; intro hle9W; (clear zl9W); (try dsimp only at hle9W))); (first | revert hle9W | ((try revert hle9W))); (try intros))
  intro A h₀ L m s R hpre S F N hret; obtain ⟨hpre1, hpre2⟩ := hpre
  obtain ⟨p, loose, mean, mg, mb, dp, un, gd, cn, cs, a, ccd, cl, outer, A₀, base, rfl, B, X, T, hk, hd, hu⟩ := S
  revert X; k_fill; intro X
  (refine' code_def (binds := [(PySem.Str.ofString "pat", .str (Str.ofString "?*") t1), (PySem.Str.ofString "STAR", .str (Str.ofString "*") t2), (PySem.Str.ofString "QUESTION_MARK", .str (Str.ofString "?") t3)]) ?k1 ?k2 ?k3 ?k4 ?k5 ?kA ?kF ?kK ?k6 ?k7 ?k8 ?k9 ?kB ?_ ?c2 ?c3 ?c4 ?c5; (case kA => exact rfl); (case kF => exact rfl); (case kK => assumption); (case k1 => k_asm); (case k2 => k_asm); (case k3 => k_asm); (case k4 => k_asm); (case k5 => k_asm); (case k6 => k_is); (case k7 => k_is); (case k8 => ktr_room); (case k9 => exact BindsTo.of_eq rfl); (case c5 => decide); (case kB => exact locs rfl); (case c2 => exact rfl); (case c3 => exact rfl); (case c4 => exact rfl); k_whole; intro g' L' h' FG' F' N' B' X' T'; (try dsimp only); (try k_fold))
  have hMk9 := kstMark
  have C1 := codeHd103 X'
  try subst ek
  try subst qk
  revert g2 g3 g23 hoff F N hret hpre1 hpre2 B T hk hd hu X FG' F' N' B' X' T' C1
  revert w t1 t2 t3 st h₀ L m s R p loose mean mg mb dp un gd cn cs a ccd cl outer A₀ base g' L' h'
  refine no_implicit_lambda% (hk29 1470982 ?hkdTl40 ?hkPTl40 ?hkGTl40)
  case hkdTl40 => exact (dWorld, (0 : Nat), (0 : Nat), (0 : Nat), [], default, (0 : Nat), fun _ => none, {}, fun _ _ => True, default, [], fun _ => none, fun _ => none, fun _ => none, 0, 0, none, ⟨#[]⟩, default, (0 : Nat), .none, [], [], {}, default, default, (0 : Nat), default)
  refine (?hkFTl40 : ∀ x0 x1 x2 x3 x4 x5 x6 x7 x8 x9 x10 x11 x12 x13 x14 x15 x16 x17 x18 x19 x20 x21 x22 x23 x24 x25 x26 x27 x28, ?hkPTl40 x0 x1 x2 x3 x4 x5 x6 x7 x8 x9 x10 x11 x12 x13 x14 x15 x16 x17 x18 x19 x20 x21 x22 x23 x24 x25 x26 x27 x28) _ _ _ _ _ _ _ _ _ _ _ _ _ _ _ _ _ _ _ _ _ _ _ _ _ _ _ _ _
  intro w t1 t2 t3 st h₀ L m s R p loose mean mg mb dp un gd cn cs a ccd cl outer A₀ base g' L' h' g2 g3 g23 hoff F N hret hpre1 hpre2 B T hk hd hu X FG' F' N' B' X' T' C1
  (try k_fold)
  k_steps
  all_goals try (rename (_ < _ ∨ _ ≤ _) => h9; exact absurd h9 (by decide +kernel))
  rename News _ _ _ _ => kN8
  rename Fr _ _ _ _ => kF8
  refine tr_end (s := s) hret kF8 kN8 ?e1 ?a1 ?a2 ?a3 ?b1 ?b2 ?b3
  case e1 => (repeat (first | exact .nil | refine .cons _ _ ?_))
  case a1 => walk_at "mine tl"
  case a2 => walk_at "mine tl"
  case a3 => walk_at "mine tl"
  case b1 => k_ne
  case b2 => k_ne
  case b3 => k_ne
end Mine
end
section
open PySem PySem.W PyProof.Rows
namespace Mine
local macro_rules | `(tactic| walk_at $s:str) => `(tactic| k_extra $s)
local macro_rules | `(tactic| k_all) => `(tactic| k_extra "k_all")
local macro_rules | `(tactic| k_ne) => `(tactic| k_extra "k_ne")
local macro_rules | `(tactic| size_fits) => `(tactic| k_extra "size_fits")
local macro_rules | `(tactic| ktr_room) => `(tactic| k_extra "ktr_room")
local macro_rules | `(tactic| k_in) => `(tactic| k_extra "k_in")
local macro_rules | `(tactic| ktr_units) => `(tactic| k_extra "ktr_units")
set_option maxRecDepth 100000 in
set_option maxHeartbeats 8000000 in
theorem tr_5 {w : World} (t1 t2 t3 : Tok) (g2 : @Ne Nat t2 0) (g3 : @Ne Nat t3 0) (g23 : @Ne Nat t2 t3) (st : Led) (hoff : ∀ p ∈ st, p.1 ≠ 99) : ConT w 104 [.str (Str.ofString "*\"*") t1, .str (Str.ofString "*") t2, .str (Str.ofString "?") t3] ((99, tabObj #[]) :: st) 12 80 (fun T => @LT.lt Nat _ t2 T ∧ @LT.lt Nat _ t3 T) (fun _ => TrPost2 [Str.ofString "*", Str.ofString "\"", Str.ofString "*"] st) := by
  k_with_none
  k_with "line" => (first | exact ln2 ‹_ < PySem.recursionLimit› rfl | exact ln2 ‹_ < PySem.cLine› rfl | exact ln1 ‹_ < PySem.recursionLimit› rfl | exact ln1 ‹_ < PySem.cLine› rfl | (simp only [ktrTop] at *; first | exact ln2 ‹_ < PySem.recursionLimit› rfl | exact ln2 ‹_ < PySem.cLine› rfl | exact ln1 ‹_ < PySem.recursionLimit› rfl | exact ln1 ‹_ < PySem.cLine› rfl | omega))
  k_with "pr" => ((intro hcW; first | exact hcW.1 | exact hcW.2.1 | exact hcW.2.2.1 | exact hcW.2.2.2.1 | exact hcW.2.2.2.2.1 | exact hcW.2.2.2.2.2.1 | exact hcW.2.2.2.2.2.2.1 | exact hcW.2.2.2.2.2.2.2.1 | exact hcW.2.2.2.2.2.2.2.2.1 | exact hcW.2.2.2.2.2.2.2.2.2.1 | exact hcW.2.2.2.2.2.2.2.2.2.2.1 | exact hcW.2.2.2.2.2.2.2.2.2.2.2.1))
  k_with "k_ne" => ((refine neN ?_; (try dsimp only); first | (with_reducible assumption) | exact Ne.symm (by with_reducible assumption) | (refine ne_c1 (by with_reducible assumption) ?_; walk_at "pr") | (refine ne_c2 (by with_reducible assumption) ?_; walk_at "pr") | (refine ne_c3 (by with_reducible assumption) ?_; walk_at "pr") | (refine ne_c4 (by with_reducible assumption) ?_; walk_at "pr") | (refine ne_f1 (by with_reducible assumption) ?_; walk_at "pr") | (refine ne_f2 (by with_reducible assumption) ?_; walk_at "pr") | (refine ne_d1 (by with_reducible assumption) (by with_reducible assumption) ?_; walk_at "pr") | (refine ne_d2 (by with_reducible assumption) (by with_reducible assumption) ?_; walk_at "pr") | exact Nat.ne_of_lt (by with_reducible assumption) | exact Nat.ne_of_gt (by with_reducible assumption) | exact Nat.succ_ne_self _ | exact (Nat.succ_ne_self _).symm | ((repeat (rename (@Ne Nat _ _) => hz9W; clear hz9W)); omega)))
  k_with "le" => (first | exact Nat.le_refl _ | exact Nat.le_of_lt (by with_reducible assumption) | exact Nat.le_succ _ | exact Nat.le_succ_of_le (Nat.le_succ _) | omega)
  k_with "ktr_room" => (exact lt_room (by assumption))
  k_with "ktr_units" => ((first | exact ln1 (by assumption) rfl | exact ln2 (by assumption) rfl | (simp only [units_in1, units_deeper, Around.mark_units, units_caller]; first | exact ln2 (by assumption) rfl | exact ln1 (by assumption) rfl)))
  k_with "k_in" => (first | (with_reducible assumption) | k_in_fast | exact Frag.In.keeps (by k_asm) (Fr.keep (by k_asm)))
  k_with "sz" => (first | exact le_n (by with_reducible assumption) rfl | omega)
  k_with "pt" => ((intro hcW; with_reducible first | exact hcW.2 | exact hcW.2.2 | exact hcW.2.2.2 | exact hcW.2.2.2.2 | exact hcW.2.2.2.2.2 | exact hcW.2.2.2.2.2.2 | exact hcW.2.2.2.2.2.2.2 | exact hcW.2.2.2.2.2.2.2.2 | exact hcW.2.2.2.2.2.2.2.2.2 | exact hcW.2.2.2.2.2.2.2.2.2.2 | exact hcW.2.2.2.2.2.2.2.2.2.2.2 | exact hcW.2.2.2.2.2.2.2.2.2.2.2.2))
  k_with "size_fits" => (exact Nat.le_of_ble_eq_true rfl)
  k_with "mine tl" => (first | (with_reducible assumption) | ((with_reducible rename AllLt _ _ => hl9W); first | exact allLt_ne hl9W (by walk_at "sz") | (clear hl9W; walk_at "mine tl")) | ((with_reducible rename (_ ∧ _) => hq9W); (have ha9W := hq9W.1); (have hb9W := hq9W.2); clear hq9W; walk_at "mine tl"))
  k_with "k_all" => (first | exact List.forall_mem_nil _ | (with_reducible assumption) | ((with_reducible show ∀ p ∈ _ :: _, _); refine' List.forall_mem_cons.mpr ⟨(by k_ne), (by k_all)⟩) | (refine tl_eq (by with_reducible assumption) ?_; walk_at "pt") | (refine tl_s (by with_reducible assumption) ?_; walk_at "pt") | (refine tl_t (by with_reducible assumption) ?_; walk_at "pt") | ((with_reducible rename AllLt _ _ => hl9W); with_reducible exact allLt_ne hl9W (by walk_at "le")) | (refine' List.forall_mem_cons.mpr ⟨(by k_ne), (by k_all)⟩) | walk_at "mine tl")
  k_with "call type:list" => (((k_here; (with_reducible show wpAny _ _ (call (Value.type _) [Value.str _ _]) _ _ _); k_dflt (refine' list_str_led (by exact rfl) (by k_asm) (by k_asm) (by assumption) ?_; k_whole); intro l' h' tk' vs' n' F' N' l1 S'; (try k_lt l1))); (first | revert l' h' tk' vs' n' F' N' l1 S' | ((try revert S'); (try revert l1); (try revert N'); (try revert F'); (try revert n'); (try revert vs'); (try revert tk'); (try revert h'); (try revert l'))); (try intros))
  k_with "setAttr ref" => (((k_here; (with_reducible show wpAny _ _ (setAttr (Value.ref _) _ _) _ _ _); k_dflt (refine' fn_setAttr_led (by k_asm) (by k_asm) (by k_updF) (by exact fn_no_read) ?_; k_whole); intro D' h' kt' tk' F' N' l1; (try dsimp only at N'); (try k_lt l1); (try k_sweep))); (first | revert D' h' kt' tk' F' N' l1 | ((try revert l1); (try revert N'); (try revert F'); (try revert tk'); (try revert kt'); (try revert h'); (try revert D'))); (try intros))
  k_with "getMethod ref" => ((k_here; k_dflt (refine' fn_method_led (by k_asm) (by k_mem) (by k_mem) (by rfl) (by exact fn_no_read) (by rfl) ?_; k_whole)))
  k_with "compareOp NotEq ref ref" => ((k_here; k_dflt (first | (refine' ne_nil_nil (by k_asm) (by k_mem) (by k_mem) (by ktr_units) ?_; k_whole) | (refine' ne_cons_nil (by k_asm) (by k_mem) (by k_mem) (by ktr_units) ?_; k_whole))))
  k_with "call builtin:list.pop" => (((k_here; k_dflt (refine' pop0_led (by k_asm) (by k_asm) (by k_upd) (by assumption) ?_; k_whole); intro h' F' N'; (try k_sweep))); (first | revert h' F' N' | ((try revert N'); (try revert F'); (try revert h'))); (try intros))
  k_with "mine enter" => (first | (refine' code_def (by k_asm) (by k_asm) (by k_asm) (by k_asm) (by k_asm) (by exact rfl) (by exact rfl) (by (first | exact rfl | assumption)) (by k_is) (by k_is) (by ktr_room) (by exact BindsTo.of_eq rfl) (by exact locs rfl) ?_ (by exact rfl) (by exact rfl) (by exact rfl) (by decide); k_whole; intro g' L' h' FG' F' N' B' X' T'; (try dsimp only); (first | revert g' L' h' FG' F' N' B' X' T' | ((try revert T'); (try revert X'); (try revert B'); (try revert N'); (try revert F'); (try revert FG'); (try revert h'); (try revert L'); (try revert g'))); (try intros); (try k_fold)) | (refine' code_defC (by k_asm) (by k_asm) (by k_asm) (by k_asm) (by k_asm) (by exact rfl) (by exact rfl) (by (first | exact rfl | assumption)) (by k_is) (by k_is) (by ktr_room) (by exact BindsTo.of_eq rfl) (by exact rfl) (by decide +kernel) ?_ (by exact rfl) (by exact rfl) (by exact rfl); k_whole; intro g' L' h' tk' cells' FG' F' N' Y' B' X' T' l1; (try k_lt l1); k_cells Y'; (try simp only [List.cons_append, List.nil_append] at N'); (try dsimp only); (first | revert g' L' h' tk' cells' FG' F' N' Y' B' X' T' l1 | ((try revert l1); (try revert T'); (try revert X'); (try revert B'); (try revert Y'); (try revert N'); (try revert F'); (try revert FG'); (try revert cells'); (try revert tk'); (try revert h'); (try revert L'); (try revert g'))); (try intros); (try k_fold)))
  k_with "mine new" => ((k_dflt (refine' call_cls (by k_asm) (by k_asm) (by k_asm) (by k_is) (by k_is) (by k_is) ?_; k_whole; intro x' d' h' F' N' l1 l2; (try k_lt l1); (try k_lt2 l2); (try k_sweep); (first | revert x' d' h' F' N' l1 l2 | ((try revert l2); (try revert l1); (try revert N'); (try revert F'); (try revert h'); (try revert d'); (try revert x'))); (try intros); walk_at "mine enter")))
  k_with "call builtin:iter" => (((k_here; k_dflt (refine' iter2_led (by k_asm) (by k_asm) (by k_mem) ?_; k_whole); intro it' h' F' N' l1; (try k_lt l1))); (first | revert it' h' F' N' l1 | ((try revert l1); (try revert N'); (try revert F'); (try revert h'); (try revert it'))); (try intros))
  k_with "gt eq" => (((intro y; by_cases e1 : y = Str.ofString "ch"; (subst e1; rfl); by_cases e2 : y = Str.ofString "fiter"; (subst e2; rfl); by_cases e3 : y = Str.ofString "token"; (subst e3; rfl); by_cases e4 : y = Str.ofString "self"; (subst e4; rfl); (simp only [gtm, if_neg e1, if_neg e2, if_neg e3, if_neg e4]; try (show (match y == Str.ofString "self" with | true => _ | false => _) = none; rw [show (y == Str.ofString "self") = false from by simpa using e4]; rfl)))); (first | revert y | ((try revert y))); (try intros))
  k_with "getAttr ref" => (((k_here; (with_reducible show wpAny _ _ (getAttr (Value.ref _) _ true) _ _ _); k_dflt (refine' app_attr_led (by k_asm) (by k_asm) (by k_mem) ?_; k_whole); intro u' h' F' N' l1; (try k_lt l1))); (first | revert u' h' F' N' l1 | ((try revert l1); (try revert N'); (try revert F'); (try revert h'); (try revert u'))); (try intros))
  k_with "callWith ref" => ((k_here; (with_reducible show wpAny _ _ (callWith _ (Value.ref _) _ (backTo _ (starEach (_ :: _) _)) []) _ _ _); k_dflt (refine' bapp_callWith (by k_asm) (by k_mem) ?_; k_whole)))
  k_with "And" => (((with_reducible show BAt _ _ _ ∧ _); k_dflt (refine' ⟨bat_of (by k_asm) (by k_mem), ?_⟩); (try dsimp only [List.nil_append, List.cons_append])))
  k_with "call ref" => (((k_here; (with_reducible show wpAny _ _ (call (Value.ref _) [_]) _ _ _); k_dflt (refine' app_call_led (by k_asm) (by k_asm) (by k_mem) (by k_upd) ?_ (by size_fits); k_whole); intro h' F' N'; (try k_sweep))); (first | revert h' F' N' | ((try revert N'); (try revert F'); (try revert h'))); (try intros))
  k_with "execs cons" => (((k_here; (fail_if_success (fail_if_success k_gentoks)); refine' wp_gen ?_; intro tk htk; (try dsimp only at htk))); (first | revert tk htk | ((try revert htk); (try revert tk))); (try intros))
  k_with "execs nil" => (((k_here; (fail_if_success (fail_if_success k_gentoks)); refine' wp_gen ?_; intro tk htk; (try dsimp only at htk))); (first | revert tk htk | ((try revert htk); (try revert tk))); (try intros))
  k_with "compareOp IsNot str str" => ((k_here; refine' isnot_strs (by ((try dsimp only); omega)) (by ((try dsimp only); omega)) (by ((try dsimp only); omega)) (by (first | decide | decide +kernel)) ?_))
  k_with "call ref" => (((k_here; (with_reducible show wpAny _ _ (call (Value.ref 97) [Value.str _ _]) _ _ _); (first | (refine' (esc_46 _ _).call True.intro (Site.mk (by assumption) (by assumption) (by assumption) rfl (by walk_at "line") (by walk_at "line")) (by k_asm) (by k_asm) ?_; intro v led' h' tk' hle hP9W F' N'; (have eP9W := hP9W.2); subst eP9W; (obtain ⟨u, eQ9W⟩ := hP9W.1); subst eQ9W; clear hP9W; (try dsimp only)) | (refine' (esc_34 _ _).call True.intro (Site.mk (by assumption) (by assumption) (by assumption) rfl (by walk_at "line") (by walk_at "line")) (by k_asm) (by k_asm) ?_; intro v led' h' tk' hle hP9W F' N'; (have eP9W := hP9W.2); subst eP9W; (obtain ⟨u, eQ9W, eR9W⟩ := hP9W.1); subst eQ9W; clear hP9W; (try dsimp only at *))))); (first | revert v led' h' tk' hle hP9W F' N' | ((try revert N'); (try revert F'); (try revert hP9W); (try revert hle); (try revert tk'); (try revert h'); (try revert led'); (try revert v))); (try intros))
  k_with "truthy ref" => ((k_here; k_dflt (refine' truthy_some (by k_asm) (by k_mem) (by rfl) (by simp) ?_; k_whole)))
  k_with "call builtin:str.replace" => (((k_here; refine' wpAny_low (PySem.SC.replaceW (by exact (show @Ne Nat _ 0 from by omega)) (by exact (show @Ne Nat _ 0 from by omega)) (by exact (show @Ne Nat _ _ from by omega)) (by decide +kernel) (by decide +kernel) (by decide +kernel) ?_); intro t' k' hle9W; (try dsimp only at hle9W); (try rw [repl_bang]))); (first | revert t' k' hle9W | ((try revert hle9W); (try revert k'); (try revert t'))); (try intros))
  k_with "call builtin:str.find" => ((exfalso; (rename (_ = false) => h9W; exact absurd h9W (by decide +kernel))))
  k_with "subscriptTail Name Slice str ref" => (((k_here; (fail_if_success (with_reducible rename LowMark => zl9W)); refine' wpAny_low ?_; (have zl9W := lowMark); walk_at "subscriptTail Name Slice str ref"; intro hle9W; (clear zl9W); (try dsimp only at hle9W))); (first | revert hle9W | ((try revert hle9W))); (try intros))
  intro A h₀ L m s R hpre S F N hret; obtain ⟨hpre1, hpre2⟩ := hpre
  obtain ⟨p, loose, mean, mg, mb, dp, un, gd, cn, cs, a, ccd, cl, outer, A₀, base, rfl, B, X, T, hk, hd, hu⟩ := S
  revert X; k_fill; intro X
  (refine' code_def (binds := [(PySem.Str.ofString "pat", .str (Str.ofString "*\"*") t1), (PySem.Str.ofString "STAR", .str (Str.ofString "*") t2), (PySem.Str.ofString "QUESTION_MARK", .str (Str.ofString "?") t3)]) ?k1 ?k2 ?k3 ?k4 ?k5 ?kA ?kF ?kK ?k6 ?k7 ?k8 ?k9 ?kB ?_ ?c2 ?c3 ?c4 ?c5; (case kA => exact rfl); (case kF => exact rfl); (case kK => assumption); (case k1 => k_asm); (case k2 => k_asm); (case k3 => k_asm); (case k4 => k_asm); (case k5 => k_asm); (case k6 => k_is); (case k7 => k_is); (case k8 => ktr_room); (case k9 => exact BindsTo.of_eq rfl); (case c5 => decide); (case kB => exact locs rfl); (case c2 => exact rfl); (case c3 => exact rfl); (case c4 => exact rfl); k_whole; intro g' L' h' FG' F' N' B' X' T'; (try dsimp only); (try k_fold))
  have hMk9 := kstMark
  have C1 := codeHd103 X'
  try subst ek
  try subst qk
  revert g2 g3 g23 hoff F N hret hpre1 hpre2 B T hk hd hu X FG' F' N' B' X' T' C1
  revert w t1 t2 t3 st h₀ L m s R p loose mean mg mb dp un gd cn cs a ccd cl outer A₀ base g' L' h'
  refine no_implicit_lambda% (hk29 5106026 ?hkdTl50 ?hkPTl50 ?hkGTl50)
  case hkdTl50 => exact (dWorld, (0 : Nat), (0 : Nat), (0 : Nat), [], default, (0 : Nat), fun _ => none, {}, fun _ _ => True, default, [], fun _ => none, fun _ => none, fun _ => none, 0, 0, none, ⟨#[]⟩, default, (0 : Nat), .none, [], [], {}, default, default, (0 : Nat), default)
  refine (?hkFTl50 : ∀ x0 x1 x2 x3 x4 x5 x6 x7 x8 x9 x10 x11 x12 x13 x14 x15 x16 x17 x18 x19 x20 x21 x22 x23 x24 x25 x26 x27 x28, ?hkPTl50 x0 x1 x2 x3 x4 x5 x6 x7 x8 x9 x10 x11 x12 x13 x14 x15 x16 x17 x18 x19 x20 x21 x22 x23 x24 x25 x26 x27 x28) _ _ _ _ _ _ _ _ _ _ _ _ _ _ _ _ _ _ _ _ _ _ _ _ _ _ _ _ _
  intro w t1 t2 t3 st h₀ L m s R p loose mean mg mb dp un gd cn cs a ccd cl outer A₀ base g' L' h' g2 g3 g23 hoff F N hret hpre1 hpre2 B T hk hd hu X FG' F' N' B' X' T' C1
  (try k_fold)
  k_steps
  all_goals try (rename (_ < _ ∨ _ ≤ _) => h9; exact absurd h9 (by decide +kernel))
  rename News _ _ _ _ => kN8
  rename Fr _ _ _ _ => kF8
  refine tr_end (s := s) hret kF8 kN8 ?e1 ?a1 ?a2 ?a3 ?b1 ?b2 ?b3
  case e1 => (repeat (first | exact .nil | refine .cons _ _ ?_))
  case a1 => walk_at "mine tl"
  case a2 => walk_at "mine tl"
  case a3 => walk_at "mine tl"
  case b1 => k_ne
  case b2 => k_ne
  case b3 => k_ne
end Mine
end
section
open PySem PySem.W PyProof.Rows PySem.Builtin PySem.Builtin.Str PySem.Spec PySem.Calls
namespace Mine
/-- a pattern and its items: all that the law needs of them -/
def PatOk (w : World) (pat : Str) (il : List Value) : Prop := ∃ (its res : List Str) (P : Str), StrsAre il its ∧ its.length ≤ 5 ∧ (∀ x ∈ res, Five x) ∧ mk (tokRun pat.cps.toList).1 = P ∧ pat.length ≤ 100 ∧ Short (takesB res) (fitsB its) ∧
  ∀ (t1 t2 t3 : Tok) (_ : @Ne Nat t2 0) (_ : @Ne Nat t3 0) (_ : @Ne Nat t2 t3) (st : Led) (_ : ∀ p ∈ st, p.1 ≠ 99), ConT w 104 [.str P t1, .str (Str.ofString "*") t2, .str (Str.ofString "?") t3] ((99, tabObj #[]) :: st) 12 80 (fun T => @LT.lt Nat _ t2 T ∧ @LT.lt Nat _ t3 T) (fun _ => TrPost2 res st)
theorem five_star : Five (Str.ofString "*") := .inl rfl
theorem five_dot : Five (Str.ofString "\\.") := .inr (.inl rfl)
theorem five_set : Five (Str.ofString "[^a]") := .inr (.inr (.inl rfl))
theorem five_one : Five (Str.ofString "?") := .inr (.inr (.inr (.inl rfl)))
theorem five_quo : Five (Str.ofString "\"") := .inr (.inr (.inr (.inr rfl)))
theorem all1 {P : Str → Prop} {a : Str} (h : P a) : ∀ x ∈ [a], P x := fun x hx => by
  rw [List.mem_singleton.mp hx]; exact h
theorem allC {P : Str → Prop} {a : Str} {l : List Str} (h : P a) (k : ∀ x ∈ l, P x) : ∀ x ∈ a :: l, P x := List.forall_mem_cons.mpr ⟨h, k⟩
theorem pat_1 {w : World} (a b : Tok) : PatOk w (Str.ofString "*.") [.str (Str.ofString "any") a, .str (Str.ofString ".") b] :=
  ⟨_, [Str.ofString "*", Str.ofString "\\."], _, .cons _ _ (.cons _ _ .nil), by decide, allC five_star (all1 five_dot), (by decide +kernel : mk (tokRun (Str.ofString "*.").cps.toList).1 = Str.ofString "*."), by decide +kernel, short1, fun t1 t2 t3 g2 g3 g23 st ho => tr_1 t1 t2 t3 g2 g3 g23 st ho⟩
theorem pat_2 {w : World} (a : Tok) : PatOk w (Str.ofString "*") [.str (Str.ofString "any") a] :=
  ⟨_, [Str.ofString "*"], _, .cons _ _ .nil, by decide, all1 five_star, (by decide +kernel : mk (tokRun (Str.ofString "*").cps.toList).1 = Str.ofString "*"), by decide +kernel, short2, fun t1 t2 t3 g2 g3 g23 st ho => tr_2 t1 t2 t3 g2 g3 g23 st ho⟩
theorem pat_3 {w : World} (a b : Tok) : PatOk w (Str.ofString "[!a]*") [.str (Str.ofString "b.\" \\\n") a, .str (Str.ofString "any") b] :=
  ⟨_, [Str.ofString "[^a]", Str.ofString "*"], _, .cons _ _ (.cons _ _ .nil), by decide, allC five_set (all1 five_star), (by decide +kernel : mk (tokRun (Str.ofString "[!a]*").cps.toList).1 = Str.ofString "[!a]*"), by decide +kernel, short3, fun t1 t2 t3 g2 g3 g23 st ho => tr_3 t1 t2 t3 g2 g3 g23 st ho⟩
theorem pat_4 {w : World} (a b : Tok) : PatOk w (Str.ofString "?*") [.str (Str.ofString "one") a, .str (Str.ofString "any") b] :=
  ⟨_, [Str.ofString "?", Str.ofString "*"], _, .cons _ _ (.cons _ _ .nil), by decide, allC five_one (all1 five_star), (by decide +kernel : mk (tokRun (Str.ofString "?*").cps.toList).1 = Str.ofString "?*"), by decide +kernel, short4, fun t1 t2 t3 g2 g3 g23 st ho => tr_4 t1 t2 t3 g2 g3 g23 st ho⟩
theorem pat_5 {w : World} (a b c : Tok) : PatOk w (Str.ofString "*\\\"*") [.str (Str.ofString "any") a, .str (Str.ofString "\"") b, .str (Str.ofString "any") c] :=
  ⟨_, [Str.ofString "*", Str.ofString "\"", Str.ofString "*"], _, .cons _ _ (.cons _ _ (.cons _ _ .nil)), by decide, allC five_star (allC five_quo (all1 five_star)), (by decide +kernel : mk (tokRun (Str.ofString "*\\\"*").cps.toList).1 = Str.ofString "*\"*"), by decide +kernel, short5, fun t1 t2 t3 g2 g3 g23 st ho => tr_5 t1 t2 t3 g2 g3 g23 st ho⟩
abbrev tupO (x y : Value) : Obj := { cls := .type "tuple", data := .seq #[x, y] }
section
variable {w : World} {A : Around} {E : Value → Shared → Prop} {s : Shared} {h₀ : Heap} {L : Addr} {m : Str → Option Value} {led : Led}
/-- what stands behind one place of the patterns -/
def PickOk (w : World) (led : Led) (D : Addr) : Prop := ∃ (It : Addr) (pat : Str) (tp : Tok) (il : List Value), (D, tupO (.str pat tp) (.ref It)) ∈ led ∧ (It, listOf il.toArray 0) ∈ led ∧ (@Ne Nat It 113) ∧ (@Ne Nat It 99) ∧ PatOk w pat il
theorem pick5 {value slice : Expr} {l D0 D1 D2 D3 D4 : Addr} {e : Int} {t : Tok} {Q : Value → Shared → Prop} (N : News h₀ L s.heap led) (hm : (l, listOf #[.ref D0, .ref D1, .ref D2, .ref D3, .ref D4] 0) ∈ led) (he : 0 ≤ e) (he5 : e < 5)
    (p0 : PickOk w led D0) (p1 : PickOk w led D1) (p2 : PickOk w led D2) (p3 : PickOk w led D3) (p4 : PickOk w led D4) (h : ∀ D, PickOk w led D → Q (.ref D) s)
    (hs : subscripted slice false (.ref l) (.int e t) = operate [.ref l, .int e t] (getItem (.ref l) (.int e t)) := by with_unfolding_all rfl) :
    wpAny (model PySem.Challenge.rw_in0213_01.row.prog w) A (subscriptTail value slice (.ref l) (.int e t)) Q E s := by
  have : e = 0 ∨ e = 1 ∨ e = 2 ∨ e = 3 ∨ e = 4 := by omega
  rcases this with q | q | q | q | q
  · exact item_ledj (vs := [.ref D0, .ref D1, .ref D2, .ref D3, .ref D4]) 0 N hm (by rw [q]; rfl) (by decide) rfl (h _ p0) hs
  · exact item_ledj (vs := [.ref D0, .ref D1, .ref D2, .ref D3, .ref D4]) 1 N hm (by rw [q]; rfl) (by decide) rfl (h _ p1) hs
  · exact item_ledj (vs := [.ref D0, .ref D1, .ref D2, .ref D3, .ref D4]) 2 N hm (by rw [q]; rfl) (by decide) rfl (h _ p2) hs
  · exact item_ledj (vs := [.ref D0, .ref D1, .ref D2, .ref D3, .ref D4]) 3 N hm (by rw [q]; rfl) (by decide) rfl (h _ p3) hs
  · exact item_ledj (vs := [.ref D0, .ref D1, .ref D2, .ref D3, .ref D4]) 4 N hm (by rw [q]; rfl) (by decide) rfl (h _ p4) hs
end
end Mine
end
section
open PySem PySem.W PyProof.Rows
namespace Mine
local macro_rules | `(tactic| walk_at $s:str) => `(tactic| k_extra $s)
local macro_rules | `(tactic| k_all) => `(tactic| k_extra "k_all")
local macro_rules | `(tactic| k_ne) => `(tactic| k_extra "k_ne")
local macro_rules | `(tactic| size_fits) => `(tactic| k_extra "size_fits")
local macro_rules | `(tactic| ktr_room) => `(tactic| k_extra "ktr_room")
local macro_rules | `(tactic| k_in) => `(tactic| k_extra "k_in")
local macro_rules | `(tactic| ktr_units) => `(tactic| k_extra "ktr_units")
set_option Elab.async true
def hd.tw1011335219593555734 : Nat := 0
def hd.tw10170382586518783626 : Nat := 0
def hd.tw10258225898301398825 : Nat := 0
def hd.tw10258999931320997221 : Nat := 0
def hd.tw10424393626065333798 : Nat := 0
def hd.tw10458740792067480800 : Nat := 0
def hd.tw10525666975642140466 : Nat := 0
def hd.tw10583446816852156582 : Nat := 0
def hd.tw10603584201595350602 : Nat := 0
def hd.tw10614716105012338702 : Nat := 0
def hd.tw10727248033764811480 : Nat := 0
def hd.tw10743916045514856203 : Nat := 0
def hd.tw10792051664901133789 : Nat := 0
def hd.tw10889348797400549130 : Nat := 0
def hd.tw1097998534492414930 : Nat := 0
def hd.tw11032806212648032379 : Nat := 0
def hd.tw11041590408114104254 : Nat := 0
def hd.tw11054480109507316185 : Nat := 0
def hd.tw11162318198679636149 : Nat := 0
def hd.tw11210553801493137410 : Nat := 0
def hd.tw11232374478483605306 : Nat := 0
def hd.tw11251137523995926341 : Nat := 0
def hd.tw11254508552101053245 : Nat := 0
def hd.tw11319097763535126812 : Nat := 0
def hd.tw11319892378374348655 : Nat := 0
def hd.tw11465210709893060100 : Nat := 0
def hd.tw11631947586910100387 : Nat := 0
def hd.tw11652457597714270106 : Nat := 0
def hd.tw11660266114150955751 : Nat := 0
def hd.tw11893437276241958245 : Nat := 0
def hd.tw11902302402261749642 : Nat := 0
def hd.tw11917015161858427179 : Nat := 0
def hd.tw11953376511379268794 : Nat := 0
def hd.tw11975651509544506050 : Nat := 0
def hd.tw12023040214023829324 : Nat := 0
def hd.tw12070051907170230399 : Nat := 0
def hd.tw12173100003817136821 : Nat := 0
def hd.tw1222794163293265305 : Nat := 0
def hd.tw12271959270614036898 : Nat := 0
def hd.tw12399718760709695909 : Nat := 0
def hd.tw1241404454085649124 : Nat := 0
def hd.tw12588582704262371052 : Nat := 0
def hd.tw12598724348716800887 : Nat := 0
def hd.tw12693339787485243540 : Nat := 0
def hd.tw12901994302517312135 : Nat := 0
def hd.tw12936449754285732098 : Nat := 0
def hd.tw13132252242611242036 : Nat := 0
def hd.tw13181700845877081190 : Nat := 0
def hd.tw13225837485096350037 : Nat := 0
def hd.tw13330244855972007585 : Nat := 0
def hd.tw13353348626548451038 : Nat := 0
def hd.tw13368278939475635651 : Nat := 0
def hd.tw13372043803930879067 : Nat := 0
def hd.tw13483081372092288885 : Nat := 0
def hd.tw13483299341947490548 : Nat := 0
def hd.tw13518370688599389936 : Nat := 0
def hd.tw13599939671180243173 : Nat := 0
def hd.tw13609717118414637909 : Nat := 0
def hd.tw13753220567063992666 : Nat := 0
def hd.tw13828106393651249627 : Nat := 0
def hd.tw13866372431405929976 : Nat := 0
def hd.tw13903934854276604550 : Nat := 0
def hd.tw13919464512627920130 : Nat := 0
def hd.tw1413172679324656950 : Nat := 0
def hd.tw14168552714766633299 : Nat := 0
def hd.tw14246236162039180721 : Nat := 0
def hd.tw14353793391729792155 : Nat := 0
def hd.tw14359937706829736625 : Nat := 0
def hd.tw1439246655266547700 : Nat := 0
def hd.tw14400467628812073631 : Nat := 0
def hd.tw14478148883734587675 : Nat := 0
def hd.tw14560493823538711346 : Nat := 0
def hd.tw14620637471214046174 : Nat := 0
def hd.tw14955159897011116063 : Nat := 0
def hd.tw15042006015671813226 : Nat := 0
def hd.tw15344866539931968096 : Nat := 0
def hd.tw15368132723985388332 : Nat := 0
def hd.tw15411387601460861337 : Nat := 0
def hd.tw15416985209724490359 : Nat := 0
def hd.tw15424127671925324577 : Nat := 0
def hd.tw15508949281206285077 : Nat := 0
def hd.tw15527848837575444561 : Nat := 0
def hd.tw15529170255622000948 : Nat := 0
def hd.tw15615537253650120727 : Nat := 0
def hd.tw15642763164714097627 : Nat := 0
def hd.tw15665482370847157851 : Nat := 0
def hd.tw15673258824015622330 : Nat := 0
def hd.tw15833661619300960221 : Nat := 0
def hd.tw15837987909243819085 : Nat := 0
def hd.tw15967140613478806237 : Nat := 0
def hd.tw15979992855486846200 : Nat := 0
def hd.tw1600037746751723098 : Nat := 0
def hd.tw16064382804478563927 : Nat := 0
def hd.tw16194383521188589630 : Nat := 0
def hd.tw16259696140248634718 : Nat := 0
def hd.tw16345102440705955213 : Nat := 0
def hd.tw16412773359747925120 : Nat := 0
def hd.tw16432713993328977331 : Nat := 0
def hd.tw16772102934027710169 : Nat := 0
def hd.tw16828841361933241965 : Nat := 0
def hd.tw16853341256802265648 : Nat := 0
def hd.tw16904818350239718627 : Nat := 0
def hd.tw16945582573551092051 : Nat := 0
def hd.tw16970440968685349367 : Nat := 0
def hd.tw17087091549796120035 : Nat := 0
def hd.tw17177331786930743035 : Nat := 0
def hd.tw17183224562656869120 : Nat := 0
def hd.tw17213754286329925777 : Nat := 0
def hd.tw17252143746492648416 : Nat := 0
def hd.tw17311223219408574766 : Nat := 0
def hd.tw17317534308005170540 : Nat := 0
def hd.tw17447410573909459338 : Nat := 0
def hd.tw1746456360211531583 : Nat := 0
def hd.tw17542962492245011380 : Nat := 0
def hd.tw1760603350576429475 : Nat := 0
def hd.tw17650839729002327288 : Nat := 0
def hd.tw17672654358674132775 : Nat := 0
def hd.tw17673860158736603733 : Nat := 0
def hd.tw1778080364554679531 : Nat := 0
def hd.tw1784385830474605701 : Nat := 0
def hd.tw17846660462469342289 : Nat := 0
def hd.tw17863302656999482806 : Nat := 0
def hd.tw17948085552500728524 : Nat := 0
def hd.tw17975533764899295144 : Nat := 0
def hd.tw1800889605409440832 : Nat := 0
def hd.tw18093812233618175256 : Nat := 0
def hd.tw18166333605607142505 : Nat := 0
def hd.tw18282886421538689439 : Nat := 0
def hd.tw18293732401869909652 : Nat := 0
def hd.tw18300207936620678264 : Nat := 0
def hd.tw18322514126500204803 : Nat := 0
def hd.tw18343703819029505601 : Nat := 0
def hd.tw1836080755315867724 : Nat := 0
def hd.tw1865391376527767206 : Nat := 0
def hd.tw189712035060473897 : Nat := 0
def hd.tw1953177486944487603 : Nat := 0
def hd.tw2012604805713927918 : Nat := 0
def hd.tw2101469004524951375 : Nat := 0
def hd.tw2114630138375439770 : Nat := 0
def hd.tw2195365466389143174 : Nat := 0
def hd.tw2216850387143573719 : Nat := 0
def hd.tw2225492998660141991 : Nat := 0
def hd.tw22551697357593593 : Nat := 0
def hd.tw2323474266016966308 : Nat := 0
def hd.tw2327210489368252092 : Nat := 0
def hd.tw2352982987946734526 : Nat := 0
def hd.tw2391449824757734642 : Nat := 0
def hd.tw2442259710966052079 : Nat := 0
def hd.tw2546602858889406552 : Nat := 0
def hd.tw26425463804135960 : Nat := 0
def hd.tw2708950531961675432 : Nat := 0
def hd.tw2867327485932766208 : Nat := 0
def hd.tw2930668341846507884 : Nat := 0
def hd.tw2999033326186475339 : Nat := 0
def hd.tw3008623586974134963 : Nat := 0
def hd.tw307737655149646647 : Nat := 0
def hd.tw3219085151875037572 : Nat := 0
def hd.tw3229955645248102723 : Nat := 0
def hd.tw3259873300814134281 : Nat := 0
def hd.tw3381375190539634487 : Nat := 0
def hd.tw3451239065008710300 : Nat := 0
def hd.tw3452082135128663414 : Nat := 0
def hd.tw3462702350737211693 : Nat := 0
def hd.tw3493717111155160527 : Nat := 0
def hd.tw3530705653197291679 : Nat := 0
def hd.tw3571134770919094901 : Nat := 0
def hd.tw3646829019195819677 : Nat := 0
def hd.tw3828038474966422129 : Nat := 0
def hd.tw3919010098100093602 : Nat := 0
def hd.tw4014540891139286612 : Nat := 0
def hd.tw4025436138054765562 : Nat := 0
def hd.tw402640490398009360 : Nat := 0
def hd.tw4086058157674990017 : Nat := 0
def hd.tw4115565904173853331 : Nat := 0
def hd.tw4172343393113369950 : Nat := 0
def hd.tw4225703048834024713 : Nat := 0
def hd.tw4315991029959535628 : Nat := 0
def hd.tw4382473783012875800 : Nat := 0
def hd.tw4402725079659364252 : Nat := 0
def hd.tw4478166936697009375 : Nat := 0
def hd.tw4478964076566166474 : Nat := 0
def hd.tw4702841417184801058 : Nat := 0
def hd.tw4851647983119433812 : Nat := 0
def hd.tw4971549296188076032 : Nat := 0
def hd.tw5036846961687405229 : Nat := 0
def hd.tw5148922909946612681 : Nat := 0
def hd.tw5201384275714778543 : Nat := 0
def hd.tw5278057926702712004 : Nat := 0
def hd.tw5343241284826551009 : Nat := 0
def hd.tw5366084841770067474 : Nat := 0
def hd.tw5367187694478559379 : Nat := 0
def hd.tw5373601922739893978 : Nat := 0
def hd.tw5511420028821071320 : Nat := 0
def hd.tw5567388512258382067 : Nat := 0
def hd.tw5732804406350252772 : Nat := 0
def hd.tw5781342201191254626 : Nat := 0
def hd.tw5902613922787404954 : Nat := 0
def hd.tw5961118342813265553 : Nat := 0
def hd.tw5978321128707920903 : Nat := 0
def hd.tw5987830557187376847 : Nat := 0
def hd.tw6031030000289801897 : Nat := 0
def hd.tw6060742912462422084 : Nat := 0
def hd.tw6082411064634330575 : Nat := 0
def hd.tw6103063771097309860 : Nat := 0
def hd.tw6123773746684550334 : Nat := 0
def hd.tw6164396464334811476 : Nat := 0
def hd.tw6245462706441815368 : Nat := 0
def hd.tw6276725880618359904 : Nat := 0
def hd.tw6291416237084387574 : Nat := 0
def hd.tw6293948785866598258 : Nat := 0
def hd.tw6305734824756694309 : Nat := 0
def hd.tw6394381022753523788 : Nat := 0
def hd.tw6407587892757256292 : Nat := 0
def hd.tw6411954120941647267 : Nat := 0
def hd.tw6442067068224118133 : Nat := 0
def hd.tw6545403380812914513 : Nat := 0
def hd.tw658494146261299958 : Nat := 0
def hd.tw6598312636042714100 : Nat := 0
def hd.tw6767318904944593275 : Nat := 0
def hd.tw6819123309680001836 : Nat := 0
def hd.tw6820112392323778065 : Nat := 0
def hd.tw6830512106363814048 : Nat := 0
def hd.tw6924109203229866365 : Nat := 0
def hd.tw701787995468756871 : Nat := 0
def hd.tw7022753741928958675 : Nat := 0
def hd.tw7062935652884303519 : Nat := 0
def hd.tw7068711184596962023 : Nat := 0
def hd.tw7082855905992002993 : Nat := 0
def hd.tw7120233287515763914 : Nat := 0
def hd.tw728884934406724761 : Nat := 0
def hd.tw7289634563603522867 : Nat := 0
def hd.tw7296583596125217682 : Nat := 0
def hd.tw7355570028127101125 : Nat := 0
def hd.tw7366208706002141716 : Nat := 0
def hd.tw7679452656841897225 : Nat := 0
def hd.tw7752767780024739350 : Nat := 0
def hd.tw7754304195085646258 : Nat := 0
def hd.tw7914949630228597729 : Nat := 0
def hd.tw8025032847418708242 : Nat := 0
def hd.tw8112040973832200146 : Nat := 0
def hd.tw8117029840178788049 : Nat := 0
def hd.tw8118217656686572654 : Nat := 0
def hd.tw8228950375871286339 : Nat := 0
def hd.tw8238929830477363962 : Nat := 0
def hd.tw8268277133935991078 : Nat := 0
def hd.tw8343274005884668182 : Nat := 0
def hd.tw8457440626546761165 : Nat := 0
def hd.tw8458067239894703972 : Nat := 0
def hd.tw8539849791538168078 : Nat := 0
def hd.tw8671608845466749128 : Nat := 0
def hd.tw8702455923862866355 : Nat := 0
def hd.tw8716120427605611371 : Nat := 0
def hd.tw8960069828448710407 : Nat := 0
def hd.tw8990313861142287110 : Nat := 0
def hd.tw9170477692918782315 : Nat := 0
def hd.tw9345676750909349944 : Nat := 0
def hd.tw9421340871869096474 : Nat := 0
def hd.tw9427301549700849589 : Nat := 0
def hd.tw9440118169554580438 : Nat := 0
def hd.tw9499510787657705874 : Nat := 0
def hd.tw9566141503761928105 : Nat := 0
def hd.tw9641152695372364146 : Nat := 0
def hd.tw9673543361469618366 : Nat := 0
def hd.tw9719896912496429819 : Nat := 0
def hd.tw978945382295711627 : Nat := 0
def hd.tw991583007596301734 : Nat := 0
set_option maxRecDepth 100000 in
set_option maxHeartbeats 8000000 in
theorem hd : PySem.Challenge.rw_in0213_01.Holds := by
  k_with_none
  k_with "line" => (first | exact ln2 ‹_ < PySem.recursionLimit› rfl | exact ln2 ‹_ < PySem.cLine› rfl | exact ln1 ‹_ < PySem.recursionLimit› rfl | exact ln1 ‹_ < PySem.cLine› rfl | (simp only [ktrTop] at *; first | exact ln2 ‹_ < PySem.recursionLimit› rfl | exact ln2 ‹_ < PySem.cLine› rfl | exact ln1 ‹_ < PySem.recursionLimit› rfl | exact ln1 ‹_ < PySem.cLine› rfl | omega))
  k_with "pr" => ((intro hcW; first | exact hcW.1 | exact hcW.2.1 | exact hcW.2.2.1 | exact hcW.2.2.2.1 | exact hcW.2.2.2.2.1 | exact hcW.2.2.2.2.2.1 | exact hcW.2.2.2.2.2.2.1 | exact hcW.2.2.2.2.2.2.2.1 | exact hcW.2.2.2.2.2.2.2.2.1 | exact hcW.2.2.2.2.2.2.2.2.2.1 | exact hcW.2.2.2.2.2.2.2.2.2.2.1 | exact hcW.2.2.2.2.2.2.2.2.2.2.2.1))
  k_with "k_ne" => ((refine neN ?_; (try dsimp only); first | (with_reducible assumption) | exact Ne.symm (by with_reducible assumption) | (refine ne_c1 (by with_reducible assumption) ?_; walk_at "pr") | (refine ne_c2 (by with_reducible assumption) ?_; walk_at "pr") | (refine ne_c3 (by with_reducible assumption) ?_; walk_at "pr") | (refine ne_c4 (by with_reducible assumption) ?_; walk_at "pr") | (refine ne_f1 (by with_reducible assumption) ?_; walk_at "pr") | (refine ne_f2 (by with_reducible assumption) ?_; walk_at "pr") | (refine ne_d1 (by with_reducible assumption) (by with_reducible assumption) ?_; walk_at "pr") | (refine ne_d2 (by with_reducible assumption) (by with_reducible assumption) ?_; walk_at "pr") | exact Nat.ne_of_lt (by with_reducible assumption) | exact Nat.ne_of_gt (by with_reducible assumption) | exact Nat.succ_ne_self _ | exact (Nat.succ_ne_self _).symm | ((repeat (rename (@Ne Nat _ _) => hz9W; clear hz9W)); omega)))
  k_with "le" => (first | exact Nat.le_refl _ | exact Nat.le_of_lt (by with_reducible assumption) | exact Nat.le_succ _ | exact Nat.le_succ_of_le (Nat.le_succ _) | omega)
  k_with "ktr_room" => (exact lt_room (by assumption))
  k_with "ktr_units" => ((first | exact ln1 (by assumption) rfl | exact ln2 (by assumption) rfl | (simp only [units_in1, units_deeper, Around.mark_units, units_caller]; first | exact ln2 (by assumption) rfl | exact ln1 (by assumption) rfl)))
  k_with "k_in" => (first | (with_reducible assumption) | k_in_fast | exact Frag.In.keeps (by k_asm) (Fr.keep (by k_asm)))
  k_with "sz" => (first | exact le_n (by with_reducible assumption) rfl | omega)
  k_with "pt" => ((intro hcW; with_reducible first | exact hcW.2 | exact hcW.2.2 | exact hcW.2.2.2 | exact hcW.2.2.2.2 | exact hcW.2.2.2.2.2 | exact hcW.2.2.2.2.2.2 | exact hcW.2.2.2.2.2.2.2 | exact hcW.2.2.2.2.2.2.2.2 | exact hcW.2.2.2.2.2.2.2.2.2 | exact hcW.2.2.2.2.2.2.2.2.2.2 | exact hcW.2.2.2.2.2.2.2.2.2.2.2 | exact hcW.2.2.2.2.2.2.2.2.2.2.2.2))
  k_with "size_fits" => (exact Nat.le_of_ble_eq_true rfl)
  k_with "mine tl" => (first | (with_reducible assumption) | ((with_reducible rename AllLt _ _ => hl9W); first | exact allLt_ne hl9W (by walk_at "sz") | (clear hl9W; walk_at "mine tl")) | ((with_reducible rename (_ ∧ _) => hq9W); (have ha9W := hq9W.1); (have hb9W := hq9W.2); clear hq9W; walk_at "mine tl"))
  k_with "k_all" => (first | exact List.forall_mem_nil _ | (with_reducible assumption) | ((with_reducible show ∀ p ∈ _ :: _, _); refine' List.forall_mem_cons.mpr ⟨(by k_ne), (by k_all)⟩) | (refine tl_eq (by with_reducible assumption) ?_; walk_at "pt") | (refine tl_s (by with_reducible assumption) ?_; walk_at "pt") | (refine tl_t (by with_reducible assumption) ?_; walk_at "pt") | ((with_reducible rename AllLt _ _ => hl9W); with_reducible exact allLt_ne hl9W (by walk_at "le")) | (refine' List.forall_mem_cons.mpr ⟨(by k_ne), (by k_all)⟩) | walk_at "mine tl")
  k_with "compareOp NotEq ref ref" => ((k_here; k_dflt (first | (refine' ne_nil_nil (by k_asm) (by k_mem) (by k_mem) (by ktr_units) ?_; k_whole) | (refine' ne_cons_nil (by k_asm) (by k_mem) (by k_mem) (by ktr_units) ?_; k_whole))))
  k_with "compareOp Eq ref ref" => ((k_here; k_dflt (first | (refine' eq_nil_nil (by k_asm) (by k_mem) (by k_mem) (by ktr_units) ?_; k_whole) | (refine' eq_cons_nil (by k_asm) (by k_mem) (by k_mem) (by ktr_units) ?_; k_whole))))
  k_with "binaryOp Add ref ref" => ((refine Halt.out ?_))
  k_with "subscriptTail Name BinOp ref int" => ((k_here; refine Halt.out ?_))
  k_with "call ref" => ((k_here; (with_reducible show wpAny _ _ (call (Value.ref 150) [_, _]) _ _ _); refine Halt.out ?_))
  k_with "call ref" => ((k_here; (with_reducible show wpAny _ _ (call (Value.ref 160) [_, _]) _ _ _); refine Halt.out ?_))
  (w_on; o_law; k_head; (case hw => w_witness2))
  k_go0
  all_goals try k_fold
  k_steps
  show wpAny _ _ _ _ _ _
  rename News _ _ _ _ => kN
  rename Fr _ _ _ _ => kF
  refine pick5 kN (.head _) (Int.fmod_nonneg_of_pos _ (by decide)) (Int.fmod_lt_of_pos _ (by decide)) ⟨_, _, _, [_, _], by k_mem, by k_mem, by k_ne, by k_ne, pat_1 _ _⟩ ⟨_, _, _, [_], by k_mem, by k_mem, by k_ne, by k_ne, pat_2 _⟩ ⟨_, _, _, [_, _], by k_mem, by k_mem, by k_ne, by k_ne, pat_3 _ _⟩ ⟨_, _, _, [_, _], by k_mem, by k_mem, by k_ne, by k_ne, pat_4 _ _⟩ ⟨_, _, _, [_, _, _], by k_mem, by k_mem, by k_ne, by k_ne, pat_5 _ _ _⟩ ?_
  rintro D ⟨It, pat, tp, il, hD, hIt, hI1, hI2, its, res, P, hil, hits, h5, hpat, hpl, hSh, htr⟩
  have N2 := news_of kN (l' := (D, tupO (.str pat tp) (.ref It)) :: (It, listOf il.toArray 0) :: (113, tabObj #[]) :: (99, tabObj #[]) :: []) (fun p hp => by
    simp only [List.mem_cons, List.not_mem_nil, or_false] at hp
    rcases hp with rfl | rfl | rfl | rfl
    · exact hD
    · exact hIt
    · k_mem
    · k_mem)
  clear kN hD hIt
  k_steps
  show wpAny _ _ _ _ _ _
  rename News _ _ _ _ => kN
  rename Fr _ _ _ _ => kF
  rename IntsAre _ _ => hI
  refine add_cut (vs := [_, _, _, _, _, _, _]) (zs0 := [337, 211, 43, 205, 568, 22, 190]) hI kF kN ?hv (slice_a _) (by simp) ?_
  case hv => exact .cons _ _ (.cons _ _ (.cons _ _ (.cons _ _ (.cons _ _ (.cons _ _ (.cons _ _ .nil))))))
  intro n1 h1' v1 z1 hl1 hv1 F1 N1 l1
  clear kN kF
  k_lt l1
  k_steps
  show wpAny _ _ _ _ _ _
  rename News _ _ _ _ => kN
  rename Fr _ _ _ _ => kF
  refine add_cut (vs := [_, _, _, _, _]) (zs0 := [43, 421, 52, 27, 1262]) hI kF kN ?hv (slice_b _) (by simp) ?_
  case hv => exact .cons _ _ (.cons _ _ (.cons _ _ (.cons _ _ (.cons _ _ .nil))))
  intro n2 h2' v2 z2 hl2 hv2 F2 N2 l2
  clear kN kF
  k_lt l2
  k_steps
  show wpAny _ _ _ _ _ _
  rename News _ _ _ _ => kN
  rename Fr _ _ _ _ => kF
  have hab := kF.above
  rename Below _ _ _ _ => kB
  rename Frag.In _ _ => kX
  rename Top _ _ _ _ _ _ => kT
  refine' (told_con _ n1 n2 v1 v2 z1 z2 pat tp 0 0 0 hv1 hv2 hl1 hl2 [(It, listOf il.toArray 0)] ?o1 ?o2 ?f1 ?f2 ?f3 ?f4 ?f5 ?f6 P res h5 hpat hpl htr).call (SiteB.mk kB (show (Mine.K _).In _ from kX) kT rfl ?hd ?hu) kF ?NN ?_
  case o1 => exact fun p hp => by rw [List.mem_singleton.mp hp]; exact hI1
  case o2 => exact fun p hp => by rw [List.mem_singleton.mp hp]; exact hI2
  case f1 => k_ne
  case f2 => k_ne
  case f3 => k_ne
  case f4 => k_ne
  case f5 => k_ne
  case f6 => k_ne
  case hd => decide
  case hu => decide
  case NN =>
    refine news_of kN fun p hp => ?_
    simp only [List.mem_cons, List.not_mem_nil, or_false] at hp
    rcases hp with rfl | rfl | rfl | rfl | rfl | rfl
    all_goals k_mem
  rintro v led' h' tk' g2 T2 hTold F5 N5 B2
  have hT9 := hTold
  obtain ⟨-, -, -, -, -, -, -, hst, ⟨ps1, hg1⟩, ⟨ps2, hg2⟩⟩ := hT9
  have X2 := kX.keeps B2.stays
  have P2 := kT.keeps B2.stays
  have N6 : News g2 _ h' (_ :: (n1, listOf v1.toArray 0) :: (n2, listOf v2.toArray 0) :: (It, listOf il.toArray 0) :: led') := news_of N5 fun p hp => by
    rcases List.mem_cons.mp hp with rfl | hp
    · exact hst _ (.head _)
    rcases List.mem_cons.mp hp with rfl | hp
    · exact hst _ (.tail _ (.head _))
    rcases List.mem_cons.mp hp with rfl | hp
    · exact hst _ (.tail _ (.tail _ (.head _)))
    rcases List.mem_cons.mp hp with rfl | hp
    · exact hst _ (.tail _ (.tail _ (.tail _ (.head _))))
    exact hp
  clear N5 kN kF
  k_steps
  show wpAny _ _ _ _ _ _
  rename News _ _ _ _ => kN
  rename Fr _ _ _ _ => kF
  refine' (due_con _ n1 n2 It v1 v2 il z1 z2 its 0 0 0 0 hv1 hv2 hil hl1 hl2 hits led').call (Site.mk B2 (show (Mine.K _).In _ from X2) P2 rfl ?hd ?hu) kF kN ?_
  case hd => decide
  case hu => decide
  rintro v2' led2 h' tk' hDue F9 N9
  have hD9 := hDue
  obtain ⟨-, -, -, -, -, -, -, hsub⟩ := hD9
  clear kN kF
  refine law_eq hSh N9 hsub hTold hDue (Site.units (dN := 0) (uN := 64) (Site.mk B2 (show (Mine.K _).In _ from X2) P2 rfl (by decide) (by decide))) ?_
  have FG := Fr.mk F9.ns (fun b o e => F9.keep b o (B2.stays b o e)) hab
  have N10 : News _ _ h' ((113, tabObj ps1) :: (99, tabObj ps2) :: []) := news_of N9 fun p hp => by
    rcases List.mem_cons.mp hp with rfl | hp
    · exact hsub _ hg1
    rcases List.mem_cons.mp hp with rfl | hp
    · exact hsub _ hg2
    cases hp
  clear N9 F9 X2 P2
  k_steps
end Mine
end
theorem PySem.Challenge.cw_in0213_01_holds : PySem.Challenge.rw_in0213_01.Holds := by
  exact Mine.hd
