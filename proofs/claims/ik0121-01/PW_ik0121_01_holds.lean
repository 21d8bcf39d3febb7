import PyProof.Rows.All
import Wide.All
import OpenK.AllK
import Wide.FinOn
import Lean
import PySem.Challenge.RW_ik0121_01
open PySem PySem.W PySem.Calls PyProof.Rows
set_option Elab.async false
set_option maxRecDepth 100000
set_option maxHeartbeats 4000000
set_option rowWalk.seconds 0
set_option linter.all false
set_option compiler.extract_closed false
namespace Mine
/-- a statement of the program, by its number (by recursors: the elaborator's reduction halts at a match) -/
noncomputable def tlN (n : Nat) : List Stmt → List Stmt := Nat.rec (fun l => l) (fun _ f l => f (List.rec [] (fun _ r _ => r) l)) n
noncomputable def stmtAt (i : Nat) : Stmt := List.rec (motive := fun _ => Stmt) default (fun a _ _ => a) (tlN i PySem.Challenge.pw_ik0121_01.main.body)
/-- the function object that a def makes -/
noncomputable def mkFn (s : Stmt) (name : PySem.Str) (args : Arguments) (body : List Stmt) (ds : List Expr) (rt : Option Expr) (tp : List TypeParam) (scope : Scope) (ts : Option Scope) (bd : PySem.Str) (pos : Pos)
    (_ : s = .FunctionDef name args body ds rt tp scope ts bd pos) (md : Value) (code : Addr) : Obj :=
  Obj.mk (Value.type "function") none (Data.func (FuncData.mk name name args (FuncBody.stmts body) scope 3 [] Value.none Value.none Value.none md none (Value.ref code) Value.none 0)) #[]
/-- the part of the heap that the law reads -/
noncomputable def K : Params → Frag := fun P => [(nat_lit 2, Obj.mk Value.none none (Data.dict #[DictEntry.mk (PyData.keyHash P (Str.ofString "\x69mport.loaded._sre")) (Value.str (Str.ofString "\x69mport.loaded._sre") 183) (Value.bool true), DictEntry.mk (PyData.keyHash P (Str.ofString "class._frozen_\x69mportlib.BuiltinImporter")) (Value.str (Str.ofString "class._frozen_\x69mportlib.BuiltinImporter") 185) (Value.ref 14), DictEntry.mk (PyData.keyHash P (Str.ofString "watched.\x69mport")) (Value.str (Str.ofString "watched.\x69mport") 206) (Value.ref 18), DictEntry.mk (PyData.keyHash P (Str.ofString "class._frozen_\x69mportlib.ModuleSpec")) (Value.str (Str.ofString "class._frozen_\x69mportlib.ModuleSpec") 216) (Value.ref 22), DictEntry.mk (PyData.keyHash P (Str.ofString "sys.modules.booked-epoch")) (Value.str (Str.ofString "sys.modules.booked-epoch") 245) (Value.int 3 0), DictEntry.mk (PyData.keyHash P (Str.ofString "\x69mport.later-laid._sre")) (Value.str (Str.ofString "\x69mport.later-laid._sre") 270) (Value.bool true), DictEntry.mk (PyData.keyHash P (Str.ofString "watched.library")) (Value.str (Str.ofString "watched.library") 272) (Value.ref 27), DictEntry.mk (PyData.keyHash P (Str.ofString "watched.library-objects")) (Value.str (Str.ofString "watched.library-objects") 0) (Value.str (Str.ofString "\x0c") 0), DictEntry.mk (PyData.keyHash P (Str.ofString "watched.library-deep._sre")) (Value.str (Str.ofString "watched.library-deep._sre") 273) (Value.str (Str.ofString "\x04\x00\x00\x0b\x04\x00\x00\x0b\x04\x00\x00\x03\x04\x00\x00\x0b\x08\x04dict\x02") 0)] 9) #[]),
  (nat_lit 3, Obj.mk (Value.type "dict") none (Data.dict #[DictEntry.mk (PyData.keyHash P (Str.ofString "__name__")) (Value.str (Str.ofString "__name__") 165) (Value.str (Str.ofString "law_ik0121_01") 686), DictEntry.mk (PyData.keyHash P (Str.ofString "__doc__")) (Value.str (Str.ofString "__doc__") 166) Value.none, DictEntry.mk (PyData.keyHash P (Str.ofString "__package__")) (Value.str (Str.ofString "__package__") 167) Value.none, DictEntry.mk (PyData.keyHash P (Str.ofString "__loader__")) (Value.str (Str.ofString "__loader__") 168) (Value.builtin "__main__.__loader__#opaque"), DictEntry.mk (PyData.keyHash P (Str.ofString "__spec__")) (Value.str (Str.ofString "__spec__") 169) Value.none, DictEntry.mk (PyData.keyHash P (Str.ofString "__annotations__")) (Value.str (Str.ofString "__annotations__") 170) (Value.ref 6), DictEntry.mk (PyData.keyHash P (Str.ofString "__builtins__")) (Value.str (Str.ofString "__builtins__") 171) (Value.ref 4), DictEntry.mk (PyData.keyHash P (Str.ofString "__file__")) (Value.str (Str.ofString "__file__") 173) (Value.str (Str.ofString "/claim/cut.py") 172), DictEntry.mk (PyData.keyHash P (Str.ofString "__cached__")) (Value.str (Str.ofString "__cached__") 174) Value.none, DictEntry.mk (PyData.keyHash P (Str.ofString "_sre")) (Value.str (Str.ofString "_sre") 275) (Value.ref 12), DictEntry.mk (PyData.keyHash P (Str.ofString "_wall")) (Value.str (Str.ofString "_wall") 288) (Value.ref 38), DictEntry.mk (PyData.keyHash P (Str.ofString "_plain_name")) (Value.str (Str.ofString "_plain_name") 299) (Value.ref 45), DictEntry.mk (PyData.keyHash P (Str.ofString "ABCMeta")) (Value.str (Str.ofString "ABCMeta") 325) (Value.ref 62), DictEntry.mk (PyData.keyHash P (Str.ofString "_ABCLike")) (Value.str (Str.ofString "_ABCLike") 368) (Value.ref 95), DictEntry.mk (PyData.keyHash P (Str.ofString "_abc_plain_meta")) (Value.str (Str.ofString "_abc_plain_meta") 375) (Value.ref 104), DictEntry.mk (PyData.keyHash P (Str.ofString "fspath")) (Value.str (Str.ofString "fspath") 387) (Value.ref 111), DictEntry.mk (PyData.keyHash P (Str.ofString "splitroot")) (Value.str (Str.ofString "splitroot") 398) (Value.ref 118), DictEntry.mk (PyData.keyHash P (Str.ofString "normpath")) (Value.str (Str.ofString "normpath") 413) (Value.ref 125), DictEntry.mk (PyData.keyHash P (Str.ofString "_iter_escaped_chars")) (Value.str (Str.ofString "_iter_escaped_chars") 425) (Value.ref 132), DictEntry.mk (PyData.keyHash P (Str.ofString "_strip_quoted_realnames")) (Value.str (Str.ofString "_strip_quoted_realnames") 437) (Value.ref 139), DictEntry.mk (PyData.keyHash P (Str.ofString "_check_parenthesis")) (Value.str (Str.ofString "_check_parenthesis") 447) (Value.ref 146), DictEntry.mk (PyData.keyHash P (Str.ofString "_twin_re_1")) (Value.str (Str.ofString "_twin_re_1") 487) (Value.ref 151), DictEntry.mk (PyData.keyHash P (Str.ofString "translate")) (Value.str (Str.ofString "translate") 496) (Value.ref 158), DictEntry.mk (PyData.keyHash P (Str.ofString "_special_chars_map")) (Value.str (Str.ofString "_special_chars_map") 644) (Value.ref 160), DictEntry.mk (PyData.keyHash P (Str.ofString "escape")) (Value.str (Str.ofString "escape") 651) (Value.ref 170), DictEntry.mk (PyData.keyHash P (Str.ofString "_translate")) (Value.str (Str.ofString "_translate") 672) (Value.ref 177), DictEntry.mk (PyData.keyHash P (Str.ofString "_join_translated_parts")) (Value.str (Str.ofString "_join_translated_parts") 685) (Value.ref 184), DictEntry.mk (PyData.keyHash P (Str.ofString "_law_name")) (Value.str (Str.ofString "_law_name") 696) (Value.ref 191), DictEntry.mk (PyData.keyHash P (Str.ofString "_law_piece")) (Value.str (Str.ofString "_law_piece") 707) (Value.ref 198), DictEntry.mk (PyData.keyHash P (Str.ofString "law")) (Value.str (Str.ofString "law") 713) (Value.ref 203)] 30) #[]),
  (nat_lit 110, Obj.mk (Value.type "code") none (Data.fields #[Value.str (Str.ofString "fspath") 378, Value.str (Str.ofString "fspath") 379, Value.str (Str.ofString "/claim/cut.py") 380, Value.int 36 0, Value.int 1 0, Value.int 0 0, Value.int 0 0, Value.int 3 0, Value.ref 105, Value.bool true, Value.int 276 0, Value.ref 106, Value.none, Value.ref 107, Value.ref 108, Value.ref 109, Value.int 385 0, Value.int 36 0, Value.str (Str.ofString "/claim/cut.py") 386]) #[]),
  (nat_lit 111, mkFn (stmtAt 10) _ _ _ _ _ _ _ _ _ _ rfl (Value.str (Str.ofString "os") 376) 110),
  (nat_lit 117, Obj.mk (Value.type "code") none (Data.fields #[Value.str (Str.ofString "splitroot") 390, Value.str (Str.ofString "splitroot") 391, Value.str (Str.ofString "/claim/cut.py") 392, Value.int 53 0, Value.int 1 0, Value.int 0 0, Value.int 0 0, Value.int 3 0, Value.ref 112, Value.bool true, Value.int 276 0, Value.ref 113, Value.none, Value.ref 114, Value.ref 115, Value.ref 116, Value.int 396 0, Value.int 53 0, Value.str (Str.ofString "/claim/cut.py") 397]) #[]),
  (nat_lit 118, mkFn (stmtAt 12) _ _ _ _ _ _ _ _ _ _ rfl (Value.str (Str.ofString "cpy313.posixpath") 388) 117),
  (nat_lit 124, Obj.mk (Value.type "code") none (Data.fields #[Value.str (Str.ofString "normpath") 399, Value.str (Str.ofString "normpath") 400, Value.str (Str.ofString "/claim/cut.py") 401, Value.int 67 0, Value.int 1 0, Value.int 0 0, Value.int 0 0, Value.int 3 0, Value.ref 119, Value.bool true, Value.int 276 0, Value.ref 120, Value.none, Value.ref 121, Value.ref 122, Value.ref 123, Value.int 411 0, Value.int 67 0, Value.str (Str.ofString "/claim/cut.py") 412]) #[]),
  (nat_lit 125, mkFn (stmtAt 13) _ _ _ _ _ _ _ _ _ _ rfl (Value.str (Str.ofString "cpy313.posixpath") 388) 124),
  (nat_lit 131, Obj.mk (Value.type "code") none (Data.fields #[Value.str (Str.ofString "_iter_escaped_chars") 416, Value.str (Str.ofString "_iter_escaped_chars") 417, Value.str (Str.ofString "/claim/cut.py") 418, Value.int 93 0, Value.int 1 0, Value.int 0 0, Value.int 0 0, Value.int 35 0, Value.ref 126, Value.bool true, Value.int 276 0, Value.ref 127, Value.none, Value.ref 128, Value.ref 129, Value.ref 130, Value.int 423 0, Value.int 93 0, Value.str (Str.ofString "/claim/cut.py") 424]) #[]),
  (nat_lit 132, mkFn (stmtAt 15) _ _ _ _ _ _ _ _ _ _ rfl (Value.str (Str.ofString "cpy313.email.utils") 414) 131),
  (nat_lit 138, Obj.mk (Value.type "code") none (Data.fields #[Value.str (Str.ofString "_strip_quoted_realnames") 426, Value.str (Str.ofString "_strip_quoted_realnames") 427, Value.str (Str.ofString "/claim/cut.py") 428, Value.int 106 0, Value.int 1 0, Value.int 0 0, Value.int 0 0, Value.int 3 0, Value.ref 133, Value.bool true, Value.int 276 0, Value.ref 134, Value.none, Value.ref 135, Value.ref 136, Value.ref 137, Value.int 435 0, Value.int 106 0, Value.str (Str.ofString "/claim/cut.py") 436]) #[]),
  (nat_lit 139, mkFn (stmtAt 16) _ _ _ _ _ _ _ _ _ _ rfl (Value.str (Str.ofString "cpy313.email.utils") 414) 138),
  (nat_lit 145, Obj.mk (Value.type "code") none (Data.fields #[Value.str (Str.ofString "_check_parenthesis") 438, Value.str (Str.ofString "_check_parenthesis") 439, Value.str (Str.ofString "/claim/cut.py") 440, Value.int 124 0, Value.int 1 0, Value.int 0 0, Value.int 0 0, Value.int 3 0, Value.ref 140, Value.bool true, Value.int 276 0, Value.ref 141, Value.none, Value.ref 142, Value.ref 143, Value.ref 144, Value.int 445 0, Value.int 124 0, Value.str (Str.ofString "/claim/cut.py") 446]) #[]),
  (nat_lit 146, mkFn (stmtAt 17) _ _ _ _ _ _ _ _ _ _ rfl (Value.str (Str.ofString "cpy313.email.utils") 414) 145),
  (nat_lit 150, Obj.mk (Value.type "tuple") none (Data.seq #[Value.int 14 0, Value.int 14 0, Value.int 4 0, Value.int 1 0, Value.int 1 0, Value.int 9 0, Value.int 0 0, Value.int 64 0, Value.int 0 0, Value.int 1342177280 0, Value.int 0 0, Value.int 0 0, Value.int 0 0, Value.int 0 0, Value.int 0 0, Value.int 17 0, Value.int 0 0, Value.int 13 0, Value.int 11 0, Value.int 9 0, Value.int 0 0, Value.int 64 0, Value.int 0 0, Value.int 1342177280 0, Value.int 0 0, Value.int 0 0, Value.int 0 0, Value.int 0 0, Value.int 0 0, Value.int 17 0, Value.int 1 0, Value.int 1 0]) #[]),
  (nat_lit 151, Obj.mk (Value.type "re.Pattern") none (Data.fields #[Value.str (Str.ofString "([&~|])") 451, Value.int 32 486, Value.int 1 0, Value.none, Value.none, Value.ref 150, Value.int 0 0]) #[]),
  (nat_lit 157, Obj.mk (Value.type "code") none (Data.fields #[Value.str (Str.ofString "translate") 488, Value.str (Str.ofString "translate") 489, Value.str (Str.ofString "/claim/cut.py") 490, Value.int 137 0, Value.int 1 0, Value.int 0 0, Value.int 0 0, Value.int 3 0, Value.ref 152, Value.bool true, Value.int 276 0, Value.ref 153, Value.none, Value.ref 154, Value.ref 155, Value.ref 156, Value.int 494 0, Value.int 137 0, Value.str (Str.ofString "/claim/cut.py") 495]) #[]),
  (nat_lit 158, mkFn (stmtAt 20) _ _ _ _ _ _ _ _ _ _ rfl (Value.str (Str.ofString "cpy313.fnmatch") 448) 157),
  (nat_lit 160, Obj.mk (Value.type "dict") none (Data.dict #[DictEntry.mk 40 (Value.int 40 500) (Value.str (Str.ofString "\\(") 504), DictEntry.mk 41 (Value.int 41 506) (Value.str (Str.ofString "\\)") 510), DictEntry.mk 91 (Value.int 91 512) (Value.str (Str.ofString "\\[") 516), DictEntry.mk 93 (Value.int 93 518) (Value.str (Str.ofString "\\]") 522), DictEntry.mk 123 (Value.int 123 524) (Value.str (Str.ofString "\\{") 528), DictEntry.mk 125 (Value.int 125 530) (Value.str (Str.ofString "\\}") 534), DictEntry.mk 63 (Value.int 63 536) (Value.str (Str.ofString "\\?") 540), DictEntry.mk 42 (Value.int 42 542) (Value.str (Str.ofString "\\*") 546), DictEntry.mk 43 (Value.int 43 548) (Value.str (Str.ofString "\\+") 552), DictEntry.mk 45 (Value.int 45 554) (Value.str (Str.ofString "\\-") 558), DictEntry.mk 124 (Value.int 124 560) (Value.str (Str.ofString "\\|") 564), DictEntry.mk 94 (Value.int 94 566) (Value.str (Str.ofString "\\^") 570), DictEntry.mk 36 (Value.int 36 572) (Value.str (Str.ofString "\\$") 576), DictEntry.mk 92 (Value.int 92 578) (Value.str (Str.ofString "\\\\") 582), DictEntry.mk 46 (Value.int 46 584) (Value.str (Str.ofString "\\.") 588), DictEntry.mk 38 (Value.int 38 590) (Value.str (Str.ofString "\\&") 594), DictEntry.mk 126 (Value.int 126 596) (Value.str (Str.ofString "\\~") 600), DictEntry.mk 35 (Value.int 35 602) (Value.str (Str.ofString "\\#") 606), DictEntry.mk 32 (Value.int 32 608) (Value.str (Str.ofString "\\ ") 612), DictEntry.mk 9 (Value.int 9 614) (Value.str (Str.ofString "\\\t") 618), DictEntry.mk 10 (Value.int 10 620) (Value.str (Str.ofString "\\\n") 624), DictEntry.mk 13 (Value.int 13 626) (Value.str (Str.ofString "\\\x0d") 630), DictEntry.mk 11 (Value.int 11 632) (Value.str (Str.ofString "\\\x0b") 636), DictEntry.mk 12 (Value.int 12 638) (Value.str (Str.ofString "\\\x0c") 642)] 24) #[]),
  (nat_lit 169, Obj.mk (Value.type "code") none (Data.fields #[Value.str (Str.ofString "escape") 645, Value.str (Str.ofString "escape") 646, Value.str (Str.ofString "/claim/cut.py") 647, Value.int 143 0, Value.int 1 0, Value.int 0 0, Value.int 0 0, Value.int 3 0, Value.ref 164, Value.bool true, Value.int 276 0, Value.ref 165, Value.none, Value.ref 166, Value.ref 167, Value.ref 168, Value.int 649 0, Value.int 143 0, Value.str (Str.ofString "/claim/cut.py") 650]) #[]),
  (nat_lit 170, mkFn (stmtAt 23) _ _ _ _ _ _ _ _ _ _ rfl (Value.str (Str.ofString "re") 497) 169),
  (nat_lit 176, Obj.mk (Value.type "code") none (Data.fields #[Value.str (Str.ofString "_translate") 654, Value.str (Str.ofString "_translate") 655, Value.str (Str.ofString "/claim/cut.py") 656, Value.int 150 0, Value.int 3 0, Value.int 0 0, Value.int 0 0, Value.int 3 0, Value.ref 171, Value.bool true, Value.int 276 0, Value.ref 172, Value.none, Value.ref 173, Value.ref 174, Value.ref 175, Value.int 670 0, Value.int 150 0, Value.str (Str.ofString "/claim/cut.py") 671]) #[]),
  (nat_lit 177, mkFn (stmtAt 25) _ _ _ _ _ _ _ _ _ _ rfl (Value.str (Str.ofString "cpy313.fnmatch") 652) 176),
  (nat_lit 183, Obj.mk (Value.type "code") none (Data.fields #[Value.str (Str.ofString "_join_translated_parts") 673, Value.str (Str.ofString "_join_translated_parts") 674, Value.str (Str.ofString "/claim/cut.py") 675, Value.int 212 0, Value.int 2 0, Value.int 0 0, Value.int 0 0, Value.int 3 0, Value.ref 178, Value.bool true, Value.int 276 0, Value.ref 179, Value.none, Value.ref 180, Value.ref 181, Value.ref 182, Value.int 683 0, Value.int 212 0, Value.str (Str.ofString "/claim/cut.py") 684]) #[]),
  (nat_lit 184, mkFn (stmtAt 26) _ _ _ _ _ _ _ _ _ _ rfl (Value.str (Str.ofString "cpy313.fnmatch") 652) 183),
  (nat_lit 190, Obj.mk (Value.type "code") none (Data.fields #[Value.str (Str.ofString "_law_name") 688, Value.str (Str.ofString "_law_name") 689, Value.str (Str.ofString "/claim/cut.py") 690, Value.int 240 0, Value.int 1 0, Value.int 0 0, Value.int 0 0, Value.int 3 0, Value.ref 185, Value.bool true, Value.int 276 0, Value.ref 186, Value.none, Value.ref 187, Value.ref 188, Value.ref 189, Value.int 694 0, Value.int 240 0, Value.str (Str.ofString "/claim/cut.py") 695]) #[]),
  (nat_lit 191, mkFn (stmtAt 28) _ _ _ _ _ _ _ _ _ _ rfl (Value.str (Str.ofString "law_ik0121_01") 686) 190),
  (nat_lit 197, Obj.mk (Value.type "code") none (Data.fields #[Value.str (Str.ofString "_law_piece") 697, Value.str (Str.ofString "_law_piece") 698, Value.str (Str.ofString "/claim/cut.py") 699, Value.int 244 0, Value.int 1 0, Value.int 0 0, Value.int 0 0, Value.int 3 0, Value.ref 192, Value.bool true, Value.int 276 0, Value.ref 193, Value.none, Value.ref 194, Value.ref 195, Value.ref 196, Value.int 705 0, Value.int 244 0, Value.str (Str.ofString "/claim/cut.py") 706]) #[]),
  (nat_lit 198, mkFn (stmtAt 29) _ _ _ _ _ _ _ _ _ _ rfl (Value.str (Str.ofString "law_ik0121_01") 686) 197),
  (nat_lit 202, Obj.mk (Value.type "code") none (Data.fields #[Value.str (Str.ofString "law") 708, Value.str (Str.ofString "law") 709, Value.str (Str.ofString "/claim/cut.py") 710, Value.int 256 0, Value.int 1 0, Value.int 0 0, Value.int 0 0, Value.int 3 0, Value.ref 199, Value.bool true, Value.int 276 0, Value.ref 200, Value.none, Value.none, Value.none, Value.ref 201, Value.int 711 0, Value.int 256 0, Value.str (Str.ofString "/claim/cut.py") 712]) #[]),
  (nat_lit 203, mkFn (stmtAt 30) _ _ _ _ _ _ _ _ _ _ rfl (Value.str (Str.ofString "law_ik0121_01") 686) 202)]
noncomputable def picked : List Stmt := [0, 1, 3, 5, 7, 8, 10, 12, 13, 15, 16, 17, 19, 20, 22, 23, 25, 26, 28, 29, 30].map stmtAt
noncomputable def viewOf : Program := { PySem.Challenge.pw_ik0121_01 with main := { PySem.Challenge.pw_ik0121_01.main with body := picked } }
example : (PySem.Challenge.rw_ik0121_01.Holds ∧ Mine.K = Mine.K) → True := by
  k_fill
  intro _
  trivial
local macro_rules | `(tactic| walk_at "m.enter") => `(tactic| ((case k1 => assumption); (case k2 => assumption); (case k3 => assumption); (case k4 => k_is); (case k5 => k_is); (case k6 => exact rfl); (case k9 => exact rfl); (case k10 => exact rfl); (case k11 => exact rfl); (case k7 => exact locs rfl); (case k8 => decide)))
example : True ∧ True := by
  w_top off
  walk1 <;> trivial
section
noncomputable abbrev pw : Program := PySem.Challenge.pw_ik0121_01
noncomputable abbrev vw : Program := Mine.viewOf
noncomputable abbrev lz : List PySem.Str := [PySem.Str.ofString "_twin_re_1", PySem.Str.ofString "_special_chars_map", PySem.Str.ofString "_sre"]

/-- a place where the walk shall halt -/
def Stop (P : Prop) : Prop := P
theorem stop_of {P : Prop} (h : Stop P) : P := h
theorem of_stop {P : Prop} (h : P) : Stop P := h

/-- what follows a statement, kept out of sight while the statement is walked -/
def Held (Q : Flow → Shared → Prop) (f : Flow) (s : Shared) : Prop := Q f s
def Opq (Q Qn : Flow → Shared → Prop) : Prop := ∀ f s, Q f s → Qn f s
theorem opq {M : Model} {A : Around} {m : Sem Flow} {Q : Flow → Shared → Prop} {E : Value → Shared → Prop} {s : Shared} (h : ∀ Qn, Opq Q Qn → wpAny M A m (Held Qn) E s) : wpAny M A m Q E s := h Q fun _ _ x => x
theorem held {Q Qn : Flow → Shared → Prop} {f : Flow} {s : Shared} (h : Opq Q Qn) (g : Q f s) : Held Qn f s := h f s g

/-- everything of the first heap stands in the second -/
def Kp (h h' : Heap) : Prop := ∀ b o, h.get? b = some o → h'.get? b = some o
theorem Kp.refl (h : Heap) : Kp h h := fun _ _ e => e
theorem Kp.trans {a b c : Heap} (x : Kp a b) (y : Kp b c) : Kp a c := fun _ _ e => y _ _ (x _ _ e)

theorem fr_kp {h₀ h h' : Heap} {L : Addr} {m : PySem.Str → Option Value} (F : Fr h₀ L h m) (k : Kp h h') : Fr h₀ L h' m :=
  ⟨F.ns.keeps k, fun b o e => k _ _ (F.keep b o e), F.above⟩
theorem news_kp {h₀ h h' : Heap} {L : Addr} {news : List (Addr × Obj)} (N : News h₀ L h news) (k : Kp h h') : News h₀ L h' news :=
  fun p hp => ⟨k _ _ (N p hp).1, (N p hp).2⟩

/-- room for n more frames, nothing handled -/
structure Room (A : Around) (n : Nat) : Prop where
  d : A.depth + n < recursionLimit
  u : A.units + 20 * n < cLine
  h : A.handled = none
theorem Room.deeper {A : Around} {n : Nat} {env : Env} (r : Room A (n + 1)) : Room (A.deeper env) n :=
  ⟨by have := r.d; show A.depth + 1 + n < _; omega, by have := r.u; show A.units + 3 + 20 * n < _; omega, r.h⟩
theorem Room.less {A : Around} {n m : Nat} (r : Room A n) (h : m ≤ n) : Room A m :=
  ⟨by have := r.d; omega, by have := r.u; omega, r.h⟩
theorem Room.in1 {A : Around} {n : Nat} (r : Room A (n + 1)) : Room A.in1 n :=
  ⟨by have := r.d; show A.depth + n < _; omega, by have := r.u; show A.units + 1 + 20 * n < _; omega, r.h⟩
theorem Room.deep {A : Around} {n : Nat} (r : Room A n) : A.depth < recursionLimit := by have := r.d; omega
theorem Room.unit {A : Around} {n : Nat} (r : Room A n) : A.units < cLine := by have := r.u; omega

theorem enterF {w : World} {A : Around} {s : Shared} {K : Frag} {p : Program} {loose : List PySem.Str} {mg mb : PySem.Str → Option Value} {R : Result → Shared → Prop}
    {name qual : PySem.Str} {params : Arguments} {body : List Stmt} {scope : Scope} {dV kV doc pm cdv ct oc : Value} {an od : Option Addr} {osl : Array (Option Value)} {f : Addr} {args : Args} (binds : List (PySem.Str × Value)) {n : Nat}
    (X : K.In s.heap) (T : TopRead p loose mg mb s.heap) (hroom : Room A (n + 1))
    (ho : K.lookup f = some ⟨oc, od, .func (fnOf name qual params body scope dV kV doc pm an cdv ct), osl⟩) (hcd : codeIn K cdv qual = true)
    (hbind : bindArgs (fnOf name qual params body scope dV kV doc pm an cdv ct) args = pure binds) (hloc : ∀ y ∈ binds, scope.names.lookup y.1 = some .local)
    (hcell : ∀ x ∈ scope.names, x.2 ≠ .cell) (hco : scope.isCoroutine = false) (hgen : scope.isGenerator = false) (hk : scope.kind = .function)
    (h : ∀ L h₁, Fr s.heap L h₁ (fun y => binds.reverse.lookup y) → News s.heap L h₁ [] → Room (A.deeper (envOf qual scope L f cdv)) n →
      wpAny (model pw w) (A.deeper (envOf qual scope L f cdv)) (execs body (envOf qual scope L f cdv))
        (fun fl s' => R (.ok (.ret (match fl with | .ret v => v | _ => .none))) s') (fun _ _ => False)
        { s with heap := h₁, toks := s.toks + binds.length }) :
    codeAny (model pw w) A (.call (.ref f) args) R s := by
  refine codeAny_call_def (fd := fnOf name qual params body scope dV kV doc pm an cdv ct) (body := body) (binds := binds) hroom.deep (X _ _ ho) rfl T.nolimit (codeRec_of X hcd) rfl (BindsTo.of_eq hbind) hcell hloc (fun h₁ hns hk₁ => ?_) hco hgen hk
  refine wpAny_mono (h s.heap.objs.size h₁ ⟨hns, hk₁, Nat.le_refl _⟩ News.nil hroom.deeper) (fun _ _ x => x) fun _ _ x => x.elim

theorem ty_str : typeOf (.type "str") = pure (.type "type") := by with_unfolding_all rfl
theorem meta_str : isSubtype (.type "type") (.type "type") = pure true := by rw [isSubtype_type]; kernel_rfl
theorem sub_str : isSubtype (.type "str") (.type "str") = pure true := by rw [isSubtype_type]; kernel_rfl
theorem kind_issub_nested : builtinKind "issubclass.nested" = none := by decide +kernel
theorem plain_issub_nested : plainId "issubclass.nested" = true := by decide +kernel
theorem args_issub_nested (a b c : Value) : argsOk "issubclass.nested" ⟨[a, b, c], []⟩ := by unfold argsOk; kernel_rfl

theorem issub_self (dep : Int) (tk : Tok) : Meets (Builtin.«issubclass.nested» ⟨[.type "str", .type "str", .int dep tk], []⟩) (fun _ R s => R (.ok (.ret (.bool true))) s) := by
  intro prog w A R s h
  have f1 := ty_str
  have f2 := sub_str
  have f3 := meta_str
  repeat (any_goals (first | assumption | wp_step))

theorem issub_pair {w : World} {A : Around} {s : Shared} {D : Addr} {Q : Value → Shared → Prop} {E : Value → Shared → Prop} {arr : Array Value} {ts : List Value}
    (hD : s.heap.get? D = some { cls := .type "tuple", data := .seq arr }) (harr : arr.toList = .type "str" :: ts)
    (h : Q (.bool true) s) : wpAny (model pw w) A (call (.builtin "issubclass") [.type "str", .ref D]) Q E s := by
  refine wpAny_call (codeAny_call_builtin F.plain_issubclass F.entry_issubclass ?_)
  simp only [checkBuiltinCall, F.kind_issubclass]
  have fin : wpAny (model pw w) A.in1 (Builtin.«issubclass» ⟨[.type "str", .ref D], []⟩)
      (fun fin s' => match fin with | .done f => wants Q E (.ok f) s' | .again c' => c'.quiet = true ∧ codeAny (model pw w) A c' (wants Q E) s') (fun e s' => wants Q E (.error e) s') s := by
    refine issubclass_outer ?_
    obtain ⟨h0, g, d, t, os⟩ := s
    have hT2 : (⟨h0, g, d, t, os⟩ : Shared).TypeIs (.ref D) "tuple" := ⟨_, hD, rfl⟩
    have f1 := F.isi_sub_tuple
    repeat (any_goals (first | assumption | wp_step))
    refine wpAny_arrayLoop ?_
    simp only [Option.getD_some]
    rw [harr, List.forIn_cons]
    refine wpAny_bind (wpAny_bind (call_function_meets kind_issub_nested plain_issub_nested F.entry_issubclass_nested (args_issub_nested _ _ _) (issub_self _ _) ?_))
    show wpAny _ _ (truthy (.bool true) >>= _) _ _ _
    refine wpAny_bind (m := truthy (.bool true)) (wpAny_pure ?_)
    repeat (any_goals (first | assumption | wp_step))
  have ok := F.args_issubclass_2 (.type "str") (.ref D)
  cases hsig : Manifest.signature? "issubclass" with
  | none => exact wpAny_pure fin
  | some sig =>
    simp only [argsOk, hsig] at ok
    have h2 : Bind.checkArgs "issubclass" sig ⟨[.type "str", .ref D], []⟩ = pure () := ok
    show wpAny _ _ (Bind.checkArgs "issubclass" sig ⟨_, []⟩) _ _ s
    rw [h2]; exact wpAny_pure fin

local macro_rules | `(tactic| walk_at "call builtin:issubclass") => `(tactic| ((with_reducible rename News _ _ _ _ => kN); refine issub_pair (News.get kN (by k_mem)) rfl ?_))

theorem fspath_spec {w : World} {A : Around} {s : Shared} {mg mb : PySem.Str → Option Value} {x : PySem.Str} {t : Tok} {R : Result → Shared → Prop}
    (X : (Mine.K w.params).In s.heap) (T : TopRead vw lz mg mb s.heap) (hA : Room A (1 + 1))
    (hR : ∀ h' tk, Kp s.heap h' → R (.ok (.ret (.str x t))) { s with heap := h', toks := tk }) :
    codeAny (model pw w) A (.call (.ref 111) ⟨[.str x t], []⟩) R s := by
  refine' enterF [(PySem.Str.ofString "path", .str x t)] ?k1 ?k2 ?k3 ?k4 ?k5 ?k6 ?k7 ?k8 ?k9 ?k10 ?k11 ?_
  walk_at "m.enter"
  intro L h₁ F N hA'
  k_steps
  exact hR _ _ (Fr.keep (by assumption))

/-- objects that a call has made -/
def Made (h h' : Heap) (news : List (Addr × Obj)) : Prop := ∀ p ∈ news, h'.get? p.1 = some p.2 ∧ h.get? p.1 = none
theorem Made.of_news {h h' : Heap} {L : Addr} {news : List (Addr × Obj)} (N : News h L h' news) : Made h h' news := fun p hp => ⟨(N p hp).1, (N p hp).2.2⟩
theorem Made.news {h₀ h h' : Heap} {L : Addr} {m : PySem.Str → Option Value} {news more : List (Addr × Obj)} (M : Made h h' more) (F : Fr h₀ L h m) (N : News h₀ L h news) (k : Kp h h') : News h₀ L h' (more ++ news) := by
  intro p hp
  rcases List.mem_append.mp hp with q | q
  · refine ⟨(M p q).1, ?_, ?_⟩
    · intro e
      obtain ⟨o, _, _, ho, _⟩ := F.ns
      have := (M p q).2
      rw [e, ho] at this; cases this
    · cases e : h₀.get? p.1 with
      | none => rfl
      | some o => have := (M p q).2; rw [F.keep _ _ e] at this; cases this
  · exact ⟨k _ _ (N p q).1, (N p q).2⟩
theorem Made.ne {h₀ h h' : Heap} {L : Addr} {news : List (Addr × Obj)} {D : Addr} {o : Obj} (M : Made h h' [(D, o)]) (N : News h₀ L h news) : GnNe D news :=
  gnNe_of fun p hp e => by
    have := (M _ (.head _)).2
    rw [← e, (N p hp).1] at this; cases this

/-- a call by its spec leaves the frame and the ledger -/
theorem in_fr {K : Frag} {h₀ h : Heap} {L : Addr} {m : PySem.Str → Option Value} (X : K.In h₀) (F : Fr h₀ L h m) : K.In h := X.keeps F.keep
theorem top_fr {p : Program} {l : List PySem.Str} {mg mb : PySem.Str → Option Value} {h₀ h : Heap} {L : Addr} {m : PySem.Str → Option Value} (T : TopRead p l mg mb h₀) (F : Fr h₀ L h m) : TopRead p l mg mb h := T.keeps F.keep
end
local macro_rules | `(tactic| walk_at "m.spec") => `(tactic| ((case X => exact in_fr (by assumption) (by assumption)); (case T => exact top_fr (by assumption) (by assumption)); (case A => first | assumption | exact Room.less (by assumption) (by decide))))
local macro_rules | `(tactic| walk_at "m.kp") => `(tactic| ((with_reducible rename Mine.Kp _ _ => k9); (with_reducible rename News _ _ _ _ => kN9); (with_reducible rename Fr _ _ _ _ => kF9); (have F9 := fr_kp kF9 k9); (have N9 := news_kp kN9 k9); clear kF9 kN9; (try dsimp only)))
local macro_rules | `(tactic| walk_at "m.len") => `(tactic| ((try simp only [PySem.sizeLine_eq, List.length_append, List.length_cons, List.length_nil]); omega))
local macro_rules | `(tactic| walk_at "m.back") => `(tactic| (intro h9 tk9 k9; walk_at "m.kp"))
local macro_rules | `(tactic| walk_at "m.backD") => `(tactic| (((with_reducible rename Mine.Made _ _ _ => M9); (with_reducible rename Mine.Kp _ _ => k9); (with_reducible rename News _ _ _ _ => kN9); (with_reducible rename Fr _ _ _ _ => kF9); (have F9 := Mine.fr_kp kF9 k9); (have N9 := Mine.Made.news M9 kF9 kN9 k9); (have A9 := Mine.Made.ne M9 kN9); clear kF9 kN9 M9; (try dsimp only [List.cons_append, List.nil_append] at N9); (try simp only [GnNe, and_true] at A9); (try dsimp only))))
example : True ∧ True := by
  w_top off
  walk1 <;> trivial
section
local macro_rules | `(tactic| walk_at "call ref") => `(tactic| ((with_reducible show wpAny _ _ (call (Value.ref 111) [Value.str _ _]) _ _ _); refine wpAny_call ?_; refine' fspath_spec ?X ?T ?A ?_; walk_at "m.spec"; walk_at "m.back"))

/-- what splitroot gives -/
def splitR (x : PySem.Str) : PySem.Str × PySem.Str :=
  if (Txt.slice x none (some 1) != PySem.Str.ofString "/") = true then (PySem.Str.ofString "", x)
  else if (Txt.slice x (some 1) (some 2) != PySem.Str.ofString "/") = true ∨ (Txt.slice x (some 2) (some 3) == PySem.Str.ofString "/") = true then (PySem.Str.ofString "/", Txt.slice x (some 1) none)
  else (Txt.slice x none (some 2), Txt.slice x (some 2) none)

section
variable {x : PySem.Str} (h : (Txt.slice x none (some 1) != PySem.Str.ofString "/") = false)
include h
theorem sr_in (h2 : (Txt.slice x (some 1) (some 2) != PySem.Str.ofString "/") = true ∨ (Txt.slice x (some 2) (some 3) == PySem.Str.ofString "/") = true) : splitR x = (PySem.Str.ofString "/", Txt.slice x (some 1) none) := by
  unfold splitR; rw [if_neg (by rw [h]; decide), if_pos h2]
theorem sr_two (h2 : (Txt.slice x (some 1) (some 2) != PySem.Str.ofString "/") = false) (h3 : (Txt.slice x (some 2) (some 3) == PySem.Str.ofString "/") = false) : splitR x = (Txt.slice x none (some 2), Txt.slice x (some 2) none) := by
  unfold splitR; rw [if_neg (by rw [h]; decide), if_neg (by rw [h2, h3]; decide)]
end
theorem splitroot_spec {w : World} {A : Around} {s : Shared} {mg mb : PySem.Str → Option Value} {x : PySem.Str} {t : Tok} {R : Result → Shared → Prop}
    (X : (Mine.K w.params).In s.heap) (T : TopRead vw lz mg mb s.heap) (hA : Room A (2 + 1)) (hx : x.length ≤ 100000)
    (hR : ∀ h' tk D t1 t2 t3 ini rest, splitR x = (ini, rest) → Kp s.heap h' → Made s.heap h' [(D, { cls := .type "tuple", data := .seq #[.str (PySem.Str.ofString "") t1, .str ini t2, .str rest t3] })] →
      R (.ok (.ret (.ref D))) { s with heap := h', toks := tk }) :
    codeAny (model pw w) A (.call (.ref 118) ⟨[.str x t], []⟩) R s := by
  refine' enterF [(PySem.Str.ofString "p", .str x t)] ?k1 ?k2 ?k3 ?k4 ?k5 ?k6 ?k7 ?k8 ?k9 ?k10 ?k11 ?_
  walk_at "m.enter"
  intro L h₁ F N hA'
  k_steps
  · exact hR _ _ _ _ _ _ _ _ (if_pos (by assumption)) (Fr.keep (by assumption)) (Made.of_news (by assumption))
  · exact hR _ _ _ _ _ _ _ _ (sr_in (by assumption) (.inl (by assumption))) (Fr.keep (by assumption)) (Made.of_news (by assumption))
  · exact hR _ _ _ _ _ _ _ _ (sr_in (by assumption) (.inr (by assumption))) (Fr.keep (by assumption)) (Made.of_news (by assumption))
  · exact hR _ _ _ _ _ _ _ _ (sr_two (by assumption) (by assumption) (by assumption)) (Fr.keep (by assumption)) (Made.of_news (by assumption))
end
section
abbrev nope : Value → Shared → Prop := fun _ _ => False
/-- what follows, kept out of sight while a turn is walked -/
theorem opq1 {α : Type} {M : Model} {A : Around} {m : Sem α} {Q : α → Shared → Prop} {E : Value → Shared → Prop} {s : Shared} (h : ∀ Qn : α → Shared → Prop, (∀ f s, Q f s → Qn f s) → wpAny M A m Qn E s) : wpAny M A m Q E s := h Q fun _ _ x => x
theorem nope_noted {M : Model} {A : Around} {env : Env} {E : Value → Shared → Prop} : ∀ e s', nope e s' → notedBy M A env E e s' := fun _ _ h => h.elim

section
variable {w : World} {A : Around} {s : Shared} {env : Env}

/-- a for loop that never raises -/
theorem for_any {target iter : Expr} {body : List Stmt} {pos : Pos} {Q : Flow → Shared → Prop}
    (h : wpAny (model pw w) A (eval iter env) (fun x s₁ => wpAny (model pw w) A (pyIter x) (fun it s₂ => ∃ (I : Nat → Shared → Prop) (n : Nat), I n s₂ ∧
      ∀ n s, I n s → wpAny (model pw w) A (pyNext it) (fun r s₁ => match r with
        | none => Q .next s₁
        | some v => wpAny (model pw w) A (letOwnedTupleGo target it v) (fun _ s₁' => wpAny (model pw w) A (assign target env v) (fun _ s₂ => wpAny (model pw w) A (execs body env) (fun f s₃ => match f with
            | .next | .cont => ∃ m, m < n ∧ I m s₃
            | .brk => Q .next s₃
            | .ret v => Q (.ret v) s₃) nope s₂) nope s₁') nope s₁) nope s) nope s₁) nope s)
    (hs : ∀ x, foldedSetIterable iter env x = pure x := by intro _; rfl) :
    wpAny (model pw w) A (exec (.For target iter body [] pos) env) Q nope s := by
  refine wpAny_For (wpAny_mono h (fun x s₁ h₁ => wpAny_mono h₁ (fun it s₂ h₂ => ?_) fun _ _ e => e) fun _ _ e => e) hs
  obtain ⟨I, n, hI, turn⟩ := h₂
  refine codeAny_forLoop_any I (fun n s hn => ?_) n hI
  refine wpAny_mono (turn n s hn) (fun r s₁ h₁ => ?_) nope_noted
  cases r with
  | none => exact wpAny_execs_nil h₁
  | some v => exact wpAny_mono h₁ (fun _ s₁' h₁' => wpAny_mono h₁' (fun _ s₂ h₂ => wpAny_mono h₂ (fun f s₃ h₃ => h₃) nope_noted) nope_noted) nope_noted

/-- a while loop that never raises -/
theorem while_any {test : Expr} {body : List Stmt} {pos : Pos} {Q : Flow → Shared → Prop} (I : Nat → Shared → Prop) (n : Nat) (h0 : I n s)
    (turn : ∀ n s, I n s → wpAny (model pw w) A (isTrue test env (eval test env)) (fun b s₂ =>
        if b = true then wpAny (model pw w) A (execs body env) (fun f s₃ => match f with
            | .next | .cont => ∃ m, m < n ∧ I m s₃
            | .brk => Q .next s₃
            | .ret v => Q (.ret v) s₃) nope s₂
        else Q .next s₂) nope s) :
    wpAny (model pw w) A (exec (.While test body [] pos) env) Q nope s := by
  refine wpAny_While (codeAny_whileLoop I (fun n s hI => ?_) n h0)
  refine wpAny_mono (turn n s hI) (fun b s₂ h₂ => ?_) nope_noted
  cases b with
  | true => simp only [if_true] at h₂ ⊢; exact wpAny_mono h₂ (fun f s₃ h₃ => h₃) nope_noted
  | false => simp only [Bool.false_eq_true, if_false] at h₂ ⊢; exact wpAny_execs_nil h₂

abbrev itObj (l : Addr) (i : Nat) : Obj := { cls := .type "list_iterator", data := .fields #[.ref l, .int i 0] }

/-- a turn's end: the iterator's object and what the loop turns -/
def TurnEnd (h₀ : Heap) (L : Addr) (I : Addr) (ob : Obj) (J : (PySem.Str → Option Value) → List (Addr × Obj) → Prop) (s s₂ : Shared) : Prop :=
  ∃ h' tk' m' news', s₂ = { s with heap := h', toks := tk' } ∧ Fr h₀ L h' m' ∧ News h₀ L h' ((I, ob) :: news') ∧ GnNe I news' ∧ J m' news'

theorem turn_end {h₀ : Heap} {L : Addr} {I : Addr} {ob : Obj} {J : (PySem.Str → Option Value) → List (Addr × Obj) → Prop} {s : Shared} {h' : Heap} {tk' : Nat} {m' : PySem.Str → Option Value} {news' : List (Addr × Obj)}
    (F : Fr h₀ L h' m') (N : News h₀ L h' ((I, ob) :: news')) (ne : GnNe I news') (hJ : J m' news') : TurnEnd h₀ L I ob J s { s with heap := h', toks := tk' } :=
  ⟨h', tk', m', news', rfl, F, N, ne, hJ⟩

theorem list_iter_obj {h : Heap} {I l : Addr} {i : Nat} (x : h.IsListIter I l i) : ∃ o, h.get? I = some o ∧ o.cls = .type "list_iterator" ∧ o.data = .fields #[.ref l, .int i 0] := x

theorem pyNext_list_at {I l : Addr} {i : Nat} {items : Array Value} {x : Value} {Q : Option Value → Shared → Prop} {E : Value → Shared → Prop}
    (hit : s.heap.get? I = some (itObj l i)) (hl : s.heap.IsList l items) (hx : items[i]? = some x)
    (hQ : ∀ h', h'.get? I = some (itObj l (i + 1)) → Heap.SameBut I s.heap h' → Q (some x) { s with heap := h' }) :
    wpAny (model pw w) A (pyNext (.ref I)) Q E s := by
  obtain ⟨ol, hol, _, nl, hdl⟩ := hl
  have hI : s.heap.IsListIter I l i := ⟨_, hit, rfl, rfl⟩
  unfold pyNext
  refine wpAny_bind (wpAny_attempt (wpAny_callSpecial?_slot (name := PySem.Str.ofString "__next__") hI.typeIs slot_listiter_next
    (wpAny_call_entry slot_listiter_next hI.typeIs entry_listiter_next ?_ (args_listiter_next _))))
  show wpAny _ _ (field (.ref I) 0 >>= _) _ _ s
  refine wpAny_bind (wpAny_field hit rfl (x := .ref l) rfl ?_)
  show wpAny _ _ (if (Value.ref l == Value.none) = true then _ else _) _ _ s
  rw [if_neg (show ¬ ((Value.ref l == Value.none) = true) from Bool.false_ne_true)]
  show wpAny _ _ (field (.ref I) 1 >>= _) _ _ s
  refine wpAny_bind (wpAny_field hit rfl (x := .int i 0) rfl ?_)
  show wpAny _ _ (seqItems? (.ref l) >>= _) _ _ s
  refine wpAny_bind (wpAny_seqItems hol hdl ?_)
  simp only [Int.toNat_natCast, hx]
  refine wpAny_bind (wpAny_setField hit rfl (by simp) (wpAny_pure ⟨x, rfl, wpAny_pure (hQ _ ?_ (Heap.SameBut.update ..))⟩))
  exact Heap.get?_update_self _ hit rfl

/-- a for loop over a list of the ledger, by an invariant -/
theorem for_list {iter : Expr} {x : PySem.Str} {px pos : Pos} {body : List Stmt} {Q : Flow → Shared → Prop} {h₀ : Heap} {l : Addr} {vs : List Value} {n : Nat} {m : PySem.Str → Option Value} {news : List (Addr × Obj)}
    (J : Nat → (PySem.Str → Option Value) → List (Addr × Obj) → Prop)
    (hh : A.handled = none) (hx : env.kindOf x = some .local)
    (hp : (env.scope.kind == .class || (env.scope.kind == .module && env.locals != env.globals)) = false)
    (F : Fr h₀ env.locals s.heap m) (N : News h₀ env.locals s.heap news)
    (hiter : ∀ Q' : Value → Shared → Prop, Q' (.ref l) s → wpAny (model pw w) A (eval iter env) Q' nope s)
    (hmem : ∀ i m news, J i m news → (l, listOf vs.toArray n) ∈ news) (h0 : J 0 m news)
    (turn : ∀ i v m₁ news₁ I h tk, vs[i]? = some v → J i m₁ news₁ → Fr h₀ env.locals h (fun y => if y = x then some v else m₁ y) → News h₀ env.locals h ((I, itObj l (i + 1)) :: news₁) → GnNe I news₁ →
      wpAny (model pw w) A (execs body env) (fun f s₂ => match f with
        | .next | .cont => TurnEnd h₀ env.locals I (itObj l (i + 1)) (J (i + 1)) s s₂
        | .brk => Q .next s₂
        | .ret v => Q (.ret v) s₂) nope { s with heap := h, toks := tk })
    (done : ∀ m₁ news₁ h tk, J vs.length m₁ news₁ → Fr h₀ env.locals h m₁ → News h₀ env.locals h news₁ → Q .next { s with heap := h, toks := tk })
    (hs : ∀ x, foldedSetIterable iter env x = pure x := by intro _; rfl) :
    wpAny (model pw w) A (exec (.For (.Name x px) iter body [] pos) env) Q nope s := by
  refine for_any (hiter _ ?_) hs
  have hl0 := N _ (hmem 0 m news h0)
  refine wpAny_pyIter_list (items := vs.toArray) ⟨_, hl0.1, rfl, _, rfl⟩ ?_
  refine ⟨fun k s' => ∃ i, TurnEnd h₀ env.locals s.heap.objs.size (itObj l i) (J i) s s' ∧ i ≤ vs.length ∧ k = vs.length + 1 - i, vs.length + 1,
    ⟨0, ⟨_, s.toks, m, news, rfl, F.push _, News.push F N _, ?_, h0⟩, Nat.zero_le _, rfl⟩, ?_⟩
  · exact gnNe_of fun p hp e => by
      have := (N p hp).1
      rw [e] at this
      exact absurd (Heap.lt_size this) (Nat.lt_irrefl _)
  rintro k s' ⟨i, ⟨h', tk, m₁, news₁, rfl, F₁, N₁, ne₁, hJ⟩, hi, rfl⟩
  have hI := N₁ _ (.head _)
  have hL := N₁ _ (.tail _ (hmem i m₁ news₁ hJ))
  have neOf : ∀ {l : List (Addr × Obj)}, GnNe s.heap.objs.size l → ∀ p ∈ l, p.1 ≠ s.heap.objs.size := by
    intro l
    induction l with
    | nil => intro _ p hp; cases hp
    | cons q r ih =>
      intro hg p hp
      rcases List.mem_cons.mp hp with rfl | hp
      · exact hg.1
      · exact ih hg.2 p hp
  by_cases hlt : i < vs.length
  · refine pyNext_list_at (items := vs.toArray) hI.1 ⟨_, hL.1, rfl, _, rfl⟩ (x := vs[i]) (by simp [hlt]) fun h₂ hit₂ hs₂ => ?_
    refine wpAny_of_eq (a := ()) rfl ?_
    have N₂ : News h₀ env.locals h₂ ((s.heap.objs.size, itObj l (i + 1)) :: news₁) := by
      intro p hp
      rcases List.mem_cons.mp hp with rfl | hp
      · exact ⟨hit₂, hI.2⟩
      · have q := N₁ p (.tail _ hp)
        exact ⟨(hs₂.2 _ (neOf ne₁ p hp)).trans q.1, q.2⟩
    have F₂ : Fr h₀ env.locals h₂ m₁ := ⟨F₁.ns.sameBut hs₂ (Ne.symm hI.2.1), fun b o e => (hs₂.2 b (fun z => by subst z; rw [hI.2.2] at e; cases e)).trans (F₁.keep b o e), F₁.above⟩
    refine wpAny_assign_Name (wpAny_storeName_local hx F₂.ns (fun h₃ hn hs₃ => ?_) hp)
    refine wpAny_mono (turn i vs[i] m₁ news₁ s.heap.objs.size h₃ _ (by simp [hlt]) hJ (F₂.set hn hs₃) (N₂.set hs₃) ne₁) (fun f s₃ h₃ => ?_) fun _ _ e => e
    cases f with
    | next => exact ⟨vs.length + 1 - (i + 1), by omega, i + 1, h₃, hlt, rfl⟩
    | cont => exact ⟨vs.length + 1 - (i + 1), by omega, i + 1, h₃, hlt, rfl⟩
    | brk => exact h₃
    | ret v => exact h₃
  · obtain rfl : i = vs.length := by omega
    refine wpAny_pyNext_list_end (items := vs.toArray) hh ⟨_, hI.1, rfl, rfl⟩ ⟨_, hL.1, rfl, _, rfl⟩ (by simp) fun h₂ hs₂ => ?_
    refine done m₁ news₁ h₂ tk hJ ?_ ?_
    · obtain ⟨o, a, b, ho, r⟩ := F₁.ns
      exact ⟨⟨o, a, b, hs₂ _ _ (Ne.symm hI.2.1) ho, r⟩, fun b o e => hs₂ b o (fun z => by subst z; rw [hI.2.2] at e; cases e) (F₁.keep b o e), F₁.above⟩
    · intro p hp
      have q := N₁ p (.tail _ hp)
      exact ⟨hs₂ _ _ (neOf ne₁ p hp) q.1, q.2⟩
end
end
section
section
variable {prog : Program} {w : World} {A : Around} {E : Value → Shared → Prop} {s : Shared} {h₀ : Heap} {L : Addr} {m : PySem.Str → Option Value} {news : List (Addr × Obj)}

theorem fresh_ne {h : Heap} {news : List (Addr × Obj)} (N : News h₀ L h news) : GnNe h.objs.size news :=
  gnNe_of fun p hp e => by
    have := (N p hp).1
    rw [e] at this
    exact absurd (Heap.lt_size this) (Nat.lt_irrefl _)

theorem split_made {x y : PySem.Str} {t u : Tok} {Q : Value → Shared → Prop} (hF : Fr h₀ L s.heap m) (hN : News h₀ L s.heap news) (hy : (y.length == 0) = false) (hsz : x.length + 2 ≤ sizeLine)
    (h : ∀ l D h' k, l.map (·.1) = Txt.split x y → Fr h₀ L h' m → News h₀ L h' ((D, listOf (strValues l).toArray 0) :: news) → GnNe D news → Q (.ref D) { s with heap := h', toks := k }) :
    wpAny (model prog w) A (call (.builtin "str.split") [.str x t, .str y u]) Q E s :=
  splitN1 hF hN hy (fun l h' k e F' N' => h l _ h' k e F' N' (fresh_ne hN)) hsz

/-- the truth of a list -/
theorem truthy_lst {D : Addr} {vs : List Value} {n : Nat} {Q : Bool → Shared → Prop} (N : News h₀ L s.heap news) (hm : (D, listOf vs.toArray n) ∈ news) (hz : vs.length < 2 ^ 62)
    (h : ∀ k, Q (!vs.isEmpty) { s with toks := k }) : wpAny (model prog w) A (truthy (.ref D)) Q E s := by
  have hl : s.heap.IsList D vs.toArray := ⟨_, (N _ hm).1, rfl, _, rfl⟩
  refine wpAny_truthy_list hl (by simp only [List.size_toArray]; omega) ?_
  have e : (!vs.toArray.isEmpty) = !vs.isEmpty := by simp
  rw [e]
  exact h _

theorem item_neg1 {value slice : Expr} {D : Addr} {vs : List Value} {v : Value} {n : Nat} {u : Tok} {Q : Value → Shared → Prop} (N : News h₀ L s.heap news) (hm : (D, listOf (vs ++ [v]).toArray n) ∈ news) (hz : vs.length < 2 ^ 62)
    (h : Q v s) (hs : subscripted slice false (.ref D) (.int (-1) u) = operate [.ref D, .int (-1) u] (getItem (.ref D) (.int (-1) u)) := by with_unfolding_all rfl) :
    wpAny (model prog w) A (subscriptTail value slice (.ref D) (.int (-1) u)) Q E s := by
  have hl : s.heap.IsList D (vs ++ [v]).toArray := ⟨_, (N _ hm).1, rfl, _, rfl⟩
  refine tail_any hl.typeIs slot_list_getitem.lookup (wpAny_getItem_list_neg hl (by decide) ?_ (by decide) ?_ h) hs
  · simp only [List.size_toArray, List.length_append, List.length_cons, List.length_nil]; omega
  · have e : ((-1 : Int) + ((vs ++ [v]).toArray.size : Nat)).toNat = vs.length := by
      simp only [List.size_toArray, List.length_append, List.length_cons, List.length_nil]; omega
    rw [e]; simp

theorem kl_last_snoc (vs : List Value) (v : Value) : kl_last (vs ++ [v]) = some (vs, v) := by
  induction vs with
  | nil => rfl
  | cons x r ih => show (match kl_last (r ++ [v]) with | some (p, y) => some (x :: p, y) | none => some ([], x)) = _; rw [ih]

theorem pop_lst {D : Addr} {vs : List Value} {v : Value} {n : Nat} {news' : List (Addr × Obj)} {Q : Value → Shared → Prop} (F : Fr h₀ L s.heap m) (N : News h₀ L s.heap news) (U : Upd D (listOf (vs ++ [v]).toArray n) (listOf vs.toArray (n + 1)) news news')
    (hz : vs.length + 1 ≤ sizeLine) (h : ∀ h', Fr h₀ L h' m → News h₀ L h' news' → Q v { s with heap := h' }) : wpAny (model prog w) A (call (.builtin "list.pop") [.ref D]) Q E s :=
  kl_pop F N (kl_last_snoc vs v) U (by simpa using hz) h

theorem append_lst {D : Addr} {vs : List Value} {n : Nat} {x : Value} {news' : List (Addr × Obj)} {Q : Value → Shared → Prop} (F : Fr h₀ L s.heap m) (N : News h₀ L s.heap news) (U : Upd D (listOf vs.toArray n) (listOf (vs ++ [x]).toArray (n + 1)) news news')
    (hz : vs.length ≤ sizeLine) (h : ∀ h', Fr h₀ L h' m → News h₀ L h' news' → Q .none { s with heap := h' }) : wpAny (model prog w) A (call (.builtin "list.append") [.ref D, x]) Q E s :=
  append_K (its := vs.toArray) (n := n) F N (by have e : vs.toArray.push x = (vs ++ [x]).toArray := by simp
                                                rw [e]; exact U) h (by rw [List.size_toArray]; exact hz)

theorem strs_values {vs : List Value} {xs : List PySem.Str} (h : StrsAre vs xs) : ∃ l, vs = strValues l ∧ l.map (·.1) = xs := by
  induction h with
  | nil => exact ⟨[], rfl, rfl⟩
  | cons y t _ ih => obtain ⟨l, rfl, rfl⟩ := ih; exact ⟨(y, t) :: l, rfl, rfl⟩

theorem join_lst {D : Addr} {vs : List Value} {xs : List PySem.Str} {n : Nat} {x : PySem.Str} {t : Tok} {Q : Value → Shared → Prop} (N : News h₀ L s.heap news) (hm : (D, listOf vs.toArray n) ∈ news) (hS : StrsAre vs xs)
    (hz : (xs.map (·.length)).sum + xs.length * x.length ≤ 16777216) (hq : ∀ y t' k, y = PySem.Str.join x xs → Q (.str y t') { s with toks := k }) : wpAny (model prog w) A (call (.builtin "str.join") [.str x t, .ref D]) Q E s := by
  obtain ⟨l, rfl, rfl⟩ := strs_values hS
  refine SC.join (l := l) ⟨_, (N _ hm).1, rfl, _, rfl⟩ rfl ?_ (fun t' k => by
    show Q (.str (Builtin.Str.glued x _) t') _
    exact hq _ t' k (StrLaws.glued_eq_join _ _))
  unfold JoinOk
  rw [Bool.not_eq_true']
  have e : (2 : Nat) ^ 24 = 16777216 := by decide
  have := StrLaws.joinTotal x (l.map (·.1))
  unfold Builtin.Str.tooLong sizeLine
  refine decide_eq_false ?_
  rw [this]
  omega

theorem strs_snoc : ∀ {ws : List Value} {z : Value} {acc : List PySem.Str}, StrsAre (ws ++ [z]) acc → ∃ as zc tz, z = .str zc tz ∧ acc = as ++ [zc] ∧ StrsAre ws as
  | [], z, acc, h => by cases h with | cons y t h => cases h; exact ⟨[], y, t, rfl, rfl, .nil⟩
  | v :: ws, z, acc, h => by
    cases h with
    | cons y t h =>
      obtain ⟨as, zc, tz, rfl, rfl, h'⟩ := strs_snoc h
      exact ⟨y :: as, zc, tz, rfl, rfl, .cons y t h'⟩
theorem strs_add {vs : List Value} {xs : List PySem.Str} {y : PySem.Str} {t : Tok} (h : StrsAre vs xs) : StrsAre (vs ++ [.str y t]) (xs ++ [y]) := StrsAre.append' h (.cons y t .nil)
theorem fr_map {h : Heap} {m' : PySem.Str → Option Value} (F : Fr h₀ L h m) (e : ∀ y, m y = m' y) : Fr h₀ L h m' := by
  have : m = m' := funext e
  exact this ▸ F
theorem fr_name {h : Heap} {P : Prop} (F : Fr h₀ L h m) (k : ∀ M0, M0 = m → Fr h₀ L h M0 → P) : P := k m rfl F
end
end
section
theorem splitR_le (x : PySem.Str) : (splitR x).1.length ≤ x.length ∧ (splitR x).2.length ≤ x.length := by
  have h0 : ∀ l u, (Txt.slice x l u).length ≤ x.length := fun l u => PyProof.Txt.length_slice_le x l u
  have e : (PySem.Str.ofString "").length = 0 := by decide +kernel
  have e1 : (PySem.Str.ofString "/").length = 1 := by decide +kernel
  unfold splitR
  split
  · exact ⟨by rw [e]; exact Nat.zero_le _, Nat.le_refl _⟩
  · split
    · refine ⟨?_, h0 _ _⟩
      rename_i h _
      have : Txt.slice x none (some 1) = PySem.Str.ofString "/" := by simpa using h
      have := h0 none (some 1)
      rw [‹Txt.slice x none (some 1) = _›, e1] at this
      rw [e1]; exact this
    · exact ⟨h0 _ _, h0 _ _⟩

theorem join_len (sep : PySem.Str) : ∀ ts : List PySem.Str, ts ≠ [] → (PySem.Str.join sep ts).length + sep.length = (ts.map (·.length)).sum + ts.length * sep.length
  | [], h => absurd rfl h
  | [x], _ => by show x.length + sep.length = _; simp
  | x :: y :: r, _ => by
    have ih := join_len sep (y :: r) (by simp)
    show (x ++ sep ++ PySem.Str.join sep (y :: r)).length + sep.length = _
    rw [PySem.Str.length_append, PySem.Str.length_append]
    simp only [List.map_cons, List.sum_cons, List.length_cons, Nat.succ_mul] at ih ⊢
    omega

theorem join_fit (sep : PySem.Str) (ts : List PySem.Str) : (PySem.Str.join sep ts).length ≤ (ts.map (·.length)).sum + ts.length * sep.length := by
  by_cases h : ts = []
  · subst h; exact Nat.zero_le _
  · have := join_len sep ts h; omega

theorem split_sum {x y : PySem.Str} (hy : y.length = 1) : ((Txt.split x y).map (·.length)).sum + (Txt.split x y).length ≤ x.length + 1 := by
  by_cases h : Txt.split x y = []
  · rw [h]; simp
  · have := join_len y (Txt.split x y) h
    rw [StrLaws.join_split, hy] at this
    omega

/-- one turn of normpath's loop -/
def normStep (ini : PySem.Str) (acc : List PySem.Str) (c : PySem.Str) : List PySem.Str :=
  if (c.length : Int) = 0 ∨ (c == PySem.Str.ofString ".") = true then acc
  else if (c != PySem.Str.ofString "..") = true ∨ ((ini.length : Int) = 0 ∧ acc = []) ∨ acc.getLast? = some (PySem.Str.ofString "..") then acc ++ [c]
  else acc.dropLast

def weigh (l : List PySem.Str) : Nat := (l.map (·.length)).sum + l.length
theorem weigh_append (a b : List PySem.Str) : weigh (a ++ b) = weigh a + weigh b := by
  unfold weigh; simp only [List.map_append, List.sum_append, List.length_append]; omega
theorem weigh_one (c : PySem.Str) : weigh [c] = c.length + 1 := by unfold weigh; simp
theorem weigh_dropLast (a : List PySem.Str) : weigh a.dropLast ≤ weigh a := by
  rcases List.eq_nil_or_concat a with rfl | ⟨b, z, rfl⟩
  · simp
  · simp only [List.concat_eq_append, List.dropLast_concat, weigh_append]; omega
theorem normStep_weigh (ini : PySem.Str) (acc : List PySem.Str) (c : PySem.Str) : weigh (normStep ini acc c) ≤ weigh acc + weigh [c] := by
  unfold normStep
  have := weigh_dropLast acc
  split
  · omega
  · split
    · rw [weigh_append]; exact Nat.le_refl _
    · omega
theorem normFold_weigh (ini : PySem.Str) : ∀ (cs acc : List PySem.Str), weigh (cs.foldl (normStep ini) acc) ≤ weigh acc + weigh cs
  | [], acc => by simp
  | c :: r, acc => by
    rw [List.foldl_cons]
    have h1 := normFold_weigh ini r (normStep ini acc c)
    have h2 := normStep_weigh ini acc c
    have h3 : weigh (c :: r) = weigh [c] + weigh r := weigh_append [c] r
    omega

/-- what normpath gives -/
def normOf (x : PySem.Str) : PySem.Str :=
  if (x.length : Int) = 0 then PySem.Str.ofString "."
  else
    let r := (splitR x).1 ++ PySem.Str.join (PySem.Str.ofString "/") ((Txt.split (splitR x).2 (PySem.Str.ofString "/")).foldl (normStep (splitR x).1) [])
    if (r.length : Int) = 0 then PySem.Str.ofString "." else r
theorem normOf_empty {x : PySem.Str} (h : (x.length : Int) = 0) : normOf x = PySem.Str.ofString "." := by unfold normOf; rw [if_pos h]
theorem normOf_dot {x ini rest y : PySem.Str} {acc : List PySem.Str} (h : (x.length : Int) ≠ 0) (e : splitR x = (ini, rest)) (ha : (Txt.split rest (PySem.Str.ofString "/")).foldl (normStep ini) [] = acc)
    (hy : y = PySem.Str.join (PySem.Str.ofString "/") acc) (h' : ((ini ++ y).length : Int) = 0) : normOf x = PySem.Str.ofString "." := by
  subst ha; subst hy; unfold normOf; rw [if_neg h, e]; dsimp only; rw [if_pos h']
theorem normOf_text {x ini rest y : PySem.Str} {acc : List PySem.Str} (h : (x.length : Int) ≠ 0) (e : splitR x = (ini, rest)) (ha : (Txt.split rest (PySem.Str.ofString "/")).foldl (normStep ini) [] = acc)
    (hy : y = PySem.Str.join (PySem.Str.ofString "/") acc) (h' : ((ini ++ y).length : Int) ≠ 0) : normOf x = ini ++ y := by
  subst ha; subst hy; unfold normOf; rw [if_neg h, e]; dsimp only; rw [if_neg h']
theorem splitR_le2 {x ini rest : PySem.Str} (e : splitR x = (ini, rest)) : ini.length ≤ x.length ∧ rest.length ≤ x.length := by
  have := splitR_le x
  rw [e] at this
  exact this
theorem join_fit2 {sep y : PySem.Str} {ts : List PySem.Str} (e : y = PySem.Str.join sep ts) : y.length ≤ (ts.map (·.length)).sum + ts.length * sep.length := e ▸ join_fit sep ts
theorem join_fit3 {sep y : PySem.Str} {ts : List PySem.Str} (hs : sep.length = 1) (e : y = PySem.Str.join sep ts) : y.length ≤ (ts.map (·.length)).sum + ts.length := by
  have := join_fit2 e
  rw [hs, Nat.mul_one] at this
  exact this
section
variable {ini c zc : PySem.Str} {acc as : List PySem.Str}
theorem ns_empty (h : (c.length : Int) = 0) : normStep ini acc c = acc := by simp [normStep, h]
theorem ns_dot (h : (c == PySem.Str.ofString ".") = true) : normStep ini acc c = acc := by simp [normStep, h]
theorem ns_name (h : (c.length : Int) ≠ 0) (h1 : (c == PySem.Str.ofString ".") = false) (h2 : (c != PySem.Str.ofString "..") = true) : normStep ini acc c = acc ++ [c] := by
  unfold normStep
  rw [if_neg (by rw [h1]; exact fun z => z.elim h Bool.false_ne_true), if_pos (.inl h2)]
theorem ns_up0 (h : (c.length : Int) ≠ 0) (h1 : (c == PySem.Str.ofString ".") = false) (_ : (c != PySem.Str.ofString "..") = false) (h3 : (ini.length : Int) = 0) : normStep ini [] c = [c] := by
  unfold normStep
  rw [if_neg (by rw [h1]; exact fun z => z.elim h Bool.false_ne_true), if_pos (.inr (.inl ⟨h3, rfl⟩))]; rfl
theorem ns_up1 (h : (c.length : Int) ≠ 0) (h1 : (c == PySem.Str.ofString ".") = false) (h2 : (c != PySem.Str.ofString "..") = false) (h3 : (ini.length : Int) ≠ 0) : normStep ini [] c = [] := by
  unfold normStep
  rw [if_neg (by rw [h1]; exact fun z => z.elim h Bool.false_ne_true), if_neg (by rw [h2]; rintro (z | z | z); exact Bool.false_ne_true z; exact h3 z.1; cases z)]; rfl
theorem ns_upup (h : (c.length : Int) ≠ 0) (h1 : (c == PySem.Str.ofString ".") = false) (_ : (c != PySem.Str.ofString "..") = false) (h3 : (zc == PySem.Str.ofString "..") = true) : normStep ini (as ++ [zc]) c = (as ++ [zc]) ++ [c] := by
  have e := beq_iff_eq.mp h3
  unfold normStep
  rw [if_neg (by rw [h1]; exact fun z => z.elim h Bool.false_ne_true), if_pos (.inr (.inr (by rw [List.getLast?_concat, e])))]
theorem ns_pop (h : (c.length : Int) ≠ 0) (h1 : (c == PySem.Str.ofString ".") = false) (h2 : (c != PySem.Str.ofString "..") = false) (h3 : (zc == PySem.Str.ofString "..") = false) : normStep ini (as ++ [zc]) c = as := by
  have e := beq_eq_false_iff_ne.mp h3
  unfold normStep
  rw [if_neg (by rw [h1]; exact fun z => z.elim h Bool.false_ne_true), if_neg (by
    rw [h2]; rintro (z | z | z)
    · exact Bool.false_ne_true z
    · exact List.append_ne_nil_of_right_ne_nil _ (by simp) z.2
    · rw [List.getLast?_concat] at z; exact e (Option.some.inj z)), List.dropLast_concat]
end
theorem no_empty_snoc {α : Type} {P : Prop} {a : List α} {b : α} (h : (a ++ [b]).isEmpty = true) : P := by simp at h
theorem strs_of {vs : List Value} {a b : List PySem.Str} (e : a = b) (h : StrsAre vs b) : StrsAre vs a := e ▸ h
end
local macro_rules | `(tactic| walk_at "call builtin:list.append") => `(tactic| (k_dflt ((with_reducible rename Fr _ _ _ _ => F'); (with_reducible rename News _ _ _ _ => N'); refine' append_lst F' N' ?U ?z ?_; (case U => k_upd); (case z => walk_at "m.len"); intro h9 F9 N9; clear F' N')))
local macro_rules | `(tactic| walk_at "truthy ref") => `(tactic| (k_dflt ((with_reducible rename News _ _ _ _ => N'); refine' truthy_lst N' ?m ?z ?_; (case m => k_mem); (case z => walk_at "m.len"); intro k9)))
local macro_rules | `(tactic| walk_at "subscriptTail Name UnaryOp ref int") => `(tactic| (k_dflt ((with_reducible rename News _ _ _ _ => N'); refine' item_neg1 N' ?m ?z ?_ ?hs; (case m => k_mem); (case z => omega); (case hs => with_unfolding_all rfl))))
example : True ∧ True := by
  w_top off
  walk1 <;> trivial
section
local macro_rules | `(tactic| walk_at "call ref") => `(tactic| ((with_reducible show wpAny _ _ (call (Value.ref 111) [Value.str _ _]) _ _ _); refine wpAny_call ?_; refine' fspath_spec ?X ?T ?A ?_; walk_at "m.spec"; walk_at "m.back"))
local macro_rules | `(tactic| walk_at "call ref") => `(tactic| ((with_reducible show wpAny _ _ (call (Value.ref 118) [Value.str _ _]) _ _ _); refine wpAny_call ?_; refine' splitroot_spec ?X ?T ?A ?S ?_; (case S => (try simp only [PySem.sizeLine_eq] at *); omega); walk_at "m.spec"; intro h9 tk9 D9 t1 t2 t3 ini9 rest9 e9 k9 M9; (have hle9 := splitR_le2 e9); walk_at "m.backD"))
local macro_rules | `(tactic| walk_at "exec For Name Name cons nil") => `(tactic| (refine stop_of ?_))
local macro_rules | `(tactic| walk_at "call builtin:str.split") => `(tactic| (k_dflt ((with_reducible rename Fr _ _ _ _ => F'); (with_reducible rename News _ _ _ _ => N'); (refine split_made F' N' (by first | rfl | assumption) ?hsz ?_); (case hsz => walk_at "m.len"); intro l9 D9 h9 k9 e9 F9 N9 A9; (try simp only [GnNe, and_true] at A9))))
local macro_rules | `(tactic| walk_at "call builtin:list.pop") => `(tactic| (k_dflt ((with_reducible rename Fr _ _ _ _ => F'); (with_reducible rename News _ _ _ _ => N'); refine' pop_lst F' N' ?U ?z ?_; (case U => k_upd); (case z => walk_at "m.len"); intro h9 F9 N9; clear F' N')))

local macro_rules | `(tactic| walk_at "call builtin:str.join") => `(tactic| (k_dflt ((with_reducible rename News _ _ _ _ => N'); refine' join_lst N' ?m ?S ?z ?_; (case m => k_mem); (case S => assumption); (case z => (simp only [show (PySem.Str.ofString "/").length = 1 from by decide +kernel]; omega)); intro y9 t9 k9 e9; (have hj9 := join_fit3 (by decide +kernel) e9))))
theorem strs_item {l : List (PySem.Str × Tok)} {i : Nat} {v : Value} (h : (strValues l)[i]? = some v) : ∃ c tc, v = .str c tc ∧ (l.map (·.1))[i]? = some c :=
  (strsAre_of_values l).item i v h

theorem mem_le_sum {c : PySem.Str} : ∀ {l : List PySem.Str}, c ∈ l → c.length ≤ (l.map (·.length)).sum
  | y :: r, h => by
    rw [List.map_cons, List.sum_cons]
    rcases List.mem_cons.mp h with rfl | h
    · omega
    · have := mem_le_sum h; omega
theorem map_once {x : PySem.Str} {a b : Option Value} {M M' : PySem.Str → Option Value} (e : M' = M) : (fun y => if y = x then a else if y = x then b else M y) = fun y => if y = x then a else M' y := by
  subst e; funext y; split <;> rfl
theorem normpath_spec {w : World} {A : Around} {s : Shared} {mg mb : PySem.Str → Option Value} {x : PySem.Str} {t : Tok} {R : Result → Shared → Prop}
    (X : (Mine.K w.params).In s.heap) (T : TopRead vw lz mg mb s.heap) (hA : Room A (3 + 1)) (hx : x.length ≤ 100000)
    (hR : ∀ h' tk t', Kp s.heap h' → R (.ok (.ret (.str (normOf x) t'))) { s with heap := h', toks := tk }) :
    codeAny (model pw w) A (.call (.ref 125) ⟨[.str x t], []⟩) R s := by
  obtain ⟨hd9, d9, fr9, gu9, u9⟩ := A
  obtain rfl : hd9 = none := hA.h
  refine' enterF [(PySem.Str.ofString "path", .str x t)] ?k1 ?k2 ?k3 ?k4 ?k5 ?k6 ?k7 ?k8 ?k9 ?k10 ?k11 ?_
  walk_at "m.enter"
  intro L h₁ F N hA'
  k_steps
  · unfold Stop
    rename_i hx0 _ _ _ DT t1 t2 t3 ini rest esp _ hle _ _ _ _ _ _ l lst _ _ e9 ne1 _ cN _ lt1 _ kF kN
    refine fr_name kF fun M0 hM kF' => ?_
    have hsum := split_sum (x := rest) (y := PySem.Str.ofString "/") (by decide +kernel)
    rw [← e9] at hsum
    have hn : l.length ≤ 100001 := by simp only [List.length_map] at hsum; omega
    have hcs : ∀ c ∈ l.map (·.1), c.length ≤ 100001 := by
      intro c hc
      have := mem_le_sum hc
      omega
    refine for_list (l := lst) (vs := strValues l) (n := 0) (J := fun i m news => ∃ u vs n', m = (fun y => if y = PySem.Str.ofString "comp" then u else M0 y) ∧
      news = [(cN, listOf vs.toArray n'), (lst, listOf (strValues l).toArray 0), (DT, { cls := .type "tuple", data := .seq #[.str (PySem.Str.ofString "") t1, .str ini t2, .str rest t3] })] ∧
      StrsAre vs (((l.map (·.1)).take i).foldl (normStep ini) []) ∧ vs.length ≤ i) rfl rfl rfl kF' kN ?_ ?_ ?_ ?_ ?_
    · intro Q' hq
      subst hM
      k_steps
      exact hq
    · rintro i m news ⟨u, vs, n', rfl, rfl, _⟩
      k_mem
    · refine ⟨M0 (PySem.Str.ofString "comp"), [], 0, ?_, rfl, .nil, Nat.le_refl _⟩
      funext y
      split
      · next h => rw [h]
      · rfl
    · rintro i v m₁ news₁ I h tk hv ⟨u, vs, n', rfl, rfl, hS, hlen⟩ F₁ N₁ ne₁
      subst hM
      simp only [GnNe, and_true] at ne₁
      obtain ⟨c, tc, rfl, hc⟩ := strs_item hv
      have hcl := hcs c (List.mem_of_getElem? hc)
      have hs : (((l.map (·.1)).take (i + 1)).foldl (normStep ini) []) = normStep ini (((l.map (·.1)).take i).foldl (normStep ini) []) c := by
        rw [List.take_add_one, hc]; simp
      rw [hs]
      have hil : i < 100001 := by
        have := (List.getElem?_eq_some_iff.mp hc).1
        simp only [List.length_map] at this
        omega
      generalize ((l.map (·.1)).take i).foldl (normStep ini) [] = acc at hS ⊢
      clear kF kN kF' hsum hcs hs hv hc hn e9 esp
      refine opq1 ?_
      intro Qn hqn
      rcases List.eq_nil_or_concat vs with rfl | ⟨ws, z, rfl⟩
      · cases hS
        k_steps
        all_goals (
          refine hqn _ _ (turn_end (by assumption) (by assumption) (by simp only [GnNe, and_true]; omega) ?_)
          refine ⟨_, _, _, map_once rfl, rfl, ?_, by simp only [List.length_cons, List.length_nil, List.nil_append]; omega⟩)
        all_goals first
          | exact strs_of (ns_empty (by assumption)) .nil
          | exact strs_of (ns_dot (by assumption)) .nil
          | exact strs_of (ns_name (by assumption) (by assumption) (by assumption)) (.cons _ _ .nil)
          | exact strs_of (ns_up0 (by assumption) (by assumption) (by assumption) (by assumption)) (.cons _ _ .nil)
          | exact strs_of (ns_up1 (by assumption) (by assumption) (by assumption) (by assumption)) .nil
      · rw [List.concat_eq_append] at hS hlen N₁
        obtain ⟨as, zc, tz, rfl, rfl, hS⟩ := strs_snoc hS
        simp only [List.length_append, List.length_cons, List.length_nil] at hlen
        k_steps
        all_goals (
          refine hqn _ _ (turn_end (by assumption) (by assumption) (by simp only [GnNe, and_true]; omega) ?_)
          refine ⟨_, _, _, map_once rfl, rfl, ?_, by (try simp only [List.length_append, List.length_cons, List.length_nil]); omega⟩)
        all_goals first
          | exact strs_of (ns_empty (by assumption)) (by assumption)
          | exact strs_of (ns_dot (by assumption)) (by assumption)
          | exact strs_of (ns_name (by assumption) (by assumption) (by assumption)) (strs_add (by assumption))
          | exact strs_of (ns_upup (by assumption) (by assumption) (by assumption) (by assumption)) (strs_add (by assumption))
          | exact strs_of (ns_pop (by assumption) (by assumption) (by assumption) (by assumption)) (by assumption)
          | exact no_empty_snoc (by assumption)
    · rintro m₁ news₁ h tk ⟨u, vs, n', rfl, rfl, hS, hlen⟩ F₁ N₁
      rw [List.take_of_length_le (by simp [strValues])] at hS
      subst hM
      have hw := normFold_weigh ini (l.map (·.1)) []
      simp only [weigh, List.map_nil, List.sum_nil, List.length_nil, Nat.zero_add] at hw
      rw [e9] at hS hw hsum
      generalize hacc : (Txt.split rest (PySem.Str.ofString "/")).foldl (normStep ini) [] = acc at hS hw
      have hw' : (acc.map (·.length)).sum + acc.length ≤ 100001 := by omega
      clear kF kN kF' hcs hw hsum e9
      dsimp only
      k_steps
      · rw [normOf_text hx0 esp hacc (by assumption) (by assumption)] at hR
        exact hR _ _ _ (Fr.keep (by assumption))
      · rw [normOf_dot hx0 esp hacc (by assumption) (by assumption)] at hR
        exact hR _ _ _ (Fr.keep (by assumption))
  · rw [normOf_empty (by assumption)] at hR
    exact hR _ _ _ (Fr.keep (by assumption))
end
section
section
variable {M : Model} {A : Around} {R : GenEnd} {Y : Protocol} {n : Nat} {s₀ : Shared} {c : Code} {fs : List Frame} {s : Shared} {env : Env} {α β : Type}
  {K : Flow → Sem Fin} {H : Value → Sem Fin} {gd : Bool → Bool} {lv : List Value → List Value}

/-- a bind within a wrap: the head is a plain tree -/
theorem seg_bindW {m : Sem α} {f : α → Sem β} {K : β → Sem Fin} (h : wpAny M (A.over c fs) m (fun a s' => Seg M A R Y n s₀ c ((f a).wrap K H gd lv) fs s') nope s) :
    Seg M A R Y n s₀ c ((m >>= f).wrap K H gd lv) fs s := by
  rw [Sem.bind_eq_wrap', Sem.wrap_wrap]
  exact seg_wrap (wpAny_mono h (fun _ _ x => x) fun _ _ x => x.elim)
theorem seg_one {m : Sem α} {K : α → Sem Fin} (h : wpAny M (A.over c fs) m (fun a s' => Seg M A R Y n s₀ c (K a) fs s') nope s) :
    Seg M A R Y n s₀ c (m.wrap K H gd lv) fs s := seg_wrap (wpAny_mono h (fun _ _ x => x) fun _ _ x => x.elim)

/-- a statement that does not yield, ahead of others -/
theorem seg_plain {st : Stmt} {rest : List Stmt} (h : wpAny M (A.over c fs) (exec st env) (fun f s' => f = .next ∧ Seg M A R Y n s₀ c ((execs rest env).wrap K H gd lv) fs s') nope s) :
    Seg M A R Y n s₀ c ((execs (st :: rest) env).wrap K H gd lv) fs s := by
  refine seg_execs_cons (seg_one (wpAny_mono h (fun f s' x => ?_) fun _ _ x => x))
  obtain ⟨rfl, x⟩ := x
  exact x

theorem seg_If {test : Expr} {body orelse : List Stmt} {pos : Pos}
    (h : wpAny M (A.over c fs) (isTrue test env (eval test env)) (fun b s' => Seg M A R Y n s₀ c ((if b = true then execs body env else execs orelse env).wrap K H gd lv) fs s') nope s) :
    Seg M A R Y n s₀ c ((exec (.If test body orelse pos) env).wrap K H gd lv) fs s := by
  rw [exec_If]
  refine seg_bindW (wpAny_standAt ?_)
  exact seg_bindW h

def forFrame (K : Flow → Sem Fin) (H : Value → Sem Fin) (gd : Bool → Bool) (lv : List Value → List Value) (env : Env) (c : Code) (p : Pos) : Frame :=
  .ret (fun r => ((match r with | .ok f => (.pure f : Sem Flow) | .error e => .raise e).onRaise fun (x : Value) => do
        if (← field x 1) == Value.none then unsupported "frame.own-activation:exception-without-traceback"
        setFlight x env.frame).wrap K H gd lv) none (gd false) (lv []) c p []

theorem seg_For {target iter : Expr} {body : List Stmt} {pos : Pos}
    (h : wpAny M (A.over c fs) (eval iter env) (fun x s₁ => wpAny M (A.over c fs) (pyIter x) (fun it s₂ =>
      ∀ p, Seg M A R Y n s₀ (.forLoop target it body [] env) (M.den (.forLoop target it body [] env)) (forFrame K H gd lv env c p :: fs) s₂) nope s₁) nope s)
    (hs : ∀ x, foldedSetIterable iter env x = pure x := by intro _; rfl) :
    Seg M A R Y n s₀ c ((exec (.For target iter body [] pos) env).wrap K H gd lv) fs s := by
  rw [exec_For]
  refine seg_bindW (wpAny_standAt ?_)
  refine seg_bindW (wpAny_mono h (fun x s₁ h₁ => ?_) fun _ _ x => x)
  refine seg_bindW (wpAny_of_eq (hs x) ?_)
  refine seg_bindW (wpAny_standAt ?_)
  refine seg_bindW (wpAny_holding (wpAny_mono h₁ (fun it s₂ h₂ => ?_) fun _ _ x => x))
  exact seg_call h₂
end

section
variable {w : World} {A : Around} {R : GenEnd} {Y : Protocol} {n : Nat} {s₀ : Shared} {fs : List Frame} {s : Shared} {env : Env}

theorem seg_forLoop {target : Expr} {it : Value} {body : List Stmt}
    (h : wpAny (model pw w) (A.over (.forLoop target it body [] env) fs) (pyNext it) (fun r s₁ => match r with
      | none => Seg (model pw w) A R Y n s₀ (.block [] env) (.pure (.done .next)) fs s₁
      | some v => wpAny (model pw w) (A.over (.forLoop target it body [] env) fs) (letOwnedTupleGo target it v) (fun _ s₁' =>
          wpAny (model pw w) (A.over (.forLoop target it body [] env) fs) (assign target env v) (fun _ s₂ =>
            Seg (model pw w) A R Y n s₀ (.forLoop target it body [] env) ((execs body env).wrap (fun f => match f with
              | .next | .cont => .pure (.again (.forLoop target it body [] env))
              | .brk => .pure (.done .next)
              | .ret v => .pure (.done (.ret v))) (fun e => (do noteFrame e env; theTreesLotGoes e : Sem Unit).wrap (fun _ => .raise e) .raise id id) id id) fs s₂) nope s₁') nope s₁) nope s) :
    Seg (model pw w) A R Y n s₀ (.forLoop target it body [] env) ((model pw w).den (.forLoop target it body [] env)) fs s := by
  show Seg _ A R Y n s₀ _ ((forTurn target it body [] env).onRaise (fun x => do noteFrame x env; theTreesLotGoes x)) fs s
  unfold forTurn
  rw [Sem.onRaise_eq_wrap]
  refine seg_bindW (wpAny_standAt ?_)
  refine seg_bindW (wpAny_onRaise (wpAny_mono h (fun r s₁ h₁ => ?_) fun _ _ x => x.elim))
  cases r with
  | none =>
    show Seg _ A R Y n s₀ _ (.pure (.again (.block [] env))) fs s₁
    refine seg_again rfl ?_
    exact h₁
  | some v =>
    refine seg_bindW (wpAny_mono h₁ (fun _ s₁' h₁' => ?_) fun _ _ x => x)
    refine seg_bindW (wpAny_mono h₁' (fun _ s₂ h₂ => ?_) fun _ _ x => x)
    rw [Sem.bind_eq_wrap', Sem.wrap_wrap]
    rw [Sem.wrap_congr (execs body env) _ _ (K' := fun f => match f with
              | .next | .cont => .pure (.again (.forLoop target it body [] env))
              | .brk => .pure (.done .next)
              | .ret v => .pure (.done (.ret v))) (H' := (fun e => (do noteFrame e env; theTreesLotGoes e : Sem Unit).wrap (fun _ => .raise e) .raise id id))
        (fun f => by cases f <;> rfl)
        (fun e => by first | exact Sem.bind_eq_wrap _ _ | (show (do noteFrame e env; theTreesLotGoes e : Sem Unit).bind (fun _ => .raise e) = _; rw [Sem.bind_eq_wrap]))]
    exact h₂

/-- the loop by an invariant -/
theorem seg_for_inv {target : Expr} {it : Value} {body : List Stmt} (I : Nat → Nat → Shared → Shared → Prop)
    (turn : ∀ μ n s₀ s, I μ n s₀ s → (∀ μ' n' s₀' s', μ' < μ → I μ' n' s₀' s' → Seg (model pw w) A R Y n' s₀' (.forLoop target it body [] env) ((model pw w).den (.forLoop target it body [] env)) fs s') →
      wpAny (model pw w) (A.over (.forLoop target it body [] env) fs) (pyNext it) (fun r s₁ => match r with
      | none => Seg (model pw w) A R Y n s₀ (.block [] env) (.pure (.done .next)) fs s₁
      | some v => wpAny (model pw w) (A.over (.forLoop target it body [] env) fs) (letOwnedTupleGo target it v) (fun _ s₁' =>
          wpAny (model pw w) (A.over (.forLoop target it body [] env) fs) (assign target env v) (fun _ s₂ =>
            Seg (model pw w) A R Y n s₀ (.forLoop target it body [] env) ((execs body env).wrap (fun f => match f with
              | .next | .cont => .pure (.again (.forLoop target it body [] env))
              | .brk => .pure (.done .next)
              | .ret v => .pure (.done (.ret v))) (fun e => (do noteFrame e env; theTreesLotGoes e : Sem Unit).wrap (fun _ => .raise e) .raise id id) id id) fs s₂) nope s₁') nope s₁) nope s) :
    ∀ μ n s₀ s, I μ n s₀ s → Seg (model pw w) A R Y n s₀ (.forLoop target it body [] env) ((model pw w).den (.forLoop target it body [] env)) fs s := by
  intro μ
  induction μ using Nat.strongRecOn with
  | _ μ ih => exact fun n s₀ s hI => seg_forLoop (turn μ n s₀ s hI fun μ' n' s₀' s' hlt hI' => ih μ' hlt n' s₀' s' hI')

/-- the loop is over: back to the frame below -/
theorem seg_forEnd {K : Flow → Sem Fin} {H : Value → Sem Fin} {gd : Bool → Bool} {lv : List Value → List Value} {c c' : Code} {p : Pos}
    (h : Seg (model pw w) A R Y n s₀ c (K .next) fs s) : Seg (model pw w) A R Y n s₀ c' (.pure (.done .next)) (forFrame K H gd lv env c p :: fs) s :=
  seg_leaf (.ok .next) h
end
end
example : True ∧ True := by
  w_top off
  walk1 <;> trivial
section
/-- what _iter_escaped_chars gives from place k on -/
def escItems : Nat → Bool → List Nat → List (Int × PySem.Str)
  | k, e, [] => if e = true then [((k : Int) - 1, PySem.Str.ofString "\\")] else []
  | k, e, c :: r => if e = true then ((k : Int), PySem.Str.ofString "\\" ++ ⟨#[c]⟩) :: escItems (k + 1) false r
      else if ((⟨#[c]⟩ : PySem.Str) == PySem.Str.ofString "\\") = true then escItems (k + 1) true r else ((k : Int), ⟨#[c]⟩) :: escItems (k + 1) false r

def EscRel (L G : Addr) (oG : Obj) (s₀ s : Shared) : Prop := ∃ h tk, s = { s₀ with heap := h, toks := tk } ∧ (∀ b o, b < L → s₀.heap.get? b = some o → h.get? b = some o) ∧ h.get? G = some oG
def EscR (L G : Addr) (oG : Obj) : GenEnd := fun n s₀ r s₁ => r = .ok (.ret .none) ∧ (n = 0 ∧ EscRel L G oG s₀ s₁)
def EscY (h₀ : Heap) (L G : Addr) (oG : Obj) (full : List (Int × PySem.Str)) : Protocol := fun n s₀ v s₁ kap =>
  ∃ T k t tk tt oL e oe it oi, v = .ref T ∧ n < full.length ∧ full[full.length - (n + 1)]? = some (k, t) ∧ s₁.heap.get? T = some { cls := .type "tuple", data := .seq #[.int k tk, .str t tt] } ∧ EscRel L G oG s₀ s₁ ∧ (L ≤ e ∧ L ≤ it) ∧
    (s₁.heap.get? L = some oL ∧ s₁.heap.get? e = some oe ∧ s₁.heap.get? it = some oi) ∧
    ∀ s'' : Shared, (s''.heap.get? G = some oG ∧ s''.heap.get? L = some oL ∧ s''.heap.get? e = some oe ∧ s''.heap.get? it = some oi) → Kp h₀ s''.heap → kap (.send .none) s''

theorem cut_ex (h : Heap) (L : Addr) : ∃ B : Heap, B.objs.size ≤ L ∧ ∀ b, B.get? b = if b < L then h.get? b else none := by
  refine ⟨{ h with objs := h.objs.extract 0 L }, by simp only [Array.size_extract, Nat.sub_zero]; exact Nat.min_le_left _ _, fun b => ?_⟩
  unfold Heap.get?
  by_cases hb : b < L
  · rw [if_pos hb]
    have : (h.objs.extract 0 L)[b]? = h.objs[b]? := by
      by_cases hs : b < h.objs.size
      · rw [Array.getElem?_eq_getElem (by simp only [Array.size_extract, Nat.sub_zero]; exact Nat.lt_min.mpr ⟨hb, hs⟩), Array.getElem?_eq_getElem hs]; simp
      · rw [Array.getElem?_eq_none (by simp only [Array.size_extract, Nat.sub_zero]; exact Nat.le_trans (Nat.min_le_right _ _) (Nat.not_lt.mp hs)), Array.getElem?_eq_none (Nat.not_lt.mp hs)]
    simp only [this]
  · rw [if_neg hb]
    have : (h.objs.extract 0 L)[b]? = none := Array.getElem?_eq_none (by simp only [Array.size_extract, Nat.sub_zero]; exact Nat.le_trans (Nat.min_le_left _ _) (Nat.not_lt.mp hb))
    simp only [this]

section
variable {w : World} {A : Around} {s : Shared} {env : Env} {E : Value → Shared → Prop}
/-- unpacking a pair into two local names -/
theorem assign_two {a b : PySem.Str} {pa pb pt : Pos} {k : Nat} {T : Addr} {u v : Value} {Q : Unit → Shared → Prop} {h₀ : Heap} {m : PySem.Str → Option Value} {news : List (Addr × Obj)} (hh : A.handled = none)
    (ha : env.kindOf a = some .local) (hb : env.kindOf b = some .local) (hp : (env.scope.kind == .class || (env.scope.kind == .module && env.locals != env.globals)) = false)
    (F : Fr h₀ env.locals s.heap m) (N : News h₀ env.locals s.heap news) (ht : s.heap.IsTuple T #[u, v])
    (h : ∀ h' tk, Fr h₀ env.locals h' (fun y => if y = b then some v else if y = a then some u else m y) → News h₀ env.locals h' news → Q () { s with heap := h', toks := tk }) :
    wpAny (model pw w) A (assign (.Tuple [.Name a pa, .Name b pb] k pt) env (.ref T)) Q E s := by
  refine wpAny_assign_Tuple hh ht rfl rfl fun h₁ he => ?_
  have F₁ : Fr h₀ env.locals h₁ m := F.extBut he (Nat.le_refl _)
  have N₁ : News h₀ env.locals h₁ news := fun p hp => ⟨he _ _ (Nat.ne_of_lt (Heap.lt_size (N p hp).1)) (N p hp).1, (N p hp).2⟩
  refine assignInOrder_cons ?_
  refine wpAny_assign_Name (wpAny_storeName_local ha F₁.ns (fun h₂ hn hs₂ => ?_) hp)
  have F₂ := F₁.set hn hs₂
  refine assignInOrder_cons ?_
  refine wpAny_assign_Name (wpAny_storeName_local hb F₂.ns (fun h₃ hn₃ hs₃ => ?_) hp)
  exact assignInOrder_nil (h _ _ (F₂.set hn₃ hs₃) ((N₁.set hs₂).set hs₃))
end

section
variable {B : Heap} {L G : Addr} {oG : Obj} {s₀ : Shared} {h h₀ : Heap} {m : PySem.Str → Option Value} {news : List (Addr × Obj)}
theorem esc_rel (hB : ∀ b, B.get? b = if b < L then s₀.heap.get? b else none) (F : Fr B L h m) (N : News B L h news) (hm : (G, oG) ∈ news) {tk : Nat} : EscRel L G oG s₀ { s₀ with heap := h, toks := tk } :=
  ⟨h, tk, rfl, fun b o hb e => F.keep b o (by rw [hB, if_pos hb, e]), N.get hm⟩
theorem cut_kp (hB : ∀ b, B.get? b = if b < L then s₀.heap.get? b else none) (k : Kp h₀ s₀.heap) (hsz : h₀.objs.size ≤ L) : Kp h₀ B :=
  fun b o e => by rw [hB, if_pos (Nat.lt_of_lt_of_le (Heap.lt_size e) hsz), k b o e]
theorem cut_none (hB : ∀ b, B.get? b = if b < L then s₀.heap.get? b else none) {a : Addr} (ha : L ≤ a) : B.get? a = none := by rw [hB, if_neg (Nat.not_lt.mpr ha)]
end

theorem str_draws {w : World} {A : Around} (hh : A.handled = none) (it : Addr) (x : PySem.Str) (t : Tok) :
    Draws pw w A it [it] x.cps.size (fun i v => ∃ c u, x.cps[i]? = some c ∧ v = .str ⟨#[c]⟩ u) (fun i h => h.IsStrIter it (strIterType x) x t i) := by
  unfold strIterType
  split
  · exact Draws.strAscii hh it x t
  · exact Draws.strWide hh it x t

/-- the generator at rest -/
def Rest (w : World) (A : Around) (h₀ : Heap) (L G : Addr) (oG : Obj) (full : List (Int × PySem.Str)) (n : Nat) (gs : GenState) (oL : Obj) (e : Addr) (oe : Obj) (it : Addr) (oi : Obj) : Prop :=
  n ≤ full.length ∧ L ≤ e ∧ L ≤ it ∧ ∀ s : Shared, (s.heap.get? G = some oG ∧ s.heap.get? L = some oL ∧ s.heap.get? e = some oe ∧ s.heap.get? it = some oi) → Kp h₀ s.heap →
    gs.Goes (model pw w) A (EscR L G oG) (EscY h₀ L G oG full) n (.send .none) s

theorem enterG {w : World} {A : Around} {s : Shared} {K : Frag} {p : Program} {loose : List PySem.Str} {mg mb : PySem.Str → Option Value} {R : Result → Shared → Prop}
    {name qual : PySem.Str} {params : Arguments} {body : List Stmt} {scope : Scope} {dV kV doc pm cdv ct oc : Value} {an od : Option Addr} {osl : Array (Option Value)} {f : Addr} {args : Args} (binds : List (PySem.Str × Value)) {n : Nat}
    (X : K.In s.heap) (T : TopRead p loose mg mb s.heap) (hroom : Room A (n + 1))
    (ho : K.lookup f = some ⟨oc, od, .func (fnOf name qual params body scope dV kV doc pm an cdv ct), osl⟩) (hcd : codeIn K cdv qual = true)
    (hbind : bindArgs (fnOf name qual params body scope dV kV doc pm an cdv ct) args = pure binds) (hloc : ∀ y ∈ binds, scope.names.lookup y.1 = some .local)
    (hcell : ∀ x ∈ scope.names, x.2 ≠ .cell) (hco : scope.isCoroutine = false) (hgen : scope.isGenerator = true) (hk : scope.kind = .function)
    (h : ∀ L h₁ oG, Fr s.heap L h₁ (fun y => binds.reverse.lookup y) → L < h₁.objs.size → (h₁.push oG).IsGen h₁.objs.size s.gens.size → (h₁.push oG).get? h₁.objs.size = some oG →
        R (.ok (.ret (.ref h₁.objs.size))) { s with heap := h₁.push oG, toks := s.toks + binds.length + 1 + 1, gens := s.gens.push (.fresh (.func body (envOf qual scope L f cdv))) }) :
    codeAny (model pw w) A (.call (.ref f) args) R s := by
  refine codeAny_call_generator (fd := fnOf name qual params body scope dV kV doc pm an cdv ct) (body := body) hroom.deep (X _ _ ho) rfl hco hgen rfl (codeRec_of X hcd) ?_
  refine (BindsTo.of_eq hbind) _ _ _ _ ?_
  refine wpAny_newFunctionEnv hcell hloc (fun h₁ hns hsb => ⟨T.nolimit.fresh _ hsb, ?_⟩) hk
  refine h s.heap.objs.size h₁ _ ⟨hns, fun b o e => hsb.extBut b o (Nat.ne_of_lt (Heap.lt_size e)) (Heap.get?_push_of_some _ e), Nat.le_refl _⟩ ?_ ?_ ?_
  · exact hns.lt
  · exact ⟨_, _, _, Heap.get?_push_size _ rfl, rfl, rfl, rfl⟩
  · exact Heap.get?_push_size _ rfl

def escMap (x : PySem.Str) (t : Tok) (u : Option Value) (pv : Int) (ptk : Tok) (esc : Bool) : PySem.Str → Option Value :=
  fun y => if y = PySem.Str.ofString "ch" then u else if y = PySem.Str.ofString "pos" then some (.int pv ptk) else if y = PySem.Str.ofString "escape" then some (.bool esc) else List.lookup y [(PySem.Str.ofString "addr", Value.str x t)].reverse
theorem esc_ch : ¬ PySem.Str.ofString "escape" = PySem.Str.ofString "ch" := by decide +kernel
theorem esc_pos : ¬ PySem.Str.ofString "escape" = PySem.Str.ofString "pos" := by decide +kernel
theorem pos_ch : ¬ PySem.Str.ofString "pos" = PySem.Str.ofString "ch" := by decide +kernel
theorem esc_map0 {x : PySem.Str} {t : Tok} {pv : Int} {ptk : Tok} {esc : Bool} :
    (fun y => if y = PySem.Str.ofString "escape" then some (Value.bool esc) else if y = PySem.Str.ofString "pos" then some (.int pv ptk) else List.lookup y [(PySem.Str.ofString "addr", Value.str x t)].reverse)
      = escMap x t (List.lookup (PySem.Str.ofString "ch") [(PySem.Str.ofString "addr", Value.str x t)].reverse) pv ptk esc := by
  funext y
  unfold escMap
  by_cases h1 : y = PySem.Str.ofString "escape"
  · subst h1; simp only [if_true, if_neg esc_ch, if_neg esc_pos]
  · by_cases h2 : y = PySem.Str.ofString "ch"
    · subst h2; simp only [if_true, if_neg (Ne.symm esc_ch), if_neg (Ne.symm pos_ch)]
    · simp only [if_neg h1, if_neg h2]
theorem esc_map1 {x : PySem.Str} {t : Tok} {u : Option Value} {pv : Int} {ptk : Tok} {esc : Bool} {a : Value} {b : Int} {tb : Tok} :
    (fun y => if y = PySem.Str.ofString "ch" then some a else if y = PySem.Str.ofString "pos" then some (.int b tb) else escMap x t u pv ptk esc y) = escMap x t (some a) b tb esc := by
  funext y
  unfold escMap
  by_cases h1 : y = PySem.Str.ofString "ch"
  · simp only [if_pos h1]
  · by_cases h2 : y = PySem.Str.ofString "pos"
    · simp only [if_neg h1, if_pos h2]
    · simp only [if_neg h1, if_neg h2]
theorem esc_map2 {x : PySem.Str} {t : Tok} {u : Option Value} {pv : Int} {ptk : Tok} {esc e2 : Bool} :
    (fun y => if y = PySem.Str.ofString "escape" then some (Value.bool e2) else escMap x t u pv ptk esc y) = escMap x t u pv ptk e2 := by
  funext y
  unfold escMap
  by_cases h1 : y = PySem.Str.ofString "escape"
  · subst h1; simp only [if_true, if_neg esc_ch, if_neg esc_pos]
  · simp only [if_neg h1]
def EscInv (x : PySem.Str) (t : Tok) (L G : Addr) (oG : Obj) (h₀ : Heap) (it : Addr) : Nat → Nat → Shared → Shared → Prop := fun μ n s₀ s => ∃ k esc u old pv ptk, μ = x.cps.size + 1 - k ∧ k ≤ x.cps.size ∧ n = (escItems k esc (x.cps.toList.drop k)).length ∧ n ≤ (escItems 0 false x.cps.toList).length ∧
    (escItems 0 false x.cps.toList).drop ((escItems 0 false x.cps.toList).length - n) = escItems k esc (x.cps.toList.drop k) ∧ IsEnum s.heap (it + 1) it k old ∧ s.heap.IsStrIter it (strIterType x) x t k ∧
    EscRel L G oG s₀ s ∧ Kp h₀ s₀.heap ∧ s.heap.Ns L (escMap x t u pv ptk esc) ∧ (esc = true → pv = (k : Int) - 1)

theorem esc_yield {w : World} {mg mb : PySem.Str → Option Value} {B h h₀ : Heap} {L G it T : Addr} {oG oe oi : Obj} {m : PySem.Str → Option Value} {s₀ : Shared} {full : List (Int × PySem.Str)} {n : Nat} {k : Int} {tk : Tok} {t : PySem.Str} {tt : Tok} {kap : Resume → Shared → Prop} {tks : Nat}
    (X₀ : (Mine.K w.params).In h₀) (T₀ : TopRead vw lz mg mb h₀) (hsz : h₀.objs.size ≤ L) (hB : ∀ b, B.get? b = if b < L then s₀.heap.get? b else none)
    (F : Fr B L h m) (N : News B L h [(T, { cls := .type "tuple", data := .seq #[.int k tk, .str t tt] }), (G, oG), (it + 1, oe), (it, oi)])
    (hn : n < full.length) (hi : full[full.length - (n + 1)]? = some (k, t)) (hGL : L < G) (heL : L < it)
    (hk : ∀ s'' B2, Kp h₀ s''.heap → (∀ b, B2.get? b = if b < L then s''.heap.get? b else none) → (Mine.K w.params).In B2 → TopRead vw lz mg mb B2 → Fr B2 L s''.heap m → News B2 L s''.heap [(G, oG), (it + 1, oe), (it, oi)] → kap (.send .none) s'') :
    EscY h₀ L G oG full n s₀ (.ref T) { s₀ with heap := h, toks := tks } kap := by
  obtain ⟨oL, p1, p2, hoL, p3⟩ := id F.ns
  refine ⟨T, k, t, tk, tt, oL, it + 1, oe, it, oi, rfl, hn, hi, N.get (.head _), esc_rel hB F N (.tail _ (.head _)), ⟨Nat.le_of_lt (Nat.lt_succ_of_lt heL), Nat.le_of_lt heL⟩, ⟨hoL, N.get (.tail _ (.tail _ (.head _))), N.get (.tail _ (.tail _ (.tail _ (.head _))))⟩, fun s'' hs hk' => ?_⟩
  obtain ⟨h1, h2, h3, h4⟩ := hs
  obtain ⟨B2, hBs, hB2⟩ := cut_ex s''.heap L
  have kB := cut_kp hB2 hk' hsz
  refine hk s'' B2 hk' hB2 (X₀.keeps kB) (T₀.keeps kB) ⟨⟨oL, p1, p2, h2, p3⟩, fun b o e => ?_, hBs⟩ ?_
  · rw [hB2] at e; split at e
    · exact e
    · cases e
  · intro q hq
    rcases List.mem_cons.mp hq with rfl | hq
    · exact ⟨h1, Nat.ne_of_gt hGL, cut_none hB2 (Nat.le_of_lt hGL)⟩
    rcases List.mem_cons.mp hq with rfl | hq
    · exact ⟨h3, Nat.ne_of_gt (Nat.lt_succ_of_lt heL), cut_none hB2 (Nat.le_of_lt (Nat.lt_succ_of_lt heL))⟩
    rcases List.mem_cons.mp hq with rfl | hq
    · exact ⟨h4, Nat.ne_of_gt heL, cut_none hB2 (Nat.le_of_lt heL)⟩
    cases hq

theorem esc_yield0 {w : World} {mg mb : PySem.Str → Option Value} {B h h₀ : Heap} {L G T : Addr} {oG : Obj} {m : PySem.Str → Option Value} {s₀ : Shared} {full : List (Int × PySem.Str)} {n : Nat} {k : Int} {tk : Tok} {t : PySem.Str} {tt : Tok} {kap : Resume → Shared → Prop} {tks : Nat}
    (X₀ : (Mine.K w.params).In h₀) (T₀ : TopRead vw lz mg mb h₀) (hsz : h₀.objs.size ≤ L) (hB : ∀ b, B.get? b = if b < L then s₀.heap.get? b else none)
    (F : Fr B L h m) (N : News B L h [(T, { cls := .type "tuple", data := .seq #[.int k tk, .str t tt] }), (G, oG)])
    (hn : n < full.length) (hi : full[full.length - (n + 1)]? = some (k, t)) (hGL : L < G)
    (hk : ∀ s'' B2, Kp h₀ s''.heap → (∀ b, B2.get? b = if b < L then s''.heap.get? b else none) → (Mine.K w.params).In B2 → TopRead vw lz mg mb B2 → Fr B2 L s''.heap m → News B2 L s''.heap [(G, oG)] → kap (.send .none) s'') :
    EscY h₀ L G oG full n s₀ (.ref T) { s₀ with heap := h, toks := tks } kap := by
  obtain ⟨oL, p1, p2, hoL, p3⟩ := id F.ns
  refine ⟨T, k, t, tk, tt, oL, L, oL, L, oL, rfl, hn, hi, N.get (.head _), esc_rel hB F N (.tail _ (.head _)), ⟨Nat.le_refl _, Nat.le_refl _⟩, ⟨hoL, hoL, hoL⟩, fun s'' hs hk' => ?_⟩
  obtain ⟨h1, h2, h3, h4⟩ := hs
  obtain ⟨B2, hBs, hB2⟩ := cut_ex s''.heap L
  have kB := cut_kp hB2 hk' hsz
  refine hk s'' B2 hk' hB2 (X₀.keeps kB) (T₀.keeps kB) ⟨⟨oL, p1, p2, h2, p3⟩, fun b o e => ?_, hBs⟩ ?_
  · rw [hB2] at e; split at e
    · exact e
    · cases e
  · intro q hq
    rcases List.mem_cons.mp hq with rfl | hq
    · exact ⟨h1, Nat.ne_of_gt hGL, cut_none hB2 (Nat.le_of_lt hGL)⟩
    cases hq

theorem drop_item {α : Type} {full rest : List α} {n : Nat} {y : α} (hn : n ≤ full.length) (h : full.drop (full.length - n) = y :: rest) (hl : n = rest.length + 1) :
    rest.length < full.length ∧ full[full.length - (rest.length + 1)]? = some y ∧ full.drop (full.length - rest.length) = rest := by
  subst hl
  refine ⟨by omega, ?_, ?_⟩
  · rw [← List.head?_drop, h]; rfl
  · have : full.length - rest.length = (full.length - (rest.length + 1)) + 1 := by omega
    rw [this, ← List.drop_drop, h]; rfl

theorem esc_ns {h : Heap} {L : Addr} {x : PySem.Str} {t : Tok} {u : Option Value} {pv : Int} {ptk : Tok} {esc e2 : Bool}
    (n : h.Ns L (fun y => if y = PySem.Str.ofString "escape" then some (Value.bool e2) else if y = PySem.Str.ofString "ch" then u else if y = PySem.Str.ofString "pos" then some (.int pv ptk) else if y = PySem.Str.ofString "escape" then some (.bool esc) else List.lookup y [(PySem.Str.ofString "addr", Value.str x t)].reverse)) :
    h.Ns L (escMap x t u pv ptk e2) := by
  rw [← esc_map2 (esc := esc)]
  exact n
theorem esc_inv {h h₀ B : Heap} {L G it : Addr} {oG oi : Obj} {x : PySem.Str} {t : Tok} {u : Option Value} {pv : Int} {ptk : Tok} {esc : Bool} {k : Nat} {old : Value} {s₀ : Shared} {tk : Nat} {news : List (Addr × Obj)} {m : PySem.Str → Option Value} {rest : List (Int × PySem.Str)}
    (hlt : k < x.cps.size) (hr : escItems (k + 1) esc (x.cps.toList.drop (k + 1)) = rest) (hn1 : rest.length ≤ (escItems 0 false x.cps.toList).length) (hd : (escItems 0 false x.cps.toList).drop ((escItems 0 false x.cps.toList).length - rest.length) = rest)
    (hB : ∀ b, B.get? b = if b < L then s₀.heap.get? b else none) (hk : Kp h₀ s₀.heap) (F : Fr B L h m) (hm : h.Ns L (escMap x t u pv ptk esc))
    (N : News B L h ((G, oG) :: (it + 1, { cls := .type "enumerate", dict := none, data := .fields #[.none, .bool false, .ref it, rawInt ((k + 1 : Nat) : Int), .none, old], slots := #[] }) :: (it, oi) :: news))
    (hoi1 : oi.cls = .type (strIterType x)) (hoi2 : oi.data = .fields #[.str x t, .int ((k + 1 : Nat) : Int) 0]) (hp : esc = true → pv = ((k + 1 : Nat) : Int) - 1) :
    EscInv x t L G oG h₀ it (x.cps.size + 1 - (k + 1)) rest.length s₀ { s₀ with heap := h, toks := tk } := by
  subst hr
  exact ⟨k + 1, esc, u, old, pv, ptk, rfl, hlt, rfl, hn1, hd, N.get (.tail _ (.head _)), ⟨oi, N.get (.tail _ (.tail _ (.head _))), hoi1, hoi2⟩, esc_rel hB F N (.head _), hk, hm, hp⟩

local macro_rules | `(tactic| walk_at "call type:enumerate") => `(tactic| refine stop_of ?_)
theorem iter_spec {w : World} {A : Around} {s : Shared} {mg mb : PySem.Str → Option Value} {x : PySem.Str} {t : Tok} {R : Result → Shared → Prop}
    (X : (Mine.K w.params).In s.heap) (T : TopRead vw lz mg mb s.heap) (hA : Room A 2) (hx : x.length ≤ 100000)
    (hR : ∀ h' tk G Lg oG oL gs, Kp s.heap h' → Made s.heap h' [(G, oG), (Lg, oL)] → h'.IsGen G s.gens.size → Lg < G → s.heap.objs.size ≤ Lg → gs.bare = true →
      (∀ A' h₀ mg' mb', A'.handled = none → h₀.objs.size ≤ s.heap.objs.size → (Mine.K w.params).In h₀ → TopRead vw lz mg' mb' h₀ → Rest w A' h₀ Lg G oG (escItems 0 false x.cps.toList) (escItems 0 false x.cps.toList).length gs oL Lg oL Lg oL) →
      R (.ok (.ret (.ref G))) { s with heap := h', toks := tk, gens := s.gens.push gs }) :
    codeAny (model pw w) A (.call (.ref 132) ⟨[.str x t], []⟩) R s := by
  obtain ⟨hd9, d9, fr9, gu9, u9⟩ := A
  obtain rfl : hd9 = none := hA.h
  refine' enterG [(PySem.Str.ofString "addr", .str x t)] ?k1 ?k2 ?k3 ?k4 ?k5 ?k6 ?k7 ?k8 ?k9 ?k10 ?k11 ?_
  walk_at "m.enter"
  intro L h₁ oG F hL hG hGo
  have hLs : s.heap.objs.size ≤ L := F.above
  obtain ⟨oL, _, _, hoL, _⟩ := id F.ns
  refine hR _ _ _ L oG oL _ (fun b o e => Heap.get?_push_of_some _ (F.keep b o e)) ?_ hG hL hLs rfl ?_
  · intro p hp
    have none_of : ∀ a, s.heap.objs.size ≤ a → s.heap.get? a = none := fun a ha => by
      cases e : s.heap.get? a with
      | none => rfl
      | some o => exact absurd (Heap.lt_size e) (Nat.not_lt.mpr ha)
    rcases List.mem_cons.mp hp with rfl | hp
    · exact ⟨hGo, none_of _ (Nat.le_trans hLs (Nat.le_of_lt hL))⟩
    · rcases List.mem_cons.mp hp with rfl | hp
      · exact ⟨Heap.get?_push_of_some _ hoL, none_of _ hLs⟩
      · cases hp
  intro A' h₀ mg' mb' hA' hsz X₀ T₀
  refine ⟨Nat.le_refl _, Nat.le_refl _, Nat.le_refl _, fun s' hs' hk' => ?_⟩
  obtain ⟨hsG, hsL, _, _⟩ := hs'
  obtain ⟨hd8, d8, fr8, gu8, u8⟩ := A'
  obtain rfl : hd8 = none := hA'
  obtain ⟨B, hBs, hB⟩ := cut_ex s'.heap L
  have kB : Kp h₀ B := cut_kp hB hk' (Nat.le_trans hsz hLs)
  have X' := X₀.keeps kB
  have T' := T₀.keeps kB
  have F' : Fr B L s'.heap (fun y => List.lookup y [(PySem.Str.ofString "addr", Value.str x t)].reverse) :=
    ⟨(F.ns.push oG).at' fun o e => (by rw [hsL]; rw [Heap.get?_push_of_some _ hoL] at e; exact e), fun b o e => (by rw [hB] at e; split at e; exact e; cases e), hBs⟩
  have hGL : L < h₁.objs.size := hL
  generalize h₁.objs.size = G at *
  have N' : News B L s'.heap [(G, oG)] := fun p hp => by
    rcases List.mem_cons.mp hp with rfl | hp
    · exact ⟨hsG, Nat.ne_of_gt hGL, cut_none hB (Nat.le_of_lt hGL)⟩
    · cases hp
  clear F hG hGo hoL hR
  refine ⟨rfl, ?_⟩
  refine seg_func ?_
  refine seg_plain ?_
  k_steps
  refine seg_plain ?_
  k_steps
  refine seg_execs_cons ?_
  refine seg_For ?_ (fun _ => rfl)
  k_steps
  unfold Stop
  refine call_enumerate_str ?_
  intro h₂ hE hI hsz2 hk2
  dsimp only at hE hI hsz2 hk2
  refine wpAny_pyIter_enum hE ?_
  intro p
  rename_i hA1 hB1 hC1 F2 N2
  have heL : L < hC1.objs.size := (let ⟨_, _, _, ho, _⟩ := F2.ns; Heap.lt_size ho)
  have hGn : G < hC1.objs.size := Heap.lt_size (N2.get (.head _))
  have F3 : Fr B L h₂ _ := ⟨(let ⟨oo, p1, p2, ho, p3⟩ := F2.ns; ⟨oo, p1, p2, hk2 _ _ ho, p3⟩), fun b o e => hk2 _ _ (F2.keep b o e), F2.above⟩
  have N3 : News B L h₂ [(G, oG)] := fun q hq => ⟨hk2 _ _ (N2 q hq).1, (N2 q hq).2⟩
  refine seg_for_inv (EscInv x t L G oG h₀ hC1.objs.size) ?turn (x.cps.size + 1) _ _ _ ?base
  case base =>
    refine ⟨0, false, _, .none, 0, _, rfl, Nat.zero_le _, rfl, Nat.le_refl _, ?_, hE, hI, ?_, hk', esc_map0 ▸ F3.ns, fun e => by cases e⟩
    · simp
    · exact esc_rel hB F3 N3 (.head _)
  case turn =>
    have W : ∀ A'' : Around, A''.handled = none → _ := fun A'' hh => WalksT.enumerateD (str_draws (w := w) (A := A''.in1) hh hC1.objs.size x t) (hC1.objs.size + 1) (Nat.succ_ne_self _) (by simp) (by simp)
    generalize hit : hC1.objs.size = it at *
    have heL2 : @LT.lt Nat _ L it := heL
    have hGL2 : @LT.lt Nat _ L G := hGL
    clear F3 N3 F2 N2 hE hI hk2 hsz2 hsG X' T' kB hB hBs
    rintro μ n s₀ s ⟨k, esc, u0, old, pv, ptk, rfl, hk, hn, hnf, hdrop, hEn, hIt, hRel, hK0, hNs, hpv⟩ rec
    obtain ⟨h, tk, rfl, hlow, hGh⟩ := hRel
    obtain ⟨B1, hBs, hB⟩ := cut_ex s₀.heap L
    have kB := cut_kp hB hK0 (Nat.le_trans hsz hLs)
    have X' := X₀.keeps kB
    have T' := T₀.keeps kB
    have Fh : Fr B1 L h (escMap x t u0 pv ptk esc) := ⟨hNs, fun b o e => (by rw [hB] at e; split at e; exact hlow b o (by assumption) e; cases e), hBs⟩
    have ofKeep : ∀ {h' : Heap}, (∀ b o, b ∉ [it + 1, it] → h.get? b = some o → h'.get? b = some o) → Fr B1 L h' (escMap x t u0 pv ptk esc) ∧ h'.get? G = some oG := fun {h'} kp => by
      refine ⟨⟨(let ⟨oo, p1, p2, ho, p3⟩ := Fh.ns; ⟨oo, p1, p2, kp _ _ (by simp; omega) ho, p3⟩), fun b o e => kp b o ?_ (Fh.keep b o e), Fh.above⟩, kp _ _ (by simp; omega) hGh⟩
      have hb : @LT.lt Nat _ b L := Nat.lt_of_lt_of_le (Heap.lt_size e) hBs
      simp; omega
    by_cases hlt : k < x.cps.size
    · refine WalksT.item (W _ ?hh) k _ _ _ hlt ⟨⟨old, hEn⟩, hIt⟩ fun T vals h' tk' hP hTs hT hM hk' => ?_
      case hh => exact rfl
      obtain ⟨tt, v, ⟨c, u, hc, rfl⟩, rfl⟩ := hP
      refine WalksT.go (W _ ?hh) _ _ _ k T _ _ _ hM fun h'' hS hk'' => ?_
      case hh => exact rfl
      have hT'' : h''.IsTuple T _ := (let ⟨o, ho, r⟩ := hT; ⟨o, hk'' _ _ (WalksT.apart (W ⟨none, d8, fr8, gu8, u8⟩ rfl) _ _ _ hM) ho, r⟩)
      obtain ⟨⟨old', hE'⟩, hI'⟩ := hS
      obtain ⟨F4, hG4⟩ := ofKeep (h' := h'') (fun b o hb e => hk'' b o hb (hk' b o hb e))
      obtain ⟨oi, hoi, hoi1, hoi2⟩ := id hI'
      have N4 : News B1 L h'' [(G, oG), (it + 1, { cls := .type "enumerate", dict := none, data := .fields #[.none, .bool false, .ref it, rawInt ((k + 1 : Nat) : Int), .none, old'], slots := #[] }), (it, oi)] := by
        intro q hq
        rcases List.mem_cons.mp hq with rfl | hq
        · exact ⟨hG4, Nat.ne_of_gt hGL, cut_none hB (Nat.le_of_lt hGL)⟩
        rcases List.mem_cons.mp hq with rfl | hq
        · exact ⟨hE', Nat.ne_of_gt (Nat.lt_succ_of_lt heL), cut_none hB (Nat.le_of_lt (Nat.lt_succ_of_lt heL))⟩
        rcases List.mem_cons.mp hq with rfl | hq
        · exact ⟨hoi, Nat.ne_of_gt heL, cut_none hB (Nat.le_of_lt heL)⟩
        cases hq
      refine assign_two rfl rfl rfl rfl F4 N4 hT'' ?_
      intro h5 tk5 F5 N5
      rw [esc_map1] at F5
      have hd : x.cps.toList.drop k = c :: x.cps.toList.drop (k + 1) := by
        obtain ⟨hh, rfl⟩ := Array.getElem?_eq_some_iff.mp hc
        rw [List.drop_eq_getElem_cons (by simpa using hh)]; simp
      rw [hd] at hn hdrop
      clear hIt hEn hT'' hM hk' hk'' hT F4 N4 hNs hlow hGh ofKeep Fh
      refine seg_execs_cons ?_
      refine seg_If ?_
      unfold escMap at F5
      have hszL := Nat.le_trans hsz hLs
      cases esc
      · k_steps
        simp only [Bool.false_eq_true, if_false]
        refine seg_execs_cons ?_
        refine seg_If ?_
        k_steps
        by_cases hb : (({ cps := #[c] } : PySem.Str) == PySem.Str.ofString "\\") = true
        · first | rw [if_pos hb] | simp only [hb, if_true]
          refine seg_plain ?_
          k_steps
          refine seg_execs_nil ?_
          refine seg_execs_nil ?_
          refine seg_again rfl ?_
          simp only [escItems, Bool.false_eq_true, if_false, if_pos hb] at hn hdrop
          subst hn
          exact rec _ _ _ _ (by omega) (esc_inv (pv := k) hlt rfl hnf hdrop hB hK0 (by assumption) (esc_ns (Fr.ns (by assumption))) (by assumption) hoi1 hoi2 (fun _ => by omega))
        · first | rw [if_neg hb] | simp only [hb, if_false]
          refine seg_execs_cons ?_
          simp only [escItems, Bool.false_eq_true, if_false, if_neg hb, List.length_cons] at hn hdrop
          obtain ⟨hn1, hi1, hd1⟩ := drop_item hnf hdrop hn
          subst hn
          refine seg_Expr_Yield rfl rfl rfl ?_
          k_steps
          rename_i kap hkap
          refine esc_yield X₀ T₀ hszL hB (by assumption) (by assumption) hn1 hi1 hGL heL fun s'' B2 hkk hB2 X2 T2 F7 N7 => ?_
          refine hkap .none s'' ?_
          refine seg_execs_nil ?_
          refine seg_execs_nil ?_
          refine seg_execs_nil ?_
          refine seg_again rfl ?_
          exact rec _ _ _ _ (by omega) (esc_inv (pv := k) hlt rfl (Nat.le_of_lt hn1) hd1 hB2 hkk F7 F7.ns N7 hoi1 hoi2 (fun e => by cases e))
      · k_steps
        simp only [if_true]
        refine seg_execs_cons ?_
        simp only [escItems, if_true, List.length_cons] at hn hdrop
        obtain ⟨hn1, hi1, hd1⟩ := drop_item hnf hdrop hn
        subst hn
        refine seg_Expr_Yield rfl rfl rfl ?_
        k_steps
        rename_i kap hkap
        refine esc_yield X₀ T₀ hszL hB (by assumption) (by assumption) hn1 hi1 hGL heL fun s'' B2 hkk hB2 X2 T2 F7 N7 => ?_
        refine hkap .none s'' ?_
        clear hkap
        refine seg_plain ?_
        k_steps
        refine seg_execs_nil ?_
        refine seg_execs_nil ?_
        refine seg_again rfl ?_
        exact rec _ _ _ _ (by omega) (esc_inv (pv := k) hlt rfl (Nat.le_of_lt hn1) hd1 hB2 hkk (by assumption) (esc_ns (Fr.ns (by assumption))) (by assumption) hoi1 hoi2 (fun e => by cases e))
    · obtain rfl : k = x.cps.size := by omega
      refine WalksT.done (W _ ?hh) _ _ _ ⟨⟨old, hEn⟩, hIt⟩ fun h5 tk5 hk5 => ?_
      case hh => exact rfl
      obtain ⟨F4, hG4⟩ := ofKeep (h' := h5) hk5
      have N4 : News B1 L h5 [(G, oG)] := by
        intro q hq
        rcases List.mem_cons.mp hq with rfl | hq
        · exact ⟨hG4, Nat.ne_of_gt hGL, cut_none hB (Nat.le_of_lt hGL)⟩
        cases hq
      have hszL := Nat.le_trans hsz hLs
      clear hIt hEn hk5 hNs hlow hGh ofKeep Fh rec
      refine seg_forEnd ?_
      refine seg_execs_cons ?_
      refine seg_If ?_
      unfold escMap at F4
      have hz : x.cps.toList.drop x.cps.size = [] := List.drop_of_length_le (by simp)
      rw [hz] at hn hdrop
      cases esc
      · k_steps
        simp only [Bool.false_eq_true, if_false]
        refine seg_execs_nil ?_
        refine seg_execs_nil ?_
        simp only [escItems, Bool.false_eq_true, if_false, List.length_nil] at hn
        subst hn
        exact seg_end (.ok (.ret .none)) ⟨rfl, rfl, esc_rel hB (by assumption) (by assumption) (.head _)⟩
      · obtain rfl := hpv rfl
        k_steps
        simp only [if_true]
        refine seg_execs_cons ?_
        simp only [escItems, if_true] at hn hdrop
        obtain ⟨hn1, hi1, hd1⟩ := drop_item hnf hdrop hn
        subst hn
        refine seg_Expr_Yield rfl rfl rfl ?_
        k_steps
        rename_i kap hkap
        refine esc_yield0 X₀ T₀ hszL hB (by assumption) (by assumption) hn1 hi1 hGL fun s'' B2 hkk hB2 X2 T2 F7 N7 => ?_
        refine hkap .none s'' ?_
        refine seg_execs_nil ?_
        refine seg_execs_nil ?_
        exact seg_end (.ok (.ret .none)) ⟨rfl, rfl, esc_rel hB2 F7 N7 (.head _)⟩
end
section
section
variable {w : World} {A : Around} {s : Shared} {env : Env} {E : Value → Shared → Prop}

/-- a generator's next, and at its rest it is bare -/
theorem pyNext_genB {a : Addr} {g n : Nat} {gs : GenState} {P : Nat → Shared → Shared → Prop} {Y : Protocol} {Q : Option Value → Shared → Prop} (hh : A.handled = none)
    (hl : s.heap.NoLimit) (hroom : A.depth < recursionLimit)
    (hg : s.heap.IsGen a g) (hgs : s.gens[g]? = some gs)
    (hgo : gs.Goes (model pw w) A.in1 (fun n s₀ r s₁ => r = .ok (.ret .none) ∧ P n s₀ s₁) Y n (.send .none) (s.setGen g .running))
    (hY : ∀ v s₁ gs', gs'.bare = true → Y (n - 1) (s.setGen g .running) v s₁ (fun r' s'' => match n with
        | 0 => False
        | m + 1 => gs'.Goes (model pw w) A.in1 (fun n s₀ r s₁ => r = .ok (.ret .none) ∧ P n s₀ s₁) Y m r' s'') → Q (some v) (s₁.setGen g gs'))
    (hP : ∀ s₁, P n (s.setGen g .running) s₁ → ∀ h', (∀ b o, s₁.heap.get? b = some o → h'.get? b = some o) → Q none { s₁.setGen g .finished with heap := h' }) :
    wpAny (model pw w) A (pyNext (.ref a)) Q E s := by
  unfold pyNext
  refine wpAny_bind (wpAny_attempt (wpAny_callSpecial?_slot (name := PySem.Str.ofString "__next__") hg.typeIs slot_gen_next
    (wpAny_call_entry slot_gen_next hg.typeIs entry_gen_next ?_ (args_gen_next _))))
  show wpAny _ A.in1 (Builtin.Generator.genWake (.ref a) (.send .none)) _ _ s
  unfold Builtin.Generator.genWake
  refine wpAny_bind (wpAny_holding (wpAny_genNumber hg (wpAny_bind (wpAny_genState hgs ?_))))
  cases gs with
  | running => exact hgo.elim
  | finished => exact hgo.elim
  | _ =>
    refine wpAny_bind (wpAny_roomToWake hl hroom ?_)
    show wpAny _ A.in1 (.resume g (.send .none) [] _) _ _ s
    refine wpAny_resumeQ hgs hgo (fun x s₁ hx => ?_) (fun v s₁ gs' hb hv => ?_)
    · obtain ⟨rfl, hp⟩ := hx
      show wpAny _ A.in1 (newExc (.type "StopIteration") [] >>= _) _ _ _
      refine wpAny_bind ?_
      simp only [newExc, newTuple]
      refine wpAny_bind (wpAny_newObj_type ?_ (by size_fits))
      refine wpAny_bind (m := firstArgMember _ _) (wpAny_of_eq (a := Value.none) (by first | rfl | (simp only [firstArgMember]; rfl)) ?_)
      refine wpAny_newObj_type ?_ (by size_fits)
      simp only [raiseNew]
      refine wpAny_bind (wpAny_bind (wpAny_handled ?_))
      first | rw [show A.in1.handled = none from hh] | rw [hh]
      refine wpAny_throw ?_
      refine wpAny_bind (wpAny_isInstance (T := "StopIteration") (b := true) ⟨_, Heap.get?_push_size _ rfl, rfl⟩ isSubtype_stop ?_)
      exact wpAny_pure (hP s₁ hp _ fun b o hb => Heap.get?_push_of_some _ (Heap.get?_push_of_some _ hb))
    · exact wpAny_pure ⟨v, rfl, wpAny_pure (hY v s₁ gs' hb hv)⟩

theorem letGo_gen {elts : List Expr} {k : Nat} {pos : Pos} {a T : Addr} {g : Nat} {Q : Unit → Shared → Prop} (hg : s.heap.IsGen a g) (hQ : Q () s) :
    wpAny (model pw w) A (letOwnedTupleGo (.Tuple elts k pos) (.ref a) (.ref T)) Q E s := by
  obtain ⟨o, nm, qn, ho, hc, hd, _⟩ := hg
  unfold letOwnedTupleGo
  refine wpAny_bind (wpAny_load ho ?_)
  rw [hc, hd]
  exact wpAny_pure hQ

theorem bare_set {gens : Array GenState} {g : Nat} {y : GenState} (h : AllBare gens) (hy : y.bare = true) : AllBare (gens.setIfInBounds g y) := by
  intro z hz
  obtain ⟨i, hi, rfl⟩ := Array.mem_iff_getElem.mp hz
  have hi' : i < gens.size := by rw [Array.size_setIfInBounds] at hi; exact hi
  rw [Array.getElem_setIfInBounds hi']
  split
  · exact hy
  · exact h _ (Array.getElem_mem hi')


/-- a call of the generator function has started it -/
def Started (w : World) (s : Shared) (x : PySem.Str) (v : Value) (s₁ : Shared) : Prop :=
  ∃ h' tk G Lg oG oL gs, v = .ref G ∧ s₁ = { s with heap := h', toks := tk, gens := s.gens.push gs } ∧ Kp s.heap h' ∧ Made s.heap h' [(G, oG), (Lg, oL)] ∧ h'.IsGen G s.gens.size ∧ Lg < G ∧ s.heap.objs.size ≤ Lg ∧ gs.bare = true ∧
    ∀ (A' : Around) (h₀ : Heap) (mg mb : PySem.Str → Option Value), A'.handled = none → h₀.objs.size ≤ s.heap.objs.size → (Mine.K w.params).In h₀ → TopRead vw lz mg mb h₀ →
      Rest w A' h₀ Lg G oG (escItems 0 false x.cps.toList) (escItems 0 false x.cps.toList).length gs oL Lg oL Lg oL

/-- the end of a turn of a loop over the generator -/
def TurnG (h₀ : Heap) (L : Addr) (pr : List (Addr × Obj)) (J : (PySem.Str → Option Value) → List (Addr × Obj) → Prop) (s s₂ : Shared) : Prop :=
  ∃ h' tk' m' news', s₂ = { s with heap := h', toks := tk' } ∧ Fr h₀ L h' m' ∧ News h₀ L h' (pr ++ news') ∧ J m' news'

theorem turn_g {h₀ : Heap} {L : Addr} {pr : List (Addr × Obj)} {J : (PySem.Str → Option Value) → List (Addr × Obj) → Prop} {s : Shared} {h' : Heap} {tk' : Nat} {m' : PySem.Str → Option Value} {news' : List (Addr × Obj)}
    (F : Fr h₀ L h' m') (N : News h₀ L h' (pr ++ news')) (hJ : J m' news') : TurnG h₀ L pr J s { s with heap := h', toks := tk' } :=
  ⟨h', tk', m', news', rfl, F, N, hJ⟩

/-- a for loop over the generator, by an invariant -/
theorem for_esc {iter : Expr} {a b : PySem.Str} {pa pb pt pos : Pos} {k : Nat} {body : List Stmt} {Q : Flow → Shared → Prop} {h₀ : Heap} {m : PySem.Str → Option Value} {news : List (Addr × Obj)} {x : PySem.Str} {mg mb : PySem.Str → Option Value} {n : Nat}
    (J : Nat → (PySem.Str → Option Value) → List (Addr × Obj) → Prop) (X₀ : (Mine.K w.params).In h₀) (T₀ : TopRead vw lz mg mb h₀) (hA : Room A (n + 1)) (hbare : AllBare s.gens)
    (ha : env.kindOf a = some .local) (hb : env.kindOf b = some .local)
    (hp : (env.scope.kind == .class || (env.scope.kind == .module && env.locals != env.globals)) = false)
    (F : Fr h₀ env.locals s.heap m) (N : News h₀ env.locals s.heap news)
    (hiter : ∀ Q' : Value → Shared → Prop, (∀ v s₁, Started w s x v s₁ → Q' v s₁) → wpAny (model pw w) A (eval iter env) Q' nope s)
    (hold : ∀ i m news, J i m news → ∀ p ∈ news, ∃ o, s.heap.get? p.1 = some o) (h0 : J 0 m news)
    (turn : ∀ i y tk c tc m₁ news₁ G oG Lg oL e oe it oi gens h tks, (escItems 0 false x.cps.toList)[i]? = some (y, c) → J i m₁ news₁ → AllBare gens →
      Fr h₀ env.locals h (fun z => if z = b then some (.str c tc) else if z = a then some (.int y tk) else m₁ z) →
      News h₀ env.locals h ((G, oG) :: (Lg, oL) :: (e, oe) :: (it, oi) :: news₁) → (∀ p ∈ news₁, p.1 ≠ G ∧ p.1 ≠ Lg ∧ p.1 ≠ e ∧ p.1 ≠ it) →
      wpAny (model pw w) A (execs body env) (fun f s₂ => match f with
        | .next | .cont => TurnG h₀ env.locals [(G, oG), (Lg, oL), (e, oe), (it, oi)] (J (i + 1)) { s with gens := gens } s₂
        | .brk => Q .next s₂
        | .ret v => Q (.ret v) s₂) nope { s with heap := h, toks := tks, gens := gens })
    (done : ∀ m₁ news₁ h tk gens, J (escItems 0 false x.cps.toList).length m₁ news₁ → AllBare gens → Fr h₀ env.locals h m₁ → News h₀ env.locals h news₁ → Q .next { s with heap := h, toks := tk, gens := gens })
    (hs : ∀ x, foldedSetIterable iter env x = pure x := by intro _; rfl) :
    wpAny (model pw w) A (exec (.For (.Tuple [.Name a pa, .Name b pb] k pt) iter body [] pos) env) Q nope s := by
  refine for_any (hiter _ ?_) hs
  rintro v s₁ ⟨h₁, tk₁, G, Lg, oG, oL, gs, rfl, rfl, hk₁, M₁, hG₁, hGL, hLg, hgb, hrest⟩
  refine wpAny_pyIter_gen hG₁ ?_
  generalize hfull : escItems 0 false x.cps.toList = full at *
  have hLlt : env.locals < s.heap.objs.size := (let ⟨_, _, _, ho, _⟩ := F.ns; Heap.lt_size ho)
  have hsz : h₀.objs.size ≤ s.heap.objs.size := Nat.le_trans F.above (Nat.le_of_lt hLlt)
  have fresh : ∀ c, Lg ≤ c → c ≠ env.locals ∧ h₀.get? c = none := fun c hc => by
    have h1 : env.locals < c := Nat.lt_of_lt_of_le hLlt (Nat.le_trans hLg hc)
    refine ⟨Nat.ne_of_gt h1, ?_⟩
    cases e : h₀.get? c with
    | none => rfl
    | some o => exact absurd (Heap.lt_size e) (Nat.not_lt.mpr (Nat.le_trans hsz (Nat.le_trans hLg hc)))
  have mk : ∀ {h' : Heap} {oL' e oe it oi} {news₁}, Lg ≤ e → Lg ≤ it → h'.get? G = some oG → h'.get? Lg = some oL' → h'.get? e = some oe → h'.get? it = some oi → News h₀ env.locals h' news₁ → News h₀ env.locals h' ((G, oG) :: (Lg, oL') :: (e, oe) :: (it, oi) :: news₁) := by
    intro h' oL' e oe it oi news₁ he hit g1 g2 g3 g4 N' p hp
    rcases List.mem_cons.mp hp with rfl | hp
    · exact ⟨g1, fresh _ (Nat.le_of_lt hGL)⟩
    rcases List.mem_cons.mp hp with rfl | hp
    · exact ⟨g2, fresh _ (Nat.le_refl _)⟩
    rcases List.mem_cons.mp hp with rfl | hp
    · exact ⟨g3, fresh _ he⟩
    rcases List.mem_cons.mp hp with rfl | hp
    · exact ⟨g4, fresh _ hit⟩
    exact N' p hp
  have hIsG : ∀ h' : Heap, h'.get? G = some oG → h'.IsGen G s.gens.size := by
    intro h' e
    obtain ⟨o, nm, qn, ho, r⟩ := hG₁
    rw [(M₁ _ (.head _)).1] at ho
    cases ho
    exact ⟨_, nm, qn, e, r⟩
  refine ⟨fun μ s' => ∃ h' tk gens' gs oL e oe it oi i m₁ news₁, s' = { s with heap := h', toks := tk, gens := gens' } ∧ μ = full.length + 1 - i ∧ i ≤ full.length ∧ gens'[s.gens.size]? = some gs ∧ AllBare gens' ∧ Lg ≤ e ∧ Lg ≤ it ∧
    Fr h₀ env.locals h' m₁ ∧ News h₀ env.locals h' ((G, oG) :: (Lg, oL) :: (e, oe) :: (it, oi) :: news₁) ∧ J i m₁ news₁ ∧ Rest w A.in1 h₀ Lg G oG full (full.length - i) gs oL e oe it oi, full.length + 1, ?_, ?_⟩
  · refine ⟨h₁, tk₁, s.gens.push gs, gs, oL, Lg, oL, Lg, oL, 0, m, news, rfl, rfl, Nat.zero_le _, by simp, hbare.push hgb, Nat.le_refl _, Nat.le_refl _, fr_kp F hk₁,
      mk (Nat.le_refl _) (Nat.le_refl _) (M₁ _ (.head _)).1 (M₁ _ (.tail _ (.head _))).1 (M₁ _ (.tail _ (.head _))).1 (M₁ _ (.tail _ (.head _))).1 (news_kp N hk₁), h0, hrest _ _ _ _ hA.h hsz X₀ T₀⟩
  rintro μ s' ⟨h', tk, gens', gs', oL', e, oe, it, oi, i, m₁, news₁, rfl, rfl, hi, hgs, hb', he, hit, F', N', hJ, hR⟩
  obtain ⟨hle, _, _, hgo⟩ := hR
  have g1 := N'.get (.head _)
  have g2 := N'.get (.tail _ (.head _))
  have g3 := N'.get (.tail _ (.tail _ (.head _)))
  have g4 := N'.get (.tail _ (.tail _ (.tail _ (.head _))))
  have low : ∀ p ∈ news₁, p.1 < Lg := fun p hp => by
    obtain ⟨o, ho⟩ := hold i m₁ news₁ hJ p hp
    exact Nat.lt_of_lt_of_le (Heap.lt_size ho) hLg
  have keepF : ∀ h'' : Heap, (∀ b o, b < Lg → h'.get? b = some o → h''.get? b = some o) → Fr h₀ env.locals h'' m₁ ∧ News h₀ env.locals h'' news₁ := by
    intro h'' hk
    refine ⟨⟨(let ⟨o, p1, p2, ho, p3⟩ := F'.ns; ⟨o, p1, p2, hk _ _ (Nat.lt_of_lt_of_le hLlt hLg) ho, p3⟩), fun c o ec => hk c o (Nat.lt_of_lt_of_le (Heap.lt_size ec) (Nat.le_trans hsz hLg)) (F'.keep c o ec), F'.above⟩, fun p hp => ?_⟩
    have q := N' p (.tail _ (.tail _ (.tail _ (.tail _ hp))))
    exact ⟨hk _ _ (low p hp) q.1, q.2⟩
  refine pyNext_genB (P := fun n s₀ s₁ => n = 0 ∧ EscRel Lg G oG s₀ s₁) hA.h (T₀.keeps F'.keep).nolimit hA.deep (hIsG _ g1) hgs (hgo _ ⟨g1, g2, g3, g4⟩ F'.keep) ?_ ?_
  · intro v s₁ gs₂ hb₂ hv
    obtain ⟨T, y, c, tky, tc, oL₂, e₂, oe₂, it₂, oi₂, rfl, hn, hi₂, hT, hrel, ⟨he₂, hit₂⟩, ⟨q1, q2, q3⟩, hgo₂⟩ := hv
    obtain ⟨h₂, tk₂, rfl, hlow, q0⟩ := hrel
    obtain ⟨F₂, N₂⟩ := keepF h₂ hlow
    have hlt : i < full.length := by
      cases hz : full.length - i with
      | succ _ => omega
      | zero =>
        rw [hz] at hgo₂
        exact (hgo₂ _ ⟨q0, q1, q2, q3⟩ F₂.keep).elim
    obtain ⟨r, hr⟩ : ∃ r, full.length - i = r + 1 := ⟨full.length - i - 1, by omega⟩
    rw [hr] at hgo₂ hn hi₂
    have hi₃ : full[i]? = some (y, c) := by
      rw [← hi₂]; congr 1; simp only [Nat.add_sub_cancel]; omega
    refine letGo_gen (hIsG _ q0) ?_
    refine assign_two hA.h ha hb hp F₂ (mk he₂ hit₂ q0 q1 q2 q3 N₂) ⟨_, hT, rfl, _, rfl⟩ fun h₃ tk₃ F₃ N₃ => ?_
    refine wpAny_mono (turn i y tky c tc m₁ news₁ G oG Lg oL₂ e₂ oe₂ it₂ oi₂ ((gens'.setIfInBounds s.gens.size .running).setIfInBounds s.gens.size gs₂) h₃ _ hi₃ hJ (bare_set (bare_set hb' rfl) hb₂) F₃ N₃ ?_) (fun f s₃ h₃ => ?_) fun _ _ e => e
    · intro p hp
      have := low p hp
      exact ⟨Nat.ne_of_lt (Nat.lt_trans this hGL), Nat.ne_of_lt this, Nat.ne_of_lt (Nat.lt_of_lt_of_le this he₂), Nat.ne_of_lt (Nat.lt_of_lt_of_le this hit₂)⟩
    have again : TurnG h₀ env.locals [(G, oG), (Lg, oL₂), (e₂, oe₂), (it₂, oi₂)] (J (i + 1)) { s with gens := (gens'.setIfInBounds s.gens.size .running).setIfInBounds s.gens.size gs₂ } s₃ → ∃ μ', μ' < full.length + 1 - i ∧ ∃ h' tk gens' gs oL e oe it oi i m₁ news₁, s₃ = { s with heap := h', toks := tk, gens := gens' } ∧ μ' = full.length + 1 - i ∧ i ≤ full.length ∧ gens'[s.gens.size]? = some gs ∧ AllBare gens' ∧ Lg ≤ e ∧ Lg ≤ it ∧
        Fr h₀ env.locals h' m₁ ∧ News h₀ env.locals h' ((G, oG) :: (Lg, oL) :: (e, oe) :: (it, oi) :: news₁) ∧ J i m₁ news₁ ∧ Rest w A.in1 h₀ Lg G oG full (full.length - i) gs oL e oe it oi := by
      rintro ⟨h₄, tk₄, m₄, news₄, rfl, F₄, N₄, hJ₄⟩
      have hsz' : s.gens.size < gens'.size := (Array.getElem?_eq_some_iff.mp hgs).1
      refine ⟨full.length + 1 - (i + 1), by omega, h₄, tk₄, _, gs₂, oL₂, e₂, oe₂, it₂, oi₂, i + 1, m₄, news₄, rfl, rfl, hlt, ?_, bare_set (bare_set hb' rfl) hb₂, he₂, hit₂, F₄, N₄, hJ₄, ?_⟩
      · simp [hsz']
      · have er : full.length - (i + 1) = r := by omega
        rw [er]
        exact ⟨by omega, he₂, hit₂, fun s₅ hs₅ hk₅ => hgo₂ s₅ hs₅ hk₅⟩
    cases f with
    | next => exact again h₃
    | cont => exact again h₃
    | brk => exact h₃
    | ret v => exact h₃
  · rintro s₁ ⟨hz, h₂, tk₂, rfl, hlow, q0⟩ h₃ hk₃
    obtain rfl : i = full.length := by omega
    obtain ⟨F₂, N₂⟩ := keepF h₃ fun b o hb eb => hk₃ _ _ (hlow b o hb eb)
    exact done m₁ news₁ h₃ tk₂ _ hJ (bare_set (bare_set hb' rfl) rfl) F₂ N₂
end
end
example : True ∧ True := by
  w_top off
  walk1 <;> trivial
section
local macro_rules
  | `(tactic| walk_at "exec For Tuple Name cons nil") => `(tactic| refine stop_of ?_)
  | `(tactic| walk_at "exec For Tuple") => `(tactic| refine stop_of ?_)
local macro_rules | `(tactic| walk_at "call ref") => `(tactic| ((with_reducible show wpAny _ _ (call (Value.ref 132) [Value.str _ _]) _ _ _); refine stop_of ?_))

abbrev optInt : Option Int → Tok → Value
  | none, _ => .none
  | some i, t => .int i t
def stripMap (M0 : PySem.Str → Option Value) (u v : Option Value) (sv : Int) (st : Tok) (ov : Value) : PySem.Str → Option Value :=
  fun y => if y = PySem.Str.ofString "ch" then u else if y = PySem.Str.ofString "pos" then v else if y = PySem.Str.ofString "start" then some (.int sv st) else if y = PySem.Str.ofString "open_pos" then some ov else M0 y
theorem strip_m0 {x : PySem.Str} {t : Tok} {l : Value} {st : Tok} : (fun y => if y = PySem.Str.ofString "result" then some l else if y = PySem.Str.ofString "open_pos" then some Value.none else if y = PySem.Str.ofString "start" then some (.int 0 st) else List.lookup y [(PySem.Str.ofString "addr", Value.str x t)].reverse)
    = stripMap (fun y => if y = PySem.Str.ofString "result" then some l else List.lookup y [(PySem.Str.ofString "addr", Value.str x t)].reverse) (List.lookup (PySem.Str.ofString "ch") [(PySem.Str.ofString "addr", Value.str x t)].reverse) (List.lookup (PySem.Str.ofString "pos") [(PySem.Str.ofString "addr", Value.str x t)].reverse) 0 st .none := by
  funext y
  unfold stripMap
  by_cases h0 : y = PySem.Str.ofString "ch"
  · have g1 : ¬ y = PySem.Str.ofString "pos" := (by rw [h0]; decide +kernel); have g2 : ¬ y = PySem.Str.ofString "start" := (by rw [h0]; decide +kernel); have g3 : ¬ y = PySem.Str.ofString "open_pos" := (by rw [h0]; decide +kernel); have g4 : ¬ y = PySem.Str.ofString "result" := (by rw [h0]; decide +kernel); subst h0; simp only [if_true, if_neg g1, if_neg g2, if_neg g3, if_neg g4]
  · skip
    by_cases h1 : y = PySem.Str.ofString "pos"
    · have g2 : ¬ y = PySem.Str.ofString "start" := (by rw [h1]; decide +kernel); have g3 : ¬ y = PySem.Str.ofString "open_pos" := (by rw [h1]; decide +kernel); have g4 : ¬ y = PySem.Str.ofString "result" := (by rw [h1]; decide +kernel); subst h1; simp only [if_neg h0, if_true, if_neg g2, if_neg g3, if_neg g4]
    · skip
      by_cases h2 : y = PySem.Str.ofString "start"
      · have g3 : ¬ y = PySem.Str.ofString "open_pos" := (by rw [h2]; decide +kernel); have g4 : ¬ y = PySem.Str.ofString "result" := (by rw [h2]; decide +kernel); simp only [if_neg h0, if_neg h1, if_pos h2, if_neg g3, if_neg g4]
      · skip
        by_cases h3 : y = PySem.Str.ofString "open_pos"
        · have g4 : ¬ y = PySem.Str.ofString "result" := (by rw [h3]; decide +kernel); simp only [if_neg h0, if_neg h1, if_neg h2, if_pos h3, if_neg g4]
        · skip
          by_cases h4 : y = PySem.Str.ofString "result"
          · simp only [if_neg h0, if_neg h1, if_neg h2, if_neg h3, if_pos h4]
          · skip
            simp only [if_neg h0, if_neg h1, if_neg h2, if_neg h3, if_neg h4]
section
variable {M0 : PySem.Str → Option Value} {u v : Option Value} {sv sv2 : Int} {st st2 : Tok} {ov ov2 a b : Value}
theorem strip_m1 : (fun y => if y = PySem.Str.ofString "ch" then some a else if y = PySem.Str.ofString "pos" then some b else stripMap M0 u v sv st ov y) = stripMap M0 (some a) (some b) sv st ov := by
  funext y
  unfold stripMap
  by_cases h0 : y = PySem.Str.ofString "ch"
  · have g1 : ¬ y = PySem.Str.ofString "pos" := (by rw [h0]; decide +kernel); have g2 : ¬ y = PySem.Str.ofString "start" := (by rw [h0]; decide +kernel); have g3 : ¬ y = PySem.Str.ofString "open_pos" := (by rw [h0]; decide +kernel); simp only [if_pos h0, if_neg g1, if_neg g2, if_neg g3]
  · skip
    by_cases h1 : y = PySem.Str.ofString "pos"
    · have g2 : ¬ y = PySem.Str.ofString "start" := (by rw [h1]; decide +kernel); have g3 : ¬ y = PySem.Str.ofString "open_pos" := (by rw [h1]; decide +kernel); simp only [if_neg h0, if_pos h1, if_neg g2, if_neg g3]
    · skip
      by_cases h2 : y = PySem.Str.ofString "start"
      · have g3 : ¬ y = PySem.Str.ofString "open_pos" := (by rw [h2]; decide +kernel); simp only [if_neg h0, if_neg h1, if_pos h2, if_neg g3]
      · skip
        by_cases h3 : y = PySem.Str.ofString "open_pos"
        · simp only [if_neg h0, if_neg h1, if_neg h2, if_pos h3]
        · skip
          simp only [if_neg h0, if_neg h1, if_neg h2, if_neg h3]
theorem strip_m2 : (fun y => if y = PySem.Str.ofString "open_pos" then some ov2 else stripMap M0 u v sv st ov y) = stripMap M0 u v sv st ov2 := by
  funext y
  unfold stripMap
  by_cases h0 : y = PySem.Str.ofString "ch"
  · have g1 : ¬ y = PySem.Str.ofString "pos" := (by rw [h0]; decide +kernel); have g2 : ¬ y = PySem.Str.ofString "start" := (by rw [h0]; decide +kernel); have g3 : ¬ y = PySem.Str.ofString "open_pos" := (by rw [h0]; decide +kernel); simp only [if_pos h0, if_neg g1, if_neg g2, if_neg g3]
  · skip
    by_cases h1 : y = PySem.Str.ofString "pos"
    · have g2 : ¬ y = PySem.Str.ofString "start" := (by rw [h1]; decide +kernel); have g3 : ¬ y = PySem.Str.ofString "open_pos" := (by rw [h1]; decide +kernel); simp only [if_neg h0, if_pos h1, if_neg g2, if_neg g3]
    · skip
      by_cases h2 : y = PySem.Str.ofString "start"
      · have g3 : ¬ y = PySem.Str.ofString "open_pos" := (by rw [h2]; decide +kernel); simp only [if_neg h0, if_neg h1, if_pos h2, if_neg g3]
      · skip
        by_cases h3 : y = PySem.Str.ofString "open_pos"
        · simp only [if_neg h0, if_neg h1, if_neg h2, if_pos h3]
        · skip
          simp only [if_neg h0, if_neg h1, if_neg h2, if_neg h3]
theorem strip_m3 : (fun y => if y = PySem.Str.ofString "open_pos" then some ov2 else if y = PySem.Str.ofString "start" then some (.int sv2 st2) else stripMap M0 u v sv st ov y) = stripMap M0 u v sv2 st2 ov2 := by
  funext y
  unfold stripMap
  by_cases h0 : y = PySem.Str.ofString "ch"
  · have g1 : ¬ y = PySem.Str.ofString "pos" := (by rw [h0]; decide +kernel); have g2 : ¬ y = PySem.Str.ofString "start" := (by rw [h0]; decide +kernel); have g3 : ¬ y = PySem.Str.ofString "open_pos" := (by rw [h0]; decide +kernel); simp only [if_pos h0, if_neg g1, if_neg g2, if_neg g3]
  · skip
    by_cases h1 : y = PySem.Str.ofString "pos"
    · have g2 : ¬ y = PySem.Str.ofString "start" := (by rw [h1]; decide +kernel); have g3 : ¬ y = PySem.Str.ofString "open_pos" := (by rw [h1]; decide +kernel); simp only [if_neg h0, if_pos h1, if_neg g2, if_neg g3]
    · skip
      by_cases h2 : y = PySem.Str.ofString "start"
      · have g3 : ¬ y = PySem.Str.ofString "open_pos" := (by rw [h2]; decide +kernel); simp only [if_neg h0, if_neg h1, if_pos h2, if_neg g3]
      · skip
        by_cases h3 : y = PySem.Str.ofString "open_pos"
        · simp only [if_neg h0, if_neg h1, if_neg h2, if_pos h3]
        · skip
          simp only [if_neg h0, if_neg h1, if_neg h2, if_neg h3]
end
/-- a turn of the loop of _strip_quoted_realnames -/
def stripStep (x : PySem.Str) (st : Int × Option Int × List PySem.Str) (y : Int × PySem.Str) : Int × Option Int × List PySem.Str :=
  if (y.2 == PySem.Str.ofString "\"") = true then
    match st.2.1 with
    | none => (st.1, some y.1, st.2.2)
    | some o => (y.1 + 1, none, if st.1 = o then st.2.2 else st.2.2 ++ [Txt.slice x (some st.1) (some o)])
  else st
def stripEnd (x : PySem.Str) (st : Int × Option Int × List PySem.Str) : PySem.Str :=
  PySem.Str.join (PySem.Str.ofString "") (if st.1 < x.length then st.2.2 ++ [Txt.slice x (some st.1) none] else st.2.2)
def stripOf (x : PySem.Str) : PySem.Str :=
  if (Builtin.Str.occurrences x (PySem.Str.ofString "\"") 0 x.length 1).isEmpty = true then x
  else stripEnd x ((escItems 0 false x.cps.toList).foldl (stripStep x) (0, none, []))
section
variable {x c : PySem.Str} {sv o y : Int} {ov : Option Int} {rs : List PySem.Str}
theorem ss_other (h : (c == PySem.Str.ofString "\"") = false) : stripStep x (sv, ov, rs) (y, c) = (sv, ov, rs) := by unfold stripStep; rw [if_neg (by simp [h])]
theorem ss_open (h : (c == PySem.Str.ofString "\"") = true) : stripStep x (sv, none, rs) (y, c) = (sv, some y, rs) := by unfold stripStep; rw [if_pos h]
theorem ss_same (h : (c == PySem.Str.ofString "\"") = true) (e : sv = o) : stripStep x (sv, some o, rs) (y, c) = (y + 1, none, rs) := by unfold stripStep; rw [if_pos h]; simp only [if_pos e]
theorem ss_more (h : (c == PySem.Str.ofString "\"") = true) (e : sv ≠ o) : stripStep x (sv, some o, rs) (y, c) = (y + 1, none, rs ++ [Txt.slice x (some sv) (some o)]) := by unfold stripStep; rw [if_pos h]; simp only [if_neg e]
end
theorem esc_len : ∀ (l : List Nat) (k : Nat) (e : Bool), (escItems k e l).length ≤ l.length + 1
  | [], k, e => by unfold escItems; split <;> simp
  | c :: r, k, e => by
    unfold escItems
    have h1 := esc_len r (k + 1) false
    have h2 := esc_len r (k + 1) true
    split
    · simp; omega
    · split
      · simp; omega
      · simp; omega
theorem esc_pos_ok : ∀ (l : List Nat) (k : Nat) (e : Bool), (e = true → 1 ≤ k) → ∀ p ∈ escItems k e l, 0 ≤ p.1
  | [], k, e, he, p, hp => by
    unfold escItems at hp
    split at hp
    · next h => rcases List.mem_singleton.mp hp with rfl; have := he h; show (0:Int) ≤ (k : Int) - 1; omega
    · cases hp
  | c :: r, k, e, he, p, hp => by
    unfold escItems at hp
    have h1 := esc_pos_ok r (k + 1) false (by simp)
    have h2 := esc_pos_ok r (k + 1) true (by simp)
    split at hp
    · rcases List.mem_cons.mp hp with rfl | hp
      · exact Int.natCast_nonneg k
      · exact h1 p hp
    · split at hp
      · exact h2 p hp
      · rcases List.mem_cons.mp hp with rfl | hp
        · exact Int.natCast_nonneg k
        · exact h1 p hp
local macro_rules | `(tactic| walk_at "call builtin:str.join") => `(tactic| (k_dflt ((with_reducible rename News _ _ _ _ => N'); refine' join_lst N' ?m ?S ?z ?_; (case m => k_mem); (case S => first | assumption | exact strs_add (by assumption)); (case z => (simp only [show (PySem.Str.ofString "").length = 0 from by decide +kernel]; (first | (refine Nat.le_trans (Nat.add_le_add_right (len_sum (n := 1000) (by assumption)) _) ?_; omega) | (refine Nat.le_trans (Nat.add_le_add_right (len_sum (n := 1000) (len_snoc (by assumption) (by omega))) _) ?_; simp only [List.length_append, List.length_cons, List.length_nil]; omega)))); intro y9 t9 k9 e9)))
theorem strip_end1 {x y : PySem.Str} {sv : Int} {ov : Option Int} {rs : List PySem.Str} (h : sv < (x.length : Int)) (e : y = PySem.Str.join (PySem.Str.ofString "") (rs ++ [Txt.slice x (some sv) none])) : stripEnd x (sv, ov, rs) = y := by
  unfold stripEnd; rw [e]; simp only [if_pos h]
theorem strip_end2 {x y : PySem.Str} {sv : Int} {ov : Option Int} {rs : List PySem.Str} (h : ¬ sv < (x.length : Int)) (e : y = PySem.Str.join (PySem.Str.ofString "") rs) : stripEnd x (sv, ov, rs) = y := by
  unfold stripEnd; rw [e]; simp only [if_neg h]
theorem fold_next {α β : Type} {f : β → α → β} {l : List α} {b b' : β} {i : Nat} {y : α} (hi : l[i]? = some y) (h : (l.take i).foldl f b = b') : (l.take (i + 1)).foldl f b = f b' y := by
  rw [List.take_add_one, hi]; simp [h]
theorem len_snoc {rs : List PySem.Str} {y : PySem.Str} {n : Nat} (h : ∀ r ∈ rs, r.length ≤ n) (hy : y.length ≤ n) : ∀ r ∈ rs ++ [y], r.length ≤ n := fun r hr => by
  rcases List.mem_append.mp hr with hr | hr
  · exact h r hr
  · rcases List.mem_singleton.mp hr with rfl; exact hy
theorem len_sum {n : Nat} : ∀ {rs : List PySem.Str}, (∀ r ∈ rs, r.length ≤ n) → (rs.map (·.length)).sum ≤ rs.length * n
  | [], _ => by simp
  | r :: rs, h => by
    have h1 := len_sum (rs := rs) fun q hq => h q (.tail _ hq)
    have h2 := h r (.head _)
    rw [List.map_cons, List.sum_cons, List.length_cons, Nat.add_mul, Nat.one_mul]; omega
theorem are_len {vs : List Value} {rs : List PySem.Str} (h : StrsAre vs rs) : rs.length = vs.length := by
  induction h with
  | nil => rfl
  | cons y t h ih => simp [ih]
theorem strip_spec {w : World} {A : Around} {s : Shared} {mg mb : PySem.Str → Option Value} {x : PySem.Str} {t : Tok} {R : Result → Shared → Prop}
    (X : (Mine.K w.params).In s.heap) (T : TopRead vw lz mg mb s.heap) (hA : Room A (4 + 1)) (hx : x.length ≤ 1000) (hbare : AllBare s.gens)
    (hR : ∀ h' tk t' gens, Kp s.heap h' → AllBare gens → R (.ok (.ret (.str (stripOf x) t'))) { s with heap := h', toks := tk, gens := gens }) :
    codeAny (model pw w) A (.call (.ref 139) ⟨[.str x t], []⟩) R s := by
  obtain ⟨hd9, d9, fr9, gu9, u9⟩ := A
  obtain rfl : hd9 = none := hA.h
  refine' enterF [(PySem.Str.ofString "addr", .str x t)] ?k1 ?k2 ?k3 ?k4 ?k5 ?k6 ?k7 ?k8 ?k9 ?k10 ?k11 ?_
  walk_at "m.enter"
  intro L h₁ F N hA'
  k_steps
  · rw [show stripOf x = x from by unfold stripOf; rw [if_pos (by assumption)]] at hR
    exact hR _ _ _ _ (Fr.keep (by assumption)) hbare
  · unfold Stop
    rename_i hq _ _ _ lst _ _ _ kF kN
    rw [strip_m0] at kF
    generalize hM : (fun y => if y = PySem.Str.ofString "result" then some (Value.ref lst) else List.lookup y [(PySem.Str.ofString "addr", Value.str x t)].reverse) = M0 at kF
    refine for_esc (x := x) (n := 2) (J := fun i m news => ∃ (sv : Int) (ov : Option Int) (ts tv : Tok) (u v : Option Value) (vs : List Value) (n' : Nat) (rs : List PySem.Str),
      m = stripMap M0 u v sv ts (optInt ov tv) ∧
      news = [(lst, listOf vs.toArray n')] ∧ StrsAre vs rs ∧ vs.length ≤ i ∧ 0 ≤ sv ∧ ((escItems 0 false x.cps.toList).take i).foldl (stripStep x) (0, none, []) = (sv, ov, rs) ∧ (∀ r ∈ rs, r.length ≤ 1000)) X T (Room.less hA' (by decide)) hbare rfl rfl rfl kF kN ?_ ?_ ?_ ?_ ?_
    · intro Q' hq'
      subst hM
      unfold stripMap at kF
      k_steps
      unfold Stop
      refine wpAny_call (iter_spec (in_fr X kF) (top_fr T kF) (Room.less hA' (by decide)) (by omega) ?_)
      intro h9 tk9 G Lg oG oL gs k9 M9 hG hL hz hb hr
      exact hq' _ _ ⟨h9, tk9, G, Lg, oG, oL, gs, rfl, rfl, k9, M9, hG, hL, hz, hb, fun A' h₀ mg mb a1 a2 a3 a4 => hr A' h₀ mg mb a1 a2 a3 a4⟩
    · rintro i m news ⟨sv, ov, ts, tv, u, v, vs, n', rs, rfl, rfl, _⟩ p hp
      rcases List.mem_cons.mp hp with rfl | hp
      · exact ⟨_, (kN _ (.head _)).1⟩
      · cases hp
    · exact ⟨0, none, _, 0, _, _, [], 0, [], rfl, rfl, .nil, Nat.le_refl _, Int.le_refl _, rfl, fun _ h => nomatch h⟩
    · rintro i y tky c tc m₁ news₁ G oG Lg oL e oe it oi gens h tks hi ⟨sv, ov, ts, tv, u, v, vs, n', rs, rfl, rfl, hS, hlen, hsv, hfold, hrl⟩ hb F₁ N₁ ne₁
      obtain ⟨n1, n2, n3, n4⟩ := ne₁ _ (.head _)
      dsimp only at n1 n2 n3 n4
      have m1 : @Ne Nat G lst := Ne.symm n1
      have m2 : @Ne Nat Lg lst := Ne.symm n2
      have m3 : @Ne Nat e lst := Ne.symm n3
      have m4 : @Ne Nat it lst := Ne.symm n4
      have hil : i < 1001 := Nat.lt_of_lt_of_le (List.getElem?_eq_some_iff.mp hi).1 (Nat.le_trans (esc_len _ _ _) (by rw [Array.length_toList]; exact Nat.succ_le_succ hx))
      have hy0 : 0 ≤ y := esc_pos_ok _ 0 false (by simp) _ (List.mem_of_getElem? hi)
      have hf2 := fold_next hi hfold
      clear ne₁ kF kN hfold hi
      subst hM
      rw [strip_m1] at F₁
      unfold stripMap at F₁
      refine opq1 ?_
      intro Qn hqn
      cases ov with
      | none =>
        dsimp only [optInt] at F₁
        k_steps
        · rw [ss_open (by assumption)] at hf2
          refine hqn _ _ (turn_g (by assumption) (by assumption) ⟨sv, some y, _, _, _, _, vs, _, rs, strip_m2, rfl, hS, by omega, hsv, hf2, hrl⟩)
        · rw [ss_other (by assumption)] at hf2
          refine hqn _ _ (turn_g (by assumption) (by assumption) ⟨sv, none, _, 0, _, _, vs, _, rs, rfl, rfl, hS, by omega, hsv, hf2, hrl⟩)
      | some o =>
        dsimp only [optInt] at F₁
        k_steps
        · rw [ss_more (by assumption) (by assumption)] at hf2
          refine hqn _ _ (turn_g (by assumption) (by assumption) ⟨y + 1, none, _, 0, _, _, _, _, _, strip_m3, rfl, strs_add hS, by simp only [List.length_append, List.length_cons, List.length_nil]; omega, by omega, hf2, len_snoc hrl (by omega)⟩)
        · rw [ss_same (by assumption) (by assumption)] at hf2
          refine hqn _ _ (turn_g (by assumption) (by assumption) ⟨y + 1, none, _, 0, _, _, vs, _, rs, strip_m3, rfl, hS, by omega, by omega, hf2, hrl⟩)
        · rw [ss_other (by assumption)] at hf2
          refine hqn _ _ (turn_g (by assumption) (by assumption) ⟨sv, some o, _, _, _, _, vs, _, rs, rfl, rfl, hS, by omega, hsv, hf2, hrl⟩)
    · rintro m₁ news₁ h tk gens ⟨sv, ov, ts, tv, u, v, vs, n', rs, rfl, rfl, hS, hlen, hsv, hfold, hrl⟩ hb F₁ N₁
      have hil : (escItems 0 false x.cps.toList).length ≤ 1001 := (Nat.le_trans (esc_len _ _ _) (by rw [Array.length_toList]; exact Nat.succ_le_succ hx))
      rw [List.take_of_length_le (Nat.le_refl _)] at hfold
      have hst : stripOf x = stripEnd x (sv, ov, rs) := by unfold stripOf; rw [if_neg (by simp [hq]), hfold]
      have hvl : vs.length ≤ 1001 := by omega
      have hrs := are_len hS
      clear kF kN hfold hil hlen
      subst hM
      unfold stripMap at F₁
      dsimp only
      k_steps
      · skip
        refine join_lst (news := [_]) (by assumption) (.head _) (strs_add hS) ?_ ?_
        · simp only [show (PySem.Str.ofString "").length = 0 from by decide +kernel]
          refine Nat.le_trans (Nat.add_le_add_right (len_sum (n := 1000) (len_snoc hrl (by omega))) _) ?_
          simp only [List.length_append, List.length_cons, List.length_nil]; omega
        · intro y9 t9 k9 e9
          k_steps
          rw [hst, show stripEnd x (sv, ov, rs) = y9 from strip_end1 (by assumption) e9] at hR
          exact hR _ _ _ _ (Fr.keep (by assumption)) hb
      · refine join_lst (news := [_]) (by assumption) (.head _) hS ?_ ?_
        · simp only [show (PySem.Str.ofString "").length = 0 from by decide +kernel]
          refine Nat.le_trans (Nat.add_le_add_right (len_sum (n := 1000) hrl) _) ?_
          omega
        · intro y9 t9 k9 e9
          k_steps
          rw [hst, show stripEnd x (sv, ov, rs) = y9 from strip_end2 (by assumption) e9] at hR
          exact hR _ _ _ _ (Fr.keep (by assumption)) hb
end
example : True ∧ True := by
  w_top off
  walk1 <;> trivial
section
def parStep (st : Option Int) (y : Int × PySem.Str) : Option Int :=
  match st with
  | none => none
  | some o => if (y.2 == PySem.Str.ofString "(") = true then some (o + 1) else if (y.2 == PySem.Str.ofString ")") = true then (if o - 1 < 0 then none else some (o - 1)) else some o
def checkOf (x : PySem.Str) : Bool :=
  match (escItems 0 false (stripOf x).cps.toList).foldl parStep (some 0) with
  | none => false
  | some o => o == 0
section
variable {c : PySem.Str} {o y : Int}
theorem par_open (h : (c == PySem.Str.ofString "(") = true) : parStep (some o) (y, c) = some (o + 1) := by unfold parStep; simp only [if_pos h]
theorem par_close (h0 : (c == PySem.Str.ofString "(") = false) (h : (c == PySem.Str.ofString ")") = true) (hc : ¬ o - 1 < 0) : parStep (some o) (y, c) = some (o - 1) := by unfold parStep; simp only [h0, h, if_neg hc, if_true, Bool.false_eq_true, if_false]
theorem par_bad (h0 : (c == PySem.Str.ofString "(") = false) (h : (c == PySem.Str.ofString ")") = true) (hc : o - 1 < 0) : parStep (some o) (y, c) = none := by unfold parStep; simp only [h0, h, if_pos hc, if_true, Bool.false_eq_true, if_false]
theorem par_other (h0 : (c == PySem.Str.ofString "(") = false) (h : (c == PySem.Str.ofString ")") = false) : parStep (some o) (y, c) = some o := by unfold parStep; simp only [h0, h, Bool.false_eq_true, if_false]
theorem par_none : ∀ (l : List (Int × PySem.Str)), l.foldl parStep none = none
  | [] => rfl
  | y :: r => par_none r
theorem par_stop {l : List (Int × PySem.Str)} {i : Nat} {b : Option Int} (h : (l.take i).foldl parStep b = none) : l.foldl parStep b = none := by
  have := par_none (l.drop i)
  rw [← h, ← List.foldl_append, List.take_append_drop] at this
  rw [this]; exact h
end
def chkMap (u v : Option Value) (o : Int) (to : Tok) (x : PySem.Str) (t : Tok) (M0 : PySem.Str → Option Value) : PySem.Str → Option Value :=
  fun y => if y = PySem.Str.ofString "ch" then u else if y = PySem.Str.ofString "pos" then v else if y = PySem.Str.ofString "opens" then some (.int o to) else if y = PySem.Str.ofString "addr" then some (.str x t) else M0 y
section
variable {M0 : PySem.Str → Option Value} {u v : Option Value} {o o2 : Int} {to to2 t : Tok} {x : PySem.Str} {a b : Value}
theorem chk_m0 : (fun y => if y = PySem.Str.ofString "opens" then some (.int o to) else if y = PySem.Str.ofString "addr" then some (.str x t) else M0 y) = chkMap (M0 (PySem.Str.ofString "ch")) (M0 (PySem.Str.ofString "pos")) o to x t M0 := by
  funext y
  unfold chkMap
  by_cases h0 : y = PySem.Str.ofString "ch"
  · have g1 : ¬ y = PySem.Str.ofString "pos" := (by rw [h0]; decide +kernel); have g2 : ¬ y = PySem.Str.ofString "opens" := (by rw [h0]; decide +kernel); have g3 : ¬ y = PySem.Str.ofString "addr" := (by rw [h0]; decide +kernel); subst h0; simp only [if_true, if_neg g1, if_neg g2, if_neg g3]
  · skip
    by_cases h1 : y = PySem.Str.ofString "pos"
    · have g2 : ¬ y = PySem.Str.ofString "opens" := (by rw [h1]; decide +kernel); have g3 : ¬ y = PySem.Str.ofString "addr" := (by rw [h1]; decide +kernel); subst h1; simp only [if_neg h0, if_true, if_neg g2, if_neg g3]
    · skip
      by_cases h2 : y = PySem.Str.ofString "opens"
      · have g3 : ¬ y = PySem.Str.ofString "addr" := (by rw [h2]; decide +kernel); simp only [if_neg h0, if_neg h1, if_pos h2, if_neg g3]
      · skip
        by_cases h3 : y = PySem.Str.ofString "addr"
        · simp only [if_neg h0, if_neg h1, if_neg h2, if_pos h3]
        · skip
          simp only [if_neg h0, if_neg h1, if_neg h2, if_neg h3]
theorem chk_m1 : (fun y => if y = PySem.Str.ofString "ch" then some a else if y = PySem.Str.ofString "pos" then some b else chkMap u v o to x t M0 y) = chkMap (some a) (some b) o to x t M0 := by
  funext y
  unfold chkMap
  by_cases h0 : y = PySem.Str.ofString "ch"
  · have g1 : ¬ y = PySem.Str.ofString "pos" := (by rw [h0]; decide +kernel); have g2 : ¬ y = PySem.Str.ofString "opens" := (by rw [h0]; decide +kernel); have g3 : ¬ y = PySem.Str.ofString "addr" := (by rw [h0]; decide +kernel); simp only [if_pos h0, if_neg g1, if_neg g2, if_neg g3]
  · skip
    by_cases h1 : y = PySem.Str.ofString "pos"
    · have g2 : ¬ y = PySem.Str.ofString "opens" := (by rw [h1]; decide +kernel); have g3 : ¬ y = PySem.Str.ofString "addr" := (by rw [h1]; decide +kernel); simp only [if_neg h0, if_pos h1, if_neg g2, if_neg g3]
    · skip
      by_cases h2 : y = PySem.Str.ofString "opens"
      · have g3 : ¬ y = PySem.Str.ofString "addr" := (by rw [h2]; decide +kernel); simp only [if_neg h0, if_neg h1, if_pos h2, if_neg g3]
      · skip
        by_cases h3 : y = PySem.Str.ofString "addr"
        · simp only [if_neg h0, if_neg h1, if_neg h2, if_pos h3]
        · skip
          simp only [if_neg h0, if_neg h1, if_neg h2, if_neg h3]
theorem chk_m2 : (fun y => if y = PySem.Str.ofString "opens" then some (.int o2 to2) else chkMap u v o to x t M0 y) = chkMap u v o2 to2 x t M0 := by
  funext y
  unfold chkMap
  by_cases h0 : y = PySem.Str.ofString "ch"
  · have g1 : ¬ y = PySem.Str.ofString "pos" := (by rw [h0]; decide +kernel); have g2 : ¬ y = PySem.Str.ofString "opens" := (by rw [h0]; decide +kernel); have g3 : ¬ y = PySem.Str.ofString "addr" := (by rw [h0]; decide +kernel); simp only [if_pos h0, if_neg g1, if_neg g2, if_neg g3]
  · skip
    by_cases h1 : y = PySem.Str.ofString "pos"
    · have g2 : ¬ y = PySem.Str.ofString "opens" := (by rw [h1]; decide +kernel); have g3 : ¬ y = PySem.Str.ofString "addr" := (by rw [h1]; decide +kernel); simp only [if_neg h0, if_pos h1, if_neg g2, if_neg g3]
    · skip
      by_cases h2 : y = PySem.Str.ofString "opens"
      · have g3 : ¬ y = PySem.Str.ofString "addr" := (by rw [h2]; decide +kernel); simp only [if_neg h0, if_neg h1, if_pos h2, if_neg g3]
      · skip
        by_cases h3 : y = PySem.Str.ofString "addr"
        · simp only [if_neg h0, if_neg h1, if_neg h2, if_pos h3]
        · skip
          simp only [if_neg h0, if_neg h1, if_neg h2, if_neg h3]
end
local macro_rules | `(tactic| walk_at "exec For Tuple") => `(tactic| (refine stop_of ?_))
local macro_rules | `(tactic| walk_at "call ref") => `(tactic| ((with_reducible show wpAny _ _ (call (Value.ref 132) [Value.str _ _]) _ _ _); refine stop_of ?_))
local macro_rules | `(tactic| walk_at "call ref") => `(tactic| ((with_reducible show wpAny _ _ (call (Value.ref 139) [Value.str _ _]) _ _ _); refine wpAny_call ?_; refine' strip_spec ?X ?T ?A ?S ?B ?_; (case S => assumption); (case B => assumption); walk_at "m.spec"; intro h9 tk9 t9 gens9 k9 b9; walk_at "m.kp"))
theorem check_spec {w : World} {A : Around} {s : Shared} {mg mb : PySem.Str → Option Value} {x : PySem.Str} {t : Tok} {R : Result → Shared → Prop}
    (X : (Mine.K w.params).In s.heap) (T : TopRead vw lz mg mb s.heap) (hA : Room A (5 + 1)) (hx : x.length ≤ 1000) (hx2 : (stripOf x).length ≤ 100000) (hbare : AllBare s.gens)
    (hR : ∀ h' tk gens, Kp s.heap h' → AllBare gens → R (.ok (.ret (.bool (checkOf x)))) { s with heap := h', toks := tk, gens := gens }) :
    codeAny (model pw w) A (.call (.ref 146) ⟨[.str x t], []⟩) R s := by
  obtain ⟨hd9, d9, fr9, gu9, u9⟩ := A
  obtain rfl : hd9 = none := hA.h
  refine' enterF [(PySem.Str.ofString "addr", .str x t)] ?k1 ?k2 ?k3 ?k4 ?k5 ?k6 ?k7 ?k8 ?k9 ?k10 ?k11 ?_
  walk_at "m.enter"
  intro L h₁ F N hA'
  k_steps
  unfold Stop
  rename_i t9 gens9 hK9 hb9 _ _ kF kN
  rw [show (fun y => if y = PySem.Str.ofString "opens" then _ else if y = PySem.Str.ofString "addr" then some (Value.str (stripOf x) t9) else List.lookup y [(PySem.Str.ofString "addr", Value.str x t)].reverse) = _ from chk_m0 (M0 := fun y => List.lookup y [(PySem.Str.ofString "addr", Value.str x t)].reverse)] at kF
  refine for_esc (x := stripOf x) (n := 2) (J := fun i m news => ∃ (o : Int) (to : Tok) (u v : Option Value),
      m = chkMap u v o to (stripOf x) t9 (fun y => List.lookup y [(PySem.Str.ofString "addr", Value.str x t)].reverse) ∧ news = [] ∧ ((escItems 0 false (stripOf x).cps.toList).take i).foldl parStep (some 0) = some o) X T (Room.less hA' (by decide)) hb9 rfl rfl rfl kF kN ?_ ?_ ?_ ?_ ?_
  · intro Q' hq'
    unfold chkMap at kF
    k_steps
    unfold Stop
    refine wpAny_call (iter_spec (in_fr X kF) (top_fr T kF) (Room.less hA' (by decide)) hx2 ?_)
    intro h9 tk9 G Lg oG oL gs k9 M9 hG hL hz hb hr
    exact hq' _ _ ⟨h9, tk9, G, Lg, oG, oL, gs, rfl, rfl, k9, M9, hG, hL, hz, hb, fun A' h₀ mg mb a1 a2 a3 a4 => hr A' h₀ mg mb a1 a2 a3 a4⟩
  · rintro i m news ⟨o, to, u, v, rfl, rfl, _⟩ p hp
    cases hp
  · exact ⟨0, _, _, _, rfl, rfl, rfl⟩
  · rintro i y tky c tc m₁ news₁ G oG Lg oL e oe it oi gens h tks hi ⟨o, to, u, v, rfl, rfl, hfold⟩ hb F₁ N₁ ne₁
    have hf2 := fold_next hi hfold
    clear ne₁ kF kN hfold hi
    rw [chk_m1] at F₁
    unfold chkMap at F₁
    refine opq1 ?_
    intro Qn hqn
    k_steps
    · rw [par_open (by assumption)] at hf2
      exact hqn _ _ (turn_g (by assumption) (by assumption) ⟨_, _, _, _, chk_m2, rfl, hf2⟩)
    · rw [par_bad (by assumption) (by assumption) (by assumption)] at hf2
      have hfa := par_stop hf2
      rw [show checkOf x = false from by unfold checkOf; rw [hfa]] at hR
      exact hqn _ _ (hR _ _ _ (Fr.keep (by assumption)) hb)
    · rw [par_close (by assumption) (by assumption) (by assumption)] at hf2
      exact hqn _ _ (turn_g (by assumption) (by assumption) ⟨_, _, _, _, chk_m2, rfl, hf2⟩)
    · rw [par_other (by assumption) (by assumption)] at hf2
      exact hqn _ _ (turn_g (by assumption) (by assumption) ⟨_, _, _, _, rfl, rfl, hf2⟩)
  · rintro m₁ news₁ h tk gens ⟨o, to, u, v, rfl, rfl, hfold⟩ hb F₁ N₁
    rw [List.take_of_length_le (Nat.le_refl _)] at hfold
    have hck : checkOf x = (o == 0) := by unfold checkOf; rw [hfold]
    clear kF kN hfold
    unfold chkMap at F₁
    dsimp only
    k_steps
    rw [hck] at hR
    exact hR _ _ _ (Fr.keep (by assumption)) hb
end
example : True ∧ True := by
  w_top off
  walk1 <;> trivial
section
theorem sub_keyLookup : isSubtype (.type "KeyError") (.type "LookupError") = pure true := by rw [isSubtype_type]; kernel_rfl
section
variable {w : World} {A : Around} {E : Value → Shared → Prop} {s : Shared} {d : Addr} {f : Int → Option Value} {c : Nat}
theorem look_hit {y : PySem.Str} {ty : Tok} {Q : Builtin.Str.Mapped → Shared → Prop} (hm : s.heap.MapOf (intKind pw w) d f) (hf : f c = some (.str y ty)) (h : ∀ tk, Q (.text y) { s with toks := tk }) :
    wpAny (model pw w) A (Builtin.Str.tableLookup (.ref d) c) Q E s := by
  unfold Builtin.Str.tableLookup
  refine wpAny_bind (wpAny_attempt (wpAny_bind (wpAny_mkInt ?_)))
  refine wpAny_getItem_of (knd := intKind pw w) (k := (c : Int)) (by simp [intKind, Value.isInt]) hm hf ?_
  show wpAny _ _ (asInt? (.str y ty) >>= _) _ _ _
  refine wpAny_bind (wpAny_pure ?_)
  refine wpAny_bind (m := asStr? (.str y ty)) (wpAny_pure ?_)
  exact wpAny_pure (h _)
theorem look_miss {Q : Builtin.Str.Mapped → Shared → Prop} (hh : A.handled = none) (hd : (d == sysModules) = false) (hm : s.heap.MapOf (intKind pw w) d f) (hf : f c = none) (h : ∀ h' tk, Kp s.heap h' → Q .keep { s with heap := h', toks := tk }) :
    wpAny (model pw w) A (Builtin.Str.tableLookup (.ref d) c) Q E s := by
  unfold Builtin.Str.tableLookup
  refine wpAny_bind (wpAny_attempt (wpAny_bind (wpAny_mkInt ?_)))
  refine wpAny_getItem_missing_of (knd := intKind pw w) (k := (c : Int)) (by simp [intKind, Value.isInt]) hd hh hm hf ?_
  intro h' e hx
  show wpAny _ _ (isInstance (.ref e) (.type "LookupError") >>= _) _ _ _
  obtain ⟨ob, t, ho, hc, _⟩ := hx.there
  refine wpAny_bind (wpAny_isInstance (T := "KeyError") (b := true) ⟨ob, ho, hc⟩ sub_keyLookup ?_)
  refine wpAny_bind (wpAny_rule ?_)
  exact wpAny_pure (h _ _ hx.keeps)
def transOf (f : Int → Option Value) (c : Nat) : PySem.Str := match f c with
  | some (.str y _) => y
  | _ => ⟨#[c]⟩
theorem translate_hit {t : Tok} {y : PySem.Str} {ty : Tok} {Q : Value → Shared → Prop} (hm : s.heap.MapOf (intKind pw w) d f) (hf : f c = some (.str y ty)) (hy : y.length = 2)
    (h : ∀ tk t', Q (.str y t') { s with toks := tk }) : wpAny (model pw w) A (call (.builtin "str.translate") [.str ⟨#[c]⟩ t, .ref d]) Q E s := by
  have fin : ∀ tk, wpAny (model pw w) A.in1 (if Builtin.Str.tooLong (0 + y.length) = true then do
      unsupported "str.translate:memory"
      retStr { cps := List.foldl (fun acc p => acc ++ p.cps) #[] [y].reverse }
      else retStr { cps := List.foldl (fun acc p => acc ++ p.cps) #[] [y].reverse })
      (fun fin s' => match fin with | .done f => wants Q E (.ok f) s' | .again c' => c'.quiet = true ∧ codeAny (model pw w) A c' (wants Q E) s') (fun e s' => wants Q E (.error e) s') { s with toks := tk } := by
    intro tk
    rw [hy, if_neg (show ¬ (Builtin.Str.tooLong (0 + 2) = true) by decide +kernel)]
    have e : (List.foldl (fun (acc : Array Nat) (p : PySem.Str) => acc ++ p.cps) #[] [y].reverse) = y.cps := by simp
    rw [e]
    unfold retStr
    refine wpAny_bind (wpAny_mkStr ?_ (by rw [sizeLine_eq]; show y.length ≤ _; omega))
    exact wpAny_pure (h _ _)
  refine wpAny_call (codeAny_call_builtin F.slot_str_translate.plain F.entry_str_translate (F.slot_str_translate.check _ _ _ _ _ _ _ _ (typeIs_str _ _ _) (F.args_str_translate_2 _ _) ?_))
  unfold Builtin.«str.translate»
  refine wpAny_bind (m := Builtin.Str.strOneArg _ _) (wpAny_pure ?_)
  dsimp only
  rw [if_neg (by show ¬ (((1 : Nat) == 0) = true); decide)]
  refine wpAny_bind ?_
  rw [← Array.forIn_toList]
  rw [show (#[c] : Array Nat).toList = [c] from rfl, List.forIn_cons]
  refine wpAny_bind ?_
  rw [if_neg (show ¬ (Builtin.Str.tooLong 0 = true) by decide +kernel)]
  cases hfast : (#[c] : Array Nat).all fun x => decide (x < 128)
  · dsimp only
    rw [if_neg (by decide), if_neg (by decide)]
    refine wpAny_bind (look_hit hm hf fun tk => ?_)
    dsimp only
    refine wpAny_pure ?_
    dsimp only
    refine wpAny_pure ?_
    dsimp only
    exact fin tk
  · dsimp only
    rw [if_pos rfl]
    dsimp only [List.lookup]
    refine wpAny_bind (look_hit hm hf fun tk => ?_)
    dsimp only
    rw [if_neg (by simp [hy])]
    dsimp only
    refine wpAny_bind (wpAny_pure ?_)
    dsimp only
    refine wpAny_bind (wpAny_rule ?_)
    rw [if_neg (by decide)]
    refine wpAny_bind (look_hit (s := { s with toks := tk }) hm hf fun tk2 => ?_)
    dsimp only
    refine wpAny_pure ?_
    dsimp only
    refine wpAny_pure ?_
    dsimp only
    exact fin tk2
theorem translate_miss {t : Tok} {Q : Value → Shared → Prop} (hh : A.handled = none) (hd : (d == sysModules) = false) (hm : s.heap.MapOf (intKind pw w) d f) (hf : f c = none)
    (h : ∀ h' tk t', Kp s.heap h' → Q (.str ⟨#[c]⟩ t') { s with heap := h', toks := tk }) : wpAny (model pw w) A (call (.builtin "str.translate") [.str ⟨#[c]⟩ t, .ref d]) Q E s := by
  have fin : ∀ h' tk, Kp s.heap h' → wpAny (model pw w) A.in1 (if Builtin.Str.tooLong (0 + 1) = true then do
      unsupported "str.translate:memory"
      retStr { cps := List.foldl (fun acc p => acc ++ p.cps) #[] [(⟨#[c]⟩ : PySem.Str)].reverse }
      else retStr { cps := List.foldl (fun acc p => acc ++ p.cps) #[] [(⟨#[c]⟩ : PySem.Str)].reverse })
      (fun fin s' => match fin with | .done f => wants Q E (.ok f) s' | .again c' => c'.quiet = true ∧ codeAny (model pw w) A c' (wants Q E) s') (fun e s' => wants Q E (.error e) s') { s with heap := h', toks := tk } := by
    intro h' tk k
    rw [if_neg (show ¬ (Builtin.Str.tooLong (0 + 1) = true) by decide +kernel)]
    have e : (List.foldl (fun (acc : Array Nat) (p : PySem.Str) => acc ++ p.cps) #[] [(⟨#[c]⟩ : PySem.Str)].reverse) = #[c] := by simp
    rw [e]
    unfold retStr
    refine wpAny_bind (wpAny_mkStr ?_ (by rw [sizeLine_eq]; show 1 ≤ _; omega))
    exact wpAny_pure (h _ _ _ k)
  refine wpAny_call (codeAny_call_builtin F.slot_str_translate.plain F.entry_str_translate (F.slot_str_translate.check _ _ _ _ _ _ _ _ (typeIs_str _ _ _) (F.args_str_translate_2 _ _) ?_))
  unfold Builtin.«str.translate»
  refine wpAny_bind (m := Builtin.Str.strOneArg _ _) (wpAny_pure ?_)
  dsimp only
  rw [if_neg (by show ¬ (((1 : Nat) == 0) = true); decide)]
  refine wpAny_bind ?_
  rw [← Array.forIn_toList]
  rw [show (#[c] : Array Nat).toList = [c] from rfl, List.forIn_cons]
  refine wpAny_bind ?_
  rw [if_neg (show ¬ (Builtin.Str.tooLong 0 = true) by decide +kernel)]
  cases hfast : (#[c] : Array Nat).all fun x => decide (x < 128)
  · dsimp only
    rw [if_neg (by decide), if_neg (by decide)]
    refine wpAny_bind (look_miss hh hd hm hf fun h' tk k => ?_)
    dsimp only
    refine wpAny_pure ?_
    dsimp only
    refine wpAny_pure ?_
    dsimp only
    exact fin h' tk k
  · dsimp only
    rw [if_pos rfl]
    dsimp only [List.lookup]
    refine wpAny_bind (look_miss hh hd hm hf fun h' tk k => ?_)
    dsimp only
    refine wpAny_bind (wpAny_pure ?_)
    dsimp only
    refine wpAny_pure ?_
    dsimp only
    refine wpAny_pure ?_
    dsimp only
    exact fin h' tk k
end
def specials : List Int := [40, 41, 91, 93, 123, 125, 63, 42, 43, 45, 124, 94, 36, 92, 46, 38, 126, 35, 32, 9, 10, 13, 11, 12]
def goodE (e : DictEntry) : Bool := match e.key with
  | .int k _ => e.hash == hashInt k && (match e.val with | .str y _ => y.cps == #[92, k.toNat] | _ => false)
  | _ => false
def keyE (e : DictEntry) : Int := match e.key with
  | .int k _ => k
  | _ => -1
theorem tab_ok (p : Params) : ∃ es ep, (Mine.K p).lookup 160 = some ⟨.type "dict", none, .dict es ep, #[]⟩ ∧ es.toList.all goodE = true ∧ es.toList.map keyE = specials := by
  refine ⟨_, _, by with_unfolding_all exact rfl, ?_, ?_⟩
  · with_unfolding_all rfl
  · with_unfolding_all rfl
theorem goodE_spec {e : DictEntry} (h : goodE e = true) : ∃ k t u, e.key = .int k t ∧ e.hash = hashInt k ∧ e.val = .str ⟨#[92, k.toNat]⟩ u ∧ keyE e = k := by
  unfold goodE at h
  split at h
  · next k t hk =>
    rw [Bool.and_eq_true] at h
    obtain ⟨h1, h2⟩ := h
    split at h2
    · next y u hy =>
      refine ⟨k, t, u, hk, by simpa using h1, ?_, by unfold keyE; rw [hk]⟩
      rw [hy]
      have : y.cps = #[92, k.toNat] := by simpa using h2
      obtain ⟨z⟩ := y
      simp only at this
      rw [this]
    · cases h2
  · cases h
theorem find_some {c : Int} : ∀ {l : List DictEntry}, l.all goodE = true → c ∈ l.map keyE → ∃ e ∈ l, l.find? (fun e => Value.isInt c e.key) = some e ∧ ∃ u, e.val = .str ⟨#[92, c.toNat]⟩ u
  | [], _, h => by cases h
  | e :: r, hg, h => by
    rw [List.all_cons, Bool.and_eq_true] at hg
    obtain ⟨k, t, u, hk, _, hv, hke⟩ := goodE_spec hg.1
    by_cases hc : k = c
    · subst hc
      exact ⟨e, .head _, by rw [List.find?_cons_of_pos (by rw [hk]; simp [Value.isInt])], u, hv⟩
    · rw [List.map_cons, hke] at h
      rcases List.mem_cons.mp h with h | h
      · exact absurd h.symm hc
      · obtain ⟨e', he', hf, u', hu'⟩ := find_some hg.2 h
        exact ⟨e', .tail _ he', by rw [List.find?_cons_of_neg (by rw [hk]; simp [Value.isInt, hc]), hf], u', hu'⟩
theorem find_none {c : Int} : ∀ {l : List DictEntry}, l.all goodE = true → c ∉ l.map keyE → l.find? (fun e => Value.isInt c e.key) = none
  | [], _, _ => rfl
  | e :: r, hg, h => by
    rw [List.all_cons, Bool.and_eq_true] at hg
    obtain ⟨k, t, u, hk, _, hv, hke⟩ := goodE_spec hg.1
    rw [List.map_cons, hke] at h
    have hc : ¬ k = c := fun e => h (by rw [e]; exact .head _)
    rw [List.find?_cons_of_neg (by rw [hk]; simp [Value.isInt, hc])]
    exact find_none hg.2 fun q => h (.tail _ q)
def escOf (c : Nat) : PySem.Str := if (c : Int) ∈ specials then ⟨#[92, c]⟩ else ⟨#[c]⟩
theorem translate_tab {w : World} {A : Around} {E : Value → Shared → Prop} {s : Shared} {c : Nat} {t : Tok} {Q : Value → Shared → Prop} (X : (Mine.K w.params).In s.heap) (hh : A.handled = none)
    (h : ∀ h' tk t', Kp s.heap h' → Q (.str (escOf c) t') { s with heap := h', toks := tk }) : wpAny (model pw w) A (call (.builtin "str.translate") [.str ⟨#[c]⟩ t, .ref 160]) Q E s := by
  obtain ⟨es, ep, hl, hg, hk⟩ := tab_ok w.params
  have hm : s.heap.MapOf (intKind pw w) 160 (fun k => findBy Value.isInt es k) := by
    refine ⟨_, es, ep, X _ _ hl, ⟨rfl, rfl, rfl⟩, rfl, ?_, fun _ => rfl⟩
    intro e he
    obtain ⟨k, t, u, hk, hh, _⟩ := goodE_spec (List.all_eq_true.mp hg e (by simpa using he))
    exact ⟨k, by rw [hk]; show Value.isInt k (.int k t) = true; simp [Value.isInt], hh⟩
  have hfb : ∀ k : Int, findBy Value.isInt es k = (es.toList.find? fun e => Value.isInt k e.key).map (·.val) := fun k => by
    unfold findBy; rw [Array.find?_toList]
  by_cases hc : (c : Int) ∈ specials
  · rw [show escOf c = ⟨#[92, c]⟩ from if_pos hc] at h
    obtain ⟨e, _, hf, u, hu⟩ := find_some (c := (c : Int)) hg (by rw [hk]; exact hc)
    exact translate_hit (y := ⟨#[92, c]⟩) (ty := u) hm (by show findBy Value.isInt es (c : Int) = _; rw [hfb, hf, Option.map_some, hu, Int.toNat_natCast]) rfl fun tk t' => h _ tk t' (Kp.refl _)
  · rw [show escOf c = ⟨#[c]⟩ from if_neg hc] at h
    exact translate_miss hh (by decide +kernel) hm (by show findBy Value.isInt es (c : Int) = _; rw [hfb, find_none hg (by rw [hk]; exact hc)]; rfl) h
theorem getm_translate {M : Model} {A : Around} {E : Value → Shared → Prop} {s : Shared} {x : PySem.Str} {t : Tok} {pl : Sem Bool} {Q : Value × List Value → Shared → Prop}
    (h : Q (.builtin "str.translate", [.str x t]) s) : wpAny M A (getMethod (.str x t) "translate" pl) Q E s := by
  with_reducible exact GM.of (.str x t) (typeIs_str _ _ _) F.slot_str_translate F.type_str_translate GM.noRef h
local macro_rules | `(tactic| walk_at "getMethod str") => `(tactic| with_reducible refine getm_translate ?_)
local macro_rules | `(tactic| walk_at "call builtin:str.translate") => `(tactic| (k_dflt ((with_reducible rename Fr _ _ _ _ => F'); refine' translate_tab (in_fr (by assumption) F') rfl ?_); intro h9 tk9 t9 k9; walk_at "m.kp"))
theorem escape_spec {w : World} {A : Around} {s : Shared} {mg mb : PySem.Str → Option Value} {c : Nat} {t : Tok} {R : Result → Shared → Prop}
    (X : (Mine.K w.params).In s.heap) (T : TopRead vw lz mg mb s.heap) (hA : Room A (1 + 1))
    (hR : ∀ h' tk t', Kp s.heap h' → R (.ok (.ret (.str (escOf c) t'))) { s with heap := h', toks := tk }) :
    codeAny (model pw w) A (.call (.ref 170) ⟨[.str ⟨#[c]⟩ t], []⟩) R s := by
  obtain ⟨hd9, d9, fr9, gu9, u9⟩ := A
  obtain rfl : hd9 = none := hA.h
  refine' enterF [(PySem.Str.ofString "pattern", .str ⟨#[c]⟩ t)] ?k1 ?k2 ?k3 ?k4 ?k5 ?k6 ?k7 ?k8 ?k9 ?k10 ?k11 ?_
  walk_at "m.enter"
  intro L h₁ F N hA'
  k_steps
  exact hR _ _ _ (Fr.keep (by assumption))
end
section
theorem lk_list_append : typeLookup (.type "list") "append" = pure (some (.builtin "list.append")) := slot_list_append.lookup
theorem slot_md_get : Slot "method_descriptor" "__get__" "method_descriptor.__get__" :=
  .of (owner := "method_descriptor") (n := "__get__") (by rw [typeLookup_type, builtinLookup_eq_fast]; kernel_rfl) (by decide +kernel) (by decide +kernel) (by decide +kernel)
    (by first | exact .inl (by decide +kernel) | exact .inr (by decide +kernel)) (by rw [isSubtype_type]; kernel_rfl)
theorem md_set : typeLookup (.type "method_descriptor") "__set__" = pure none := by rw [typeLookup_type, builtinLookup_eq_fast]; kernel_rfl
theorem md_del : typeLookup (.type "method_descriptor") "__delete__" = pure none := by rw [typeLookup_type, builtinLookup_eq_fast]; kernel_rfl
theorem entry_md_get : entryFor table "method_descriptor.__get__" = some Builtin.«method_descriptor.__get__» := entryFor_of_tree (by kernel_rfl)
theorem args_md_get (a b c : Value) : argsOk "method_descriptor.__get__" ⟨[a, b, c], []⟩ := by unfold argsOk; kernel_rfl
theorem list_getattr : typeLookup (.type "list") "__getattr__" = pure none := by rw [typeLookup_type, builtinLookup_eq_fast]; kernel_rfl
theorem owner_list_append : ".".intercalate ("list.append".cutAt '.').dropLast = "list" := by decide +kernel
theorem sub_list_list : isSubtype (.type "list") (.type (".".intercalate ("list.append".cutAt '.').dropLast)) = pure true := by rw [owner_list_append, isSubtype_type]; kernel_rfl
section
variable {prog : Program} {w : World} {A : Around} {E : Value → Shared → Prop} {h : Heap} {g : Array GenState} {d : Drawn} {t : Nat} {os : OsState} {a : Addr} {o : Obj}
abbrev bmObj (l : Addr) : Obj := { cls := .type "builtin_function_or_method", data := .fields #[.builtin "list.append", .ref l] }
theorem append_get {R : Result → Shared → Prop} (hx : h.get? a = some o) (hc : o.cls = .type "list") (hq : R (.ok (.ret (.ref h.objs.size))) ⟨h.push (bmObj a), g, d, t, os⟩) :
    codeAny (model prog w) A (.call (.builtin "method_descriptor.__get__") ⟨[.builtin "list.append", .ref a, .type "list"], []⟩) R ⟨h, g, d, t, os⟩ := by
  have hT : (⟨h, g, d, t, os⟩ : Shared).TypeIs (.ref a) "list" := ⟨_, hx, hc⟩
  have hT5 : (⟨h, g, d, t, os⟩ : Shared).TypeIs (.builtin "list.append") "method_descriptor" := type_list_append
  have f8 := sub_list_list
  refine codeAny_call_builtin slot_md_get.plain entry_md_get (slot_md_get.check _ _ _ _ _ _ _ _ hT5 (args_md_get _ _ _) ?_)
  repeat (any_goals (first | assumption | wp_step))
variable {xs : Array Value} {k : Nat}
theorem append_entry {tk : Tok} {Q : Fin → Shared → Prop} (hx : h.get? a = some { cls := .type "list", dict := none, data := .seq xs k, slots := #[] }) (hq : Q (.done (.ret (.ref h.objs.size))) ⟨h.push (bmObj a), g, d, t, os⟩) :
    wpAny (model prog w) A (Builtin.«object.__getattribute__» ⟨[.ref a, .str "append" tk], []⟩) Q E ⟨h, g, d, t, os⟩ := by
  have hT : (⟨h, g, d, t, os⟩ : Shared).TypeIs (.ref a) "list" := ⟨_, hx, rfl⟩
  have hT5 : (⟨h, g, d, t, os⟩ : Shared).TypeIs (.builtin "list.append") "method_descriptor" := type_list_append
  have f4 := lk_list_append
  have f5 := type_list_append
  have f6 := slot_md_get.lookup
  have f7 := md_set
  have f8 := md_del
  have f9 := list_getattr
  unfold Builtin.«object.__getattribute__»
  repeat (any_goals (first | assumption | ((with_reducible show wpAny _ _ (call (Value.builtin "method_descriptor.__get__") _ _) _ _ _); refine wpAny_call (append_get hx rfl ?_)) | wp_step))
theorem append_attr {ex : Bool} {Q : Value → Shared → Prop} (hx : h.get? a = some { cls := .type "list", dict := none, data := .seq xs k, slots := #[] }) (hq : ∀ t', Q (.ref h.objs.size) ⟨h.push (bmObj a), g, d, t', os⟩) :
    wpAny (model prog w) A (getAttr (.ref a) "append" ex) Q E ⟨h, g, d, t, os⟩ := by
  have hT : ∀ tk', (⟨h, g, d, tk', os⟩ : Shared).TypeIs (.ref a) "list" := fun _ => ⟨_, hx, rfl⟩
  have f3 := F.slot_list_getattribute.lookup
  have f4 := F.slot_list_getattribute.bind (.ref a)
  have f5 := list_getattr
  unfold getAttr getAttrBy
  repeat (any_goals (first | assumption | exact hT _ | wp_step))
  rw [show (ex && onTheHeap (Value.builtin "list.__getattribute__")) = false from by simp [onTheHeap]]
  simp only [Bool.false_eq_true, if_false]
  repeat (any_goals (first | assumption | exact hT _ | ((with_reducible show wpAny _ _ (call (Value.builtin "list.__getattribute__") _ _) _ _ _); refine wpAny_call (codeAny_call_builtin F.slot_list_getattribute.plain am_entry_list_getattribute (F.slot_list_getattribute.check _ _ _ _ _ _ _ _ (hT _) (F.args_list_getattribute_2 _ _) (append_entry hx ?_)))) | wp_step))
  exact hq _
end
section
variable {w : World} {A : Around} {E : Value → Shared → Prop} {s : Shared} {h₀ : Heap} {L : Addr} {m : PySem.Str → Option Value} {news news' : List (Addr × Obj)}
theorem ck_append (v : Value) (l : Addr) {M : Model} {Q : Unit → Shared → Prop} {its : Array Value} {n : Nat} (hx : s.heap.get? l = some (listOf its n)) (hq : Q () s) : wpAny M A (checkBoundCall "list.append" ⟨[.ref l, v], []⟩) Q E s := by
  obtain ⟨h, g, d, t, os⟩ := s
  have hT : (⟨h, g, d, t, os⟩ : Shared).TypeIs (.ref l) "list" := ⟨_, hx, rfl⟩
  unfold checkBoundCall
  have f1 : isSubtype (.type "list") (.type "module") = pure false := by rw [isSubtype_type]; kernel_rfl
  have f2 : isSubtype (.type "list") (.type "type") = pure false := by rw [isSubtype_type]; kernel_rfl
  repeat (any_goals (first | assumption | wp_step))
theorem bound_at {b l : Addr} {its : Array Value} {n : Nat} {x : Value} {Q : Value → Shared → Prop} (hb : s.heap.get? b = some (bmObj l)) (ho : s.heap.get? l = some (listOf its n)) (hsz : its.size ≤ sizeLine)
    (h : ∀ h', Heap.SameBut l s.heap h' → h'.get? l = some (listOf (its.push x) (n + 1)) → Q .none { s with heap := h' }) :
    wpAny (model pw w) A (call (.ref b) [x]) Q E s := by
  refine wpAny_call (codeAny_of_tree ?_)
  show wpAny _ _ (callAny (.ref b) ⟨[x], []⟩) _ _ s
  unfold callAny
  refine wpAny_bind (wpAny_load hb ?_)
  show wpAny _ _ (checkBoundCall "list.append" ⟨[.ref l, x], []⟩ >>= fun _ => again (.builtin "list.append" ⟨[.ref l, x], []⟩)) _ _ s
  refine wpAny_bind (ck_append x l ho ?_)
  refine wpAny_pure ⟨Code.quiet_builtin _ (by decide +kernel), codeAny_builtin entry_list_append ?_⟩
  show wpAny _ _ (updateSeq l (·.push x) >>= fun _ => ret .none) _ _ s
  refine wpAny_bind ?_
  refine wpAny_updateSeq ho rfl (wpAny_pure (h _ (Heap.SameBut.update ..) ?_))
  rw [Heap.get?_update_self _ ho (by rw [mapSeq_push]; rfl), mapSeq_push]
theorem bound_lst {b D : Addr} {vs : List Value} {n : Nat} {x : Value} {Q : Value → Shared → Prop} (F : Fr h₀ L s.heap m) (N : News h₀ L s.heap news) (hm : (b, bmObj D) ∈ news) (U : Upd D (listOf vs.toArray n) (listOf (vs ++ [x]).toArray (n + 1)) news news')
    (hz : vs.length ≤ sizeLine) (h : ∀ h', Fr h₀ L h' m → News h₀ L h' news' → Q .none { s with heap := h' }) : wpAny (model pw w) A (call (.ref b) [x]) Q E s := by
  have hb := N.get hm
  obtain ⟨pre, post, rfl, rfl, a, b⟩ := U.split
  have z := N (D, listOf vs.toArray n) (List.mem_append.mpr (.inr (.head _)))
  refine bound_at hb z.1 (by rw [List.size_toArray]; exact hz) fun h' hs ho' => h h' (F.change hs z.2.1 z.2.2) (news_set N a b hs ?_)
  rw [ho']; simp
theorem append_made {D : Addr} {its : Array Value} {n : Nat} {ex : Bool} {Q : Value → Shared → Prop} (F : Fr h₀ L s.heap m) (N : News h₀ L s.heap news) (hm : (D, listOf its n) ∈ news)
    (h : ∀ b h' tk, Fr h₀ L h' m → News h₀ L h' ((b, bmObj D) :: news) → GnNe b news → Q (.ref b) { s with heap := h', toks := tk }) : wpAny (model pw w) A (getAttr (.ref D) "append" ex) Q E s :=
  append_attr (N.get hm) fun t' => h _ _ _ (F.push _) (News.push F N _) (gnNe_of fun p hp e => by
    have := (N p hp).1
    rw [e] at this
    exact absurd (Heap.lt_size this) (Nat.lt_irrefl _))
def StandsB (x l : Addr) (h : Heap) : Prop := h.get? x = some (bmObj l)
theorem callWith_bf {M : Model} {pos : Pos} {u l : Addr} {first : List Value} {args : List (Bool × Sem Value)} {Q : Value → Shared → Prop} (hplain : args.any (·.1) = false)
    (h : wpAny M A (evalArgs (.ref u) true args []) (fun x s₁ => StandsB u l s₁.heap ∧ wpAny M A (call (.ref u) (first ++ x.pos) x.kw) Q E s₁) E s) : wpAny M A (callWith pos (.ref u) first args []) Q E s := by
  unfold callWith
  refine wpAny_bind (wpAny_holding (wpAny_mono h (fun x s₁ h₁ => wpAny_bind (wpAny_standAt ?_)) fun _ _ x => x))
  obtain ⟨ho, hcall⟩ := h₁
  simp only [hplain, List.any_nil, Bool.or_false]
  refine wpAny_bind (m := keeperOf (.ref u)) ?_
  unfold keeperOf
  refine wpAny_bind (wpAny_load ho ?_)
  simp only [show (Value.type "builtin_function_or_method" != Value.type "method") = true by decide, show (Value.type "builtin_function_or_method" == Value.type "builtin_function_or_method" || Value.type "builtin_function_or_method" == Value.type "method-wrapper") = true by decide, if_true]
  refine wpAny_pure ?_
  exact wpAny_bind (wpAny_mono hcall (fun r s₂ hr => wpAny_bind (wpAny_holding (wpAny_point (wpAny_pure hr)))) fun _ _ x => x)
theorem callWith_bm {M : Model} {pos : Pos} {u l : Addr} {first : List Value} {env : Env} {e : Expr} {rest : List Expr} {Q : Value → Shared → Prop} (_N : News h₀ L s.heap news) (_hm : (u, bmObj l) ∈ news)
    (h : wpAny M A (spliced (backTo pos (starEach (e :: rest) env))) (fun vs s₁ => StandsB u l s₁.heap ∧ wpAny M A (call (.ref u) (first ++ vs)) Q E s₁) E s)
    (he : starEach (e :: rest) env = (false, eval e env) :: starEach rest env := by rfl) (hplain : (backTo pos (starEach rest env)).any (·.1) = false := by rfl) :
    wpAny M A (callWith pos (.ref u) first (backTo pos (starEach (e :: rest) env)) []) Q E s := by
  rw [he] at h ⊢
  refine callWith_bf (l := l) (by show (false || (backTo pos (starEach rest env)).any (·.1)) = false; rw [hplain]; rfl) ?_
  exact evalArgs_plain h
end
end
local macro_rules | `(tactic| walk_at "getAttr ref") => `(tactic| (k_dflt ((with_reducible rename Fr _ _ _ _ => F'); (with_reducible rename News _ _ _ _ => N'); refine' append_made F' N' ?m ?_; (case m => k_mem); intro b9 h9 tk9 F9 N9 A9; clear F' N'; (try simp only [GnNe, and_true] at A9))))
local macro_rules | `(tactic| walk_at "callWith ref") => `(tactic| (k_dflt ((with_reducible rename News _ _ _ _ => N'); refine' callWith_bm N' ?m ?_; (case m => k_mem))))
local macro_rules | `(tactic| walk_at "And") => `(tactic| ((with_reducible show StandsB _ _ _ ∧ _); k_dflt ((with_reducible rename News _ _ _ _ => N'); (refine ⟨N'.get (by k_mem), ?_⟩)); (try dsimp only [List.nil_append, List.cons_append])))
local macro_rules | `(tactic| walk_at "call ref") => `(tactic| (k_dflt ((with_reducible rename Fr _ _ _ _ => F'); (with_reducible rename News _ _ _ _ => N'); refine' bound_lst F' N' ?m ?U ?z ?_; (case m => k_mem); (case U => k_upd); (case z => walk_at "m.len"); intro h9 F9 N9; clear F' N')))
local macro_rules | `(tactic| walk_at "exec While") => `(tactic| (refine stop_of ?_))
example : True ∧ True := by
  w_top off
  walk1 <;> trivial
section
def tokStep (toks : List (Option PySem.Str)) (c : Nat) : List (Option PySem.Str) :=
  if c = 42 then (if toks.getLast? = some none then toks else toks ++ [none])
  else if c = 63 then toks ++ [some (PySem.Str.ofString ".")] else toks ++ [some (escOf c)]
def transToks (cs : List Nat) : List (Option PySem.Str) := if cs = [91, 97, 93] then [some (PySem.Str.ofString "[a]")] else cs.foldl tokStep []
inductive ToksAre (S : Addr) : List Value → List (Option PySem.Str) → Prop
  | nil : ToksAre S [] []
  | star {vs ts} : ToksAre S vs ts → ToksAre S (.ref S :: vs) (none :: ts)
  | str {vs ts} (y t) : ToksAre S vs ts → ToksAre S (.str y t :: vs) (some y :: ts)

abbrev trBase (x : PySem.Str) (t tn tq : Tok) (b l S : Addr) : PySem.Str → Option Value := fun y => if y = PySem.Str.ofString "n" then some (Value.int (↑x.length) tn) else if y = PySem.Str.ofString "add" then some (Value.ref b) else if y = PySem.Str.ofString "res" then some (Value.ref l) else List.lookup y [(PySem.Str.ofString "pat", Value.str x t), (PySem.Str.ofString "STAR", Value.ref S), (PySem.Str.ofString "QUESTION_MARK", Value.str (PySem.Str.ofString ".") tq)].reverse
def trMap (M0 : PySem.Str → Option Value) (uc uj us : Option Value) (i : Int) (ti : Tok) : PySem.Str → Option Value :=
  fun y => if y = PySem.Str.ofString "c" then uc else if y = PySem.Str.ofString "j" then uj else if y = PySem.Str.ofString "stuff" then us else if y = PySem.Str.ofString "i" then some (.int i ti) else M0 y
section
variable {M0 : PySem.Str → Option Value} {uc uj us : Option Value} {i i2 : Int} {ti ti2 : Tok} {a : Value}
theorem tr_m0 : (fun y => if y = PySem.Str.ofString "i" then some (.int i ti) else M0 y) = trMap M0 (M0 (PySem.Str.ofString "c")) (M0 (PySem.Str.ofString "j")) (M0 (PySem.Str.ofString "stuff")) i ti := by
  funext y
  unfold trMap
  by_cases h0 : y = PySem.Str.ofString "c"
  · have g1 : ¬ y = PySem.Str.ofString "j" := (by rw [h0]; decide +kernel); have g2 : ¬ y = PySem.Str.ofString "stuff" := (by rw [h0]; decide +kernel); have g3 : ¬ y = PySem.Str.ofString "i" := (by rw [h0]; decide +kernel); subst h0; simp only [if_true, if_neg g1, if_neg g2, if_neg g3]
  · skip
    by_cases h1 : y = PySem.Str.ofString "j"
    · have g2 : ¬ y = PySem.Str.ofString "stuff" := (by rw [h1]; decide +kernel); have g3 : ¬ y = PySem.Str.ofString "i" := (by rw [h1]; decide +kernel); subst h1; simp only [if_neg h0, if_true, if_neg g2, if_neg g3]
    · skip
      by_cases h2 : y = PySem.Str.ofString "stuff"
      · have g3 : ¬ y = PySem.Str.ofString "i" := (by rw [h2]; decide +kernel); subst h2; simp only [if_neg h0, if_neg h1, if_true, if_neg g3]
      · skip
        by_cases h3 : y = PySem.Str.ofString "i"
        · simp only [if_neg h0, if_neg h1, if_neg h2, if_pos h3]
        · skip
          simp only [if_neg h0, if_neg h1, if_neg h2, if_neg h3]
theorem tr_m1 : (fun y => if y = PySem.Str.ofString "i" then some (.int i2 ti2) else if y = PySem.Str.ofString "c" then some a else trMap M0 uc uj us i ti y) = trMap M0 (some a) uj us i2 ti2 := by
  funext y
  unfold trMap
  by_cases h0 : y = PySem.Str.ofString "c"
  · have g1 : ¬ y = PySem.Str.ofString "j" := (by rw [h0]; decide +kernel); have g2 : ¬ y = PySem.Str.ofString "stuff" := (by rw [h0]; decide +kernel); have g3 : ¬ y = PySem.Str.ofString "i" := (by rw [h0]; decide +kernel); simp only [if_pos h0, if_neg g1, if_neg g2, if_neg g3]
  · skip
    by_cases h1 : y = PySem.Str.ofString "j"
    · have g2 : ¬ y = PySem.Str.ofString "stuff" := (by rw [h1]; decide +kernel); have g3 : ¬ y = PySem.Str.ofString "i" := (by rw [h1]; decide +kernel); simp only [if_neg h0, if_pos h1, if_neg g2, if_neg g3]
    · skip
      by_cases h2 : y = PySem.Str.ofString "stuff"
      · have g3 : ¬ y = PySem.Str.ofString "i" := (by rw [h2]; decide +kernel); simp only [if_neg h0, if_neg h1, if_pos h2, if_neg g3]
      · skip
        by_cases h3 : y = PySem.Str.ofString "i"
        · simp only [if_neg h0, if_neg h1, if_neg h2, if_pos h3]
        · skip
          simp only [if_neg h0, if_neg h1, if_neg h2, if_neg h3]
theorem tr_mj {M' : PySem.Str → Option Value} (e : M' = trMap M0 uc uj us i ti) : (fun y => if y = PySem.Str.ofString "j" then some a else M' y) = trMap M0 uc (some a) us i ti := by
  subst e
  funext y
  unfold trMap
  by_cases h0 : y = PySem.Str.ofString "c"
  · have g1 : ¬ y = PySem.Str.ofString "j" := (by rw [h0]; decide +kernel); have g2 : ¬ y = PySem.Str.ofString "stuff" := (by rw [h0]; decide +kernel); have g3 : ¬ y = PySem.Str.ofString "i" := (by rw [h0]; decide +kernel); simp only [if_pos h0, if_neg g1, if_neg g2, if_neg g3]
  · skip
    by_cases h1 : y = PySem.Str.ofString "j"
    · have g2 : ¬ y = PySem.Str.ofString "stuff" := (by rw [h1]; decide +kernel); have g3 : ¬ y = PySem.Str.ofString "i" := (by rw [h1]; decide +kernel); simp only [if_neg h0, if_pos h1, if_neg g2, if_neg g3]
    · skip
      by_cases h2 : y = PySem.Str.ofString "stuff"
      · have g3 : ¬ y = PySem.Str.ofString "i" := (by rw [h2]; decide +kernel); simp only [if_neg h0, if_neg h1, if_pos h2, if_neg g3]
      · skip
        by_cases h3 : y = PySem.Str.ofString "i"
        · simp only [if_neg h0, if_neg h1, if_neg h2, if_pos h3]
        · skip
          simp only [if_neg h0, if_neg h1, if_neg h2, if_neg h3]
end
theorem item_eq {x : PySem.Str} {i c : Nat} (h : x.cps[i]? = some c) : Txt.item x (i : Int) = ⟨#[c]⟩ := by
  have hl : i < x.length := (Array.getElem?_eq_some_iff.mp h).1
  unfold Txt.item Txt.charAt seqIndex?
  have h1 : ¬ ((i : Int) < 0) := by omega
  have h2 : (i : Int) < (x.length : Int) := by omega
  simp [h1, h2, h]
theorem isnot_sr {M : Model} {A : Around} {E : Value → Shared → Prop} {s : Shared} {y : PySem.Str} {t : Tok} {S : Addr} {Q : Value → Shared → Prop} (h : Q (.bool true) s) : wpAny M A (compareOp .IsNot (.str y t) (.ref S)) Q E s := wpAny_pure h
local macro_rules | `(tactic| walk_at "compareOp IsNot") => `(tactic| (with_reducible refine isnot_sr ?_))
theorem one_ne {c d : Nat} (h : c ≠ d) {y : PySem.Str} (hy : y = ⟨#[d]⟩) : ((⟨#[c]⟩ : PySem.Str) == y) = false := by
  subst hy
  rw [beq_eq_false_iff_ne]
  intro e
  injection e with e
  injection e with e
  injection e with e
  exact h e
theorem one_is {c d : Nat} {x y : PySem.Str} (hx : x = ⟨#[c]⟩) (hy : y = ⟨#[d]⟩) (h : (x == y) = true) : c = d := by
  subst hx hy
  by_cases e : c = d
  · exact e
  · rw [one_ne e rfl] at h; cases h
theorem one_isnt {c d : Nat} {x y : PySem.Str} (hx : x = ⟨#[c]⟩) (hy : y = ⟨#[d]⟩) (h : (x == y) = false) : c ≠ d := fun e => by
  subst hx hy e; simp at h
theorem s_star : PySem.Str.ofString "*" = ⟨#[42]⟩ := by decide +kernel
theorem s_quest : PySem.Str.ofString "?" = ⟨#[63]⟩ := by decide +kernel
theorem s_open : PySem.Str.ofString "[" = ⟨#[91]⟩ := by decide +kernel
section
variable {y z : PySem.Str} {c : Nat} {ts acc : List (Option PySem.Str)}
theorem ts_star0 (hy : y = ⟨#[c]⟩) (h : (y == PySem.Str.ofString "*") = true) : tokStep [] c = [] ++ [none] := by
  rw [one_is hy s_star h]; rfl
theorem ts_star1 (hy : y = ⟨#[c]⟩) (h : (y == PySem.Str.ofString "*") = true) : tokStep (ts ++ [some z]) c = ts ++ [some z] ++ [none] := by
  rw [one_is hy s_star h]; unfold tokStep; simp
theorem ts_star2 (hy : y = ⟨#[c]⟩) (h : (y == PySem.Str.ofString "*") = true) : tokStep (ts ++ [none]) c = ts ++ [none] := by
  rw [one_is hy s_star h]; unfold tokStep; simp
theorem ts_q (hy : y = ⟨#[c]⟩) (h : (y == PySem.Str.ofString "?") = true) : tokStep acc c = acc ++ [some (PySem.Str.ofString ".")] := by
  rw [one_is hy s_quest h]; unfold tokStep; simp
theorem ts_o (hy : y = ⟨#[c]⟩) (h1 : (y == PySem.Str.ofString "*") = false) (h2 : (y == PySem.Str.ofString "?") = false) : tokStep acc c = acc ++ [some (escOf c)] := by
  unfold tokStep; rw [if_neg (one_isnt hy s_star h1), if_neg (one_isnt hy s_quest h2)]
end
theorem toks_last {S : Addr} {vs : List Value} {v : Value} {ts : List (Option PySem.Str)} (h : ToksAre S (vs ++ [v]) ts) : ∃ ts' o, ts = ts' ++ [o] ∧ ToksAre S vs ts' ∧ ((o = none ∧ v = .ref S) ∨ ∃ y t, o = some y ∧ v = .str y t) := by
  induction vs generalizing ts with
  | nil =>
    cases h with
    | star h => cases h; exact ⟨[], none, rfl, .nil, .inl ⟨rfl, rfl⟩⟩
    | str y t h => cases h; exact ⟨[], some y, rfl, .nil, .inr ⟨y, t, rfl, rfl⟩⟩
  | cons u r ih =>
    cases h with
    | star h => obtain ⟨ts', o, rfl, h1, h2⟩ := ih h; exact ⟨none :: ts', o, rfl, .star h1, h2⟩
    | str y t h => obtain ⟨ts', o, rfl, h1, h2⟩ := ih h; exact ⟨some y :: ts', o, rfl, .str y t h1, h2⟩
theorem toks_add {S : Addr} {vs : List Value} {ts : List (Option PySem.Str)} {o : Option PySem.Str} {v : Value} (h : ToksAre S vs ts) (hv : ToksAre S [v] [o]) : ToksAre S (vs ++ [v]) (ts ++ [o]) := by
  induction h with
  | nil => exact hv
  | star h ih => exact .star ih
  | str y t h ih => exact .str y t ih
theorem escape_spec2 {w : World} {A : Around} {s : Shared} {mg mb : PySem.Str → Option Value} {c : Nat} {y : PySem.Str} {t : Tok} {R : Result → Shared → Prop} (hy : y = ⟨#[c]⟩)
    (X : (Mine.K w.params).In s.heap) (T : TopRead vw lz mg mb s.heap) (hA : Room A (1 + 1))
    (hR : ∀ h' tk t', Kp s.heap h' → R (.ok (.ret (.str (escOf c) t'))) { s with heap := h', toks := tk }) :
    codeAny (model pw w) A (.call (.ref 170) ⟨[.str y t], []⟩) R s := by
  subst hy
  exact escape_spec X T hA hR
local macro_rules | `(tactic| walk_at "call ref") => `(tactic| ((with_reducible show wpAny _ _ (call (Value.ref 170) [Value.str _ _]) _ _ _); k_dflt (refine wpAny_call ?_; refine' escape_spec2 ?Y ?X ?T ?A ?_; (case Y => assumption); (case X => exact in_fr (by assumption) (by assumption)); (case T => exact top_fr (by assumption) (by assumption)); (case A => first | assumption | exact Room.less (by assumption) (by decide))); intro h9 tk9 t9 k9; walk_at "m.kp"))
def WAgain (I : Nat → Shared → Prop) (n : Nat) (s : Shared) : Prop := ∃ m, m < n ∧ I m s
theorem while_def {w : World} {A : Around} {s : Shared} {env : Env} {test : Expr} {body : List Stmt} {pos : Pos} {Q : Flow → Shared → Prop} (I : Nat → Shared → Prop) (n : Nat) (h0 : I n s)
    (turn : ∀ n s, I n s → wpAny (model pw w) A (isTrue test env (eval test env)) (fun b s₂ =>
        if b = true then wpAny (model pw w) A (execs body env) (fun f s₃ => match f with
            | .next | .cont => WAgain I n s₃
            | .brk => Q .next s₃
            | .ret v => Q (.ret v) s₃) nope s₂
        else Q .next s₂) nope s) :
    wpAny (model pw w) A (exec (.While test body [] pos) env) Q nope s := while_any I n h0 turn
def WUn (w : World) (A : Around) (env : Env) (test : Expr) (body : List Stmt) (Q : Flow → Shared → Prop) : Nat → Shared → Prop
  | 0, s => wpAny (model pw w) A (isTrue test env (eval test env)) (fun b s₂ => b = false ∧ Q .next s₂) nope s
  | k + 1, s => wpAny (model pw w) A (isTrue test env (eval test env)) (fun b s₂ =>
        if b = true then wpAny (model pw w) A (execs body env) (fun f s₃ => match f with
            | .next | .cont => WUn w A env test body Q k s₃
            | .brk => Q .next s₃
            | .ret v => Q (.ret v) s₃) nope s₂
        else Q .next s₂) nope s
theorem while_un {w : World} {A : Around} {s : Shared} {env : Env} {test : Expr} {body : List Stmt} {pos : Pos} {Q : Flow → Shared → Prop} (n : Nat) (h0 : WUn w A env test body Q n s) :
    wpAny (model pw w) A (exec (.While test body [] pos) env) Q nope s := by
  refine while_any (fun n s => WUn w A env test body Q n s) n h0 fun n s h => ?_
  cases n with
  | zero =>
    refine wpAny_mono h (fun b s₂ hb => ?_) fun _ _ e => e
    rw [hb.1]; exact hb.2
  | succ k =>
    refine wpAny_mono h (fun b s₂ hb => ?_) fun _ _ e => e
    cases b with
    | false => exact hb
    | true =>
      refine wpAny_mono hb (fun f s₃ h3 => ?_) fun _ _ e => e
      cases f with
      | next => exact ⟨k, Nat.lt_succ_self k, h3⟩
      | cont => exact ⟨k, Nat.lt_succ_self k, h3⟩
      | brk => exact h3
      | ret v => exact h3
def TrInv (x : PySem.Str) (t tn tq t0 : Tok) (b l S DT L : Addr) (s : Shared) (μ : Nat) (s' : Shared) : Prop := ∃ i uc uj us ti vs n' h' tk', μ = x.length + 1 - i ∧ i ≤ x.length ∧ s' = { s with heap := h', toks := tk' } ∧ Fr s.heap L h' (trMap (trBase x t tn tq b l S) uc uj us (i : Int) ti) ∧
    News s.heap L h' [(DT, { cls := .type "tuple", data := .seq #[.int 0 t0, .int (↑x.length) tn] }), (b, bmObj l), (l, listOf vs.toArray n')] ∧ ToksAre S vs ((x.cps.toList.take i).foldl tokStep []) ∧ vs.length ≤ i
theorem tr_again {x : PySem.Str} {t tn tq t0 : Tok} {b l S DT L : Addr} {s : Shared} {i : Nat} {h' : Heap} {tk' : Nat} {ui : Tok} {vs : List Value} {n' : Nat} {v : Value} {uj us : Option Value} {m : PySem.Str → Option Value} {acc : List (Option PySem.Str)} (hlt : i < x.length) (hnext : (x.cps.toList.take (i + 1)).foldl tokStep [] = acc)
    (F : Fr s.heap L h' m) (e : m = trMap (trBase x t tn tq b l S) (some v) uj us ((i : Int) + 1) ui)
    (N : News s.heap L h' [(DT, { cls := .type "tuple", data := .seq #[.int 0 t0, .int (↑x.length) tn] }), (b, bmObj l), (l, listOf vs.toArray n')]) (hT : ToksAre S vs acc) (hl : vs.length ≤ i + 1) :
    WAgain (TrInv x t tn tq t0 b l S DT L s) (x.length + 1 - i) { s with heap := h', toks := tk' } := by
  subst e
  exact ⟨x.length + 1 - (i + 1), by omega, i + 1, _, _, _, _, vs, n', h', tk', rfl, hlt, rfl, F, N, hnext ▸ hT, hl⟩
theorem while_opq {w : World} {A : Around} {s : Shared} {env : Env} {test : Expr} {body : List Stmt} {pos : Pos} {Q : Flow → Shared → Prop} (I : Nat → Shared → Prop) (n : Nat) (h0 : I n s)
    (turn : ∀ n s, I n s → ∀ Qn : Flow → Shared → Prop, (∀ s₃, WAgain I n s₃ → Qn .next s₃) → (∀ s₃, Q .next s₃ → Qn .brk s₃) → wpAny (model pw w) A (isTrue test env (eval test env)) (fun b s₂ =>
        if b = true then wpAny (model pw w) A (execs body env) Qn nope s₂ else Qn .brk s₂) nope s) :
    wpAny (model pw w) A (exec (.While test body [] pos) env) Q nope s := by
  refine while_def I n h0 fun n s h => ?_
  refine wpAny_mono (turn n s h (fun f s₃ => match f with
            | .next | .cont => WAgain I n s₃
            | .brk => Q .next s₃
            | .ret v => Q (.ret v) s₃) (fun _ h => h) fun _ h => h) (fun b s₂ h => h) fun _ _ h => h
theorem translate_core {w : World} {A : Around} {s : Shared} {mg mb : PySem.Str → Option Value} {x : PySem.Str} {t tq : Tok} {S : Addr} {R : Result → Shared → Prop}
    (X : (Mine.K w.params).In s.heap) (T : TopRead vw lz mg mb s.heap) (hA : Room A (2 + 1)) (hn : x.length ≤ 3)
    (hbr : ∀ i, x.cps[i]? = some 91 → (∃ z, z ≠ 93 ∧ x.cps = #[91, 97, z]) ∨ i + 1 = x.length)
    (hR : ∀ h' tk D vs n', Kp s.heap h' → Made s.heap h' [(D, listOf vs.toArray n')] → ToksAre S vs (x.cps.toList.foldl tokStep []) → R (.ok (.ret (.ref D))) { s with heap := h', toks := tk }) :
    codeAny (model pw w) A (.call (.ref 177) ⟨[.str x t, .ref S, .str (PySem.Str.ofString ".") tq], []⟩) R s := by
  obtain ⟨hd9, d9, fr9, gu9, u9⟩ := A
  obtain rfl : hd9 = none := hA.h
  refine' enterF [(PySem.Str.ofString "pat", .str x t), (PySem.Str.ofString "STAR", .ref S), (PySem.Str.ofString "QUESTION_MARK", .str (PySem.Str.ofString ".") tq)] ?k1 ?k2 ?k3 ?k4 ?k5 ?k6 ?k7 ?k8 ?k9 ?k10 ?k11 ?_
  walk_at "m.enter"
  intro L h₁ F N hA'
  k_steps
  unfold Stop
  rename_i _ l _ _ _ _ b _ tk9 hlb _ DT _ hDT _ _ _ kF kN
  rw [show (fun y => if y = PySem.Str.ofString "i" then some (Value.int 0 (tk9 + 1)) else _) = _ from tr_m0 (M0 := trBase x t (tk9 + 1 + 1 + 1) tq b l S)] at kF
  refine while_opq (TrInv x t (tk9 + 1 + 1 + 1) tq (tk9 + 1) b l S DT L s) (x.length + 1) ?_ ?_
  · exact ⟨0, _, _, _, _, [], 0, _, _, rfl, Nat.zero_le _, rfl, kF, kN, .nil, Nat.le_refl _⟩
  · rintro μ s' ⟨i, uc, uj, us, ti, vs, n', h', tk', rfl, hi, rfl, F₁, N₁, hT, hlen⟩ Qn qa qb
    clear kF kN
    unfold trMap at F₁
    by_cases hlt : i < x.length
    · obtain ⟨c, hc⟩ : ∃ c, x.cps[i]? = some c := ⟨x.cps[i], Array.getElem?_eq_getElem hlt⟩
      have hit := item_eq hc
      have hnext := fold_next (f := tokStep) (b := []) (l := x.cps.toList) (i := i) (y := c) (by rw [Array.getElem?_toList]; exact hc) rfl
      generalize (x.cps.toList.take i).foldl tokStep [] = acc at hT hnext
      by_cases h91 : c = 91
      · subst h91
        have hb1 : (Txt.item x (i : Int) == PySem.Str.ofString "[") = true := by rw [hit, s_open]; simp
        have hb2 : (Txt.item x (i : Int) == PySem.Str.ofString "*") = false := by rw [hit]; exact one_ne (by decide) s_star
        have hb3 : (Txt.item x (i : Int) == PySem.Str.ofString "?") = false := by rw [hit]; exact one_ne (by decide) s_quest
        by_cases hi1 : i + 1 = x.length
        rotate_left 1
        · obtain ⟨z, hz, hx3⟩ := (hbr i hc).resolve_right hi1
          have hl3 : x.length = 3 := by show x.cps.size = 3; rw [hx3]; rfl
          have hi0 : i = 0 := by
            rcases Nat.lt_or_ge i 1 with h | h
            · omega
            · have h1 : i = 1 := by omega
              rw [h1, hx3] at hc
              simp at hc
          have e1 := item_eq (x := x) (i := 1) (c := 97) (by rw [hx3]; rfl)
          have e2 := item_eq (x := x) (i := 2) (c := z) (by rw [hx3]; rfl)
          have n1 : (Txt.item x ((i : Int) + 1) == PySem.Str.ofString "!") = false := by subst hi0; rw [show (((0 : Nat) : Int) + 1) = ((1 : Nat) : Int) from rfl, e1]; exact one_ne (d := 33) (by decide) (by decide +kernel)
          have n2 : (Txt.item x ((i : Int) + 1) == PySem.Str.ofString "]") = false := by subst hi0; rw [show (((0 : Nat) : Int) + 1) = ((1 : Nat) : Int) from rfl, e1]; exact one_ne (d := 93) (by decide) (by decide +kernel)
          have n3 : (Txt.item x ((i : Int) + 1 + 1) == PySem.Str.ofString "]") = false := by subst hi0; rw [show (((0 : Nat) : Int) + 1 + 1) = ((2 : Nat) : Int) from rfl, e2]; exact one_ne (d := 93) hz (by decide +kernel)
          have b2 : (Txt.item x ((i : Int) + 1) != PySem.Str.ofString "]") = true := by simp [bne, n2]
          have b3 : (Txt.item x ((i : Int) + 1 + 1) != PySem.Str.ofString "]") = true := by simp [bne, n3]
          have g1 : (i : Int) + 1 < (x.length : Int) := by omega
          have g2 : (i : Int) + 1 + 1 < (x.length : Int) := by omega
          have g3 : ¬ ((i : Int) + 1 + 1 + 1 < (x.length : Int)) := by omega
          clear hx3 e1 e2
          k_steps
          unfold Stop
          refine while_un 2 ?_
          unfold WUn
          k_steps
          (try dsimp only)
          unfold WUn
          k_steps
          (try dsimp only)
          unfold WUn
          k_steps
          exact qa _ (tr_again hlt hnext (by assumption) (tr_mj (tr_mj (tr_mj tr_m1))) (by assumption) (by rw [ts_o hit hb2 hb3]; exact toks_add hT (.str _ _ .nil)) (by simp only [List.length_append, List.length_cons, List.length_nil]; omega))
        · have hge : ¬ ((i : Int) + 1 < (x.length : Int)) := by omega
          k_steps
          unfold Stop
          refine while_un 0 ?_
          unfold WUn
          k_steps
          exact qa _ (tr_again hlt hnext (by assumption) (tr_mj tr_m1) (by assumption) (by rw [ts_o hit hb2 hb3]; exact toks_add hT (.str _ _ .nil)) (by simp only [List.length_append, List.length_cons, List.length_nil]; omega))
      have hb1 : (Txt.item x (i : Int) == PySem.Str.ofString "[") = false := by rw [hit]; exact one_ne h91 (by decide +kernel)
      rcases List.eq_nil_or_concat vs with rfl | ⟨ws, z, rfl⟩
      · cases hT
        have hne : ([] : List Value).isEmpty = true := rfl
        k_steps
        all_goals first
          | exact qa _ (tr_again hlt hnext (by assumption) tr_m1 (by assumption) (by rw [ts_star0 hit (by assumption)]; exact .star .nil) (by simp))
          | exact qa _ (tr_again hlt hnext (by assumption) tr_m1 (by assumption) (by rw [ts_q hit (by assumption)]; exact .str _ _ .nil) (by simp))
          | exact qa _ (tr_again hlt hnext (by assumption) tr_m1 (by assumption) (by rw [ts_o hit (by assumption) (by assumption)]; exact .str _ _ .nil) (by simp))
      · rw [List.concat_eq_append] at hT N₁ hlen
        simp only [List.length_append, List.length_cons, List.length_nil] at hlen
        obtain ⟨ts, o, rfl, hT1, hz⟩ := toks_last hT
        have hl2 : ∀ v, (ws ++ [z] ++ [v]).length ≤ i + 1 := fun v => by simp only [List.length_append, List.length_cons, List.length_nil]; omega
        have hl1 : (ws ++ [z]).length ≤ i + 1 := by simp only [List.length_append, List.length_cons, List.length_nil]; omega
        rcases hz with ⟨rfl, rfl⟩ | ⟨zy, zt, rfl, rfl⟩
        · have hne : (ws ++ [Value.ref S]).isEmpty = false := by simp
          k_steps
          all_goals first
            | exact qa _ (tr_again hlt hnext (by assumption) tr_m1 (by assumption) (by rw [ts_star2 hit (by assumption)]; exact hT) hl1)
            | exact qa _ (tr_again hlt hnext (by assumption) tr_m1 (by assumption) (by rw [ts_q hit (by assumption)]; exact toks_add hT (.str _ _ .nil)) (hl2 _))
            | exact qa _ (tr_again hlt hnext (by assumption) tr_m1 (by assumption) (by rw [ts_o hit (by assumption) (by assumption)]; exact toks_add hT (.str _ _ .nil)) (hl2 _))
        · have hne : (ws ++ [Value.str zy zt]).isEmpty = false := by simp
          k_steps
          all_goals first
            | exact qa _ (tr_again hlt hnext (by assumption) tr_m1 (by assumption) (by rw [ts_star1 hit (by assumption)]; exact toks_add hT (.star .nil)) (hl2 _))
            | exact qa _ (tr_again hlt hnext (by assumption) tr_m1 (by assumption) (by rw [ts_q hit (by assumption)]; exact toks_add hT (.str _ _ .nil)) (hl2 _))
            | exact qa _ (tr_again hlt hnext (by assumption) tr_m1 (by assumption) (by rw [ts_o hit (by assumption) (by assumption)]; exact toks_add hT (.str _ _ .nil)) (hl2 _))
    · k_steps
      refine qb _ ?_
      (try dsimp only)
      k_steps
      obtain rfl : i = x.length := by omega
      rw [List.take_of_length_le (by simp; exact Nat.le_refl _)] at hT
      refine hR _ _ l vs n' (Fr.keep F₁) ?_ hT
      intro p hp
      rcases List.mem_cons.mp hp with rfl | hp
      · have q := N₁ _ (.tail _ (.tail _ (.head _)))
        exact ⟨q.1, q.2.2⟩
      · cases hp
end
section
section
variable {h h₁ h₀ : Heap} {L D : Addr} {o : Obj} {m : PySem.Str → Option Value}
theorem hid_none : (hideAll h [D]).get? D = none := hideAll_none _ (.head _)
theorem hid_kp (k : Kp h₀ h) (hn : h₀.get? D = none) : Kp h₀ (hideAll h [D]) := fun b o e => hideAll_get _ (k b o e) (by
  intro hb
  rcases List.mem_singleton.mp hb with rfl
  rw [hn] at e; cases e)
theorem hid_fr (F : Fr h L h₁ m) : Fr (hideAll h [D]) L h₁ m := ⟨F.ns, fun b o e => F.keep b o (of_hideAll _ e), Nat.le_trans (Nat.le_of_eq (hideAll_size _ _)) F.above⟩
theorem hid_news (F : Fr h L h₁ m) (hD : h.get? D = some o) : News (hideAll h [D]) L h₁ [(D, o)] := fun p hp => by
  rcases List.mem_singleton.mp hp with rfl
  exact ⟨F.keep _ _ hD, Nat.ne_of_lt (Nat.lt_of_lt_of_le (Heap.lt_size hD) F.above), hid_none⟩
theorem hid_back (hD : h.get? D = some o) (k : Kp (hideAll h [D]) h₁) (hD1 : h₁.get? D = some o) : Kp h h₁ := fun b o' e => by
  by_cases hb : b = D
  · subst hb; rw [hD] at e; cases e; exact hD1
  · exact k b o' (hideAll_get _ e (by simpa using hb))
end
theorem field_str {w : World} {A : Around} {E : Value → Shared → Prop} {s : Shared} {x : PySem.Str} {t : Tok} {Q : Value → Shared → Prop} (hx : x.length ≤ sizeLine) (h : ∀ t' k, Q (.str x t') { s with toks := k }) : wpAny (model pw w) A (formatField (.str x t) PySem.Str.empty) Q E s :=
  wpAny_formatField_str (h _ _) (h _ _) hx
theorem txt_join {x : PySem.Str} {l : List PySem.Str} : Txt.join x l = PySem.Str.join x l := StrLaws.glued_eq_join _ _
end
section
section
variable {prog : Program} {w : World} {A : Around} {E : Value → Shared → Prop} {s : Shared} {h₀ : Heap} {L : Addr} {m : PySem.Str → Option Value} {news : List (Addr × Obj)}
theorem strs_at {vs : List Value} {xs : List PySem.Str} (h : StrsAre vs xs) : ∀ (i : Nat) (y : PySem.Str), xs[i]? = some y → ∃ t, vs[i]? = some (.str y t) := by
  induction h with
  | nil => intro i y e; simp at e
  | cons z t h ih =>
    intro i y e
    cases i with
    | zero => simp at e; subst e; exact ⟨t, rfl⟩
    | succ i => simp at e; exact ih i y e
/-- an item of a list of texts, at a place known by its bounds -/
theorem item_strs {value slice : Expr} {D : Addr} {vs : List Value} {xs : List PySem.Str} {i : Int} {n : Nat} {u : Tok} {Q : Value → Shared → Prop} (N : News h₀ L s.heap news) (hm : (D, listOf vs.toArray n) ∈ news) (hS : StrsAre vs xs) (h0 : 0 ≤ i) (h1 : i < xs.length) (hz : xs.length < 2 ^ 62)
    (h : ∀ y t, xs[i.toNat]? = some y → Q (.str y t) s) (hs : subscripted slice false (.ref D) (.int i u) = operate [.ref D, .int i u] (getItem (.ref D) (.int i u)) := by with_unfolding_all rfl) :
    wpAny (model prog w) A (subscriptTail value slice (.ref D) (.int i u)) Q E s := by
  have hl : s.heap.IsList D vs.toArray := ⟨_, (N _ hm).1, rfl, _, rfl⟩
  obtain ⟨y, hy⟩ : ∃ y, xs[i.toNat]? = some y := ⟨xs[i.toNat]'(by omega), List.getElem?_eq_getElem _⟩
  obtain ⟨t, ht⟩ := strs_at hS _ _ hy
  refine tail_any hl.typeIs slot_list_getitem.lookup (wpAny_getItem_list hl h0 (by omega) ?_ (h y t hy)) hs
  rw [List.getElem?_toArray]; exact ht
end
end
section
open PySem.Builtin.Re
abbrev patCode : Array Nat := #[14, 14, 4, 1, 1, 9, 0, 64, 0, 1342177280, 0, 0, 0, 0, 0, 17, 0, 13, 11, 9, 0, 64, 0, 1342177280, 0, 0, 0, 0, 0, 17, 1, 1]
theorem sub_machine : ((Sre.forSearch patCode #[97] 1 0 1 false).runFor 4).outcome = some .failed := by kernel_rfl
section
variable {w : World} {A : Around} {E : Value → Shared → Prop} {s : Shared}
theorem rules_loop {Q : PUnit → Shared → Prop} (g : Nat → Bool) (nm : Nat → String) (l : List Nat) (h : Q ⟨⟩ s) :
    wpAny (model pw w) A (forIn l PUnit.unit fun i _ => do
      if g i then rule (nm i)
      pure (ForInStep.yield PUnit.unit)) Q E s := by
  induction l with
  | nil => exact wpAny_pure h
  | cons i r ih =>
    rw [List.forIn_cons]
    refine wpAny_bind ?_
    cases g i
    · exact wpAny_pure ih
    · exact wpAny_bind (wpAny_rule (wpAny_pure ih))
theorem sub_run {Q : Option Sre.M → Shared → Prop} (h : Q none s) : wpAny (model pw w) A (reRunToEnd (Sre.forSearch patCode #[97] 1 0 1 false)) Q E s := by
  unfold reRunToEnd
  refine wpAny_bind ?_
  show wpAny _ _ (reDrive (18446744073709551615 + 1) _) _ _ _
  unfold reDrive
  dsimp only
  rw [show reTurnSteps = 4 from rfl]
  rw [if_pos (show ((Sre.forSearch patCode #[97] 1 0 1 false).runFor 4).outcome.isSome = true by rw [sub_machine]; rfl)]
  refine wpAny_pure ?_
  refine wpAny_bind (rules_loop (fun i => ((Sre.forSearch patCode #[97] 1 0 1 false).runFor 4).seen.has i) (fun i => Sre.names.getD i "") _ ?_)
  rw [sub_machine]
  exact wpAny_pure h
end
theorem slot_sub : Slot "re.Pattern" "sub" "re.Pattern.sub" :=
  .of (owner := "re.Pattern") (n := "sub") (by rw [typeLookup_type, builtinLookup_eq_fast]; kernel_rfl) (by decide +kernel) (by decide +kernel) (by decide +kernel)
    (by first | exact .inl (by decide +kernel) | exact .inr (by decide +kernel)) (by rw [isSubtype_type]; kernel_rfl)
theorem entry_sub : entryFor table "re.Pattern.sub" = some Builtin.«re.Pattern.sub» := entryFor_of_tree (by kernel_rfl)
theorem entry_sub_loop : entryFor table "re.Pattern.sub.loop" = some Builtin.«re.Pattern.sub.loop» := entryFor_of_tree (by kernel_rfl)
theorem fun_call : typeLookup (.type "function") "__call__" = pure (some (.builtin "function.__call__")) := by rw [typeLookup_type, builtinLookup_eq_fast]; kernel_rfl
theorem sub_str_ba : isSubtype (.type "str") (.type "bytearray") = pure false := by rw [isSubtype_type]; kernel_rfl
theorem args_sub (a b c : Value) : argsOk "re.Pattern.sub" ⟨[a, b, c], []⟩ := by unfold argsOk; kernel_rfl
theorem type_sub : typeOf (.builtin "re.Pattern.sub") = pure (.type "method_descriptor") := by with_unfolding_all rfl
theorem pat_ok (p : Params) : ∃ fs its n, (Mine.K p).lookup 151 = some ⟨.type "re.Pattern", none, .fields fs, #[]⟩ ∧ (Mine.K p).lookup 150 = some ⟨.type "tuple", none, .seq its n, #[]⟩ ∧
    fs.getD 6 .none = .int 0 0 ∧ fs.getD 5 .none = .ref 150 ∧ fs.getD 2 .none = .int 1 0 ∧ (its.map reRawOf).map (·.toNat) = patCode := by
  refine ⟨_, _, _, by with_unfolding_all exact rfl, by with_unfolding_all exact rfl, ?_, ?_, ?_, ?_⟩
  · with_unfolding_all rfl
  · with_unfolding_all rfl
  · with_unfolding_all rfl
  · with_unfolding_all rfl
section
variable {w : World} {A : Around} {E : Value → Shared → Prop} {s : Shared}
theorem sub_target {t : Tok} {Q : ReTarget → Shared → Prop} (X : (Mine.K w.params).In s.heap)
    (h : Q ⟨.ref 151, .str ⟨#[97]⟩ t, patCode, #[97], 0, 1, 0, 1⟩ s) : wpAny (model pw w) A (reWholeTarget (.ref 151) (.str ⟨#[97]⟩ t)) Q E s := by
  obtain ⟨fs, its, n, h1, h2, h3, h4, h5, h6⟩ := pat_ok w.params
  unfold reWholeTarget
  refine wpAny_bind (wpAny_fieldsOf (X _ _ h1) rfl ?_)
  refine wpAny_bind (m := reTextOf (.str ⟨#[97]⟩ t)) (wpAny_pure ?_)
  dsimp only
  rw [h3, h4, h5]
  rw [if_neg (by decide), if_neg (by decide)]
  refine wpAny_bind (m := reNoCollectionInside _ _) (wpAny_pure ?_)
  refine wpAny_bind ?_
  unfold reRawItems
  refine wpAny_bind (wpAny_seqItems (X _ _ h2) rfl (wpAny_pure (wpAny_pure ?_)))
  simp only [Option.getD_some]
  rw [h6]
  exact h
theorem sub_loop {t : Tok} {f P : Addr} {Q : Value → Shared → Prop} (X : (Mine.K w.params).In s.heap) (hP : s.heap.get? P = some { cls := .type "list", data := .seq #[] })
    (h : ∀ h' tk t', Heap.SameBut P s.heap h' → Q (.str ⟨#[97]⟩ t') { s with heap := h', toks := tk }) :
    codeAny (model pw w) A (.builtin "re.Pattern.sub.loop" ⟨[.ref 151, .str ⟨#[97]⟩ t, .ref f, rawInt 1, rawInt 0, rawInt 0, rawInt 0, rawInt 0, .bool false, .ref P, .bool false], []⟩) (wants Q E) s := by
  refine codeAny_builtin entry_sub_loop ?_
  unfold Builtin.«re.Pattern.sub.loop»
  dsimp only [rawInt]
  refine wpAny_bind (sub_target X ?_)
  rw [if_neg (by decide)]
  refine wpAny_bind ?_
  rw [if_neg (by decide)]
  unfold reNextFound
  dsimp only
  refine sub_run ?_
  dsimp only
  rw [if_pos (by decide)]
  refine wpAny_bind ?_
  rw [show reSlice #[97] 0 (Int.toNat 0) 1 = mkStr ⟨#[97]⟩ from rfl]
  refine wpAny_mkStr ?_ (by rw [sizeLine_eq]; show 1 ≤ _; omega)
  refine wpAny_bind (wpAny_updateSeq hP rfl ?_ (by size_fits) (by rw [sizeLine_eq]; show 1 ≤ _; omega))
  have hP2 : (s.heap.update P (Obj.mapSeq fun x => x.push (Value.str ⟨#[97]⟩ s.toks))).get? P = some { cls := .type "list", data := .seq #[.str ⟨#[97]⟩ s.toks] 1 } := Heap.get?_update_self _ hP rfl
  rw [show reSlice #[97] 0 0 0 = mkStr ⟨#[]⟩ from rfl]
  refine wpAny_bind (wpAny_mkStr ?_ (by rw [sizeLine_eq]; show 0 ≤ _; omega))
  refine wpAny_bind (wpAny_seqItems hP2 rfl ?_)
  rw [if_neg (by simp)]
  refine wpAny_bind ?_
  rw [show (if (0 == 0) = true then "str.join" else "bytes.join") = "str.join" from rfl]
  refine SC.join (l := [(⟨#[97]⟩, s.toks)]) ⟨_, hP2, rfl, _, rfl⟩ rfl ((by decide +kernel : JoinOk ⟨#[]⟩ [⟨#[97]⟩] = true)) fun t' k => ?_
  rw [if_neg (by decide)]
  exact wpAny_pure (h _ _ _ (Heap.SameBut.update ..))
theorem sub_call {t : Tok} {f : Addr} {Q : Value → Shared → Prop} (X : (Mine.K w.params).In s.heap) (hf : s.TypeIs (.ref f) "function")
    (h : ∀ h' tk t', Kp s.heap h' → Q (.str ⟨#[97]⟩ t') { s with heap := h', toks := tk }) :
    wpAny (model pw w) A (call (.builtin "re.Pattern.sub") [.ref 151, .ref f, .str ⟨#[97]⟩ t]) Q E s := by
  obtain ⟨fs, its, n, h1, h2, h3, h4, h5, h6⟩ := pat_ok w.params
  refine wpAny_call (codeAny_call_builtin slot_sub.plain entry_sub (slot_sub.check _ _ _ _ _ _ _ _ ⟨_, X _ _ h1, rfl⟩ (args_sub _ _ _) ?_))
  unfold Builtin.«re.Pattern.sub» reSubstitute
  dsimp only
  refine wpAny_bind (m := reNamed _ _ _ _ _ _) (wpAny_of_eq (a := [some (.ref f), some (.str ⟨#[97]⟩ t), none]) (by with_unfolding_all rfl) ?_)
  dsimp only
  refine wpAny_bind (wpAny_pure ?_)
  refine wpAny_bind (wpAny_specialOf hf fun_call ?_)
  dsimp only [Option.isSome]
  rw [if_pos rfl]
  refine wpAny_bind (wpAny_pure ?_)
  rw [if_pos rfl]
  refine wpAny_bind (wpAny_pure ?_)
  dsimp only
  refine wpAny_bind (wpAny_holding (sub_target X ?_))
  rw [if_pos (by decide)]
  refine wpAny_bind (m := reNotHeld _ _) ?_
  unfold reNotHeld
  refine wpAny_bind (wpAny_isInstance (T := "str") (b := false) (typeIs_str _ _ _) sub_str_ba ?_)
  rw [if_neg (by decide)]
  refine wpAny_pure ?_
  refine wpAny_bind (wpAny_newList ?_ (by size_fits))
  refine wpAny_pure ⟨plainId_quiet (by decide +kernel) _, ?_⟩
  refine codeAny_mono (sub_loop (P := s.heap.objs.size) (X.keeps fun b o e => Heap.get?_push_of_some _ e) (Heap.get?_push_size _ rfl) ?_) fun _ _ x => x
  intro h' tk t' hs
  exact h _ _ _ fun b o e => by
    have hb : b ≠ s.heap.objs.size := Nat.ne_of_lt (Heap.lt_size e)
    rw [hs.2 b hb]
    exact Heap.get?_push_of_some _ e
end
end
example : True ∧ True := by
  w_top off
  walk1 <;> trivial
section
def GoodPs (ps : Array Value) : Prop := ps = #[] ∨ ∃ c : Addr, ps = #[rawInt 196, rawInt 39, .ref c]
/-- the table of the codes that _translate makes -/
def GoodTab (h : Heap) : Prop := ∃ ps, h.get? 172 = some (tabObj ps) ∧ GoodPs ps
theorem plainAttrs_pat : PlainAttrs "re.Pattern" :=
  ⟨⟨"object.__getattribute__", by rw [typeLookup_type, builtinLookup_eq_fast]; kernel_rfl, by decide +kernel⟩, by rw [typeLookup_type, builtinLookup_eq_fast]; kernel_rfl⟩
theorem getm_sub {w : World} {M : Model} {A : Around} {E : Value → Shared → Prop} {s : Shared} {pl : Sem Bool} {Q : Value × List Value → Shared → Prop} (X : (Mine.K w.params).In s.heap)
    (h : Q (.builtin "re.Pattern.sub", [.ref 151]) s) : wpAny M A (getMethod (.ref 151) "sub" pl) Q E s := by
  obtain ⟨fs, its, n, h1, h2, h3, h4, h5, h6⟩ := pat_ok w.params
  exact getMethod_builtin ⟨_, X _ _ h1, rfl⟩ plainAttrs_pat slot_sub type_sub (fun a e => by cases e; exact ⟨_, X _ _ h1, rfl⟩) h
theorem code_hd {p : Params} {h : Heap} (X : (Mine.K p).In h) : CodeHd h 176 172 := codeHd_of_K X (by with_unfolding_all rfl)
theorem repl_a {prog : Program} {w : World} {A : Around} {E : Value → Shared → Prop} {s : Shared} {t u v : Tok} {Q : Value → Shared → Prop} (hq : Q (.str (PySem.Str.ofString "a") t) s) :
    wpAny (model prog w) A (call (.builtin "str.replace") [.str (PySem.Str.ofString "a") t, .str (PySem.Str.ofString "\\") u, .str (PySem.Str.ofString "\\\\") v]) Q E s := by
  refine call_gives F.slot_str_replace (typeIs_str _ _ _) F.entry_str_replace (F.args_str_replace_3 _ _ _) (PySem.gives_str_replace _ _ _ t u v fun h => ?_) ?_
  · exact absurd h (by decide +kernel)
  · simp only [show ((Builtin.Str.occurrences (PySem.Str.ofString "a") (PySem.Str.ofString "\\") 0 (PySem.Str.ofString "a").length ((PySem.Str.ofString "a").length + 1)).isEmpty || ((PySem.Str.ofString "\\").length == 0 && (PySem.Str.ofString "\\\\").length == 0)) = true from by decide +kernel, if_true]
    exact hq
local macro_rules | `(tactic| walk_at "call builtin:str.replace") => `(tactic| (with_reducible refine repl_a ?_))
local macro_rules | `(tactic| walk_at "getMethod ref") => `(tactic| ((with_reducible show wpAny _ _ (getMethod (Value.ref 151) _ _) _ _ _); k_dflt ((with_reducible rename Fr _ _ _ _ => F'); refine getm_sub (in_fr (by assumption) F') ?_)))
local macro_rules
  | `(tactic| walk_at "eval Lambda") => `(tactic| refine stop_of ?_)
  | `(tactic| walk_at "call builtin:re.Pattern.sub") => `(tactic| refine stop_of ?_)
theorem updF_end {d : Addr} {o : Obj} : ∀ {pre : List (Addr × Obj)}, (∀ p ∈ pre, p.1 ≠ d) → UpdF d o (pre ++ [(d, o)]) (fun o' => pre ++ [(d, o')])
  | [], _ => .head (fun _ h => nomatch h)
  | p :: r, h => .tail (h p (.head _)) (updF_end fun q hq => h q (.tail _ hq))
theorem lam_any {w : World} {A : Around} {E : Value → Shared → Prop} {s : Shared} {h₀ : Heap} {L a : Addr} {m mg mb : PySem.Str → Option Value} {cn : PySem.Str} {cs : Scope} {cl : List (PySem.Str × Addr)} {pre : List (Addr × Obj)}
    {p : Program} {lo : List PySem.Str} {mean : ExcName → Option Value} {name qual : PySem.Str} {params : Arguments} {body : Expr} {scope : Scope} {ps : Array Value} {pos : Pos} {firstLine : Nat} {clos : List (PySem.Str × Addr)} {Q : Value → Shared → Prop}
    (F : Fr h₀ L s.heap m) (N : News h₀ L s.heap (pre ++ [(172, tabObj ps)])) (ne : ∀ q ∈ pre, q.1 ≠ 172) (T : Top p lo mean mg mb h₀) (C : CodeHd h₀ 176 172) (hg : GoodPs ps) (hl : pos.line = 196) (hc : pos.col = 39) (hcl : closureFor scope (envX cn cs L a (.ref 176) cl) = pure clos)
    (h : ∀ f o ps2 h' tk, Fr h₀ L h' m → News h₀ L h' ((f, o) :: (pre ++ [(172, tabObj ps2)])) → GoodPs ps2 → o.cls = .type "function" → (∀ q ∈ pre, q.1 < f) → 172 < f → Q (.ref f) { s with heap := h', toks := tk }) :
    wpAny (model pw w) A (makeFunction name qual params (.expr body) scope (envX cn cs L a (.ref 176) cl) [] [] [] pos firstLine) Q E s := by
  rcases hg with rfl | ⟨c, rfl⟩
  · refine' kla_nest F N T C rfl (updF_end ne) True.intro rfl hcl ?_
    intro f c' oc vs t ctv h' tk F' N' _ _ l1 l2
    refine h f (kla_obj name qual params body scope clos ((mg "__name__").getD .none) c' ctv) #[rawInt 196, rawInt 39, .ref c'] h' tk F' (fun q hq => ?_) (.inr ⟨c', rfl⟩) rfl (fun q hq => Nat.lt_trans (l1 q (List.mem_append_left _ hq)) l2) (Nat.lt_trans (l1 _ (List.mem_append_right _ (.head _))) l2)
    rcases List.mem_cons.mp hq with rfl | hq
    · exact N' _ (.head _)
    · refine N' q (.tail _ (.tail _ ?_))
      rw [hl, hc]
      exact hq
  · refine' kla_hit F N T C rfl (c' := c) (List.mem_append_right _ (.head _)) True.intro ?_ hcl ?_
    · show (if ((196 : Int) == pos.line && (39 : Int) == pos.col) = true then _ else _) = _
      rw [hl, hc]; rfl
    intro f ctv h' tk F' N' l1
    exact h f _ _ h' tk F' N' (.inr ⟨c, rfl⟩) rfl (fun q hq => l1 q (List.mem_append_left _ hq)) (l1 _ (List.mem_append_right _ (.head _)))
local macro_rules | `(tactic| walk_at "exec If") => `(tactic| refine wpAny_If ?_)
theorem hid_fresh {h : Heap} {a D : Addr} (e : (hideAll h [D]).get? a = none) (ne : a ≠ D) : h.get? a = none := by
  cases e' : h.get? a with
  | none => rfl
  | some o => rw [hideAll_get _ e' (by simpa using ne)] at e; cases e
theorem made_one {h h' : Heap} {D : Addr} {o : Obj} (a : h'.get? D = some o) (b : h.get? D = none) : Made h h' [(D, o)] := fun p hp => by
  rcases List.mem_singleton.mp hp with rfl
  exact ⟨a, b⟩
theorem toks_one {S : Addr} {y z : PySem.Str} {t : Tok} (e : y = z) : ToksAre S [.str y t] [some z] := e ▸ .str y t .nil
theorem no_dash {P : Prop} (h : (Builtin.Str.occurrences (PySem.Str.ofString "a") (PySem.Str.ofString "-") 0 (PySem.Str.ofString "a").length 1).isEmpty = false) : P := by
  rw [show (Builtin.Str.occurrences (PySem.Str.ofString "a") (PySem.Str.ofString "-") 0 (PySem.Str.ofString "a").length 1).isEmpty = true from by decide +kernel] at h
  cases h
local macro_rules | `(tactic| walk_at "Held") => `(tactic| (k_dflt ((with_reducible rename Mine.Opq _ _ => k9); refine held k9 ?_; clear k9; (try (rename Flow → Shared → Prop => Q9; clear Q9)); try dsimp only)))
local macro_rules | `(tactic| walk_at "execs cons") => `(tactic| ((try k_gentoks); (with_reducible refine wpAny_execs_cons ?_); refine opq ?_; intro Q9 k9; try dsimp only))
theorem translate_brack {w : World} {A : Around} {s : Shared} {mg mb : PySem.Str → Option Value} {x : PySem.Str} {t tq : Tok} {S : Addr} {R : Result → Shared → Prop} {p : Program} {lo : List PySem.Str} {mean : ExcName → Option Value}
    (h₀ : Heap) (X₀ : (Mine.K w.params).In h₀) (T₀ : TopRead vw lz mg mb h₀) (TT : Top p lo mean mg mb h₀) (k₀ : Kp h₀ s.heap) (hn : h₀.get? 172 = none) (hA : Room A (2 + 1)) (ht : GoodTab s.heap) (hx : x = PySem.Str.ofString "[a]")
    (hR : ∀ h' tk D vs n', Kp (hideAll s.heap [172]) h' → GoodTab h' → Made s.heap h' [(D, listOf vs.toArray n')] → ToksAre S vs [some (PySem.Str.ofString "[a]")] → R (.ok (.ret (.ref D))) { s with heap := h', toks := tk }) :
    codeAny (model pw w) A (.call (.ref 177) ⟨[.str x t, .ref S, .str (PySem.Str.ofString ".") tq], []⟩) R s := by
  subst hx
  obtain ⟨hd9, d9, fr9, gu9, u9⟩ := A
  obtain rfl : hd9 = none := hA.h
  obtain ⟨ps, hps, hgood⟩ := ht
  have X := X₀.keeps k₀
  have T := T₀.keeps k₀
  refine' enterF [(PySem.Str.ofString "pat", .str (PySem.Str.ofString "[a]") t), (PySem.Str.ofString "STAR", .ref S), (PySem.Str.ofString "QUESTION_MARK", .str (PySem.Str.ofString ".") tq)] ?k1 ?k2 ?k3 ?k4 ?k5 ?k6 ?k7 ?k8 ?k9 ?k10 ?k11 ?_
  walk_at "m.enter"
  intro L h₁ F N hA'
  have N := hid_news F hps
  have F := hid_fr (D := 172) F
  have X := X₀.keeps (hid_kp k₀ hn)
  have T := T₀.keeps (hid_kp k₀ hn)
  k_steps
  any_goals (refine no_dash ?_; assumption)
  unfold Stop
  refine kla_eval rfl ?_
  with_reducible rename Fr _ _ _ _ => F1
  with_reducible rename News _ _ _ _ => N1
  have TT2 := TT.keeps (hid_kp k₀ hn)
  refine' lam_any (pre := [_, _, _]) F1 N1 ?ne TT2 (code_hd X) hgood rfl rfl ?cl ?_
  case cl => exact rfl
  case ne =>
    intro q hq
    simp only [List.mem_cons, List.not_mem_nil, or_false] at hq
    rcases hq with rfl | rfl | rfl <;> (show @Ne Nat _ _; dsimp only; omega)
  clear F1 N1 F N TT TT2 hps
  intro f' oF ps2 h' tk' F9 N9 hgood2 hoF l1 l2
  (try dsimp only [List.cons_append, List.nil_append] at N9)
  (try k_lt l1)
  k_steps
  unfold Stop
  with_reducible rename Fr _ _ _ _ => F1
  with_reducible rename News _ _ _ _ => N1
  refine sub_call (in_fr X F1) ⟨oF, N1.get (.head _), hoF⟩ ?_
  intro h9 tk9 t9 k9
  have F9 := fr_kp F1 k9
  have N9 := news_kp N1 k9
  clear F1 N1
  k_steps
  with_reducible rename News _ _ _ _ => N9
  with_reducible rename Fr _ _ _ _ => F9
  have q := N9 _ (.tail _ (.tail _ (.tail _ (.tail _ (.head _)))))
  have q2 := hid_fresh q.2.2 (show @Ne Nat _ _ by dsimp only; omega)
  dsimp only at q q2
  refine hR _ _ _ _ _ F9.keep ⟨ps2, N9.get (by k_mem), hgood2⟩ (made_one q.1 q2) ?_
  dsimp only [List.nil_append]
  exact toks_one (by decide +kernel)
end
section
/-- the signs of a text that no backslash takes, of a text that leaves no backslash open -/
inductive Atoms : List Nat → List Nat → Prop
  | nil : Atoms [] []
  | esc {c l m} : Atoms l m → Atoms (92 :: c :: l) m
  | one {c l m} : c ≠ 92 → Atoms l m → Atoms (c :: l) (c :: m)
theorem Atoms.app {a m b n : List Nat} (h : Atoms a m) (k : Atoms b n) : Atoms (a ++ b) (m ++ n) := by
  induction h with
  | nil => exact k
  | esc _ ih => exact .esc ih
  | one hc _ ih => exact .one hc ih
def dstep (st : Option Int) (c : Nat) : Option Int := match st with
  | none => none
  | some o => if c = 40 then some (o + 1) else if c = 41 then (if o - 1 < 0 then none else some (o - 1)) else some o
def depth (st : Option Int) (m : List Nat) : Option Int := m.foldl dstep st
theorem depth_app (st : Option Int) (a b : List Nat) : depth st (a ++ b) = depth (depth st a) b := List.foldl_append
theorem depth_none (m : List Nat) : depth none m = none := by
  induction m with
  | nil => rfl
  | cons c r ih => exact ih
theorem q_bs : PySem.Str.ofString "\\" = ⟨#[92]⟩ := by decide +kernel
theorem q_po : PySem.Str.ofString "(" = ⟨#[40]⟩ := by decide +kernel
theorem q_pc : PySem.Str.ofString ")" = ⟨#[41]⟩ := by decide +kernel
theorem q_qu : PySem.Str.ofString "\"" = ⟨#[34]⟩ := by decide +kernel
theorem one_beq (c d : Nat) : ((⟨#[c]⟩ : PySem.Str) == ⟨#[d]⟩) = decide (c = d) := by
  by_cases h : c = d
  · subst h; simp
  · rw [one_ne h rfl]; simp [h]
theorem two_beq (a b d : Nat) : (((⟨#[a]⟩ : PySem.Str) ++ ⟨#[b]⟩) == ⟨#[d]⟩) = false := by
  refine beq_eq_false_iff_ne.mpr fun e => ?_
  have := congrArg (fun x : PySem.Str => x.cps.size) e
  have h1 : ((⟨#[a]⟩ : PySem.Str) ++ ⟨#[b]⟩).cps.size = 2 := rfl
  simp only [h1] at this
  simp at this
theorem esc_two (k c : Nat) (l : List Nat) : escItems k false (92 :: c :: l) = (((k + 1 : Nat) : Int), (⟨#[92]⟩ : PySem.Str) ++ ⟨#[c]⟩) :: escItems (k + 2) false l := by
  simp only [escItems, q_bs, Bool.false_eq_true, if_false, beq_self_eq_true, if_true]
theorem esc_one {c : Nat} (h : c ≠ 92) (k : Nat) (l : List Nat) : escItems k false (c :: l) = ((k : Int), (⟨#[c]⟩ : PySem.Str)) :: escItems (k + 1) false l := by
  simp only [escItems, q_bs, Bool.false_eq_true, if_false, one_beq, h, decide_false]
theorem par_one (st : Option Int) (k : Int) (c : Nat) : parStep st (k, ⟨#[c]⟩) = dstep st c := by
  cases st with
  | none => rfl
  | some o => simp only [parStep, dstep, q_po, q_pc, one_beq, decide_eq_true_eq]
theorem par_two (st : Option Int) (k : Int) (c d : Nat) : parStep st (k, (⟨#[c]⟩ : PySem.Str) ++ ⟨#[d]⟩) = st := by
  cases st with
  | none => rfl
  | some o => simp only [parStep, q_po, q_pc, two_beq, Bool.false_eq_true, if_false]
theorem par_atoms {l m : List Nat} (h : Atoms l m) : ∀ (k : Nat) (st : Option Int) (r : List Nat), (escItems k false (l ++ r)).foldl parStep st = (escItems (k + l.length) false r).foldl parStep (depth st m) := by
  induction h with
  | nil => intro k st r; rfl
  | @esc c l m _ ih =>
    intro k st r
    rw [List.cons_append, List.cons_append, esc_two, List.foldl_cons, par_two, ih]
    simp only [List.length_cons]
    rw [show k + 2 + l.length = k + (l.length + 1 + 1) from by omega]
  | @one c l m hc _ ih =>
    intro k st r
    rw [List.cons_append, esc_one hc, List.foldl_cons, par_one, ih]
    simp only [List.length_cons]
    rw [show k + 1 + l.length = k + (l.length + 1) from by omega]
    rfl
theorem par_all {l m : List Nat} (h : Atoms l m) (st : Option Int) : (escItems 0 false l).foldl parStep st = depth st m := by
  have := par_atoms h 0 st []
  rw [List.append_nil] at this
  rw [this]; rfl
theorem strip_one {x : PySem.Str} {c : Nat} (h : c ≠ 34) (st : Int × Option Int × List PySem.Str) (k : Int) : stripStep x st (k, ⟨#[c]⟩) = st := by
  unfold stripStep; rw [if_neg]; rw [q_qu, one_beq]; simp [h]
theorem strip_two {x : PySem.Str} {c d : Nat} (st : Int × Option Int × List PySem.Str) (k : Int) : stripStep x st (k, (⟨#[c]⟩ : PySem.Str) ++ ⟨#[d]⟩) = st := by
  unfold stripStep; rw [if_neg]; rw [q_qu, two_beq]; simp
theorem strip_atoms {x : PySem.Str} {l m : List Nat} (h : Atoms l m) : 34 ∉ m → ∀ (k : Nat) (st : Int × Option Int × List PySem.Str) (r : List Nat), (escItems k false (l ++ r)).foldl (stripStep x) st = (escItems (k + l.length) false r).foldl (stripStep x) st := by
  induction h with
  | nil => intro _ k st r; rfl
  | @esc c l m _ ih =>
    intro hm k st r
    rw [List.cons_append, List.cons_append, esc_two, List.foldl_cons, strip_two, ih hm]
    simp only [List.length_cons]
    rw [show k + 2 + l.length = k + (l.length + 1 + 1) from by omega]
  | @one c l m hc _ ih =>
    intro hm k st r
    simp only [List.mem_cons, not_or] at hm
    rw [List.cons_append, esc_one hc, List.foldl_cons, strip_one (Ne.symm hm.1), ih hm.2]
    simp only [List.length_cons]
    rw [show k + 1 + l.length = k + (l.length + 1) from by omega]
/-- a writing and whether it is hidden -/
inductive Writ : Bool → PySem.Str → Prop
  | shown {w m} : Atoms w.cps.toList m → 34 ∉ m → w.cps.toList.head? ≠ some 34 → w.cps.toList ≠ [] → Writ false w
  | hid {w l m} : w.cps.toList = 34 :: (l ++ [34]) → Atoms l m → 34 ∉ m → Writ true w
def catL (ws : List PySem.Str) : List Nat := ws.flatMap (fun w => w.cps.toList)
theorem join_cat (ws : List PySem.Str) : (PySem.Str.join (PySem.Str.ofString "") ws).cps.toList = catL ws := by
  have e : (PySem.Str.ofString "").cps = #[] := by decide +kernel
  induction ws with
  | nil => rfl
  | cons a r ih =>
    cases r with
    | nil => show a.cps.toList = a.cps.toList ++ []; simp
    | cons b r =>
      show (a.cps ++ (PySem.Str.ofString "").cps ++ (PySem.Str.join (PySem.Str.ofString "") (b :: r)).cps).toList = a.cps.toList ++ catL (b :: r)
      rw [e, Array.toList_append, ih]; simp
theorem str_eq {x y : PySem.Str} (h : x.cps.toList = y.cps.toList) : x = y := by
  obtain ⟨⟨a⟩⟩ := x; obtain ⟨⟨b⟩⟩ := y
  cases h; rfl
/-- the writings that are shown -/
def shownOf (ws : List (Bool × PySem.Str)) : List PySem.Str := (ws.filter (fun w => !w.1)).map (·.2)
theorem slice_mid {x : PySem.Str} {a b : Nat} (h1 : a ≤ b) (h2 : b ≤ x.cps.toList.length) : (Txt.slice x (some (a : Int)) (some (b : Int))).cps.toList = (x.cps.toList.drop a).take (b - a) := by
  have := beq_iff_eq.mp (slice_closesL (x := x) (i := a) (j := b) (by omega) (by omega) (by have : x.length = x.cps.toList.length := by simp [PySem.Str.length]
                                                                                            omega))
  rw [this]
  simp only [Int.toNat_natCast]
  rw [show ((b : Int) - (a : Int)).toNat = b - a from by omega]
theorem slice_end {x : PySem.Str} {a : Nat} (h2 : a ≤ x.cps.toList.length) : (Txt.slice x (some (a : Int)) none).cps.toList = x.cps.toList.drop a := by
  have hl : x.length = x.cps.toList.length := by simp [PySem.Str.length]
  rw [slice_from_eq (b := x.length) (by omega) (by omega) rfl]
  simp only [Int.toNat_natCast]
  exact List.take_of_length_le (by rw [List.length_drop]; omega)
theorem catL_snoc (rs : List PySem.Str) (y : PySem.Str) : catL (rs ++ [y]) = catL rs ++ y.cps.toList := by unfold catL; simp
theorem strip_go {x : PySem.Str} : ∀ (ws : List (Bool × PySem.Str)) (dn : List Nat) (sv : Nat) (rs : List PySem.Str) (sh : List Nat), (∀ w ∈ ws, Writ w.1 w.2) → x.cps.toList = dn ++ catL (ws.map (·.2)) → sv ≤ dn.length → catL rs ++ dn.drop sv = sh →
    (stripEnd x ((escItems dn.length false (catL (ws.map (·.2)))).foldl (stripStep x) ((sv : Int), none, rs))).cps.toList = sh ++ catL (shownOf ws)
  | [], dn, sv, rs, sh, _, hx, hs, hsh => by
    have hl : x.length = x.cps.toList.length := by simp [PySem.Str.length]
    have hx' : x.cps.toList = dn := by rw [hx]; simp [catL]
    show (stripEnd x ((sv : Int), none, rs)).cps.toList = sh ++ []
    rw [List.append_nil, ← hsh]
    unfold stripEnd
    rw [join_cat]
    dsimp only
    split
    · next h => rw [catL_snoc, slice_end (by omega), hx']
    · next h =>
      rw [List.drop_of_length_le (by rw [← hx']; omega), List.append_nil]
  | (b, w) :: r, dn, sv, rs, sh, hw, hx, hs, hsh => by
    have hwr : ∀ w ∈ r, Writ w.1 w.2 := fun q hq => hw q (.tail _ hq)
    have hc : catL (((b, w) :: r).map (·.2)) = w.cps.toList ++ catL (r.map (·.2)) := rfl
    rw [hc] at hx ⊢
    cases hw _ (.head _) with
    | shown ha hm _ _ =>
      rw [strip_atoms ha hm]
      have := strip_go r (dn ++ w.cps.toList) sv rs (sh ++ w.cps.toList) hwr (by rw [hx, List.append_assoc]) (by rw [List.length_append]; omega) (by rw [List.drop_append_of_le_length hs, ← List.append_assoc, hsh])
      rw [List.length_append] at this
      rw [this]
      show sh ++ w.cps.toList ++ catL (shownOf r) = sh ++ (w.cps.toList ++ catL (shownOf r))
      rw [List.append_assoc]
    | @hid _ l m he ha hm =>
      have hlen : w.cps.toList.length = l.length + 2 := by rw [he]; simp
      have hxl : dn.length ≤ x.cps.toList.length := by rw [hx]; simp
      have step : (escItems dn.length false (w.cps.toList ++ catL (r.map (·.2)))).foldl (stripStep x) ((sv : Int), none, rs) =
          (escItems (dn.length + (l.length + 2)) false (catL (r.map (·.2)))).foldl (stripStep x) (((dn.length + (l.length + 2) : Nat) : Int), none, if (sv : Int) = dn.length then rs else rs ++ [Txt.slice x (some (sv : Int)) (some (dn.length : Int))]) := by
        rw [he]
        show (escItems dn.length false (34 :: ((l ++ [34]) ++ catL (r.map (·.2))))).foldl (stripStep x) ((sv : Int), none, rs) = _
        rw [esc_one (by decide), List.foldl_cons, show stripStep x ((sv : Int), none, rs) ((dn.length : Int), ⟨#[34]⟩) = ((sv : Int), some (dn.length : Int), rs) from ss_open (by rw [q_qu]; simp)]
        rw [List.append_assoc, strip_atoms ha hm]
        show (escItems (dn.length + 1 + l.length) false (34 :: catL (r.map (·.2)))).foldl (stripStep x) _ = _
        rw [esc_one (by decide), List.foldl_cons]
        have e1 : ((dn.length + 1 + l.length : Nat) : Int) + 1 = ((dn.length + (l.length + 2) : Nat) : Int) := by omega
        have e2 : dn.length + 1 + l.length + 1 = dn.length + (l.length + 2) := by omega
        rw [e2]
        congr 1
        by_cases hq : (sv : Int) = dn.length
        · rw [ss_same (by rw [q_qu]; simp) hq, if_pos hq, e1]
        · rw [ss_more (by rw [q_qu]; simp) hq, if_neg hq, e1]
      rw [step]
      have hd : (dn ++ w.cps.toList).length = dn.length + (l.length + 2) := by rw [List.length_append, hlen]
      have := strip_go r (dn ++ w.cps.toList) (dn.length + (l.length + 2)) (if (sv : Int) = dn.length then rs else rs ++ [Txt.slice x (some (sv : Int)) (some (dn.length : Int))]) sh hwr (by rw [hx, List.append_assoc]) (by rw [hd]; exact Nat.le_refl _) (by
        rw [List.drop_of_length_le (by rw [hd]; exact Nat.le_refl _), List.append_nil, ← hsh]
        split
        · next h => rw [List.drop_of_length_le (by omega), List.append_nil]
        · next h =>
          rw [catL_snoc, slice_mid hs hxl, hx, List.drop_append_of_le_length hs, List.take_append_of_le_length (by rw [List.length_drop]; omega), List.take_of_length_le (by rw [List.length_drop]; omega)])
      rw [hd] at this
      rw [this]
      rfl
theorem strip_cat {ws : List (Bool × PySem.Str)} (hw : ∀ w ∈ ws, Writ w.1 w.2) : stripOf (PySem.Str.join (PySem.Str.ofString "") (ws.map (·.2))) = PySem.Str.join (PySem.Str.ofString "") (shownOf ws) := by
  refine str_eq ?_
  rw [join_cat]
  unfold stripOf
  split
  · next h =>
    rw [join_cat]
    rw [q_qu, empty_one, join_cat] at h
    have hn : 34 ∉ catL (ws.map (·.2)) := by simpa using h
    have : ∀ w ∈ ws, w.1 = false := by
      rintro ⟨b, y⟩ hm
      cases hw (b, y) hm with
      | shown => rfl
      | hid he _ _ =>
        exfalso
        refine hn ?_
        unfold catL
        rw [List.mem_flatMap]
        exact ⟨y, List.mem_map_of_mem (f := (·.2)) hm, by dsimp only at he; rw [he]; exact .head _⟩
    unfold shownOf
    rw [List.filter_eq_self.mpr (fun w hm => by rw [this w hm]; rfl)]
  · have := strip_go (x := PySem.Str.join (PySem.Str.ofString "") (ws.map (·.2))) ws [] 0 [] [] hw (by rw [join_cat]; rfl) (Nat.le_refl _) rfl
    rw [join_cat]
    simpa using this
end
section
theorem app_cps (a b : PySem.Str) : (a ++ b).cps.toList = a.cps.toList ++ b.cps.toList := Array.toList_append
theorem app_len (a b : PySem.Str) : (a ++ b).length = a.length + b.length := PySem.Str.length_append ..
/-- a text that changes no depth -/
def Neu (y : PySem.Str) : Prop := ∃ m, Atoms y.cps.toList m ∧ 34 ∉ m ∧ ∀ o : Int, 0 ≤ o → depth (some o) m = some o
theorem Neu.app {a b : PySem.Str} (h : Neu a) (k : Neu b) : Neu (a ++ b) := by
  obtain ⟨m, h1, h2, h3⟩ := h
  obtain ⟨n, k1, k2, k3⟩ := k
  refine ⟨m ++ n, by rw [app_cps]; exact h1.app k1, by simp [h2, k2], fun o ho => ?_⟩
  rw [depth_app, h3 o ho, k3 o ho]
theorem neu_eq {a b : PySem.Str} (e : a.cps.toList = b.cps.toList) (h : Neu a) : Neu b := by rw [← str_eq e]; exact h
theorem tjoin_cat (ws : List PySem.Str) : (Txt.join (PySem.Str.ofString "") ws).cps.toList = catL ws := by rw [txt_join, join_cat]
theorem neu_join : ∀ {ws : List PySem.Str}, (∀ w ∈ ws, Neu w) → Neu (Txt.join (PySem.Str.ofString "") ws)
  | [], _ => ⟨[], by rw [tjoin_cat]; exact .nil, by simp, fun _ _ => rfl⟩
  | w :: r, h => by
    refine neu_eq ?_ ((h w (.head _)).app (neu_join (ws := r) fun q hq => h q (.tail _ hq)))
    rw [app_cps, tjoin_cat, tjoin_cat]; rfl
theorem neu_plain {y : PySem.Str} {l : List Nat} (e : y.cps.toList = l) (h : l.all (fun c => c != 92 && c != 34 && c != 40 && c != 41) = true) : Neu y := by
  refine ⟨l, ?_, ?_, ?_⟩
  · rw [e]
    clear e
    induction l with
    | nil => exact .nil
    | cons c r ih =>
      rw [List.all_cons, Bool.and_eq_true] at h
      simp only [bne_iff_ne, Bool.and_eq_true] at h
      exact .one h.1.1.1.1 (ih (by simpa using h.2))
  · intro hm
    have := List.all_eq_true.mp h 34 hm
    simp at this
  · clear e
    induction l with
    | nil => intro o _; rfl
    | cons c r ih =>
      rw [List.all_cons, Bool.and_eq_true] at h
      intro o ho
      have h1 := h.1
      simp only [bne_iff_ne, Bool.and_eq_true] at h1
      show depth (dstep (some o) c) r = some o
      simp only [dstep, if_neg h1.1.2, if_neg h1.2]
      exact ih h.2 o ho
theorem neu_esc {c : Nat} (h : c ≠ 34) : Neu (escOf c) := by
  unfold escOf
  split
  · exact ⟨[], .esc .nil, by simp, fun _ _ => rfl⟩
  · next hs =>
    have n1 : c ≠ 92 := fun e => hs (by subst e; decide)
    have n2 : c ≠ 40 := fun e => hs (by subst e; decide)
    have n3 : c ≠ 41 := fun e => hs (by subst e; decide)
    exact neu_plain (l := [c]) rfl (by simp [h, n1, n2, n3])
theorem esc_le (c : Nat) : (escOf c).length ≤ 2 := by
  unfold escOf
  split
  · exact Nat.le_refl 2
  · exact Nat.le_succ 1
/-- what law reads of a writing -/
structure Shown (d : Int) (y : PySem.Str) : Prop where
  ex : ∃ m, Atoms y.cps.toList m ∧ 34 ∉ m ∧ ∀ o : Int, 0 ≤ o → depth (some o) m = some (o + d)
  head : y.cps.toList.head? ≠ some 34
  ne : y.cps.toList ≠ []
  len : (y.length : Int) ≤ 60 + d
theorem l_head : (PySem.Str.ofString "(?s:").cps.toList = [40, 63, 115, 58] := by decide +kernel
theorem l_tail : (PySem.Str.ofString ")\\Z").cps.toList = [41, 92, 90] := by decide +kernel
theorem len_list (y : PySem.Str) : y.length = y.cps.toList.length := by simp [PySem.Str.length]
theorem shown_wrap {b : PySem.Str} (h : Neu b) (hl : b.length ≤ 50) : Shown 0 (PySem.Str.empty ++ PySem.Str.ofString "(?s:" ++ b ++ PySem.Str.ofString ")\\Z") := by
  have e : (PySem.Str.empty ++ PySem.Str.ofString "(?s:" ++ b ++ PySem.Str.ofString ")\\Z").cps.toList = 40 :: 63 :: 115 :: 58 :: (b.cps.toList ++ [41, 92, 90]) := by
    rw [app_cps, app_cps, app_cps, l_head, l_tail]
    show [] ++ [40, 63, 115, 58] ++ b.cps.toList ++ [41, 92, 90] = _
    simp
  obtain ⟨m, h1, h2, h3⟩ := h
  refine ⟨⟨40 :: 63 :: 115 :: 58 :: (m ++ [41]), ?_, by simp [h2], fun o ho => ?_⟩, by rw [e]; simp, by rw [e]; simp, ?_⟩
  · rw [e]
    exact .one (by decide) (.one (by decide) (.one (by decide) (.one (by decide) (h1.app (.one (by decide) (.esc .nil))))))
  · show depth (some (o + 1)) (m ++ [41]) = _
    rw [depth_app, h3 (o + 1) (by omega)]
    show (if o + 1 - 1 < 0 then none else some (o + 1 - 1)) = _
    rw [if_neg (by omega)]
    congr 1; omega
  · rw [len_list, e]
    rw [len_list] at hl
    simp only [List.length_cons, List.length_append, List.length_nil]
    omega
/-- the shapes of the lists that _translate makes here -/
inductive TokShape : List (Option PySem.Str) → Prop
  | nil : TokShape []
  | s {a} : Neu a → a.length ≤ 10 → TokShape [some a]
  | sss {a b c} : Neu a → Neu b → Neu c → a.length ≤ 10 → b.length ≤ 10 → c.length ≤ 10 → TokShape [some a, some b, some c]
  | ssx {a b} : Neu a → Neu b → a.length ≤ 10 → b.length ≤ 10 → TokShape [some a, some b, none]
  | xss {a b} : Neu a → Neu b → a.length ≤ 10 → b.length ≤ 10 → TokShape [none, some a, some b]
  | xsx {a} : Neu a → a.length ≤ 10 → TokShape [none, some a, none]
def tokOf (c : Nat) : Option PySem.Str := if c = 42 then none else if c = 63 then some (PySem.Str.ofString ".") else some (escOf c)
theorem tok_three (c d : Nat) : [c, 97, d].foldl tokStep [] = [tokOf c, some (escOf 97), tokOf d] := by
  simp only [List.foldl_cons, List.foldl_nil]
  have e1 : tokStep [] c = [tokOf c] := by
    unfold tokStep tokOf
    split
    · rfl
    · split <;> rfl
  have e2 : tokStep [tokOf c] 97 = [tokOf c, some (escOf 97)] := rfl
  rw [e1, e2]
  unfold tokStep
  rw [show tokOf d = if d = 42 then none else if d = 63 then some (PySem.Str.ofString ".") else some (escOf d) from rfl]
  split
  · simp
  · split <;> rfl
theorem neu_dot : Neu (PySem.Str.ofString ".") := neu_plain (l := [46]) (by decide +kernel) (by decide)
theorem len_dot : (PySem.Str.ofString ".").length = 1 := by decide +kernel
theorem tok_ok {c : Nat} (h : c ≠ 34) : tokOf c = none ∨ ∃ y, tokOf c = some y ∧ Neu y ∧ y.length ≤ 10 := by
  unfold tokOf
  split
  · exact .inl rfl
  · split
    · exact .inr ⟨_, rfl, neu_dot, by rw [len_dot]; decide⟩
    · exact .inr ⟨_, rfl, neu_esc h, Nat.le_trans (esc_le c) (by decide)⟩
theorem shape_three {c d : Nat} (hc : c ≠ 34) (hd : d ≠ 34) : TokShape ([c, 97, d].foldl tokStep []) := by
  rw [tok_three]
  have na : Neu (escOf 97) := neu_esc (by decide)
  have la : (escOf 97).length ≤ 10 := Nat.le_trans (esc_le 97) (by decide)
  rcases tok_ok hc with e1 | ⟨y, e1, n1, l1⟩ <;> rcases tok_ok hd with e2 | ⟨z, e2, n2, l2⟩ <;> rw [e1, e2]
  · exact .xsx na la
  · exact .xss na n2 la l2
  · exact .ssx n1 na l1 la
  · exact .sss n1 na n2 l1 la l2
theorem shape_dot : TokShape ([46].foldl tokStep []) := by
  show TokShape [some (escOf 46)]
  exact .s (neu_esc (by decide)) (Nat.le_trans (esc_le 46) (by decide))
theorem shape_brack : TokShape [some (PySem.Str.ofString "[a]")] := .s (neu_plain (l := [91, 97, 93]) (by decide +kernel) (by decide)) (by decide +kernel)
theorem neu_any : Neu (PySem.Str.ofString ".*") := neu_plain (l := [46, 42]) (by decide +kernel) (by decide)
theorem neu_empty : Neu (PySem.Str.ofString "") := neu_plain (l := []) (by decide +kernel) (by decide)
theorem l_lazy : (PySem.Str.ofString "(?>.*?").cps.toList = [40, 63, 62, 46, 42, 63] := by decide +kernel
theorem l_close : (PySem.Str.ofString ")").cps.toList = [41] := by decide +kernel
theorem neu_lazy {b : PySem.Str} (h : Neu b) : Neu (PySem.Str.ofString "(?>.*?" ++ b ++ PySem.Str.ofString ")") := by
  have e : (PySem.Str.ofString "(?>.*?" ++ b ++ PySem.Str.ofString ")").cps.toList = 40 :: 63 :: 62 :: 46 :: 42 :: 63 :: (b.cps.toList ++ [41]) := by
    rw [app_cps, app_cps, l_lazy, l_close]; simp
  obtain ⟨m, h1, h2, h3⟩ := h
  refine ⟨40 :: 63 :: 62 :: 46 :: 42 :: 63 :: (m ++ [41]), ?_, by simp [h2], fun o ho => ?_⟩
  · rw [e]
    exact .one (by decide) (.one (by decide) (.one (by decide) (.one (by decide) (.one (by decide) (.one (by decide) (h1.app (.one (by decide) .nil)))))))
  · show depth (some (o + 1)) (m ++ [41]) = _
    rw [depth_app, h3 (o + 1) (by omega)]
    show (if o + 1 - 1 < 0 then none else some (o + 1 - 1)) = _
    rw [if_neg (by omega)]
    congr 1; omega
theorem catL_len (ws : List PySem.Str) : (catL ws).length = (ws.map (·.length)).sum := by
  induction ws with
  | nil => rfl
  | cons a r ih =>
    show (a.cps.toList ++ catL r).length = _
    rw [List.length_append, ih, List.map_cons, List.sum_cons, len_list]
theorem tjoin_len (ws : List PySem.Str) : (Txt.join (PySem.Str.ofString "") ws).length = (ws.map (·.length)).sum := by
  rw [len_list, tjoin_cat, catL_len]
end
section
section
variable {w : World} {A : Around} {s : Shared} {env : Env}
def GnLt (D : Addr) : List (Addr × Obj) → Prop
  | [] => True
  | p :: r => @LT.lt Nat _ p.1 D ∧ GnLt D r
theorem gnLt_of {D : Addr} : ∀ {l : List (Addr × Obj)}, (∀ p ∈ l, @LT.lt Nat _ p.1 D) → GnLt D l
  | [], _ => trivial
  | q :: r, h => ⟨h q (.head _), gnLt_of fun p hp => h p (.tail _ hp)⟩
theorem lt_of_gn {D : Addr} : ∀ {l : List (Addr × Obj)}, GnLt D l → ∀ p ∈ l, @LT.lt Nat _ p.1 D
  | [], _, p, hp => nomatch hp
  | q :: r, hg, p, hp => by
    rcases List.mem_cons.mp hp with rfl | hp
    · exact hg.1
    · exact lt_of_gn hg.2 p hp
theorem fresh_lt {h₀ h : Heap} {L : Addr} {news : List (Addr × Obj)} (N : News h₀ L h news) : GnLt h.objs.size news := gnLt_of fun p hp => Heap.lt_size (N p hp).1
/-- a turn's end: the iterator's object and what the loop turns; all generators are at rest -/
def TurnB (h₀ : Heap) (L : Addr) (I : Addr) (ob : Obj) (J : (PySem.Str → Option Value) → List (Addr × Obj) → Prop) (s s₂ : Shared) : Prop :=
  ∃ h' tk' gens' m' news', s₂ = { s with heap := h', toks := tk', gens := gens' } ∧ AllBare gens' ∧ Fr h₀ L h' m' ∧ News h₀ L h' ((I, ob) :: news') ∧ GnLt I news' ∧ J m' news'
theorem turn_b {h₀ : Heap} {L : Addr} {I : Addr} {ob : Obj} {J : (PySem.Str → Option Value) → List (Addr × Obj) → Prop} {s : Shared} {h' : Heap} {tk' : Nat} {gens' : Array GenState} {m' : PySem.Str → Option Value} {news' : List (Addr × Obj)}
    (hb : AllBare gens') (F : Fr h₀ L h' m') (N : News h₀ L h' ((I, ob) :: news')) (ne : GnLt I news') (hJ : J m' news') : TurnB h₀ L I ob J s { s with heap := h', toks := tk', gens := gens' } :=
  ⟨h', tk', gens', m', news', rfl, hb, F, N, ne, hJ⟩
theorem ne_of_gn {D : Addr} : ∀ {l : List (Addr × Obj)}, GnNe D l → ∀ p ∈ l, p.1 ≠ D
  | [], _, p, hp => nomatch hp
  | q :: r, hg, p, hp => by
    rcases List.mem_cons.mp hp with rfl | hp
    · exact hg.1
    · exact ne_of_gn hg.2 p hp
/-- what the head of a for loop over a list hands on -/
def ListIt (h₀ : Heap) (L : Addr) (J : List Value → Addr → Nat → (PySem.Str → Option Value) → List (Addr × Obj) → Prop) (s : Shared) (v : Value) (s₁ : Shared) : Prop :=
  ∃ vs l n h' tk m news, v = .ref l ∧ s₁ = { s with heap := h', toks := tk } ∧ Fr h₀ L h' m ∧ News h₀ L h' news ∧ J vs l n m news
theorem list_it {h₀ : Heap} {L l : Addr} {vs : List Value} {n : Nat} {J : List Value → Addr → Nat → (PySem.Str → Option Value) → List (Addr × Obj) → Prop} {h' : Heap} {tk : Nat} {m : PySem.Str → Option Value} {news : List (Addr × Obj)} (F : Fr h₀ L h' m) (N : News h₀ L h' news) (hJ : J vs l n m news) :
    ListIt h₀ L J s (.ref l) { s with heap := h', toks := tk } := ⟨vs, l, n, h', tk, m, news, rfl, rfl, F, N, hJ⟩
theorem for_listB {iter : Expr} {x : PySem.Str} {px pos : Pos} {body : List Stmt} {Q : Flow → Shared → Prop} {h₀ : Heap}
    (J : List Value → Addr → Nat → Nat → (PySem.Str → Option Value) → List (Addr × Obj) → Prop)
    (hh : A.handled = none) (hx : env.kindOf x = some .local)
    (hp : (env.scope.kind == .class || (env.scope.kind == .module && env.locals != env.globals)) = false) (hb : AllBare s.gens)
    (hiter : wpAny (model pw w) A (eval iter env) (ListIt h₀ env.locals (fun vs l n => J vs l n 0) s) nope s)
    (hmem : ∀ vs l n i m news, J vs l n i m news → (l, listOf vs.toArray n) ∈ news)
    (turn : ∀ vs l n i v m₁ news₁ I h tk gens, vs[i]? = some v → J vs l n i m₁ news₁ → AllBare gens → Fr h₀ env.locals h (fun y => if y = x then some v else m₁ y) → News h₀ env.locals h ((I, itObj l (i + 1)) :: news₁) → GnLt I news₁ →
      wpAny (model pw w) A (execs body env) (fun f s₂ => match f with
        | .next | .cont => TurnB h₀ env.locals I (itObj l (i + 1)) (J vs l n (i + 1)) s s₂
        | .brk => Q .next s₂
        | .ret v => Q (.ret v) s₂) nope { s with heap := h, toks := tk, gens := gens })
    (done : ∀ vs l n m₁ news₁ h tk gens, J vs l n vs.length m₁ news₁ → AllBare gens → Fr h₀ env.locals h m₁ → News h₀ env.locals h news₁ → Q .next { s with heap := h, toks := tk, gens := gens })
    (hs : ∀ x, foldedSetIterable iter env x = pure x := by intro _; rfl) :
    wpAny (model pw w) A (exec (.For (.Name x px) iter body [] pos) env) Q nope s := by
  refine for_any (wpAny_mono hiter (fun xv s₁ h₁ => ?_) fun _ _ e => e) hs
  obtain ⟨vs, l, n, h₁, tk₁, m, news, rfl, rfl, F, N, h0⟩ := h₁
  have hl0 := N _ (hmem vs l n 0 m news h0)
  refine wpAny_pyIter_list (items := vs.toArray) ⟨_, hl0.1, rfl, _, rfl⟩ ?_
  refine ⟨fun k s' => ∃ i, TurnB h₀ env.locals h₁.objs.size (itObj l i) (J vs l n i) s s' ∧ i ≤ vs.length ∧ k = vs.length + 1 - i, vs.length + 1,
    ⟨0, ⟨_, tk₁, s.gens, m, news, rfl, hb, F.push _, News.push F N _, ?_, h0⟩, Nat.zero_le _, rfl⟩, ?_⟩
  · exact fresh_lt N
  rintro k s' ⟨i, ⟨h', tk, gens, m₁, news₁, rfl, hb', F₁, N₁, ne₁, hJ⟩, hi, rfl⟩
  have hI := N₁ _ (.head _)
  have hL := N₁ _ (.tail _ (hmem vs l n i m₁ news₁ hJ))
  by_cases hlt : i < vs.length
  · refine pyNext_list_at (items := vs.toArray) hI.1 ⟨_, hL.1, rfl, _, rfl⟩ (x := vs[i]) (by simp [hlt]) fun h₂ hit₂ hs₂ => ?_
    refine wpAny_of_eq (a := ()) rfl ?_
    have N₂ : News h₀ env.locals h₂ ((h₁.objs.size, itObj l (i + 1)) :: news₁) := by
      intro p hp
      rcases List.mem_cons.mp hp with rfl | hp
      · exact ⟨hit₂, hI.2⟩
      · have q := N₁ p (.tail _ hp)
        exact ⟨(hs₂.2 _ (Nat.ne_of_lt (lt_of_gn ne₁ p hp))).trans q.1, q.2⟩
    have F₂ : Fr h₀ env.locals h₂ m₁ := ⟨F₁.ns.sameBut hs₂ (Ne.symm hI.2.1), fun b o e => (hs₂.2 b (fun z => by subst z; rw [hI.2.2] at e; cases e)).trans (F₁.keep b o e), F₁.above⟩
    refine wpAny_assign_Name (wpAny_storeName_local hx F₂.ns (fun h₃ hn hs₃ => ?_) hp)
    refine wpAny_mono (turn vs l n i vs[i] m₁ news₁ h₁.objs.size h₃ _ gens (by simp [hlt]) hJ hb' (F₂.set hn hs₃) (N₂.set hs₃) ne₁) (fun f s₃ h₃ => ?_) fun _ _ e => e
    cases f with
    | next => exact ⟨vs.length + 1 - (i + 1), by omega, i + 1, h₃, hlt, rfl⟩
    | cont => exact ⟨vs.length + 1 - (i + 1), by omega, i + 1, h₃, hlt, rfl⟩
    | brk => exact h₃
    | ret v => exact h₃
  · obtain rfl : i = vs.length := by omega
    refine wpAny_pyNext_list_end (items := vs.toArray) hh ⟨_, hI.1, rfl, rfl⟩ ⟨_, hL.1, rfl, _, rfl⟩ (by simp) fun h₂ hs₂ => ?_
    refine done vs l n m₁ news₁ h₂ tk gens hJ hb' ?_ ?_
    · obtain ⟨o, a, b, ho, r⟩ := F₁.ns
      exact ⟨⟨o, a, b, hs₂ _ _ (Ne.symm hI.2.1) ho, r⟩, fun b o e => hs₂ b o (fun z => by subst z; rw [hI.2.2] at e; cases e) (F₁.keep b o e), F₁.above⟩
    · intro p hp
      have q := N₁ p (.tail _ hp)
      exact ⟨hs₂ _ _ (Nat.ne_of_lt (lt_of_gn ne₁ p hp)) q.1, q.2⟩
abbrev rgObj (a : Int) (n : Nat) : Obj := { cls := .type "range_iterator", dict := none, data := .fields #[rawInt a, rawInt (n : Int), rawInt 1], slots := #[] }
/-- what the head of a for loop over range(n) hands on -/
def RangeIt (h₀ : Heap) (L : Addr) (n : Nat) (J : (PySem.Str → Option Value) → List (Addr × Obj) → Prop) (s : Shared) (v : Value) (s₁ : Shared) : Prop :=
  ∃ r t u v' h' tk m news, v = .ref r ∧ s₁ = { s with heap := h', toks := tk } ∧ Fr h₀ L h' m ∧ News h₀ L h' news ∧ IsRange h' r 0 (n : Int) 1 t u v' ∧ J m news
theorem for_rangeB {iter : Expr} {x : PySem.Str} {px pos : Pos} {body : List Stmt} {Q : Flow → Shared → Prop} {h₀ : Heap} (n : Nat)
    (J : Nat → (PySem.Str → Option Value) → List (Addr × Obj) → Prop)
    (hh : A.handled = none) (hx : env.kindOf x = some .local)
    (hp : (env.scope.kind == .class || (env.scope.kind == .module && env.locals != env.globals)) = false) (hb : AllBare s.gens) (hn : n < 1000000)
    (hiter : wpAny (model pw w) A (eval iter env) (RangeIt h₀ env.locals n (J 0) s) nope s)
    (turn : ∀ i t m₁ news₁ I h tk gens, i < n → J i m₁ news₁ → AllBare gens → Fr h₀ env.locals h (fun y => if y = x then some (.int (i : Int) t) else m₁ y) → News h₀ env.locals h ((I, rgObj ((i + 1 : Nat) : Int) (n - (i + 1))) :: news₁) → GnLt I news₁ →
      wpAny (model pw w) A (execs body env) (fun f s₂ => match f with
        | .next | .cont => TurnB h₀ env.locals I (rgObj ((i + 1 : Nat) : Int) (n - (i + 1))) (J (i + 1)) s s₂
        | .brk => Q .next s₂
        | .ret v => Q (.ret v) s₂) nope { s with heap := h, toks := tk, gens := gens })
    (done : ∀ m₁ news₁ h tk gens, J n m₁ news₁ → AllBare gens → Fr h₀ env.locals h m₁ → News h₀ env.locals h news₁ → Q .next { s with heap := h, toks := tk, gens := gens })
    (hs : ∀ x, foldedSetIterable iter env x = pure x := by intro _; rfl) :
    wpAny (model pw w) A (exec (.For (.Name x px) iter body [] pos) env) Q nope s := by
  refine for_any (wpAny_mono hiter (fun xv s₁ h₁ => ?_) fun _ _ e => e) hs
  obtain ⟨r, t, u, v', h₁, tk₁, m, news, rfl, rfl, F, N, hr, h0⟩ := h₁
  have hsz : Builtin.Range.rangeSize 0 (n : Int) 1 = (n : Int) := by rw [rangeSize_one]; split <;> omega
  have fl : ∀ z : Int, -2 ^ 63 ≤ z → z < 2 ^ 63 → Builtin.Range.rangeFitsLong z = true := fun z h1 h2 => by
    unfold Builtin.Range.rangeFitsLong
    simp only [Bool.and_eq_true, decide_eq_true_eq]
    omega
  refine wpAny_pyIter_range hr ?_ ?_
  · unfold Builtin.Range.small
    rw [hsz, fl 0 (by decide) (by decide), fl n (by omega) (by omega), fl 1 (by decide) (by decide)]
    simp only [Bool.true_and, Bool.or_eq_true, beq_iff_eq]
    right
    rw [if_pos (by decide)]
    exact fl _ (by omega) (by omega)
  rw [hsz]
  refine ⟨fun k s' => ∃ i : Nat, TurnB h₀ env.locals h₁.objs.size (rgObj (i : Int) (n - i)) (J i) s s' ∧ i ≤ n ∧ k = n + 1 - i, n + 1,
    ⟨0, ⟨_, tk₁, s.gens, m, news, rfl, hb, F.push _, News.push F N _, fresh_lt N, h0⟩, Nat.zero_le _, rfl⟩, ?_⟩
  rintro k s' ⟨i, ⟨h', tk, gens, m₁, news₁, rfl, hb', F₁, N₁, ne₁, hJ⟩, hi, rfl⟩
  have hI := N₁ _ (.head _)
  by_cases hlt : i < n
  · refine wpAny_pyNext_range_item (left := ((n - i : Nat) : Int)) hI.1 (by omega) fun h₂ hit₂ hs₂ => ?_
    refine wpAny_of_eq (a := ()) rfl ?_
    have e1 : ((i : Int) + 1) = ((i + 1 : Nat) : Int) := by omega
    have e2 : (((n - i : Nat) : Int) - 1) = ((n - (i + 1) : Nat) : Int) := by omega
    rw [e1, e2] at hit₂
    have N₂ : News h₀ env.locals h₂ ((h₁.objs.size, rgObj ((i + 1 : Nat) : Int) (n - (i + 1))) :: news₁) := by
      intro p hp
      rcases List.mem_cons.mp hp with rfl | hp
      · exact ⟨hit₂, hI.2⟩
      · have q := N₁ p (.tail _ hp)
        exact ⟨(hs₂.2 _ (Nat.ne_of_lt (lt_of_gn ne₁ p hp))).trans q.1, q.2⟩
    have F₂ : Fr h₀ env.locals h₂ m₁ := ⟨F₁.ns.sameBut hs₂ (Ne.symm hI.2.1), fun b o e => (hs₂.2 b (fun z => by subst z; rw [hI.2.2] at e; cases e)).trans (F₁.keep b o e), F₁.above⟩
    refine wpAny_assign_Name (wpAny_storeName_local hx F₂.ns (fun h₃ hn hs₃ => ?_) hp)
    refine wpAny_mono (turn i _ m₁ news₁ h₁.objs.size h₃ _ gens hlt hJ hb' (F₂.set hn hs₃) (N₂.set hs₃) ne₁) (fun f s₃ h₃ => ?_) fun _ _ e => e
    cases f with
    | next => exact ⟨n + 1 - (i + 1), by omega, i + 1, h₃, hlt, rfl⟩
    | cont => exact ⟨n + 1 - (i + 1), by omega, i + 1, h₃, hlt, rfl⟩
    | brk => exact h₃
    | ret v => exact h₃
  · obtain rfl : i = n := by omega
    refine wpAny_pyNext_range_end (left := ((i - i : Nat) : Int)) hh hI.1 (by omega) fun h₂ hs₂ => ?_
    refine done m₁ news₁ h₂ tk gens hJ hb' ?_ ?_
    · obtain ⟨o, a, b, ho, r⟩ := F₁.ns
      exact ⟨⟨o, a, b, hs₂ _ _ (Ne.symm hI.2.1) ho, r⟩, fun b o e => hs₂ b o (fun z => by subst z; rw [hI.2.2] at e; cases e) (F₁.keep b o e), F₁.above⟩
    · intro p hp
      have q := N₁ p (.tail _ hp)
      exact ⟨hs₂ _ _ (Nat.ne_of_lt (lt_of_gn ne₁ p hp)) q.1, q.2⟩
end
end
section
section
variable {prog : Program} {w : World} {A : Around} {E : Value → Shared → Prop} {s : Shared} {h₀ : Heap} {L : Addr} {m : PySem.Str → Option Value} {news news' : List (Addr × Obj)} {Q : Value → Shared → Prop}
theorem add_lst {l b : Addr} {vs ws : List Value} {n n2 : Nat} (F : Fr h₀ L s.heap m) (N : News h₀ L s.heap news) (hl : (l, listOf vs.toArray n) ∈ news) (hb : (b, listOf ws.toArray n2) ∈ news) (hz : vs.length + ws.length ≤ 1000000)
    (h : ∀ D h', Fr h₀ L h' m → News h₀ L h' ((D, listOf (vs ++ ws).toArray 0) :: news) → GnLt D news → Q (.ref D) { s with heap := h' }) : wpAny (model prog w) A (binaryOp .Add (.ref l) (.ref b)) Q E s :=
  add_lists (hsz := by rw [sizeLine_eq]; omega) F N ⟨_, (N _ hl).1, rfl, _, rfl⟩ ⟨_, (N _ hb).1, rfl, _, rfl⟩ fun h' F' N' => h _ h' F' N' (fresh_lt N)
theorem lt_grown {h : Heap} (N : News h₀ L h news) : GnLt (h.objs.size + 1) news :=
  gnLt_of fun p hp => Nat.lt_succ_of_lt (Heap.lt_size (N p hp).1)
theorem slice_to {value slice : Expr} {l : Addr} {vs : List Value} {n : Nat} {j : Nat} {uj : Tok} (F : Fr h₀ L s.heap m) (N : News h₀ L s.heap news) (hl : (l, listOf vs.toArray n) ∈ news) (hz : vs.length ≤ 1000000)
    (h : ∀ D h', Fr h₀ L h' m → News h₀ L h' ((D, listOf (vs.take j).toArray 0) :: news) → GnLt D news → Q (.ref D) { s with heap := h' })
    (hs : subscripted slice false (.ref l) (.ref s.heap.objs.size) = operate [.ref s.heap.objs.size, .ref l] (getItem (.ref l) (.ref s.heap.objs.size)) := by with_unfolding_all rfl) :
    wpAny (model prog w) A (subscriptTail value slice (.ref l) (.ref s.heap.objs.size)) Q E { s with heap := s.heap.push { cls := .type "slice", data := .fields #[.none, .int (j : Int) uj, .none] } } := by
  refine kba_turn (value' := .Name (PySem.Str.ofString "x") ⟨0, 0, 0, 0⟩) (fun _ => rfl) ?_
  refine slice_list (hsz := by rw [sizeLine_eq, List.size_toArray]; omega) F N ⟨_, (N _ hl).1, rfl, _, rfl⟩ .none (.int _ _) (fun h' F' N' => ?_) hs (fun _ => rfl)
  rw [slicePick_upto' vs.toArray j] at N'
  exact h _ h' F' N' (lt_grown N)
theorem slice_from {value slice : Expr} {l : Addr} {vs : List Value} {n : Nat} {j : Nat} {uj : Tok} (F : Fr h₀ L s.heap m) (N : News h₀ L s.heap news) (hl : (l, listOf vs.toArray n) ∈ news) (hz : vs.length ≤ 1000000)
    (h : ∀ D h', Fr h₀ L h' m → News h₀ L h' ((D, listOf (vs.drop j).toArray 0) :: news) → GnLt D news → Q (.ref D) { s with heap := h' })
    (hs : subscripted slice false (.ref l) (.ref s.heap.objs.size) = operate [.ref s.heap.objs.size, .ref l] (getItem (.ref l) (.ref s.heap.objs.size)) := by with_unfolding_all rfl) :
    wpAny (model prog w) A (subscriptTail value slice (.ref l) (.ref s.heap.objs.size)) Q E { s with heap := s.heap.push { cls := .type "slice", data := .fields #[.int (j : Int) uj, .none, .none] } } := by
  refine kba_turn (value' := .Name (PySem.Str.ofString "x") ⟨0, 0, 0, 0⟩) (fun _ => rfl) ?_
  refine slice_list (hsz := by rw [sizeLine_eq, List.size_toArray]; omega) F N ⟨_, (N _ hl).1, rfl, _, rfl⟩ (.int _ _) .none (fun h' F' N' => ?_) hs (fun _ => rfl)
  rw [slicePick_from' vs.toArray j] at N'
  exact h _ h' F' N' (lt_grown N)
theorem len_lst {D : Addr} {vs : List Value} {n : Nat} (N : News h₀ L s.heap news) (hm : (D, listOf vs.toArray n) ∈ news) (hz : vs.length < 2 ^ 62)
    (h : ∀ t k, Q (.int (vs.length : Int) t) { s with toks := k }) : wpAny (model prog w) A (call (.builtin "len") [.ref D]) Q E s := by
  refine Calls.call_len_list (items := vs.toArray) ⟨_, (N _ hm).1, rfl, _, rfl⟩ (by rw [List.size_toArray]; omega) ?_
  exact h _ _
theorem extend_lst {D b : Addr} {vs ws : List Value} {n n2 : Nat} (F : Fr h₀ L s.heap m) (N : News h₀ L s.heap news) (hb : (b, listOf ws.toArray n2) ∈ news) (hne : ws ≠ []) (U : Upd D (listOf vs.toArray n) (listOf (vs ++ ws).toArray (n + 1)) news news') (hz : vs.length + ws.length ≤ 1000)
    (h : ∀ h', Fr h₀ L h' m → News h₀ L h' news' → Q .none { s with heap := h' }) : wpAny (model prog w) A (call (.builtin "list.extend") [.ref D, .ref b]) Q E s := by
  refine kl_extend F N hb (l := vs ++ ws) rfl (by simp [hne]) U ?_ (by rw [sizeLine_eq]; show vs.length ≤ _; omega) (by rw [sizeLine_eq]; simp only [List.size_toArray]; omega) h
  unfold Builtin.List.listTooLong
  simp only [Bool.and_eq_true, not_and, List.size_toArray]
  intro _
  rw [decide_eq_true_eq]
  rw [sizeLine_eq]
  omega
theorem notin_lst {D : Addr} {vs : List Value} {ns : List Int} {n : Nat} {k : Int} {t : Tok} (N : News h₀ L s.heap news) (hm : (D, listOf vs.toArray n) ∈ news) (hi : IntsAre vs ns)
    (h : Q (.bool (!(ns.any (· == k)))) s) : wpAny (model prog w) A (compareOp .NotIn (.int k t) (.ref D)) Q E s :=
  notin_list_ints ⟨_, (N _ hm).1, rfl, _, rfl⟩ hi h
theorem rest_ind {prog : Program} {w : World} {A : Around} {h₀ : Heap} {L : Addr} {m : PySem.Str → Option Value} {env : Env} {ct elt : Expr} {x : PySem.Str} {scope : Scope} {cl : List (PySem.Str × Addr)} {s : Shared} {S : List (Addr × Obj) → Prop} {P : Nat → Value → Prop} {Fin : List Value → List (Addr × Obj) → Prop} {news : List (Addr × Obj)}
    (Inv : Nat → List Value → Prop) (n : Nat) (h0 : Inv 0 []) (fin : ∀ ys, Inv n ys → Fin ys news)
    (step : ∀ j ys k, j < n → Inv j ys → (∀ ys', Inv (j + 1) ys' → LCt.CompRestT prog w A h₀ L m env ct elt x scope cl s S P Fin k (j + 1) ys' news) → LCt.CompRestT prog w A h₀ L m env ct elt x scope cl s S P Fin (k + 1) j ys news) :
    LCt.CompRestT prog w A h₀ L m env ct elt x scope cl s S P Fin n 0 [] news := by
  have key : ∀ k j ys, j + k = n → Inv j ys → LCt.CompRestT prog w A h₀ L m env ct elt x scope cl s S P Fin k j ys news := by
    intro k
    induction k with
    | zero =>
      intro j ys hj hi
      obtain rfl : j = n := by omega
      exact LCt.CompRestT.zero (fin ys hi)
    | succ k ih =>
      intro j ys hj hi
      exact step j ys k (by omega) hi fun ys' hi' => ih (j + 1) ys' (by omega) hi'
  exact key n 0 [] (by omega) h0
theorem range_size (n : Nat) : Builtin.Range.rangeSize 0 (n : Int) 1 = (n : Int) := by rw [rangeSize_one]; split <;> omega
theorem range_small (n : Nat) (h : n < 1000000) : Builtin.Range.small 0 (n : Int) 1 = true := by
  have fl : ∀ z : Int, -2 ^ 63 ≤ z → z < 2 ^ 63 → Builtin.Range.rangeFitsLong z = true := fun z h1 h2 => by
    unfold Builtin.Range.rangeFitsLong
    simp only [Bool.and_eq_true, decide_eq_true_eq]
    omega
  unfold Builtin.Range.small
  rw [range_size, fl 0 (by decide) (by decide), fl n (by omega) (by omega), fl 1 (by decide) (by decide)]
  simp only [Bool.true_and, Bool.or_eq_true, beq_iff_eq]
  right
  rw [if_pos (by decide)]
  exact fl _ (by omega) (by omega)
end
end
example : True ∧ True := by
  w_top off
  walk1 <;> trivial
section
section
variable {prog : Program} {w : World} {A : Around} {E : Value → Shared → Prop} {s : Shared} {h₀ : Heap} {L : Addr} {m : PySem.Str → Option Value} {news : List (Addr × Obj)}
/-- an item of a list of the ledger, at a place known by its bounds -/
theorem item_at {value slice : Expr} {D : Addr} {vs : List Value} {v : Value} {i : Int} {n : Nat} {u : Tok} {Q : Value → Shared → Prop} (N : News h₀ L s.heap news) (hm : (D, listOf vs.toArray n) ∈ news) (hv : vs[i.toNat]? = some v) (h0 : 0 ≤ i) (hz : vs.length < 2 ^ 62)
    (h : Q v s) (hs : subscripted slice false (.ref D) (.int i u) = operate [.ref D, .int i u] (getItem (.ref D) (.int i u)) := by with_unfolding_all rfl) :
    wpAny (model prog w) A (subscriptTail value slice (.ref D) (.int i u)) Q E s := by
  have hl : s.heap.IsList D vs.toArray := ⟨_, (N _ hm).1, rfl, _, rfl⟩
  have hb := (List.getElem?_eq_some_iff.mp hv).1
  refine tail_any hl.typeIs slot_list_getitem.lookup (wpAny_getItem_list hl h0 (by omega) ?_ h) hs
  rw [List.getElem?_toArray]; exact hv
/-- the join of a list of plain texts -/
theorem join_neu {D : Addr} {vs : List Value} {ys : List PySem.Str} {n k : Nat} {t : Tok} {Q : Value → Shared → Prop} (N : News h₀ L s.heap news) (hm : (D, listOf vs.toArray n) ∈ news) (hS : StrsAre vs ys) (hN : ∀ y ∈ ys, Neu y)
    (hz : (ys.map (·.length)).sum ≤ k) (hk : k ≤ 1000) (hq : ∀ y t' tk, Neu y → y.length ≤ k → Q (.str y t') { s with toks := tk }) : wpAny (model prog w) A (call (.builtin "str.join") [.str (PySem.Str.ofString "") t, .ref D]) Q E s := by
  refine join_lst N hm hS ?_ fun y t' tk e => ?_
  · rw [show (PySem.Str.ofString "").length = 0 from by decide +kernel]; omega
  · rw [← txt_join] at e
    subst e
    exact hq _ _ _ (neu_join hN) (by rw [tjoin_len]; exact hz)
end
/-- what a list of tokens may hold -/
structure TokOk (S : Addr) (vs : List Value) : Prop where
  len : vs.length ≤ 3
  item : ∀ (i : Nat) (v : Value), vs[i]? = some v → v = Value.ref S ∨ ∃ y t, v = Value.str y t ∧ Neu y ∧ y.length ≤ 10
  two : ∀ i : Nat, vs[i]? = some (Value.ref S) → vs[i + 1]? ≠ some (Value.ref S)
abbrev jBase (N : Nat) (tn : Tok) (b l D S : Addr) : PySem.Str → Option Value := fun y => if y = PySem.Str.ofString "n" then some (Value.int (↑N) tn) else if y = PySem.Str.ofString "add" then some (Value.ref b) else if y = PySem.Str.ofString "res" then some (Value.ref l) else List.lookup y [(PySem.Str.ofString "inp", Value.ref D), (PySem.Str.ofString "STAR", Value.ref S)].reverse
def jMap (M0 : PySem.Str → Option Value) (uf : Option Value) (i : Int) (ti : Tok) : PySem.Str → Option Value :=
  fun y => if y = PySem.Str.ofString "fixed" then uf else if y = PySem.Str.ofString "i" then some (.int i ti) else M0 y
section
variable {M0 M' : PySem.Str → Option Value} {uf a : Option Value} {i i2 : Int} {ti ti2 : Tok}
theorem fixed_i : ¬ PySem.Str.ofString "fixed" = PySem.Str.ofString "i" := by decide +kernel
theorem j_0 : (fun y => if y = PySem.Str.ofString "i" then some (.int i ti) else M0 y) = jMap M0 (M0 (PySem.Str.ofString "fixed")) i ti := by
  funext y
  unfold jMap
  by_cases h0 : y = PySem.Str.ofString "fixed"
  · subst h0; rw [if_neg fixed_i, if_pos rfl]
  · rw [if_neg h0]
theorem j_i (e : M' = jMap M0 uf i ti) : (fun y => if y = PySem.Str.ofString "i" then some (.int i2 ti2) else M' y) = jMap M0 uf i2 ti2 := by
  subst e
  funext y
  unfold jMap
  by_cases h0 : y = PySem.Str.ofString "fixed"
  · subst h0; rw [if_neg fixed_i, if_pos rfl, if_pos rfl]
  · by_cases h1 : y = PySem.Str.ofString "i"
    · rw [if_pos h1, if_neg h0, if_pos h1]
    · rw [if_neg h1, if_neg h0, if_neg h0, if_neg h1, if_neg h1]
theorem j_f (e : M' = jMap M0 uf i ti) : (fun y => if y = PySem.Str.ofString "fixed" then a else M' y) = jMap M0 a i ti := by
  subst e
  funext y
  unfold jMap
  by_cases h0 : y = PySem.Str.ofString "fixed"
  · rw [if_pos h0, if_pos h0]
  · rw [if_neg h0, if_neg h0, if_neg h0]
end
/-- the frame and the ledger of _join_translated_parts between two of its turns -/
structure JP where
  (vs : List Value) (n0 : Nat) (hd : Heap) (L DT b l D S : Addr) (tn t0 : Tok) (s : Shared)
abbrev JP.base (p : JP) : PySem.Str → Option Value := jBase p.vs.length p.tn p.b p.l p.D p.S
abbrev JP.news (p : JP) (vr : List Value) (n' : Nat) : List (Addr × Obj) := [(p.DT, { cls := .type "tuple", data := .seq #[.int 0 p.t0, .int (↑p.vs.length) p.tn] }), (p.b, bmObj p.l), (p.l, listOf vr.toArray n'), (p.D, listOf p.vs.toArray p.n0)]
def JSt (p : JP) (i W : Nat) (s' : Shared) : Prop := ∃ uf ti vr ys n' h' tk', s' = { p.s with heap := h', toks := tk' } ∧ Fr p.hd p.L h' (jMap p.base uf (i : Int) ti) ∧ News p.hd p.L h' (p.news vr n') ∧ StrsAre vr ys ∧ (∀ y ∈ ys, Neu y) ∧ (ys.map (·.length)).sum ≤ W ∧ vr.length ≤ i
def J1 (p : JP) (μ : Nat) (s' : Shared) : Prop := ∃ i, μ = p.vs.length + 1 - i ∧ i ≤ p.vs.length ∧ JSt p i (10 * i) s'
def J2 (p : JP) (μ : Nat) (s' : Shared) : Prop := ∃ i, μ = p.vs.length + 1 - i ∧ i ≤ p.vs.length ∧ (∀ v, p.vs[i]? = some v → v = .ref p.S) ∧ JSt p i (10 * i) s'
def JPost (p : JP) (f : Flow) (s' : Shared) : Prop := f = .next ∧ ∃ μ, J2 p μ s'
def JEnd (p : JP) (f : Flow) (s' : Shared) : Prop := f = .next ∧ JSt p p.vs.length (10 * p.vs.length) s'
def J3 (p : JP) (l2 : Addr) (vr : List Value) (n' i : Nat) (μ : Nat) (s' : Shared) : Prop := ∃ j tj vf fs n2 h' tk', μ = p.vs.length + 1 - j ∧ i + 1 ≤ j ∧ j ≤ p.vs.length ∧ s' = { p.s with heap := h', toks := tk' } ∧ Fr p.hd p.L h' (jMap p.base (some (.ref l2)) (j : Int) tj) ∧ News p.hd p.L h' ((l2, listOf vf.toArray n2) :: p.news vr n') ∧
  StrsAre vf fs ∧ (∀ y ∈ fs, Neu y) ∧ (fs.map (·.length)).sum ≤ 10 * (j - i - 1) ∧ vf.length ≤ j
def J3Post (p : JP) (l2 : Addr) (vr : List Value) (n' i : Nat) (f : Flow) (s' : Shared) : Prop := f = .next ∧ ∃ j tj vf fs n2 h' tk', i + 1 ≤ j ∧ j ≤ p.vs.length ∧ (∀ v, p.vs[j]? = some v → v = .ref p.S) ∧ s' = { p.s with heap := h', toks := tk' } ∧ Fr p.hd p.L h' (jMap p.base (some (.ref l2)) (j : Int) tj) ∧ News p.hd p.L h' ((l2, listOf vf.toArray n2) :: p.news vr n') ∧
  StrsAre vf fs ∧ (∀ y ∈ fs, Neu y) ∧ (fs.map (·.length)).sum ≤ 10 * (j - i - 1) ∧ vf.length ≤ j
section
variable {p : JP} {i W : Nat} {h' : Heap} {tk' : Nat} {m : PySem.Str → Option Value} {uf : Option Value} {ti : Tok} {vr : List Value} {ys : List PySem.Str} {n' : Nat} {z : Int}
theorem j_st (F : Fr p.hd p.L h' m) (e : m = jMap p.base uf z ti) (hz : z = (i : Int)) (N : News p.hd p.L h' (p.news vr n')) (hS : StrsAre vr ys) (hN : ∀ y ∈ ys, Neu y) (hw : (ys.map (·.length)).sum ≤ W) (hl : vr.length ≤ i) : JSt p i W { p.s with heap := h', toks := tk' } := by
  subst e; subst hz; exact ⟨_, _, _, _, _, _, _, rfl, F, N, hS, hN, hw, hl⟩
theorem j2_again {j : Nat} (F : Fr p.hd p.L h' m) (e : m = jMap p.base uf z ti) (hz : z = (j : Int)) (N : News p.hd p.L h' (p.news vr n')) (h1 : i < j) (h2 : j ≤ p.vs.length) (hst : ∀ v, p.vs[j]? = some v → v = .ref p.S)
    (hS : StrsAre vr ys) (hN : ∀ y ∈ ys, Neu y) (hw : (ys.map (·.length)).sum ≤ 10 * j) (hl : vr.length ≤ j) : WAgain (J2 p) (p.vs.length + 1 - i) { p.s with heap := h', toks := tk' } :=
  ⟨p.vs.length + 1 - j, by omega, j, rfl, h2, hst, j_st F e hz N hS hN hw hl⟩
section
variable {l2 : Addr} {vf : List Value} {fs : List PySem.Str} {n2 j : Nat}
theorem j3_again (F : Fr p.hd p.L h' m) (e : m = jMap p.base (some (.ref l2)) z ti) (hz : z = ((j + 1 : Nat) : Int)) {v : Value} (N : News p.hd p.L h' ((l2, listOf (vf ++ [v]).toArray n2) :: p.news vr n')) (h1 : i + 1 ≤ j) (h2 : j < p.vs.length)
    (hS : StrsAre (vf ++ [v]) fs) (hN : ∀ y ∈ fs, Neu y) (hw : (fs.map (·.length)).sum ≤ 10 * (j + 1 - i - 1)) (hl : (vf ++ [v]).length ≤ j + 1) : WAgain (J3 p l2 vr n' i) (p.vs.length + 1 - j) { p.s with heap := h', toks := tk' } := by
  subst e; subst hz
  exact ⟨p.vs.length + 1 - (j + 1), by omega, j + 1, _, _, _, _, _, _, rfl, by omega, h2, rfl, F, N, hS, hN, hw, hl⟩
theorem j3_done (F : Fr p.hd p.L h' m) (e : m = jMap p.base (some (.ref l2)) (j : Int) ti) (N : News p.hd p.L h' ((l2, listOf vf.toArray n2) :: p.news vr n')) (h1 : i + 1 ≤ j) (h2 : j ≤ p.vs.length) (hst : ∀ v, p.vs[j]? = some v → v = .ref p.S)
    (hS : StrsAre vf fs) (hN : ∀ y ∈ fs, Neu y) (hw : (fs.map (·.length)).sum ≤ 10 * (j - i - 1)) (hl : vf.length ≤ j) : J3Post p l2 vr n' i .next { p.s with heap := h', toks := tk' } := by
  subst e
  exact ⟨rfl, j, _, _, _, _, _, _, h1, h2, hst, rfl, F, N, hS, hN, hw, hl⟩
end
theorem neu_add {a : PySem.Str} (hN : ∀ y ∈ ys, Neu y) (ha : Neu a) : ∀ y ∈ ys ++ [a], Neu y := by
  intro y hy
  rcases List.mem_append.mp hy with h | h
  · exact hN y h
  · rcases List.mem_singleton.mp h with rfl; exact ha
theorem sum_add {a : PySem.Str} {k : Nat} (hw : (ys.map (·.length)).sum ≤ W) (ha : W + a.length ≤ k) : ((ys ++ [a]).map (·.length)).sum ≤ k := by
  rw [List.map_append, List.sum_append]; simp only [List.map_cons, List.map_nil, List.sum_cons, List.sum_nil]; omega
theorem len_add {v : Value} {k : Nat} (hl : vr.length < k) : (vr ++ [v]).length ≤ k := by rw [List.length_append]; exact hl
theorem neu_lazy0 {b : PySem.Str} (h : Neu b) : Neu (PySem.Str.empty ++ PySem.Str.ofString "(?>.*?" ++ b ++ PySem.Str.ofString ")") :=
  neu_eq (by simp only [app_cps, show PySem.Str.empty.cps.toList = [] from rfl, List.nil_append]) (neu_lazy h)
theorem len_any : (PySem.Str.ofString ".*").length = 2 := by decide +kernel
theorem fstr_len {y : PySem.Str} {k : Nat} (h : y.length ≤ k) : (PySem.Str.empty ++ PySem.Str.ofString "(?>.*?" ++ y ++ PySem.Str.ofString ")").length ≤ k + 7 ∧ (PySem.Str.ofString "(?>.*?" ++ y ++ PySem.Str.ofString ")").length ≤ k + 7 := by
  have w0 : PySem.Str.empty.length = 0 := by decide +kernel
  have w2 : (PySem.Str.ofString "(?>.*?").length = 6 := by decide +kernel
  have w3 : (PySem.Str.ofString ")").length = 1 := by decide +kernel
  simp only [app_len]; omega
end
local macro_rules | `(tactic| walk_at "compareOp IsNot") => `(tactic| (with_reducible refine isnot_sr ?_))
local macro_rules | `(tactic| walk_at "formatField str") => `(tactic| (k_dflt (refine' field_str ?z ?_; (case z => walk_at "m.len"); intro t9 k9)))
local macro_rules | `(tactic| walk_at "call builtin:len") => `(tactic| (k_dflt ((with_reducible rename News _ _ _ _ => N'); refine' len_lst N' ?km ?kz ?_; (case km => k_mem); (case kz => omega); intro t9 k9)))
local macro_rules | `(tactic| walk_at "subscriptTail Name Name ref int") => `(tactic| (k_dflt ((with_reducible rename News _ _ _ _ => N'); refine' item_at N' ?km ?kv ?ka ?kz ?_ ?khs; (case km => k_mem); (case kv => assumption); (case ka => omega); (case kz => omega); (case khs => with_unfolding_all rfl))))
local macro_rules | `(tactic| walk_at "call builtin:str.join") => `(tactic| (refine stop_of ?_))
theorem join_gen {w : World} {A : Around} {s : Shared} {mg mb : PySem.Str → Option Value} {vs : List Value} {D S : Addr} {n : Nat} {R : Result → Shared → Prop}
    (h₀ : Heap) (X₀ : (Mine.K w.params).In h₀) (T₀ : TopRead vw lz mg mb h₀) (k₀ : Kp h₀ s.heap) (hn : h₀.get? D = none) (hA : Room A (2 + 1)) (hD : s.heap.get? D = some (listOf vs.toArray n)) (hT : TokOk S vs)
    (hR : ∀ h' tk t' y, Kp s.heap h' → Shown 0 y → R (.ok (.ret (.str y t'))) { s with heap := h', toks := tk }) :
    codeAny (model pw w) A (.call (.ref 184) ⟨[.ref D, .ref S], []⟩) R s := by
  obtain ⟨hd9, d9, fr9, gu9, u9⟩ := A
  obtain rfl : hd9 = none := hA.h
  have X := X₀.keeps k₀
  have T := T₀.keeps k₀
  have hlen := hT.len
  refine' enterF [(PySem.Str.ofString "inp", .ref D), (PySem.Str.ofString "STAR", .ref S)] ?k1 ?k2 ?k3 ?k4 ?k5 ?k6 ?k7 ?k8 ?k9 ?k10 ?k11 ?_
  walk_at "m.enter"
  intro L h₁ F N hA'
  have N := hid_news F hD
  have F := hid_fr (D := D) F
  have X := X₀.keeps (hid_kp k₀ hn)
  have T := T₀.keeps (hid_kp k₀ hn)
  k_steps
  unfold Stop
  rename_i l _ ltD _ _ b _ tk9 A9 _ t9 _ DT _ ltT _ _ _ kF kN
  rw [show (fun y => if y = PySem.Str.ofString "i" then some (Value.int 0 (tk9 + 1)) else _) = _ from j_0 (M0 := jBase vs.length t9 b l D S)] at kF
  refine wpAny_mono (E := nope) (while_opq (Q := JPost (JP.mk vs n (hideAll s.heap [D]) L DT b l D S t9 (tk9 + 1) s)) (J1 (JP.mk vs n (hideAll s.heap [D]) L DT b l D S t9 (tk9 + 1) s)) (vs.length + 1) ⟨0, rfl, Nat.zero_le _, j_st (i := 0) kF rfl rfl kN .nil (fun _ h => nomatch h) (Nat.le_refl _) (Nat.le_refl _)⟩ ?turn) ?after (fun _ _ x => x.elim)
  case turn =>
    clear kF kN hR
    rintro μ s' ⟨i, rfl, hi, uf, ti, vr, ys, n', h', tk', rfl, F₁, N₁, hS, hN, hz, hl⟩ Qn qa qb
    dsimp only [JP.news, JP.base] at hi hl hz F₁ N₁ qa ⊢
    unfold jMap at F₁
    by_cases hlt : i < vs.length
    · obtain ⟨v, hv⟩ : ∃ v, vs[i]? = some v := ⟨vs[i], List.getElem?_eq_getElem hlt⟩
      have hv0 : vs[(i : Int).toNat]? = some v := hv
      have g1 : (i : Int) < (vs.length : Int) := by omega
      rcases hT.item i v hv with rfl | ⟨y, t, rfl, hy, hyl⟩
      · k_steps
        exact qb _ ⟨rfl, _, i, rfl, hi, (fun u e => by rw [hv] at e; cases e; rfl), j_st (by assumption) rfl rfl (by assumption) hS hN hz hl⟩
      · k_steps
        exact qa _ ⟨vs.length + 1 - (i + 1), by omega, i + 1, rfl, hlt, j_st (by assumption) (j_i rfl) rfl (by assumption) (strs_add hS) (neu_add hN hy) (sum_add hz (by omega)) (len_add (by omega))⟩
    · have g1 : ¬ (i : Int) < (vs.length : Int) := by omega
      k_steps
      exact qb _ ⟨rfl, _, i, rfl, hi, (fun u e => absurd (List.getElem?_eq_some_iff.mp e).1 hlt), j_st (by assumption) rfl rfl (by assumption) hS hN hz hl⟩
  case after =>
    clear kF kN
    rintro f s' ⟨rfl, μ, i, rfl, hi, hst, uf, ti, vr, ys, n', h', tk', rfl, F₁, N₁, hS, hN, hz, hl⟩
    dsimp only [JP.news, JP.base] at hi hl hz F₁ N₁ hst ⊢
    unfold jMap at F₁
    k_steps
    unfold Stop
    with_reducible rename Fr _ _ _ _ => F2
    with_reducible rename News _ _ _ _ => N2
    refine wpAny_mono (E := nope) (while_opq (Q := JEnd (JP.mk vs n (hideAll s.heap [D]) L DT b l D S t9 (tk9 + 1) s)) (J2 (JP.mk vs n (hideAll s.heap [D]) L DT b l D S t9 (tk9 + 1) s)) (vs.length + 1 - i) ⟨i, rfl, hi, hst, j_st F2 rfl rfl N2 hS hN hz hl⟩ ?turn2) ?after2 (fun _ _ x => x.elim)
    case turn2 =>
      clear F2 N2 hR hst hi hS hN hz hl
      rintro μ s' ⟨i, rfl, hi, hst, uf, ti, vr, ys, n', h', tk', rfl, F₁, N₁, hS, hN, hz, hl⟩ Qn qa qb
      dsimp only [JP.news, JP.base] at hi hl hz F₁ N₁ hst ⊢
      unfold jMap at F₁
      by_cases hlt : i < vs.length
      · have hv : vs[i]? = some (Value.ref S) := by
          have e := List.getElem?_eq_getElem hlt
          rw [e, hst _ e]
        have hv0 : vs[(i : Int).toNat]? = some (Value.ref S) := hv
        have g1 : (i : Int) < (vs.length : Int) := by omega
        by_cases hlt2 : i + 1 < vs.length
        · have g2 : ((i : Int) + 1 == (vs.length : Int)) = false := beq_false_of_ne (by omega)
          obtain ⟨y, t, hv1, hy, hyl⟩ : ∃ y t, vs[((i : Int) + 1).toNat]? = some (Value.str y t) ∧ Neu y ∧ y.length ≤ 10 := by
            obtain ⟨v, e⟩ : ∃ v, vs[i + 1]? = some v := ⟨vs[i + 1], List.getElem?_eq_getElem hlt2⟩
            rcases hT.item _ v e with rfl | ⟨y, t, rfl, h1, h2⟩
            · exact absurd e (hT.two i hv)
            · exact ⟨y, t, e, h1, h2⟩
          k_steps
          unfold Stop
          rename_i l2 _ ltl _ F3 N3
          refine wpAny_mono (E := nope) (while_opq (Q := J3Post (JP.mk vs n (hideAll s.heap [D]) L DT b l D S t9 (tk9 + 1) s) l2 vr n' i) (J3 (JP.mk vs n (hideAll s.heap [D]) L DT b l D S t9 (tk9 + 1) s) l2 vr n' i) (vs.length + 1 - (i + 1)) ⟨i + 1, _, [], [], 0, _, _, rfl, Nat.le_refl _, hlt, rfl, (j_f (j_i rfl) : _ = jMap (jBase vs.length t9 b l D S) (some (.ref l2)) ((i : Int) + 1) _) ▸ F3, N3, .nil, (fun _ h => nomatch h), Nat.zero_le _, Nat.zero_le _⟩ ?turn3) ?after3 (fun _ _ x => x.elim)
          case turn3 =>
            clear F3 N3
            rintro μ s' ⟨j, tj, vf, fs, n2, h', tk', rfl, hj1, hj2, rfl, F₁, N₁, hSf, hNf, hzf, hlf⟩ Qm qc qd
            dsimp only [JP.news, JP.base] at hj2 F₁ N₁ ⊢
            unfold jMap at F₁
            by_cases hlt3 : j < vs.length
            · obtain ⟨v, hw⟩ : ∃ v, vs[j]? = some v := ⟨vs[j], List.getElem?_eq_getElem hlt3⟩
              have hw0 : vs[(j : Int).toNat]? = some v := hw
              have g3 : (j : Int) < (vs.length : Int) := by omega
              rcases hT.item j v hw with rfl | ⟨y2, t2, rfl, hy2, hyl2⟩
              · k_steps
                exact qd _ (j3_done (by assumption) rfl (by assumption) hj1 hj2 (fun u e => by rw [hw] at e; cases e; rfl) hSf hNf hzf hlf)
              · k_steps
                exact qc _ (j3_again (by assumption) (j_i rfl) rfl (by assumption) hj1 hlt3 (strs_add hSf) (neu_add hNf hy2) (sum_add hzf (by omega)) (len_add (by omega)))
            · have g3 : ¬ (j : Int) < (vs.length : Int) := by omega
              k_steps
              exact qd _ (j3_done (by assumption) rfl (by assumption) hj1 hj2 (fun u e => absurd (List.getElem?_eq_some_iff.mp e).1 hlt3) hSf hNf hzf hlf)
          case after3 =>
            clear F3 N3
            rintro f s' ⟨rfl, j, tj, vf, fs, n2, h', tk', hj1, hj2, hst3, rfl, F₁, N₁, hSf, hNf, hzf, hlf⟩
            dsimp only [JP.news, JP.base] at hj2 F₁ N₁ hst3 ⊢
            unfold jMap at F₁
            have hj : i + 2 ≤ j := by
              rcases Nat.lt_or_ge (i + 1) j with h | h
              · exact h
              · have : i + 1 = j := by omega
                subst this
                cases hst3 _ hv1
            k_steps
            unfold Stop
            with_reducible rename News _ _ _ _ => N5
            refine join_neu N5 (by k_mem) hSf hNf hzf (by omega) ?_
            intro y9 t5 tk5 hy9 hyl9
            have hyl3 : y9.length ≤ 30 := by omega
            obtain ⟨q1, q2⟩ := fstr_len hyl3
            have q3 : True ∧ (PySem.Str.empty ++ PySem.Str.ofString "(?>.*?" ++ y9 ++ PySem.Str.ofString ")").length ≤ 10 * (j - i - 1) + 7 := ⟨trivial, (fstr_len hyl9).1⟩
            replace hyl9 : True ∧ y9.length ≤ 10 * (j - i - 1) := ⟨trivial, hyl9⟩
            by_cases hlt4 : j = vs.length
            · have g4 : ((j : Int) == (vs.length : Int)) = true := beq_iff_eq.mpr (by omega)
              k_steps
              dsimp only
              with_reducible rename News _ _ _ _ => N9
              exact qa _ (j2_again (by assumption) (j_f rfl) rfl (fun q hq => N9 q (.tail _ hq)) (by omega) hj2 hst3 (strs_add (strs_add hS)) (neu_add (neu_add hN neu_any) hy9) (sum_add (W := 10 * i + 2) (sum_add hz (by rw [len_any]; exact Nat.le_refl _)) (by omega)) (by simp only [List.length_append, List.length_cons, List.length_nil]; omega))
            · have g4 : ((j : Int) == (vs.length : Int)) = false := beq_false_of_ne (by omega)
              k_steps
              dsimp only
              with_reducible rename News _ _ _ _ => N9
              exact qa _ (j2_again (by assumption) (j_f rfl) rfl (fun q hq => N9 q (.tail _ hq)) (by omega) hj2 hst3 (strs_add hS) (neu_add hN (neu_lazy0 hy9)) (sum_add hz (by omega)) (len_add (by omega)))
        · have g2 : ((i : Int) + 1 == (vs.length : Int)) = true := beq_iff_eq.mpr (by omega)
          k_steps
          dsimp only
          exact qb _ ⟨rfl, j_st (by assumption) (j_i rfl) (by dsimp only; omega) (by assumption) (strs_add hS) (neu_add hN neu_any) (sum_add hz (by dsimp only; rw [len_any]; omega)) (len_add (by dsimp only; omega))⟩
      · have g1 : ¬ (i : Int) < (vs.length : Int) := by omega
        obtain rfl : i = vs.length := by omega
        k_steps
        exact qb _ ⟨rfl, j_st (by assumption) rfl rfl (by assumption) hS hN hz hl⟩
    case after2 =>
      clear F2 N2 hst hi hS hN hz hl
      rintro f s' ⟨rfl, uf, ti, vr, ys, n', h', tk', rfl, F₁, N₁, hS, hN, hz, hl⟩
      dsimp only [JP.news, JP.base] at hl hz F₁ N₁ ⊢
      unfold jMap at F₁
      have gE : ((vs.length : Int) == (vs.length : Int)) = true := beq_self_eq_true _
      k_steps
      unfold Stop
      with_reducible rename News _ _ _ _ => N2
      refine join_neu (k := 30) N2 (by k_mem) hS hN (Nat.le_trans hz (by omega)) (by omega) ?_
      intro y9 t9 tk9 hy hyl
      k_steps
      exact hR _ _ _ _ (hid_back hD (Fr.keep (by assumption)) (News.get (by assumption) (by k_mem))) (shown_wrap hy (by omega))
end
example : True ∧ True := by
  w_top off
  walk1 <;> trivial
section
theorem one_of {c : Nat} {i : Nat} {y : PySem.Str} (e : [PySem.Str.ofString "(", PySem.Str.ofString ")", PySem.Str.ofString "\\", PySem.Str.ofString "*", PySem.Str.ofString "?", PySem.Str.ofString ".", PySem.Str.ofString "[", ⟨#[c]⟩][i]? = some y) : y.length = 1 := by
  have h := List.mem_of_getElem? e
  simp only [List.mem_cons, List.not_mem_nil, or_false] at h
  rcases h with rfl | rfl | rfl | rfl | rfl | rfl | rfl | rfl <;> first | rfl | decide +kernel
local macro_rules | `(tactic| walk_at "subscriptTail Name BinOp ref int") => `(tactic| (k_dflt ((with_reducible rename News _ _ _ _ => N'); refine' item_strs N' ?m ?S ?a ?b ?z ?_ ?hs; (case m => k_mem); (case S => repeat constructor); (case a => omega); (case b => (simp only [List.length_cons, List.length_nil]; omega)); (case z => (simp only [List.length_cons, List.length_nil]; omega)); (case hs => with_unfolding_all rfl); intro y9 t9 e9; (have l9 := one_of e9))))
def signsOf (sg : PySem.Str) : List PySem.Str := [PySem.Str.ofString "(", PySem.Str.ofString ")", PySem.Str.ofString "\\", PySem.Str.ofString "*", PySem.Str.ofString "?", PySem.Str.ofString ".", PySem.Str.ofString "[", sg]
/-- the sign of a number -/
def SignOf (n : Int) (sg : PySem.Str) : Prop := sg = PySem.Str.ofString "a" ∨ (sg = ⟨#[((n.fdiv 64).fmod 55296).toNat]⟩ ∧ (Builtin.Str.occurrences (PySem.Str.ofString "/\"") sg 0 (PySem.Str.ofString "/\"").length 1).isEmpty = true)
theorem law_name_spec {w : World} {A : Around} {s : Shared} {mg mb : PySem.Str → Option Value} {n : Int} {t : Tok} {R : Result → Shared → Prop}
    (X : (Mine.K w.params).In s.heap) (T : TopRead vw lz mg mb s.heap) (hA : Room A (1 + 1))
    (hR : ∀ h' tk t' sg y1 y2, Kp s.heap h' → SignOf n sg → (signsOf sg)[(n.fmod 8).toNat]? = some y1 → (signsOf sg)[((n.fdiv 8).fmod 8).toNat]? = some y2 → R (.ok (.ret (.str (y1 ++ PySem.Str.ofString "a" ++ y2) t'))) { s with heap := h', toks := tk }) :
    codeAny (model pw w) A (.call (.ref 191) ⟨[.int n t], []⟩) R s := by
  obtain ⟨hd9, d9, fr9, gu9, u9⟩ := A
  obtain rfl : hd9 = none := hA.h
  refine' enterF [(PySem.Str.ofString "n", .int n t)] ?k1 ?k2 ?k3 ?k4 ?k5 ?k6 ?k7 ?k8 ?k9 ?k10 ?k11 ?_
  walk_at "m.enter"
  intro L h₁ F N hA'
  have f1 : 0 ≤ n.fmod 8 ∧ n.fmod 8 < 8 := ⟨Int.fmod_nonneg_of_pos _ (by decide), Int.fmod_lt_of_pos _ (by decide)⟩
  have f2 : 0 ≤ (n.fdiv 8).fmod 8 ∧ (n.fdiv 8).fmod 8 < 8 := ⟨Int.fmod_nonneg_of_pos _ (by decide), Int.fmod_lt_of_pos _ (by decide)⟩
  k_steps
  · exact hR _ _ _ _ _ _ (Fr.keep (by assumption)) (.inr ⟨rfl, by assumption⟩) (by assumption) (by assumption)
  · exact hR _ _ _ _ _ _ (Fr.keep (by assumption)) (.inl rfl) (by assumption) (by assumption)
end
section
theorem mro_object : mroOf (.type "object") = pure [.type "object"] := by rw [mroOf_type]; kernel_rfl
theorem lookup_object_new : typeLookup (.type "object") "__new__" = pure (some (.builtin "object.__new__")) := by rw [typeLookup_type, builtinLookup_eq_fast]; kernel_rfl
theorem slot_object_init : Slot "object" "__init__" "object.__init__" :=
  .of (owner := "object") (n := "__init__") (by rw [typeLookup_type, builtinLookup_eq_fast]; kernel_rfl) (by decide +kernel) (by decide +kernel) (by decide +kernel)
    (by first | exact .inl (by decide +kernel) | exact .inr (by decide +kernel)) (by rw [isSubtype_type]; kernel_rfl)
theorem called_object : TypeCalled "object" "object.__new__" "object.__init__" :=
  ⟨by decide +kernel, by decide +kernel, ⟨_, _, mro_object⟩, madeBy_type mro_object lookup_object_new (by decide +kernel), by decide +kernel, by rw [isSubtype_type]; kernel_rfl, slot_object_init⟩
theorem typeCall_object_0 : checkTypeCall "object" ⟨[], []⟩ = pure () := by kernel_rfl
theorem newCall_object_0 : checkBuiltinCall "object.__new__" ⟨[.type "object"], []⟩ = pure () := by kernel_rfl
theorem entry_object_new : entryFor table "object.__new__" = some Builtin.«object.__new__» := entryFor_of_tree (by kernel_rfl)
theorem entry_object_init : entryFor table "object.__init__" = some Builtin.«object.__init__» := entryFor_of_tree (by kernel_rfl)
theorem plain_object_new : plainId "object.__new__" = true := by decide +kernel
theorem args_object_init (a : Value) : argsOk "object.__init__" ⟨[a], []⟩ := by unfold argsOk; kernel_rfl
theorem obj_refuse : ((Manifest.find? "object").elim false (·.mro.any fun t => (Manifest.find? t).elim false (·.noNew))) = false := by decide +kernel
theorem obj_dict : typeHasDict (.type "object") = false := by decide +kernel
theorem obj_dies : diesByItsTypesDel "object" = false := by decide +kernel
theorem obj_made : Bind.madeHere "object.__new__" (.type "object") = pure () := by
  unfold Bind.madeHere
  have e : Bind.staticBase (.type "object") = pure (.type "object") := by first | rfl | kernel_rfl
  rw [e]
  simp only [pure_bind, called_object.made]
  first | rfl | kernel_rfl | (simp; rfl)
theorem meets_object_new : Meets (Builtin.«object.__new__» ⟨[.type "object"], []⟩) (fun _ R s => R (.ok (.ret (.ref s.heap.objs.size))) { s with heap := s.heap.push { cls := .type "object", data := .plain } }) := by
  refine Meets.of_wp fun prog w A R s h => ?_
  have h1 := obj_refuse
  have h2 := obj_dict
  have h3 := obj_dies
  have h4 := obj_made
  unfold Builtin.«object.__new__»
  repeat (any_goals (first | assumption | wp_step))
  exact ⟨_, rfl, h⟩
theorem meets_object_init (v : Value) : Meets (Builtin.«object.__init__» ⟨[v], []⟩) (fun _ R s => R (.ok (.ret .none)) s) := by
  refine Meets.of_wp fun prog w A R s h => ?_
  exact wpAny_pure ⟨_, rfl, h⟩
theorem call_object {prog : Program} {w : World} {A : Around} {E : Value → Shared → Prop} {s : Shared} {Q : Value → Shared → Prop}
    (h : Q (.ref s.heap.objs.size) { s with heap := s.heap.push { cls := .type "object", data := .plain } }) : wpAny (model prog w) A (call (.type "object") []) Q E s := by
  refine callType_meets called_object typeCall_object_0 newCall_object_0 entry_object_new entry_object_init meets_object_new
    (Q₁ := fun v s₁ => v = .ref s.heap.objs.size ∧ s₁ = { s with heap := s.heap.push { cls := .type "object", data := .plain } }) ⟨rfl, rfl⟩ ?_
  rintro obj s₁ ⟨rfl, rfl⟩
  exact ⟨⟨_, Heap.get?_push_size _ rfl, rfl⟩, args_object_init _, _, meets_object_init _, rfl, h⟩
theorem object_made {prog : Program} {w : World} {A : Around} {E : Value → Shared → Prop} {s : Shared} {h₀ : Heap} {L : Addr} {m : PySem.Str → Option Value} {news : List (Addr × Obj)} {Q : Value → Shared → Prop}
    (F : Fr h₀ L s.heap m) (N : News h₀ L s.heap news) (h : ∀ S h', Fr h₀ L h' m → News h₀ L h' ((S, { cls := .type "object", data := .plain }) :: news) → GnNe S news → Q (.ref S) { s with heap := h' }) :
    wpAny (model prog w) A (call (.type "object") []) Q E s :=
  call_object (h _ _ (F.push _) (News.push F N _) (fresh_ne N))
end
example : True ∧ True := by
  w_top off
  walk1 <;> trivial
section
/-- kept but for the table of codes -/
abbrev Kx (h h' : Heap) : Prop := Kp (hideAll h [172]) h'
theorem kx_of {h h' : Heap} (k : Kp h h') : Kx h h' := fun b o e => k b o (of_hideAll _ e)
theorem kx_get {h h' : Heap} (k : Kx h h') {b : Addr} {o : Obj} (e : h.get? b = some o) (ne : b ≠ 172) : h'.get? b = some o := k b o (hideAll_get _ e (by simpa using ne))
theorem kx_trans {a b c : Heap} (x : Kx a b) (y : Kx b c) : Kx a c := fun d o e => by
  have ne : d ≠ 172 := fun q => by subst q; rw [hideAll_none _ (.head _)] at e; cases e
  exact kx_get y (x d o e) ne
theorem kp_kx {a b c : Heap} (x : Kp a b) (hn : a.get? 172 = none) (y : Kx b c) : Kp a c := fun d o e =>
  kx_get y (x d o e) fun q => by subst q; rw [hn] at e; cases e
theorem fr_kx {g h h' : Heap} {L : Addr} {m : PySem.Str → Option Value} (F : Fr g L h m) (hg : g.get? 172 = none) (hL : L ≠ 172) (k : Kx h h') : Fr g L h' m := by
  obtain ⟨⟨o, p1, p2, ho, p3⟩, kp, ab⟩ := F
  exact ⟨⟨o, p1, p2, kx_get k ho hL, p3⟩, kp_kx kp hg k, ab⟩
theorem news_kx {g h h' : Heap} {L : Addr} {pre : List (Addr × Obj)} {o o2 : Obj} (N : News g L h (pre ++ [(172, o)])) (ne : ∀ q ∈ pre, q.1 ≠ 172) (k : Kx h h') (e : h'.get? 172 = some o2) : News g L h' (pre ++ [(172, o2)]) := by
  intro q hq
  rcases List.mem_append.mp hq with hp | hp
  · have n := N q (List.mem_append_left _ hp)
    exact ⟨kx_get k n.1 (ne q hp), n.2⟩
  · rcases List.mem_singleton.mp hp with rfl
    have n := N (172, o) (List.mem_append_right _ (.head _))
    exact ⟨e, n.2⟩
theorem news_put {g h h' : Heap} {L D : Addr} {o : Obj} {m : PySem.Str → Option Value} {news : List (Addr × Obj)} (F : Fr g L h m) (N : News g L h' news) (M : Made h h' [(D, o)]) : News g L h' ((D, o) :: news) := by
  intro q hq
  rcases List.mem_cons.mp hq with rfl | hq
  · have q1 := M _ (.head _)
    refine ⟨q1.1, fun e => ?_, ?_⟩
    · obtain ⟨o', _, _, ho, _⟩ := F.ns
      have e' : D = L := e
      have q2 : h.get? D = none := q1.2
      rw [e', ho] at q2; cases q2
    · cases e : g.get? D with
      | none => rfl
      | some o' =>
        have q2 : h.get? D = none := q1.2
        rw [F.keep _ _ e] at q2; cases q2
  · exact N q hq
theorem none_back {h h' : Heap} {D : Addr} (k : Kp h h') (e : h'.get? D = none) : h.get? D = none := by
  cases e' : h.get? D with
  | none => rfl
  | some o => rw [k _ _ e'] at e; cases e
def XOk (x : PySem.Str) : Prop := x.cps = #[] ∨ x.cps = #[46] ∨ ∃ c d, x.cps = #[c, 97, d] ∧ c ≠ 34 ∧ d ≠ 34
theorem trans_any {w : World} {A : Around} {s : Shared} {mg mb : PySem.Str → Option Value} {x : PySem.Str} {t tq : Tok} {S : Addr} {R : Result → Shared → Prop} {p : Program} {lo : List PySem.Str} {mean : ExcName → Option Value}
    (h₀ : Heap) (X₀ : (Mine.K w.params).In h₀) (T₀ : TopRead vw lz mg mb h₀) (TT : Top p lo mean mg mb h₀) (k₀ : Kp h₀ s.heap) (hn : h₀.get? 172 = none) (hA : Room A (2 + 1)) (ht : GoodTab s.heap) (hx : XOk x)
    (hR : ∀ h' tk D vs n' ts, Kx s.heap h' → GoodTab h' → Made s.heap h' [(D, listOf vs.toArray n')] → ToksAre S vs ts → TokShape ts → R (.ok (.ret (.ref D))) { s with heap := h', toks := tk }) :
    codeAny (model pw w) A (.call (.ref 177) ⟨[.str x t, .ref S, .str (PySem.Str.ofString ".") tq], []⟩) R s := by
  have plain : x.length ≤ 3 → (∀ i, x.cps[i]? = some 91 → (∃ z, z ≠ 93 ∧ x.cps = #[91, 97, z]) ∨ i + 1 = x.length) → TokShape (x.cps.toList.foldl tokStep []) → codeAny (model pw w) A (.call (.ref 177) ⟨[.str x t, .ref S, .str (PySem.Str.ofString ".") tq], []⟩) R s := by
    intro h1 h2 h3
    refine translate_core (X₀.keeps k₀) (T₀.keeps k₀) hA h1 h2 ?_
    intro h' tk D vs n' k M hT
    obtain ⟨ps, e1, e2⟩ := ht
    exact hR h' tk D vs n' _ (kx_of k) ⟨ps, k _ _ e1, e2⟩ M hT h3
  rcases hx with e | e | ⟨c, d, e, hc, hd⟩
  · refine plain ?_ ?_ ?_
    · show x.cps.size ≤ 3; rw [e]; decide
    · intro i hi; rw [e] at hi; simp at hi
    · rw [e]; exact .nil
  · refine plain ?_ ?_ ?_
    · show x.cps.size ≤ 3; rw [e]; decide
    · intro i hi; rw [e] at hi
      cases i with
      | zero => simp at hi
      | succ i => simp at hi
    · rw [e]; exact shape_dot
  · have hsz : x.length = 3 := by show x.cps.size = 3; rw [e]; rfl
    by_cases hb : c = 91 ∧ d = 93
    · obtain ⟨rfl, rfl⟩ := hb
      refine translate_brack h₀ X₀ T₀ TT k₀ hn hA ht ?_ ?_
      · refine str_eq ?_
        rw [e, show (PySem.Str.ofString "[a]").cps.toList = [91, 97, 93] from by decide +kernel]
      · intro h' tk D vs n' k g M hT
        exact hR h' tk D vs n' _ k g M hT shape_brack
    · refine plain (by omega) ?_ ?_
      · intro i hi
        rw [hsz]
        rw [e] at hi
        match i, hi with
        | 0, hi =>
          have : c = 91 := by simpa using hi
          subst this
          exact .inl ⟨d, fun q => hb ⟨rfl, q⟩, e⟩
        | 1, hi => simp at hi
        | 2, _ => exact .inr rfl
        | i + 3, hi => simp at hi
      · rw [e]; exact shape_three hc hd
inductive TokC (S : Addr) : Bool → List Value → Prop
  | nil (b : Bool) : TokC S b []
  | str {b : Bool} {vs : List Value} (y : PySem.Str) (t : Tok) : Neu y → y.length ≤ 10 → TokC S true vs → TokC S b (Value.str y t :: vs)
  | star {vs : List Value} : TokC S false vs → TokC S true (Value.ref S :: vs)
section
variable {S : Addr} {b : Bool} {vs : List Value}
theorem tokc_item (h : TokC S b vs) : ∀ (i : Nat) (v : Value), vs[i]? = some v → v = Value.ref S ∨ ∃ y t, v = Value.str y t ∧ Neu y ∧ y.length ≤ 10 := by
  induction h with
  | nil => intro i v e; simp at e
  | str y t hn hl _ ih =>
    intro i v e
    cases i with
    | zero => cases e; exact .inr ⟨y, t, rfl, hn, hl⟩
    | succ i => exact ih i v e
  | star _ ih =>
    intro i v e
    cases i with
    | zero => cases e; exact .inl rfl
    | succ i => exact ih i v e
theorem tokc_head (h : TokC S b vs) (hb : b = false) : vs[0]? ≠ some (Value.ref S) := by
  cases h with
  | nil => intro e; cases e
  | str => intro e; cases e
  | star => cases hb
theorem tokc_two (h : TokC S b vs) : ∀ i : Nat, vs[i]? = some (Value.ref S) → vs[i + 1]? ≠ some (Value.ref S) := by
  induction h with
  | nil => intro i e; cases e
  | str y t _ _ _ ih =>
    intro i e
    cases i with
    | zero => cases e
    | succ i => exact ih i e
  | star h ih =>
    intro i e
    cases i with
    | zero => exact tokc_head h rfl
    | succ i => exact ih i e
end
theorem toks_c {S : Addr} {vs : List Value} {ts : List (Option PySem.Str)} (hT : ToksAre S vs ts) : ∀ b : Bool, (∀ y, some y ∈ ts → Neu y ∧ y.length ≤ 10) → (b = false → ts.head? ≠ some none) → (∀ i : Nat, ts[i]? = some none → ts[i + 1]? ≠ some none) → TokC S b vs := by
  induction hT with
  | nil => intro b _ _ _; exact .nil b
  | star hT ih =>
    intro b h1 h2 h3
    cases b with
    | false => exact absurd rfl (h2 rfl)
    | true => exact .star (ih false (fun y hy => h1 y (.tail _ hy)) (fun _ e => h3 0 rfl (by rw [List.head?_eq_getElem?] at e; exact e)) fun i => h3 (i + 1))
  | str y t hT ih =>
    intro b h1 h2 h3
    obtain ⟨n1, n2⟩ := h1 y (.head _)
    exact .str y t n1 n2 (ih true (fun y hy => h1 y (.tail _ hy)) (fun e => by cases e) fun i => h3 (i + 1))
theorem toks_len {S : Addr} {vs : List Value} {ts : List (Option PySem.Str)} (hT : ToksAre S vs ts) : vs.length = ts.length := by
  induction hT with
  | nil => rfl
  | star _ ih => exact congrArg (· + 1) ih
  | str _ _ _ ih => exact congrArg (· + 1) ih
theorem shape_ok {ts : List (Option PySem.Str)} (hS : TokShape ts) : ts.length ≤ 3 ∧ (∀ y, some y ∈ ts → Neu y ∧ y.length ≤ 10) ∧ (∀ i : Nat, ts[i]? = some none → ts[i + 1]? ≠ some none) := by
  have e0 : ∀ y : PySem.Str, some y ∈ ([] : List (Option PySem.Str)) → Neu y ∧ y.length ≤ 10 := fun _ h => nomatch h
  have es : ∀ {a : PySem.Str} {l : List (Option PySem.Str)}, Neu a → a.length ≤ 10 → (∀ y, some y ∈ l → Neu y ∧ y.length ≤ 10) → ∀ y, some y ∈ some a :: l → Neu y ∧ y.length ≤ 10 := by
    intro a l h1 h2 h3 y hy
    cases hy with
    | head => exact ⟨h1, h2⟩
    | tail _ hy => exact h3 y hy
  have ex : ∀ {l : List (Option PySem.Str)}, (∀ y, some y ∈ l → Neu y ∧ y.length ≤ 10) → ∀ y, some y ∈ none :: l → Neu y ∧ y.length ≤ 10 := by
    intro l h3 y hy
    cases hy with
    | tail _ hy => exact h3 y hy
  cases hS with
  | nil => exact ⟨Nat.le_of_ble_eq_true rfl, e0, fun i e => nomatch e⟩
  | s na la => exact ⟨Nat.le_of_ble_eq_true rfl, es na la e0, fun i e => match i, e with | 0, e => nomatch e | _ + 1, e => nomatch e⟩
  | sss na nb nc la lb lc => exact ⟨Nat.le_of_ble_eq_true rfl, es na la (es nb lb (es nc lc e0)), fun i e => match i, e with | 0, e => nomatch e | 1, e => nomatch e | 2, e => nomatch e | _ + 3, e => nomatch e⟩
  | ssx na nb la lb => exact ⟨Nat.le_of_ble_eq_true rfl, es na la (es nb lb (ex e0)), fun i e => match i, e with | 0, e => nomatch e | 1, e => nomatch e | 2, _ => nofun | _ + 3, e => nomatch e⟩
  | xss na nb la lb => exact ⟨Nat.le_of_ble_eq_true rfl, ex (es na la (es nb lb e0)), fun i e => match i, e with | 0, _ => nofun | 1, e => nomatch e | 2, e => nomatch e | _ + 3, e => nomatch e⟩
  | xsx na la => exact ⟨Nat.le_of_ble_eq_true rfl, ex (es na la (ex e0)), fun i e => match i, e with | 0, _ => nofun | 1, e => nomatch e | 2, _ => nofun | _ + 3, e => nomatch e⟩
theorem tok_of {S : Addr} {vs : List Value} {ts : List (Option PySem.Str)} (hT : ToksAre S vs ts) (hS : TokShape ts) : TokOk S vs := by
  obtain ⟨h1, h2, h3⟩ := shape_ok hS
  have c := toks_c hT true h2 (fun e => by cases e) h3
  exact ⟨by rw [toks_len hT]; exact h1, tokc_item c, tokc_two c⟩
local macro_rules | `(tactic| walk_at "call ref") => `(tactic| ((with_reducible show wpAny _ _ (call (Value.ref 177) _) _ _ _); refine stop_of ?_))
local macro_rules | `(tactic| walk_at "call ref") => `(tactic| ((with_reducible show wpAny _ _ (call (Value.ref 184) _) _ _ _); refine stop_of ?_))
local macro_rules | `(tactic| walk_at "call type:object") => `(tactic| (k_dflt ((with_reducible rename Fr _ _ _ _ => F'); (with_reducible rename News _ _ _ _ => N'); refine' object_made F' N' ?_; intro S9 h9 F9 N9 A9; clear F' N'; (try simp only [GnNe, and_true] at A9))))
theorem translate_spec {w : World} {A : Around} {s : Shared} {mg mb : PySem.Str → Option Value} {x : PySem.Str} {t : Tok} {R : Result → Shared → Prop} {p : Program} {lo : List PySem.Str} {mean : ExcName → Option Value}
    (h₀ : Heap) (X₀ : (Mine.K w.params).In h₀) (T₀ : TopRead vw lz mg mb h₀) (TT : Top p lo mean mg mb h₀) (k₀ : Kp h₀ s.heap) (hn : h₀.get? 172 = none) (hA : Room A (3 + 1)) (ht : GoodTab s.heap) (hx : XOk x)
    (hR : ∀ h' tk t' y, Kx s.heap h' → GoodTab h' → Shown 0 y → R (.ok (.ret (.str y t'))) { s with heap := h', toks := tk }) :
    codeAny (model pw w) A (.call (.ref 158) ⟨[.str x t], []⟩) R s := by
  obtain ⟨hd9, d9, fr9, gu9, u9⟩ := A
  obtain rfl : hd9 = none := hA.h
  obtain ⟨ps, hps, hgood⟩ := ht
  have X := X₀.keeps k₀
  have T := T₀.keeps k₀
  refine' enterF [(PySem.Str.ofString "pat", .str x t)] ?k1 ?k2 ?k3 ?k4 ?k5 ?k6 ?k7 ?k8 ?k9 ?k10 ?k11 ?_
  walk_at "m.enter"
  intro L h₁ F N hA'
  have hL : 172 < L := Nat.lt_of_lt_of_le (Heap.lt_size hps) F.above
  have N := hid_news F hps
  have F := hid_fr (D := 172) F
  have X := X₀.keeps (hid_kp k₀ hn)
  have T := T₀.keeps (hid_kp k₀ hn)
  have kH := hid_kp k₀ hn
  k_steps
  unfold Stop
  with_reducible rename Fr _ _ _ _ => F1
  with_reducible rename News _ _ _ _ => N1
  refine wpAny_call (trans_any h₀ X₀ T₀ TT (fun b o e => F1.keep b o (kH b o e)) hn (Room.less hA' (by decide)) ⟨ps, N1.get (by k_mem), hgood⟩ hx ?_)
  intro h9 tk9 D vs n' ts k9 g9 M9 hT hS
  obtain ⟨ps2, hps2, hgood2⟩ := g9
  have F9 := fr_kx F1 hid_none (Nat.ne_of_gt hL) k9
  have N9 := news_kx (pre := [_]) N1 (fun q hq => by rcases List.mem_singleton.mp hq with rfl; exact Ne.symm (by assumption)) k9 hps2
  have N9 := news_put F1 N9 M9
  have hDn := none_back (fun b o e => F1.keep b o (kH b o e)) (M9 _ (.head _)).2
  clear F1 N1 hps k9 M9
  (try dsimp only [List.cons_append, List.nil_append] at N9 hDn)
  k_steps
  unfold Stop
  with_reducible rename Fr _ _ _ _ => F1
  with_reducible rename News _ _ _ _ => N1
  refine wpAny_call (join_gen h₀ X₀ T₀ (fun b o e => F1.keep b o (kH b o e)) hDn (Room.less hA' (by decide)) (N1.get (.head _)) (tok_of hT hS) ?_)
  intro h9 tk9 t9 y9 k9 s9
  have F9 := fr_kp F1 k9
  have N9 := news_kp N1 k9
  clear F1 N1
  k_steps
  exact hR _ _ _ _ F9.keep ⟨ps2, N9.get (by k_mem), hgood2⟩ s9
end
section
inductive Kind
  | down | up | flat | hid
  deriving DecidableEq
/-- a piece and its writing -/
inductive PieceOk : Kind → PySem.Str → PySem.Str → Prop
  | down {n w : PySem.Str} {c d : Nat} : n.cps = #[c, 97, d] → c ≠ 47 → d ≠ 47 → Shown 1 w → PieceOk .down n w
  | up {p w : PySem.Str} : p = PySem.Str.ofString ".." → w = PySem.Str.ofString ")" → PieceOk .up p w
  | flat {p w : PySem.Str} : (p = PySem.Str.ofString "." ∨ p = PySem.Str.ofString "") → Shown 0 w → PieceOk .flat p w
  | hid {p w : PySem.Str} : p = PySem.Str.ofString "." → Writ true w → w.length ≤ 70 → PieceOk .hid p w
theorem q_sl : (PySem.Str.ofString "/\"").cps.toList = [47, 34] := by decide +kernel
theorem q_a : PySem.Str.ofString "a" = ⟨#[97]⟩ := by decide +kernel
theorem sign_one {n : Int} {sg : PySem.Str} (h : SignOf n sg) : ∃ c, sg = ⟨#[c]⟩ ∧ c ≠ 34 ∧ c ≠ 47 := by
  rcases h with rfl | ⟨rfl, h⟩
  · exact ⟨97, q_a, by decide, by decide⟩
  · refine ⟨_, rfl, ?_, ?_⟩ <;> intro e <;> rw [empty_one, q_sl, e] at h <;> simp at h
theorem sign_ok {n : Int} {sg y : PySem.Str} {i : Nat} (h : SignOf n sg) (e : (signsOf sg)[i]? = some y) : ∃ c, y = ⟨#[c]⟩ ∧ c ≠ 34 ∧ c ≠ 47 := by
  have hm := List.mem_of_getElem? e
  unfold signsOf at hm
  simp only [List.mem_cons, List.not_mem_nil, or_false] at hm
  rcases hm with rfl | rfl | rfl | rfl | rfl | rfl | rfl | rfl
  · exact ⟨40, by decide +kernel, by decide, by decide⟩
  · exact ⟨41, by decide +kernel, by decide, by decide⟩
  · exact ⟨92, by decide +kernel, by decide, by decide⟩
  · exact ⟨42, by decide +kernel, by decide, by decide⟩
  · exact ⟨63, by decide +kernel, by decide, by decide⟩
  · exact ⟨46, by decide +kernel, by decide, by decide⟩
  · exact ⟨91, by decide +kernel, by decide, by decide⟩
  · exact sign_one h
theorem name_ok {n : Int} {sg y z : PySem.Str} {i j : Nat} (h : SignOf n sg) (e : (signsOf sg)[i]? = some y) (e2 : (signsOf sg)[j]? = some z) :
    ∃ c d, (y ++ PySem.Str.ofString "a" ++ z).cps = #[c, 97, d] ∧ c ≠ 34 ∧ d ≠ 34 ∧ c ≠ 47 ∧ d ≠ 47 := by
  obtain ⟨c, rfl, c1, c2⟩ := sign_ok h e
  obtain ⟨d, rfl, d1, d2⟩ := sign_ok h e2
  exact ⟨c, d, by rw [q_a]; rfl, c1, d1, c2, d2⟩
theorem x_name {n : Int} {sg y z : PySem.Str} {i j : Nat} (h : SignOf n sg) (e : (signsOf sg)[i]? = some y) (e2 : (signsOf sg)[j]? = some z) : XOk (y ++ PySem.Str.ofString "a" ++ z) := by
  obtain ⟨c, d, e, c1, d1, _⟩ := name_ok h e e2
  exact .inr (.inr ⟨c, d, e, c1, d1⟩)
theorem x_dot : XOk (PySem.Str.ofString ".") := .inr (.inl (by decide +kernel))
theorem x_nil : XOk (PySem.Str.ofString "") := .inl (by decide +kernel)
theorem shown_down {w : PySem.Str} (h : Shown 0 w) : Shown 1 (PySem.Str.ofString "(" ++ w) := by
  have e : (PySem.Str.ofString "(" ++ w).cps.toList = 40 :: w.cps.toList := by rw [app_cps, q_po]; rfl
  obtain ⟨⟨m, h1, h2, h3⟩, _, _, h6⟩ := h
  refine ⟨⟨40 :: m, by rw [e]; exact .one (by decide) h1, by simp [h2], fun o ho => ?_⟩, by rw [e]; simp, by rw [e]; simp, ?_⟩
  · show depth (some (o + 1)) m = _
    rw [h3 (o + 1) (by omega)]; congr 1; omega
  · rw [len_list, e, List.length_cons, ← len_list]; omega
theorem writ_hid {d : PySem.Str} {m : List Nat} (h1 : Atoms d.cps.toList m) (h2 : 34 ∉ m) : Writ true (PySem.Str.ofString "\"" ++ d ++ PySem.Str.ofString "\"") := by
  refine .hid (l := d.cps.toList) (m := m) ?_ h1 h2
  rw [app_cps, app_cps, q_qu]; simp
theorem hid_len (d : PySem.Str) : (PySem.Str.ofString "\"" ++ d ++ PySem.Str.ofString "\"").length = d.length + 2 := by
  rw [app_len, app_len, show (PySem.Str.ofString "\"").length = 1 from by decide +kernel]; omega
theorem hid_down {d : PySem.Str} (h : Shown 1 d) : PieceOk .hid (PySem.Str.ofString ".") (PySem.Str.ofString "\"" ++ d ++ PySem.Str.ofString "\"") := by
  obtain ⟨⟨m, h1, h2, h3⟩, _, _, h6⟩ := h
  refine .hid rfl (writ_hid h1 h2) ?_
  rw [hid_len]; omega
theorem hid_up : PieceOk .hid (PySem.Str.ofString ".") (PySem.Str.ofString "\"" ++ PySem.Str.ofString ")" ++ PySem.Str.ofString "\"") := by
  refine .hid rfl (writ_hid (m := [41]) (by rw [q_pc]; exact .one (by decide) .nil) (by decide)) ?_
  rw [hid_len]; decide +kernel
theorem down_ok {n : Int} {sg y z w : PySem.Str} {i j : Nat} (h : SignOf n sg) (e : (signsOf sg)[i]? = some y) (e2 : (signsOf sg)[j]? = some z) (hw : Shown 1 w) : PieceOk .down (y ++ PySem.Str.ofString "a" ++ z) w := by
  obtain ⟨c, d, e, _, _, c1, d1⟩ := name_ok h e e2
  exact .down e c1 d1 hw
end
example : True ∧ True := by
  w_top off
  walk1 <;> trivial
section
local macro_rules | `(tactic| walk_at "call ref") => `(tactic| ((with_reducible show wpAny _ _ (call (Value.ref 191) [Value.int _ _]) _ _ _); refine wpAny_call ?_; refine' law_name_spec ?X ?T ?A ?_; walk_at "m.spec"; intro h9 tk9 t9 sg9 y9 z9 k9 sn9 ey9 ez9; walk_at "m.kp"))
local macro_rules | `(tactic| walk_at "call ref") => `(tactic| ((with_reducible show wpAny _ _ (call (Value.ref 158) _) _ _ _); refine stop_of ?_))
theorem made_hid {h h' : Heap} {L D : Addr} {o : Obj} {news : List (Addr × Obj)} (N : News (hideAll h [172]) L h' ((D, o) :: news)) (ne : D ≠ 172) : Made h h' [(D, o)] :=
  made_one (N _ (.head _)).1 (hid_fresh (N _ (.head _)).2.2 ne)
theorem hid_up2 : PieceOk .hid (PySem.Str.ofString ".") (PySem.Str.ofString "\")\"") := by
  rw [show PySem.Str.ofString "\")\"" = PySem.Str.ofString "\"" ++ PySem.Str.ofString ")" ++ PySem.Str.ofString "\"" from by decide +kernel]
  exact hid_up
theorem piece_spec {w : World} {A : Around} {s : Shared} {mg mb : PySem.Str → Option Value} {x : Int} {t : Tok} {R : Result → Shared → Prop} {p : Program} {lo : List PySem.Str} {mean : ExcName → Option Value}
    (h₀ : Heap) (X₀ : (Mine.K w.params).In h₀) (T₀ : TopRead vw lz mg mb h₀) (TT : Top p lo mean mg mb h₀) (k₀ : Kp h₀ s.heap) (hn : h₀.get? 172 = none) (hA : Room A (4 + 1)) (ht : GoodTab s.heap)
    (hR : ∀ h' tk D kd pc wr t1 t2, Kx s.heap h' → GoodTab h' → Made s.heap h' [(D, { cls := .type "tuple", data := .seq #[.str pc t1, .str wr t2] })] → PieceOk kd pc wr → R (.ok (.ret (.ref D))) { s with heap := h', toks := tk }) :
    codeAny (model pw w) A (.call (.ref 198) ⟨[.int x t], []⟩) R s := by
  obtain ⟨hd9, d9, fr9, gu9, u9⟩ := A
  obtain rfl : hd9 = none := hA.h
  obtain ⟨ps, hps, hgood⟩ := ht
  have X := X₀.keeps k₀
  have T := T₀.keeps k₀
  refine' enterF [(PySem.Str.ofString "x", .int x t)] ?k1 ?k2 ?k3 ?k4 ?k5 ?k6 ?k7 ?k8 ?k9 ?k10 ?k11 ?_
  walk_at "m.enter"
  intro L h₁ F N hA'
  have hL : 172 < L := Nat.lt_of_lt_of_le (Heap.lt_size hps) F.above
  have N := hid_news F hps
  have F := hid_fr (D := 172) F
  have X := X₀.keeps (hid_kp k₀ hn)
  have T := T₀.keeps (hid_kp k₀ hn)
  have kH := hid_kp k₀ hn
  k_steps
  · exact hR _ _ _ _ _ _ _ _ (Fr.keep (by assumption)) ⟨ps, News.get (by assumption) (by k_mem), hgood⟩ (made_hid (by assumption) (show @Ne Nat _ _ by omega)) (.up rfl rfl)
  · unfold Stop
    with_reducible rename Fr _ _ _ _ => F1
    with_reducible rename News _ _ _ _ => N1
    refine wpAny_call (translate_spec h₀ X₀ T₀ TT (fun b o e => F1.keep b o (kH b o e)) hn (Room.less hA' (by decide)) ⟨ps, N1.get (by k_mem), hgood⟩ x_dot ?_)
    intro h9 tk9 t9 w9 k9 g9 s9
    obtain ⟨ps2, hps2, hgood2⟩ := g9
    have F9 := fr_kx F1 hid_none (Nat.ne_of_gt hL) k9
    have N9 := news_kx (pre := [_, _]) N1 (fun q hq => by
      simp only [List.mem_cons, List.not_mem_nil, or_false] at hq
      rcases hq with rfl | rfl <;> (show @Ne Nat _ _; dsimp only; omega)) k9 hps2
    clear F1 N1 hps k9
    (try dsimp only [List.cons_append, List.nil_append] at N9)
    have hlw := s9.len
    k_steps
    exact hR _ _ _ _ _ _ _ _ (Fr.keep (by assumption)) ⟨ps2, News.get (by assumption) (by k_mem), hgood2⟩ (made_hid (by assumption) (show @Ne Nat _ _ by omega)) (.flat (.inl rfl) s9)
  · unfold Stop
    with_reducible rename Fr _ _ _ _ => F1
    with_reducible rename News _ _ _ _ => N1
    refine wpAny_call (translate_spec h₀ X₀ T₀ TT (fun b o e => F1.keep b o (kH b o e)) hn (Room.less hA' (by decide)) ⟨ps, N1.get (by k_mem), hgood⟩ x_nil ?_)
    intro h9 tk9 t9 w9 k9 g9 s9
    obtain ⟨ps2, hps2, hgood2⟩ := g9
    have F9 := fr_kx F1 hid_none (Nat.ne_of_gt hL) k9
    have N9 := news_kx (pre := [_, _]) N1 (fun q hq => by
      simp only [List.mem_cons, List.not_mem_nil, or_false] at hq
      rcases hq with rfl | rfl <;> (show @Ne Nat _ _; dsimp only; omega)) k9 hps2
    clear F1 N1 hps k9
    (try dsimp only [List.cons_append, List.nil_append] at N9)
    have hlw := s9.len
    k_steps
    exact hR _ _ _ _ _ _ _ _ (Fr.keep (by assumption)) ⟨ps2, News.get (by assumption) (by k_mem), hgood2⟩ (made_hid (by assumption) (show @Ne Nat _ _ by omega)) (.flat (.inr rfl) s9)
  · unfold Stop
    with_reducible rename Fr _ _ _ _ => F1
    with_reducible rename News _ _ _ _ => N1
    refine wpAny_call (translate_spec h₀ X₀ T₀ TT (fun b o e => F1.keep b o (kH b o e)) hn (Room.less hA' (by decide)) ⟨ps, N1.get (by k_mem), hgood⟩ (x_name (by assumption) (by assumption) (by assumption)) ?_)
    intro h9 tk9 t9 w9 k9 g9 s9
    obtain ⟨ps2, hps2, hgood2⟩ := g9
    have F9 := fr_kx F1 hid_none (Nat.ne_of_gt hL) k9
    have N9 := news_kx (pre := [_, _]) N1 (fun q hq => by
      simp only [List.mem_cons, List.not_mem_nil, or_false] at hq
      rcases hq with rfl | rfl <;> (show @Ne Nat _ _; dsimp only; omega)) k9 hps2
    clear F1 N1 hps k9
    (try dsimp only [List.cons_append, List.nil_append] at N9)
    have hlw := s9.len
    k_steps
    · exact hR _ _ _ _ _ _ _ _ (Fr.keep (by assumption)) ⟨ps2, News.get (by assumption) (by k_mem), hgood2⟩ (made_hid (by assumption) (show @Ne Nat _ _ by omega)) (hid_down (shown_down s9))
    · exact hR _ _ _ _ _ _ _ _ (Fr.keep (by assumption)) ⟨ps2, News.get (by assumption) (by k_mem), hgood2⟩ (made_hid (by assumption) (show @Ne Nat _ _ by omega)) hid_up2
    · exact hR _ _ _ _ _ _ _ _ (Fr.keep (by assumption)) ⟨ps2, News.get (by assumption) (by k_mem), hgood2⟩ (made_hid (by assumption) (show @Ne Nat _ _ by omega)) (down_ok (by assumption) (by assumption) (by assumption) (shown_down s9))
end
section
def lawMap (M0 : PySem.Str → Option Value) (kp st en pth wr pc xx : Option Value) : PySem.Str → Option Value :=
  fun y => if y = PySem.Str.ofString "kept" then kp else if y = PySem.Str.ofString "start" then st else if y = PySem.Str.ofString "end" then en else if y = PySem.Str.ofString "path" then pth else if y = PySem.Str.ofString "writing" then wr else if y = PySem.Str.ofString "piece" then pc else if y = PySem.Str.ofString "x" then xx else M0 y
section
variable {M0 : PySem.Str → Option Value} {kp st en pth wr pc xx a b c d e f g : Option Value}
theorem lm_0 : M0 = lawMap M0 (M0 (PySem.Str.ofString "kept")) (M0 (PySem.Str.ofString "start")) (M0 (PySem.Str.ofString "end")) (M0 (PySem.Str.ofString "path")) (M0 (PySem.Str.ofString "writing")) (M0 (PySem.Str.ofString "piece")) (M0 (PySem.Str.ofString "x")) := by
  funext y
  unfold lawMap
  by_cases h0 : y = PySem.Str.ofString "kept"
  · simp only [if_pos h0]; rw [h0]
  · skip
    by_cases h1 : y = PySem.Str.ofString "start"
    · simp only [if_neg h0, if_pos h1]; rw [h1]
    · skip
      by_cases h2 : y = PySem.Str.ofString "end"
      · simp only [if_neg h0, if_neg h1, if_pos h2]; rw [h2]
      · skip
        by_cases h3 : y = PySem.Str.ofString "path"
        · simp only [if_neg h0, if_neg h1, if_neg h2, if_pos h3]; rw [h3]
        · skip
          by_cases h4 : y = PySem.Str.ofString "writing"
          · simp only [if_neg h0, if_neg h1, if_neg h2, if_neg h3, if_pos h4]; rw [h4]
          · skip
            by_cases h5 : y = PySem.Str.ofString "piece"
            · simp only [if_neg h0, if_neg h1, if_neg h2, if_neg h3, if_neg h4, if_pos h5]; rw [h5]
            · skip
              by_cases h6 : y = PySem.Str.ofString "x"
              · simp only [if_neg h0, if_neg h1, if_neg h2, if_neg h3, if_neg h4, if_neg h5, if_pos h6]; rw [h6]
              · skip
                simp only [if_neg h0, if_neg h1, if_neg h2, if_neg h3, if_neg h4, if_neg h5, if_neg h6]
theorem lm_x : (fun y => if y = PySem.Str.ofString "x" then a else lawMap M0 kp st en pth wr pc xx y) = lawMap M0 kp st en pth wr pc a := by
  funext y
  unfold lawMap
  by_cases h0 : y = PySem.Str.ofString "kept"
  · have g1 : ¬ y = PySem.Str.ofString "start" := (by rw [h0]; decide +kernel); have g2 : ¬ y = PySem.Str.ofString "end" := (by rw [h0]; decide +kernel); have g3 : ¬ y = PySem.Str.ofString "path" := (by rw [h0]; decide +kernel); have g4 : ¬ y = PySem.Str.ofString "writing" := (by rw [h0]; decide +kernel); have g5 : ¬ y = PySem.Str.ofString "piece" := (by rw [h0]; decide +kernel); have g6 : ¬ y = PySem.Str.ofString "x" := (by rw [h0]; decide +kernel); simp only [if_pos h0, if_neg g1, if_neg g2, if_neg g3, if_neg g4, if_neg g5, if_neg g6]
  · skip
    by_cases h1 : y = PySem.Str.ofString "start"
    · have g2 : ¬ y = PySem.Str.ofString "end" := (by rw [h1]; decide +kernel); have g3 : ¬ y = PySem.Str.ofString "path" := (by rw [h1]; decide +kernel); have g4 : ¬ y = PySem.Str.ofString "writing" := (by rw [h1]; decide +kernel); have g5 : ¬ y = PySem.Str.ofString "piece" := (by rw [h1]; decide +kernel); have g6 : ¬ y = PySem.Str.ofString "x" := (by rw [h1]; decide +kernel); simp only [if_neg h0, if_pos h1, if_neg g2, if_neg g3, if_neg g4, if_neg g5, if_neg g6]
    · skip
      by_cases h2 : y = PySem.Str.ofString "end"
      · have g3 : ¬ y = PySem.Str.ofString "path" := (by rw [h2]; decide +kernel); have g4 : ¬ y = PySem.Str.ofString "writing" := (by rw [h2]; decide +kernel); have g5 : ¬ y = PySem.Str.ofString "piece" := (by rw [h2]; decide +kernel); have g6 : ¬ y = PySem.Str.ofString "x" := (by rw [h2]; decide +kernel); simp only [if_neg h0, if_neg h1, if_pos h2, if_neg g3, if_neg g4, if_neg g5, if_neg g6]
      · skip
        by_cases h3 : y = PySem.Str.ofString "path"
        · have g4 : ¬ y = PySem.Str.ofString "writing" := (by rw [h3]; decide +kernel); have g5 : ¬ y = PySem.Str.ofString "piece" := (by rw [h3]; decide +kernel); have g6 : ¬ y = PySem.Str.ofString "x" := (by rw [h3]; decide +kernel); simp only [if_neg h0, if_neg h1, if_neg h2, if_pos h3, if_neg g4, if_neg g5, if_neg g6]
        · skip
          by_cases h4 : y = PySem.Str.ofString "writing"
          · have g5 : ¬ y = PySem.Str.ofString "piece" := (by rw [h4]; decide +kernel); have g6 : ¬ y = PySem.Str.ofString "x" := (by rw [h4]; decide +kernel); simp only [if_neg h0, if_neg h1, if_neg h2, if_neg h3, if_pos h4, if_neg g5, if_neg g6]
          · skip
            by_cases h5 : y = PySem.Str.ofString "piece"
            · have g6 : ¬ y = PySem.Str.ofString "x" := (by rw [h5]; decide +kernel); simp only [if_neg h0, if_neg h1, if_neg h2, if_neg h3, if_neg h4, if_pos h5, if_neg g6]
            · skip
              by_cases h6 : y = PySem.Str.ofString "x"
              · simp only [if_neg h0, if_neg h1, if_neg h2, if_neg h3, if_neg h4, if_neg h5, if_pos h6]
              · skip
                simp only [if_neg h0, if_neg h1, if_neg h2, if_neg h3, if_neg h4, if_neg h5, if_neg h6]
theorem lm_end : (fun y => if y = PySem.Str.ofString "kept" then a else if y = PySem.Str.ofString "start" then b else if y = PySem.Str.ofString "end" then c else if y = PySem.Str.ofString "path" then d else if y = PySem.Str.ofString "writing" then e else if y = PySem.Str.ofString "piece" then f else lawMap M0 kp st en pth wr pc xx y) = lawMap M0 a b c d e f xx := by
  funext y
  unfold lawMap
  by_cases h0 : y = PySem.Str.ofString "kept"
  · have g1 : ¬ y = PySem.Str.ofString "start" := (by rw [h0]; decide +kernel); have g2 : ¬ y = PySem.Str.ofString "end" := (by rw [h0]; decide +kernel); have g3 : ¬ y = PySem.Str.ofString "path" := (by rw [h0]; decide +kernel); have g4 : ¬ y = PySem.Str.ofString "writing" := (by rw [h0]; decide +kernel); have g5 : ¬ y = PySem.Str.ofString "piece" := (by rw [h0]; decide +kernel); have g6 : ¬ y = PySem.Str.ofString "x" := (by rw [h0]; decide +kernel); simp only [if_pos h0, if_neg g1, if_neg g2, if_neg g3, if_neg g4, if_neg g5, if_neg g6]
  · skip
    by_cases h1 : y = PySem.Str.ofString "start"
    · have g2 : ¬ y = PySem.Str.ofString "end" := (by rw [h1]; decide +kernel); have g3 : ¬ y = PySem.Str.ofString "path" := (by rw [h1]; decide +kernel); have g4 : ¬ y = PySem.Str.ofString "writing" := (by rw [h1]; decide +kernel); have g5 : ¬ y = PySem.Str.ofString "piece" := (by rw [h1]; decide +kernel); have g6 : ¬ y = PySem.Str.ofString "x" := (by rw [h1]; decide +kernel); simp only [if_neg h0, if_pos h1, if_neg g2, if_neg g3, if_neg g4, if_neg g5, if_neg g6]
    · skip
      by_cases h2 : y = PySem.Str.ofString "end"
      · have g3 : ¬ y = PySem.Str.ofString "path" := (by rw [h2]; decide +kernel); have g4 : ¬ y = PySem.Str.ofString "writing" := (by rw [h2]; decide +kernel); have g5 : ¬ y = PySem.Str.ofString "piece" := (by rw [h2]; decide +kernel); have g6 : ¬ y = PySem.Str.ofString "x" := (by rw [h2]; decide +kernel); simp only [if_neg h0, if_neg h1, if_pos h2, if_neg g3, if_neg g4, if_neg g5, if_neg g6]
      · skip
        by_cases h3 : y = PySem.Str.ofString "path"
        · have g4 : ¬ y = PySem.Str.ofString "writing" := (by rw [h3]; decide +kernel); have g5 : ¬ y = PySem.Str.ofString "piece" := (by rw [h3]; decide +kernel); have g6 : ¬ y = PySem.Str.ofString "x" := (by rw [h3]; decide +kernel); simp only [if_neg h0, if_neg h1, if_neg h2, if_pos h3, if_neg g4, if_neg g5, if_neg g6]
        · skip
          by_cases h4 : y = PySem.Str.ofString "writing"
          · have g5 : ¬ y = PySem.Str.ofString "piece" := (by rw [h4]; decide +kernel); have g6 : ¬ y = PySem.Str.ofString "x" := (by rw [h4]; decide +kernel); simp only [if_neg h0, if_neg h1, if_neg h2, if_neg h3, if_pos h4, if_neg g5, if_neg g6]
          · skip
            by_cases h5 : y = PySem.Str.ofString "piece"
            · have g6 : ¬ y = PySem.Str.ofString "x" := (by rw [h5]; decide +kernel); simp only [if_neg h0, if_neg h1, if_neg h2, if_neg h3, if_neg h4, if_pos h5, if_neg g6]
            · skip
              by_cases h6 : y = PySem.Str.ofString "x"
              · simp only [if_neg h0, if_neg h1, if_neg h2, if_neg h3, if_neg h4, if_neg h5, if_pos h6]
              · skip
                simp only [if_neg h0, if_neg h1, if_neg h2, if_neg h3, if_neg h4, if_neg h5, if_neg h6]
end
end
section
abbrev Tri := Kind × PySem.Str × PySem.Str
def kindsOf (tr : List Tri) : List Kind := tr.map (·.1)
def piecesOf (tr : List Tri) : List PySem.Str := tr.map (·.2.1)
def writsOf (tr : List Tri) : List PySem.Str := tr.map (·.2.2)
def TrisOk (tr : List Tri) : Prop := ∀ t ∈ tr, PieceOk t.1 t.2.1 t.2.2
def kstep (st : Option Int) (k : Kind) : Option Int := match st with
  | none => none
  | some o => match k with
    | .down => some (o + 1)
    | .up => if o - 1 < 0 then none else some (o - 1)
    | _ => some o
def balK (ks : List Kind) : Bool := match ks.foldl kstep (some 0) with
  | none => false
  | some o => o == 0
def pathOf (front : PySem.Str) (ps : List PySem.Str) : PySem.Str := ps.foldl (fun a p => a ++ PySem.Str.ofString "/" ++ p) (front ++ PySem.Str.ofString ".")
/-- what the inner loop has struck behind j turns, the last piece's number being e -/
def strikes (ks : List Kind) (e j : Nat) : List Int := (List.range j).flatMap fun s => if balK (ks.drop s) = true then [(s : Int), (e : Int)] else []
def struckOf (ks : List Kind) : List Int := (List.range ks.length).flatMap fun e => strikes (ks.take (e + 1)) e (e + 1)
theorem strikes_succ (ks : List Kind) (e j : Nat) : strikes ks e (j + 1) = strikes ks e j ++ (if balK (ks.drop j) = true then [(j : Int), (e : Int)] else []) := by
  unfold strikes
  rw [List.range_succ, List.flatMap_append]
  simp only [List.flatMap_cons, List.flatMap_nil, List.append_nil]
theorem struck_snoc (ks : List Kind) (k : Kind) : struckOf (ks ++ [k]) = struckOf ks ++ strikes (ks ++ [k]) ks.length (ks.length + 1) := by
  unfold struckOf
  rw [List.length_append, List.length_singleton, List.range_succ, List.flatMap_append]
  congr 1
  · unfold List.flatMap
    congr 1
    refine List.map_congr_left fun e he => ?_
    have := List.mem_range.mp he
    rw [List.take_append_of_le_length (by omega)]
  · simp only [List.flatMap_cons, List.flatMap_nil, List.append_nil]
    rw [List.take_of_length_le (by simp)]
def keepP (rootNil : Bool) (tr : List Tri) (k : Nat) : Bool := !(struckOf (kindsOf tr)).any (fun z => z == (k : Int)) && (rootNil || ((piecesOf tr).getD k PySem.Str.empty != PySem.Str.ofString ".."))
def keptTo (rootNil : Bool) (tr : List Tri) (j : Nat) : List PySem.Str := ((List.range j).filter (keepP rootNil tr)).map fun k => (piecesOf tr).getD k PySem.Str.empty
/-- the numbers that are kept -/
def keptIx (rootNil : Bool) (tr : List Tri) : List Nat := (List.range tr.length).filter (keepP rootNil tr)
def keptOf (rootNil : Bool) (tr : List Tri) : List PySem.Str := (keptIx rootNil tr).map fun k => (piecesOf tr).getD k PySem.Str.empty
theorem writ_of {t : Tri} (h : PieceOk t.1 t.2.1 t.2.2) : Writ (t.1 == .hid) t.2.2 := by
  obtain ⟨k, p, w⟩ := t
  replace h : PieceOk k p w := h
  show Writ (k == .hid) w
  cases h with
  | down _ _ _ h => obtain ⟨⟨m, h1, h2, _⟩, h3, h4, _⟩ := h; exact .shown h1 h2 h3 h4
  | up _ hw => rw [hw]; exact .shown (m := [41]) (by rw [q_pc]; exact .one (by decide) .nil) (by decide) (by rw [q_pc]; simp) (by rw [q_pc]; simp)
  | flat _ h => obtain ⟨⟨m, h1, h2, _⟩, h3, h4, _⟩ := h; exact .shown h1 h2 h3 h4
  | hid _ h _ => exact h
def pairsOf (tr : List Tri) : List (Bool × PySem.Str) := tr.map fun t => (t.1 == .hid, t.2.2)
theorem pairs_writs (tr : List Tri) : (pairsOf tr).map (·.2) = writsOf tr := by unfold pairsOf writsOf; simp
theorem strip_tris {tr : List Tri} (h : TrisOk tr) : stripOf (PySem.Str.join (PySem.Str.ofString "") (writsOf tr)) = PySem.Str.join (PySem.Str.ofString "") (shownOf (pairsOf tr)) := by
  rw [← pairs_writs]
  refine strip_cat fun w hw => ?_
  unfold pairsOf at hw
  obtain ⟨t, ht, rfl⟩ := List.mem_map.mp hw
  exact writ_of (h t ht)
/-- the depth of the shown writings goes by kinds -/
theorem depth_tris : ∀ {tr : List Tri}, TrisOk tr → ∃ m, Atoms (catL (shownOf (pairsOf tr))) m ∧ ∀ o : Int, 0 ≤ o → depth (some o) m = (kindsOf tr).foldl kstep (some o)
  | [], _ => ⟨[], .nil, fun _ _ => rfl⟩
  | t :: r, h => by
    obtain ⟨m, h1, h2⟩ := depth_tris (tr := r) fun q hq => h q (.tail _ hq)
    have ht := h t (.head _)
    have knone : ∀ l : List Kind, l.foldl kstep none = none := fun l => by
      induction l with
      | nil => rfl
      | cons a b ih => exact ih
    obtain ⟨k, p, w⟩ := t
    replace ht : PieceOk k p w := ht
    have push : ∀ {n : List Nat}, (k == .hid) = false → Atoms w.cps.toList n → Atoms (catL (shownOf (pairsOf ((k, p, w) :: r)))) (n ++ m) := fun hk ha => by
      have e : catL (shownOf (pairsOf ((k, p, w) :: r))) = w.cps.toList ++ catL (shownOf (pairsOf r)) := by
        unfold pairsOf shownOf catL
        simp [hk]
      rw [e]; exact ha.app h1
    cases ht with
    | down _ _ _ hs =>
      obtain ⟨⟨n, a1, a2, a3⟩, _, _, _⟩ := hs
      refine ⟨n ++ m, push rfl a1, fun o ho => ?_⟩
      rw [depth_app, a3 o ho, h2 (o + 1) (by omega)]; rfl
    | up _ hw =>
      refine ⟨[41] ++ m, push rfl (by rw [hw, q_pc]; exact .one (by decide) .nil), fun o ho => ?_⟩
      rw [depth_app]
      show depth (if o - 1 < 0 then none else some (o - 1)) m = (kindsOf r).foldl kstep (if o - 1 < 0 then none else some (o - 1))
      split
      · rw [depth_none, knone]
      · exact h2 _ (by omega)
    | flat _ hs =>
      obtain ⟨⟨n, a1, a2, a3⟩, _, _, _⟩ := hs
      refine ⟨n ++ m, push rfl a1, fun o ho => ?_⟩
      rw [depth_app, a3 o ho, Int.add_zero, h2 o ho]; rfl
    | hid _ _ _ =>
      refine ⟨m, ?_, fun o ho => ?_⟩
      · exact h1
      · rw [h2 o ho] <;> rfl
theorem check_tris {tr : List Tri} (h : TrisOk tr) : checkOf (PySem.Str.join (PySem.Str.ofString "") (writsOf tr)) = balK (kindsOf tr) := by
  unfold checkOf balK
  rw [strip_tris h, join_cat]
  obtain ⟨m, h1, h2⟩ := depth_tris h
  rw [par_all h1, h2 0 (Int.le_refl _)]
  all_goals (cases (kindsOf tr).foldl kstep (some 0) <;> rfl)
theorem writ_len {t : Tri} (h : PieceOk t.1 t.2.1 t.2.2) : t.2.2.length ≤ 70 ∧ t.2.1.length ≤ 3 := by
  obtain ⟨k, p, w⟩ := t
  show w.length ≤ 70 ∧ p.length ≤ 3
  replace h : PieceOk k p w := h
  cases h with
  | down e _ _ h => exact ⟨by have := h.len; omega, by show p.cps.size ≤ 3; rw [e]; exact Nat.le_refl 3⟩
  | up hp hw => subst hp hw; exact ⟨by decide +kernel, by decide +kernel⟩
  | flat e h => exact ⟨by have := h.len; omega, by rcases e with e | e <;> rw [e] <;> decide +kernel⟩
  | hid hp _ h => subst hp; exact ⟨h, by decide +kernel⟩
def frontsL : List PySem.Str := [PySem.Str.ofString "", PySem.Str.ofString "/", PySem.Str.ofString "//", PySem.Str.ofString "///"]
def rootOf (f : PySem.Str) : PySem.Str := if (f == PySem.Str.ofString "///") = true then PySem.Str.ofString "/" else f
theorem fronts_le {f : PySem.Str} {i : Nat} (e : frontsL[i]? = some f) : f.length ≤ 3 ∧ (rootOf f).length ≤ 3 := by
  have h := List.mem_of_getElem? e
  simp only [frontsL, List.mem_cons, List.not_mem_nil, or_false] at h
  rcases h with rfl | rfl | rfl | rfl <;> decide +kernel
/-- what the law's loop keeps -/
def LawJ (M0 : PySem.Str → Option Value) (lS lW lP c3 c2 c1 : Addr) (oS oP oR : Obj) (front : PySem.Str) (vs : List Value) (l : Addr) (n i : Nat) (m : PySem.Str → Option Value) (news : List (Addr × Obj)) : Prop :=
  ∃ kp st en wr pc xx tp vp vw vst np nw nst ps tr ns, m = lawMap M0 kp st en (some (.str (pathOf front (piecesOf tr)) tp)) wr pc xx ∧
    news = [(l, listOf vs.toArray n), (lS, listOf vst.toArray nst), (lW, listOf vw.toArray nw), (lP, listOf vp.toArray np), (c3, oS), (c2, oP), (c1, oR), (172, tabObj ps)] ∧
    IntsAre vs ns ∧ vs.length ≤ 6 ∧ StrsAre vp (piecesOf tr) ∧ StrsAre vw (writsOf tr) ∧ IntsAre vst (struckOf (kindsOf tr)) ∧ TrisOk tr ∧ tr.length = i ∧ GoodPs ps ∧ (∀ a ∈ [lS, lW, lP, c3, c2, c1, 172], @LT.lt Nat _ a l)
theorem path_0 (front : PySem.Str) : pathOf front (piecesOf []) = front ++ PySem.Str.ofString "." := rfl
theorem lm_0_path {M0 : PySem.Str → Option Value} {v : Option Value} (e : M0 (PySem.Str.ofString "path") = v) : M0 = lawMap M0 (M0 (PySem.Str.ofString "kept")) (M0 (PySem.Str.ofString "start")) (M0 (PySem.Str.ofString "end")) v (M0 (PySem.Str.ofString "writing")) (M0 (PySem.Str.ofString "piece")) (M0 (PySem.Str.ofString "x")) := by
  subst e
  exact lm_0
theorem law_start {M0 : PySem.Str → Option Value} {lS lW lP c3 c2 c1 : Addr} {oS oP oR : Obj} {front : PySem.Str} {vs : List Value} {ns : List Int} {l : Addr} {n : Nat} {tp : Tok} (e : M0 (PySem.Str.ofString "path") = some (.str (front ++ PySem.Str.ofString ".") tp))
    (hI : IntsAre vs ns) (h6 : vs.length ≤ 6) (ne : ∀ a ∈ [lS, lW, lP, c3, c2, c1, 172], @LT.lt Nat _ a l) :
    LawJ M0 lS lW lP c3 c2 c1 oS oP oR front vs l n 0 M0 [(l, listOf vs.toArray n), (lS, listOf ([] : List Value).toArray 0), (lW, listOf ([] : List Value).toArray 0), (lP, listOf ([] : List Value).toArray 0), (c3, oS), (c2, oP), (c1, oR), (172, tabObj #[])] :=
  ⟨_, _, _, _, _, _, tp, [], [], [], 0, 0, 0, #[], [], ns, lm_0_path e, rfl, hI, h6, .nil, .nil, .nil, (fun _ h => nomatch h), rfl, .inl rfl, ne⟩
theorem law_start_it {h₀ h : Heap} {L : Addr} {s : Shared} {tk : Nat} {M0 : PySem.Str → Option Value} {lS lW lP c3 c2 c1 : Addr} {oS oP oR : Obj} {front : PySem.Str} {vs : List Value} {ns : List Int} {l : Addr} {n : Nat} {tp : Tok} {big : List (Addr × Obj)} (F : Fr h₀ L h M0) (N : News h₀ L h ((l, listOf vs.toArray n) :: big)) (A : GnLt l big)
    (hI : IntsAre vs ns) (h6 : vs.length ≤ 6) (e : M0 (PySem.Str.ofString "path") = some (.str (front ++ PySem.Str.ofString ".") tp))
    (sub : ∀ p ∈ [(lS, listOf ([] : List Value).toArray 0), (lW, listOf ([] : List Value).toArray 0), (lP, listOf ([] : List Value).toArray 0), (c3, oS), (c2, oP), (c1, oR), (172, tabObj #[])], p ∈ big) :
    ListIt h₀ L (fun vs l n => LawJ M0 lS lW lP c3 c2 c1 oS oP oR front vs l n 0) s (.ref l) { s with heap := h, toks := tk } := by
  refine list_it (n := n) F (fun p hp => ?_) (law_start (n := n) e hI h6 ?_)
  · rcases List.mem_cons.mp hp with rfl | hp
    · exact N _ (.head _)
    · exact N _ (.tail _ (sub p hp))
  · intro a ha
    simp only [List.mem_cons, List.not_mem_nil, or_false] at ha
    have g := fun q hq => lt_of_gn A q (sub q hq)
    rcases ha with rfl | rfl | rfl | rfl | rfl | rfl | rfl
    · exact g (_, _) (.head _)
    · exact g (_, _) (.tail _ (.head _))
    · exact g (_, _) (.tail _ (.tail _ (.head _)))
    · exact g (_, _) (.tail _ (.tail _ (.tail _ (.head _))))
    · exact g (_, _) (.tail _ (.tail _ (.tail _ (.tail _ (.head _)))))
    · exact g (_, _) (.tail _ (.tail _ (.tail _ (.tail _ (.tail _ (.head _))))))
    · exact g (_, _) (.tail _ (.tail _ (.tail _ (.tail _ (.tail _ (.tail _ (.head _)))))))
theorem loose_eq : looseW vw [PySem.Str.ofString "_twin_re_1", PySem.Str.ofString "_special_chars_map"] = lz := by kernel_rfl
theorem top_ghost {mean : ExcName → Option Value} {mg mb : PySem.Str → Option Value} {h : Heap}
    (T : Top topProg (looseW vw [PySem.Str.ofString "_twin_re_1", PySem.Str.ofString "_special_chars_map"] ++ (recsOf vw).map (·.name) ++ (litsOf vw).map (·.1) ++ (clssOf vw (looseW vw [PySem.Str.ofString "_twin_re_1", PySem.Str.ofString "_special_chars_map"])).map (·.name)) mean mg mb h) : TopRead vw lz mg mb h := by
  rw [loose_eq] at T
  refine ⟨T.g, T.b, T.nolimit, T.builtins, fun x h1 h2 h3 h4 h5 => T.free x h1 ?_ ?_ ?_ ?_⟩
  · simp only [List.mem_append, not_or]
    exact ⟨⟨⟨h2, h3⟩, h4⟩, h5⟩
  · rw [show recsOf topProg = [] from by kernel_rfl]; simp
  · rw [show litsOf topProg = [] from by kernel_rfl]; simp
  · rw [show ∀ l, clssOf topProg l = [] from fun _ => by kernel_rfl]; simp
theorem room_law (env : Env) : Room (callerA.deeper env) 10 := ⟨by show callerA.depth + 1 + 10 < recursionLimit; decide, by show callerA.units + 3 + 20 * 10 < cLine; decide, rfl⟩
theorem path_snoc (front p : PySem.Str) (ps : List PySem.Str) : pathOf front (ps ++ [p]) = pathOf front ps ++ PySem.Str.ofString "/" ++ p := by
  unfold pathOf; rw [List.foldl_append]; rfl
theorem path_aux : ∀ (ps : List PySem.Str) (acc : PySem.Str), (∀ p ∈ ps, p.length ≤ 3) → (ps.foldl (fun a p => a ++ PySem.Str.ofString "/" ++ p) acc).length ≤ acc.length + 4 * ps.length
  | [], acc, _ => by simp
  | p :: r, acc, h => by
    have h1 := path_aux r (acc ++ PySem.Str.ofString "/" ++ p) fun q hq => h q (.tail _ hq)
    have h2 := h p (.head _)
    rw [app_len, app_len, show (PySem.Str.ofString "/").length = 1 from by decide +kernel] at h1
    rw [List.foldl_cons, List.length_cons]
    omega
theorem path_len {front : PySem.Str} {tr : List Tri} (h : TrisOk tr) : (pathOf front (piecesOf tr)).length ≤ front.length + 1 + 4 * tr.length := by
  have := path_aux (piecesOf tr) (front ++ PySem.Str.ofString ".") fun p hp => by
    obtain ⟨t, ht, rfl⟩ := List.mem_map.mp hp
    exact (writ_len (h t ht)).2
  rw [app_len, len_dot] at this
  rw [show (piecesOf tr).length = tr.length from List.length_map ..] at this
  exact this
theorem ints_item {vs : List Value} {ns : List Int} (h : IntsAre vs ns) : ∀ (i : Nat) (v : Value), vs[i]? = some v → ∃ x t, v = .int x t := by
  induction h with
  | nil => intro i v e; simp at e
  | cons n t _ ih =>
    intro i v e
    cases i with
    | zero => simp at e; exact ⟨n, t, e.symm⟩
    | succ i => simp at e; exact ih i v e
theorem strs_drop {vs : List Value} {xs : List PySem.Str} (h : StrsAre vs xs) : ∀ k : Nat, StrsAre (vs.drop k) (xs.drop k) := by
  induction h with
  | nil => intro k; cases k <;> exact .nil
  | cons y t h ih =>
    intro k
    cases k with
    | zero => exact .cons y t h
    | succ k => exact ih k
theorem strikes_len (ks : List Kind) (e j : Nat) : (strikes ks e j).length ≤ 2 * j := by
  induction j with
  | zero => exact Nat.le_refl _
  | succ j ih =>
    rw [strikes_succ, List.length_append]
    have : (if balK (ks.drop j) = true then [(j : Int), (e : Int)] else []).length ≤ 2 := by split <;> simp
    omega
theorem struck_aux (ks : List Kind) (n : Nat) : ∀ m : Nat, m ≤ n → ((List.range m).flatMap fun e => strikes (ks.take (e + 1)) e (e + 1)).length ≤ 2 * n * m
  | 0, _ => Nat.le_refl _
  | m + 1, h => by
    have h1 := struck_aux ks n m (by omega)
    have h2 := strikes_len (ks.take (m + 1)) m (m + 1)
    rw [List.range_succ, List.flatMap_append, List.length_append]
    simp only [List.flatMap_cons, List.flatMap_nil, List.append_nil]
    rw [Nat.mul_add, Nat.mul_one]
    omega
theorem struck_len {ks : List Kind} (h : ks.length ≤ 6) : (struckOf ks).length ≤ 72 := by
  have h1 := struck_aux ks ks.length ks.length (Nat.le_refl _)
  have h2 : 2 * ks.length * ks.length ≤ 2 * 6 * 6 := Nat.mul_le_mul (by omega) h
  unfold struckOf; omega
def InJ (M1 : PySem.Str → Option Value) (pre : List (Addr × Obj)) (lS : Addr) (post : List (Addr × Obj)) (old : List Int) (ks : List Kind) (e j : Nat) (m : PySem.Str → Option Value) (news : List (Addr × Obj)) : Prop :=
  ∃ u vst nst, m = (fun y => if y = PySem.Str.ofString "start" then u else M1 y) ∧ news = pre ++ (lS, listOf vst.toArray nst) :: post ∧ IntsAre vst (old ++ strikes ks e j)
theorem in_start {M1 : PySem.Str → Option Value} {pre post : List (Addr × Obj)} {lS : Addr} {old : List Int} {ks : List Kind} {e : Nat} {vst : List Value} {nst : Nat} (h : IntsAre vst old) : InJ M1 pre lS post old ks e 0 M1 (pre ++ (lS, listOf vst.toArray nst) :: post) :=
  ⟨M1 (PySem.Str.ofString "start"), vst, nst, by funext y; split; (next h => rw [h]); rfl, rfl, by show IntsAre vst (old ++ []); rw [List.append_nil]; exact h⟩
theorem in_next {M1 : PySem.Str → Option Value} {pre post : List (Addr × Obj)} {lS : Addr} {old : List Int} {ks : List Kind} {e j : Nat} {u : Option Value} {vst : List Value} {nst : Nat} (h : IntsAre vst (old ++ strikes ks e j)) (hb : balK (ks.drop j) = false) : InJ M1 pre lS post old ks e (j + 1) (fun y => if y = PySem.Str.ofString "start" then u else M1 y) (pre ++ (lS, listOf vst.toArray nst) :: post) :=
  ⟨u, vst, nst, rfl, rfl, by rw [strikes_succ, if_neg (by rw [hb]; decide), List.append_nil]; exact h⟩
theorem in_strike {M1 : PySem.Str → Option Value} {pre post : List (Addr × Obj)} {lS : Addr} {old : List Int} {ks : List Kind} {e j : Nat} {u : Option Value} {vst : List Value} {nst : Nat} {t1 t2 : Tok} (h : IntsAre vst (old ++ strikes ks e j)) (hb : balK (ks.drop j) = true) : InJ M1 pre lS post old ks e (j + 1) (fun y => if y = PySem.Str.ofString "start" then u else M1 y) (pre ++ (lS, listOf (vst ++ [Value.int (j : Int) t1, Value.int (e : Int) t2]).toArray nst) :: post) :=
  ⟨u, _, nst, rfl, rfl, by rw [strikes_succ, if_pos hb, ← List.append_assoc]; exact h.append (.cons _ _ (.cons _ _ .nil))⟩
theorem check_drop {tr : List Tri} (h : TrisOk tr) (j : Nat) {y : PySem.Str} (e : y = PySem.Str.join (PySem.Str.ofString "") ((writsOf tr).drop j)) : checkOf y = balK ((kindsOf tr).drop j) := by
  have h2 : TrisOk (tr.drop j) := fun q hq => h q (List.mem_of_mem_drop hq)
  have hd : (writsOf tr).drop j = writsOf (tr.drop j) := by unfold writsOf; rw [List.map_drop]
  have hk : (kindsOf tr).drop j = kindsOf (tr.drop j) := by unfold kindsOf; rw [List.map_drop]
  rw [e, hd, hk]
  exact check_tris h2
theorem shown_le : ∀ ws : List (Bool × PySem.Str), (catL (shownOf ws)).length ≤ (catL (ws.map (·.2))).length
  | [] => Nat.le_refl _
  | (b, w) :: r => by
    have ih := shown_le r
    cases b
    · show (w.cps.toList ++ catL (shownOf r)).length ≤ (w.cps.toList ++ catL (r.map (·.2))).length
      rw [List.length_append, List.length_append]; omega
    · show (catL (shownOf r)).length ≤ (w.cps.toList ++ catL (r.map (·.2))).length
      rw [List.length_append]; omega
theorem writs_sum {tr : List Tri} (h : TrisOk tr) : ((writsOf tr).map (·.length)).sum ≤ 70 * tr.length := by
  induction tr with
  | nil => exact Nat.le_refl _
  | cons t r ih =>
    have h1 := ih fun q hq => h q (.tail _ hq)
    have h2 := (writ_len (h t (.head _))).1
    show t.2.2.length + ((writsOf r).map (·.length)).sum ≤ 70 * (r.length + 1)
    omega
theorem join_drop_len {tr : List Tri} (h : TrisOk tr) (h6 : tr.length ≤ 6) (j : Nat) {y : PySem.Str} (e : y = PySem.Str.join (PySem.Str.ofString "") ((writsOf tr).drop j)) : y.length ≤ 1000 ∧ (stripOf y).length ≤ 100000 := by
  have h2 : TrisOk (tr.drop j) := fun q hq => h q (List.mem_of_mem_drop hq)
  have hd : (writsOf tr).drop j = writsOf (tr.drop j) := by unfold writsOf; rw [List.map_drop]
  rw [hd] at e
  have h3 := writs_sum h2
  have h4 : (tr.drop j).length ≤ 6 := by rw [List.length_drop]; omega
  have h5 : y.length = ((writsOf (tr.drop j)).map (·.length)).sum := by rw [e, len_list, join_cat, catL_len]
  refine ⟨by omega, ?_⟩
  rw [e, strip_tris h2, len_list, join_cat]
  have h6 := shown_le (pairsOf (tr.drop j))
  rw [pairs_writs, catL_len (writsOf _)] at h6
  omega
theorem tris_snoc {tr : List Tri} {kd : Kind} {p w : PySem.Str} (h : TrisOk tr) (hp : PieceOk kd p w) : TrisOk (tr ++ [(kd, p, w)]) := fun q hq => by
  rcases List.mem_append.mp hq with hq | hq
  · exact h q hq
  · rcases List.mem_singleton.mp hq with rfl; exact hp
theorem writs_snoc (tr : List Tri) (kd : Kind) (p w : PySem.Str) : writsOf (tr ++ [(kd, p, w)]) = writsOf tr ++ [w] := by unfold writsOf; simp
theorem pieces_snoc (tr : List Tri) (kd : Kind) (p w : PySem.Str) : piecesOf (tr ++ [(kd, p, w)]) = piecesOf tr ++ [p] := by unfold piecesOf; simp
theorem kinds_snoc (tr : List Tri) (kd : Kind) (p w : PySem.Str) : kindsOf (tr ++ [(kd, p, w)]) = kindsOf tr ++ [kd] := by unfold kindsOf; simp
theorem in_split {h₀ h : Heap} {L lS : Addr} {o : Obj} {a b : Addr × Obj} {post : List (Addr × Obj)} (N : News h₀ L h (a :: b :: (lS, o) :: post)) {P : Prop} (k : ∀ pre po, pre = [a, b] → po = post → News h₀ L h (pre ++ (lS, o) :: po) → P) : P := k _ _ rfl rfl N
theorem fr_tail {h₀ h : Heap} {L : Addr} {x : PySem.Str} {v : Option Value} {m : PySem.Str → Option Value} (F : Fr h₀ L h (fun y => if y = x then v else m y)) {P : Prop} (k : ∀ M0, M0 = m → Fr h₀ L h (fun y => if y = x then v else M0 y) → P) : P := k m rfl F
theorem range_it {h₀ h : Heap} {L : Addr} {s : Shared} {n : Nat} {z : Int} {J : (PySem.Str → Option Value) → List (Addr × Obj) → Prop} {r : Addr} {t u v : Tok} {tk : Nat} {m : PySem.Str → Option Value} {news : List (Addr × Obj)} (F : Fr h₀ L h m) (N : News h₀ L h news) (hz : z = (n : Int))
    (hr : IsRange h r 0 z 1 t u v) (hJ : J m news) : RangeIt h₀ L n J s (.ref r) { s with heap := h, toks := tk } := by
  subst hz
  exact ⟨r, t, u, v, h, tk, m, news, rfl, rfl, F, N, hr, hJ⟩
theorem fr_end {g h : Heap} {L : Addr} {z z2 : Int} {t : Tok} {m : PySem.Str → Option Value} (F : Fr g L h (fun y => if y = PySem.Str.ofString "end" then some (.int z t) else m y)) (e : z = z2) {P : Prop} (k : ∀ te, Fr g L h (fun y => if y = PySem.Str.ofString "end" then some (.int z2 te) else m y) → P) : P := k t (e ▸ F)
theorem join_room {tr : List Tri} (h : TrisOk tr) (h6 : tr.length ≤ 6) (j : Nat) : (((writsOf tr).drop j).map (·.length)).sum + ((writsOf tr).drop j).length * (PySem.Str.ofString "").length ≤ 16777216 := by
  have h2 : TrisOk (tr.drop j) := fun q hq => h q (List.mem_of_mem_drop hq)
  have hd : (writsOf tr).drop j = writsOf (tr.drop j) := by unfold writsOf; rw [List.map_drop]
  have h3 := writs_sum h2
  have h4 : (tr.drop j).length ≤ 6 := by rw [List.length_drop]; omega
  rw [hd, show (PySem.Str.ofString "").length = 0 from by decide +kernel, Nat.mul_zero]
  omega
theorem fr_once {g h : Heap} {L : Addr} {x : PySem.Str} {a b : Option Value} {M : PySem.Str → Option Value} (F : Fr g L h (fun y => if y = x then a else (fun y => if y = x then b else M y) y)) : Fr g L h (fun y => if y = x then a else M y) :=
  fr_map F fun y => by
    by_cases e : y = x
    · rw [if_pos e, if_pos e]
    · rw [if_neg e, if_neg e]; dsimp only; rw [if_neg e]
theorem news_tl {g h : Heap} {L : Addr} {a : Addr × Obj} {r : List (Addr × Obj)} (N : News g L h (a :: r)) : News g L h r := fun p hp => N p (.tail _ hp)
theorem kept_to (rootNil : Bool) (tr : List Tri) : keptTo rootNil tr tr.length = keptOf rootNil tr := rfl
theorem to_nat0 (j : Nat) : ((0 : Int) + (j : Int)).toNat = j := by omega
theorem kept_yes {rn : Bool} {tr : List Tri} {j : Nat} {ys : List Value} {y : PySem.Str} {t : Tok} (h : StrsAre ys (keptTo rn tr j)) (h1 : (struckOf (kindsOf tr)).any (fun z => z == 0 + (j : Int)) = false) (ey : (piecesOf tr)[((0 : Int) + (j : Int)).toNat]? = some y) (h2 : rn = true ∨ (y != PySem.Str.ofString "..") = true) :
    StrsAre (ys ++ [.str y t]) (keptTo rn tr (j + 1)) := by
  rw [Int.zero_add] at h1
  rw [to_nat0] at ey
  have hg : (piecesOf tr).getD j PySem.Str.empty = y := by rw [List.getD_eq_getElem?_getD, ey]; rfl
  unfold keptTo at h ⊢
  rw [List.range_succ, List.filter_append, List.map_append]
  have hp : keepP rn tr j = true := by
    unfold keepP; rw [h1, hg]; rcases h2 with h2 | h2 <;> simp [h2]
  rw [List.filter_cons_of_pos (p := keepP rn tr) hp]
  exact StrsAre.append' h (by show StrsAre [.str y t] [(piecesOf tr).getD j PySem.Str.empty]; rw [hg]; exact .cons y t .nil)
theorem kept_no1 {rn : Bool} {tr : List Tri} {j : Nat} {ys : List Value} (h : StrsAre ys (keptTo rn tr j)) (h1 : (struckOf (kindsOf tr)).any (fun z => z == 0 + (j : Int)) = true) : StrsAre ys (keptTo rn tr (j + 1)) := by
  rw [Int.zero_add] at h1
  unfold keptTo at h ⊢
  rw [List.range_succ, List.filter_append, List.filter_cons_of_neg (p := keepP rn tr) (by unfold keepP; rw [h1]; simp), List.filter_nil, List.append_nil]
  exact h
theorem kept_no2 {rn : Bool} {tr : List Tri} {j : Nat} {ys : List Value} {y : PySem.Str} (h : StrsAre ys (keptTo rn tr j)) (ey : (piecesOf tr)[((0 : Int) + (j : Int)).toNat]? = some y) (h2 : rn = false) (h3 : (y != PySem.Str.ofString "..") = false) : StrsAre ys (keptTo rn tr (j + 1)) := by
  rw [to_nat0] at ey
  have hg : (piecesOf tr).getD j PySem.Str.empty = y := by rw [List.getD_eq_getElem?_getD, ey]; rfl
  unfold keptTo at h ⊢
  rw [List.range_succ, List.filter_append, List.filter_cons_of_neg (p := keepP rn tr) (by unfold keepP; rw [hg, h2, h3]; simp), List.filter_nil, List.append_nil]
  exact h
theorem kept_yes2 {rn : Bool} {tr : List Tri} {j : Nat} {ys : List Value} {y z : PySem.Str} {t : Tok} (h : StrsAre ys (keptTo rn tr j)) (h1 : (struckOf (kindsOf tr)).any (fun z => z == 0 + (j : Int)) = false) (ez : (piecesOf tr)[((0 : Int) + (j : Int)).toNat]? = some z) (h2 : (z != PySem.Str.ofString "..") = true)
    (ey : (piecesOf tr)[((0 : Int) + (j : Int)).toNat]? = some y) : StrsAre (ys ++ [.str y t]) (keptTo rn tr (j + 1)) := by
  rw [ez] at ey
  obtain rfl : z = y := Option.some.inj ey
  exact kept_yes h h1 ez (.inr h2)
theorem law_next {g h : Heap} {L I : Addr} {ob : Obj} {s : Shared} {tk : Nat} {gens : Array GenState} {M0 : PySem.Str → Option Value} {a b c e f kp st en pt wr pc xx : Option Value} {pth2 front : PySem.Str} {tp : Tok} {vs vp vw vst : List Value} {np nw nst n i : Nat} {ns : List Int} {ps : Array Value} {tr2 : List Tri} {lS lW lP c3 c2 c1 l : Addr} {oS oP oR : Obj}
    (hb : AllBare gens)
    (F : Fr g L h (fun y => if y = PySem.Str.ofString "kept" then a else if y = PySem.Str.ofString "start" then b else if y = PySem.Str.ofString "end" then c else if y = PySem.Str.ofString "path" then some (.str pth2 tp) else if y = PySem.Str.ofString "writing" then e else if y = PySem.Str.ofString "piece" then f else lawMap M0 kp st en pt wr pc xx y))
    (N : News g L h [(I, ob), (l, listOf vs.toArray n), (lS, listOf vst.toArray nst), (lW, listOf vw.toArray nw), (lP, listOf vp.toArray np), (c3, oS), (c2, oP), (c1, oR), (172, tabObj ps)])
    (hpath : pth2 = pathOf front (piecesOf tr2)) (hI : IntsAre vs ns) (h6 : vs.length ≤ 6) (hP : StrsAre vp (piecesOf tr2)) (hW : StrsAre vw (writsOf tr2)) (hS : IntsAre vst (struckOf (kindsOf tr2))) (hT : TrisOk tr2) (hl : tr2.length = i + 1) (hg : GoodPs ps)
    (hne : ∀ a ∈ [lS, lW, lP, c3, c2, c1, 172], @LT.lt Nat _ a l) (hlI : @LT.lt Nat _ l I) :
    TurnB g L I ob (LawJ M0 lS lW lP c3 c2 c1 oS oP oR front vs l n (i + 1)) s { s with heap := h, toks := tk, gens := gens } := by
  subst hpath
  refine turn_b hb (fr_map F (congrFun lm_end)) N ?_ ⟨_, _, _, _, _, _, tp, vp, vw, vst, np, nw, nst, ps, tr2, ns, rfl, rfl, hI, h6, hP, hW, hS, hT, hl, hg, hne⟩
  have q : ∀ a ∈ [lS, lW, lP, c3, c2, c1, 172], @LT.lt Nat _ a I := fun a ha => Nat.lt_trans (hne a ha) hlI
  exact ⟨hlI, q _ (.head _), q _ (.tail _ (.head _)), q _ (.tail _ (.tail _ (.head _))), q _ (.tail _ (.tail _ (.tail _ (.head _)))), q _ (.tail _ (.tail _ (.tail _ (.tail _ (.head _))))), q _ (.tail _ (.tail _ (.tail _ (.tail _ (.tail _ (.head _)))))), q _ (.tail _ (.tail _ (.tail _ (.tail _ (.tail _ (.tail _ (.head _))))))), trivial⟩
def finalOf (root : PySem.Str) (ks : List PySem.Str) : PySem.Str := if ((root ++ PySem.Str.join (PySem.Str.ofString "/") ks).length : Int) = 0 then PySem.Str.ofString "." else root ++ PySem.Str.join (PySem.Str.ofString "/") ks
theorem final_text {root y r : PySem.Str} {ks : List PySem.Str} (e : y = PySem.Str.join (PySem.Str.ofString "/") ks) (h : ((root ++ y).length : Int) ≠ 0) (hr : r = finalOf root ks) : r = root ++ y := by
  subst e; rw [hr]; unfold finalOf; rw [if_neg h]
theorem final_dot {root y r : PySem.Str} {ks : List PySem.Str} (e : y = PySem.Str.join (PySem.Str.ofString "/") ks) (h : ((root ++ y).length : Int) = 0) (hr : r = finalOf root ks) : r = PySem.Str.ofString "." := by
  subst e; rw [hr]; unfold finalOf; rw [if_pos h]
theorem no_bne {x y : PySem.Str} {P : Prop} (e : x = y) (h : (x != y) = true) : P := by subst e; simp at h
theorem kept_len {rn : Bool} {tr : List Tri} {j : Nat} (h : TrisOk tr) : (keptTo rn tr j).length ≤ j ∧ ((keptTo rn tr j).map (·.length)).sum ≤ 3 * j := by
  have h1 : (keptTo rn tr j).length ≤ j := by
    unfold keptTo
    rw [List.length_map]
    exact Nat.le_trans (List.length_filter_le _ _) (by rw [List.length_range]; exact Nat.le_refl _)
  refine ⟨h1, Nat.le_trans (len_sum (n := 3) fun r hr => ?_) (by rw [Nat.mul_comm]; exact Nat.mul_le_mul_left 3 h1)⟩
  unfold keptTo at hr
  obtain ⟨k, _, rfl⟩ := List.mem_map.mp hr
  rw [List.getD_eq_getElem?_getD]
  cases e : (piecesOf tr)[k]? with
  | none => exact Nat.zero_le _
  | some y =>
    obtain ⟨t, ht, rfl⟩ := List.mem_map.mp (List.mem_of_getElem? e)
    exact (writ_len (h t ht)).2
theorem writ_pos {t : Tri} (h : PieceOk t.1 t.2.1 t.2.2) : ∃ c, t.2.2.cps[0]? = some c ∧ (c = 34 ↔ t.1 = .hid) := by
  have hw := writ_of h
  obtain ⟨k, p, w⟩ := t
  replace hw : Writ (k == .hid) w := hw
  show ∃ c, w.cps[0]? = some c ∧ (c = 34 ↔ k = .hid)
  rw [← Array.getElem?_toList]
  generalize hb : (k == Kind.hid) = b at hw
  cases hw with
  | shown _ _ h1 h2 =>
    have hk : k ≠ .hid := by simpa using hb
    cases e : w.cps.toList with
    | nil => exact absurd e h2
    | cons c r =>
      refine ⟨c, rfl, fun hc => ?_, fun hc => absurd hc hk⟩
      rw [e] at h1
      exact absurd (by rw [hc]; rfl) h1
  | hid e _ _ =>
    have hk : k = .hid := by simpa using hb
    exact ⟨34, by rw [e]; rfl, fun _ => hk, fun _ => rfl⟩
theorem shown_snoc (tr : List Tri) (j : Nat) {t : Tri} (e : tr[j]? = some t) : shownOf (pairsOf (tr.take (j + 1))) = shownOf (pairsOf (tr.take j)) ++ (if t.1 = .hid then [] else [t.2.2]) := by
  rw [List.take_add_one, e]
  unfold pairsOf shownOf
  simp only [Option.toList_some, List.map_append, List.filter_append, List.map_cons, List.map_nil]
  congr 1
  by_cases h : t.1 = .hid
  · rw [if_pos h, h]; rfl
  · rw [if_neg h]
    have : (t.1 == Kind.hid) = false := by simpa using h
    rw [List.filter_cons_of_pos (by rw [this]; rfl)]; rfl
theorem sh_yes {tr : List Tri} (h : TrisOk tr) {j : Nat} {ys : List Value} {y : PySem.Str} {t : Tok} (hy : StrsAre ys (shownOf (pairsOf (tr.take j)))) (e : (writsOf tr)[j]? = some y) (ht : (Txt.item y 0 != PySem.Str.ofString "\"") = true) :
    StrsAre (ys ++ [.str y t]) (shownOf (pairsOf (tr.take (j + 1)))) := by
  unfold writsOf at e
  rw [List.getElem?_map] at e
  obtain ⟨q, eq, rfl⟩ := Option.map_eq_some_iff.mp e
  obtain ⟨c, hc, hk⟩ := writ_pos (h q (List.mem_of_getElem? eq))
  rw [shown_snoc tr j eq]
  have hi := item_eq (i := 0) hc
  rw [show (((0 : Nat) : Int)) = 0 from rfl] at hi
  rw [hi, q_qu] at ht
  have hne : ¬ c = 34 := by
    intro e2
    subst e2
    simp at ht
  rw [if_neg fun z => hne (hk.mpr z)]
  exact strs_add hy
theorem sh_no {tr : List Tri} (h : TrisOk tr) {j : Nat} {ys : List Value} {y : PySem.Str} (hy : StrsAre ys (shownOf (pairsOf (tr.take j)))) (e : (writsOf tr)[j]? = some y) (ht : (Txt.item y 0 != PySem.Str.ofString "\"") = false) :
    StrsAre ys (shownOf (pairsOf (tr.take (j + 1)))) := by
  unfold writsOf at e
  rw [List.getElem?_map] at e
  obtain ⟨q, eq, rfl⟩ := Option.map_eq_some_iff.mp e
  obtain ⟨c, hc, hk⟩ := writ_pos (h q (List.mem_of_getElem? eq))
  rw [shown_snoc tr j eq]
  have hi := item_eq (i := 0) hc
  rw [show (((0 : Nat) : Int)) = 0 from rfl] at hi
  rw [hi, q_qu] at ht
  have hne : c = 34 := by
    rw [bne, one_beq] at ht
    simpa using ht
  rw [if_pos (hk.mp hne), List.append_nil]
  exact hy
theorem writ_one {tr : List Tri} (h : TrisOk tr) {j : Nat} {y : PySem.Str} (e : (writsOf tr)[j]? = some y) : 1 ≤ y.length ∧ y.length ≤ 70 := by
  unfold writsOf at e
  rw [List.getElem?_map] at e
  obtain ⟨q, eq, rfl⟩ := Option.map_eq_some_iff.mp e
  have hq := h q (List.mem_of_getElem? eq)
  obtain ⟨c, hc, _⟩ := writ_pos hq
  exact ⟨(Array.getElem?_eq_some_iff.mp hc).1, (writ_len hq).1⟩
theorem shown_room {tr : List Tri} (h : TrisOk tr) (h6 : tr.length ≤ 6) : ((shownOf (pairsOf tr)).map (·.length)).sum + (shownOf (pairsOf tr)).length * (PySem.Str.ofString "").length ≤ 16777216 := by
  have h1 := shown_le (pairsOf tr)
  have h2 := writs_sum h
  rw [pairs_writs, catL_len, catL_len] at h1
  rw [show (PySem.Str.ofString "").length = 0 from by decide +kernel, Nat.mul_zero]
  omega
end
section
/-- kinds as the brackets see them -/
def normK : Kind → Kind
  | .hid => .flat
  | k => k
def balN : Nat → List Kind → Bool
  | d, [] => d == 0
  | d, k :: r => match k with
    | .down => balN (d + 1) r
    | .up => match d with
      | 0 => false
      | e + 1 => balN e r
    | _ => balN d r
theorem kstep_none : ∀ l : List Kind, l.foldl kstep none = none
  | [] => rfl
  | _ :: r => kstep_none r
theorem balN_eq : ∀ (ks : List Kind) (d : Nat), balN d (ks.map normK) = (match ks.foldl kstep (some (d : Int)) with
    | none => false
    | some o => o == 0)
  | [], d => by
    show (d == 0) = ((d : Int) == 0)
    cases d <;> rfl
  | k :: r, d => by
    cases k with
    | down =>
      show balN (d + 1) (r.map normK) = _
      rw [balN_eq r (d + 1)]; rfl
    | up =>
      cases d with
      | zero =>
        show false = (match r.foldl kstep (if (0 : Int) - 1 < 0 then none else some ((0 : Int) - 1)) with | none => false | some o => o == 0)
        rw [if_pos (by decide), kstep_none]
      | succ d =>
        show balN d (r.map normK) = (match r.foldl kstep (if ((d + 1 : Nat) : Int) - 1 < 0 then none else some (((d + 1 : Nat) : Int) - 1)) with | none => false | some o => o == 0)
        rw [if_neg (by omega), show ((d + 1 : Nat) : Int) - 1 = (d : Int) from by omega]
        exact balN_eq r d
    | flat => exact balN_eq r d
    | hid => exact balN_eq r d
theorem balN_balK (ks : List Kind) : balN 0 (ks.map normK) = balK ks := balN_eq ks 0
def strN (ks : List Kind) (e : Nat) : List Nat := (List.range (e + 1)).flatMap fun s => if balN 0 (ks.drop s) = true then [s, e] else []
theorem strN_eq (ks : List Kind) (e : Nat) : (strN (ks.map normK) e).map (fun (k : Nat) => (k : Int)) = strikes ks e (e + 1) := by
  unfold strN strikes
  rw [List.map_flatMap]
  congr 1
  funext s
  rw [← List.map_drop, balN_balK]
  split <;> rfl
def isUp (ks : List Kind) (k : Nat) : Bool := match ks[k]? with
  | some .up => true
  | _ => false
def nStep (rn : Bool) (ks : List Kind) (acc : List Nat) (e : Nat) (k : Kind) : List Nat := match k with
  | .down => acc ++ [e]
  | .up => if (rn && acc.isEmpty || (match acc.getLast? with
      | some i => isUp ks i
      | none => false)) = true then acc ++ [e] else acc.dropLast
  | _ => acc
abbrev KSt := List Kind × List Nat × List Nat
def stepS (rn : Bool) (S : KSt) (k : Kind) : KSt := (S.1 ++ [k], S.2.1 ++ strN (S.1 ++ [k]) S.1.length, nStep rn (S.1 ++ [k]) S.2.2 S.1.length k)
def okS (rn : Bool) (S : KSt) : Bool := ((List.range S.1.length).filter fun k => !S.2.1.contains k && (rn || !isUp S.1 k)) == S.2.2
def chk (rn : Bool) : Nat → KSt → Bool
  | 0, S => okS rn S
  | f + 1, S => okS rn S && (chk rn f (stepS rn S .down) && (chk rn f (stepS rn S .up) && chk rn f (stepS rn S .flat)))
theorem chk_ok {rn : Bool} : ∀ (f : Nat) (S : KSt) (ext : List Kind), chk rn f S = true → (∀ k ∈ ext, k ≠ .hid) → ext.length ≤ f → okS rn (ext.foldl (stepS rn) S) = true
  | 0, S, [], h, _, _ => h
  | f + 1, S, [], h, _, _ => by
    unfold chk at h
    simp only [Bool.and_eq_true] at h
    exact h.1
  | 0, S, k :: r, _, _, hl => by simp at hl
  | f + 1, S, k :: r, h, hk, hl => by
    unfold chk at h
    simp only [Bool.and_eq_true] at h
    obtain ⟨_, h1, h2, h3⟩ := h
    have hr : ∀ k ∈ r, k ≠ .hid := fun q hq => hk q (.tail _ hq)
    have hlr : r.length ≤ f := by simpa using hl
    rw [List.foldl_cons]
    cases k with
    | down => exact chk_ok f _ r h1 hr hlr
    | up => exact chk_ok f _ r h2 hr hlr
    | flat => exact chk_ok f _ r h3 hr hlr
    | hid => exact absurd rfl (hk .hid (.head _))
theorem chk_6 {rn : Bool} (h0 : okS rn ([], [], []) = true) (h1 : chk rn 5 (stepS rn ([], [], []) .down) = true) (h2 : chk rn 5 (stepS rn ([], [], []) .up) = true) (h3 : chk rn 5 (stepS rn ([], [], []) .flat) = true) : chk rn 6 ([], [], []) = true := by
  unfold chk; rw [h0, h1, h2, h3]; rfl
theorem chk_t1 : chk true 5 (stepS true ([], [], []) .down) = true := by decide +kernel
theorem chk_t2 : chk true 5 (stepS true ([], [], []) .up) = true := by decide +kernel
theorem chk_t3 : chk true 5 (stepS true ([], [], []) .flat) = true := by decide +kernel
theorem chk_f1 : chk false 5 (stepS false ([], [], []) .down) = true := by decide +kernel
theorem chk_f2 : chk false 5 (stepS false ([], [], []) .up) = true := by decide +kernel
theorem chk_f3 : chk false 5 (stepS false ([], [], []) .flat) = true := by decide +kernel
theorem chk_true : chk true 6 ([], [], []) = true := chk_6 rfl chk_t1 chk_t2 chk_t3
theorem chk_false : chk false 6 ([], [], []) = true := chk_6 rfl chk_f1 chk_f2 chk_f3
end
section
def jn (r : List (List Nat)) : List Nat := r.flatMap fun y => 47 :: y
theorem jn_cons (a : List Nat) (r : List (List Nat)) : jn (a :: r) = 47 :: (a ++ jn r) := rfl
theorem free_cut : ∀ {x y A B : List Nat}, 47 ∉ x → 47 ∉ y → x ++ 47 :: A = y ++ 47 :: B → x = y ∧ A = B
  | [], [], A, B, _, _, h => ⟨rfl, (List.cons.inj h).2⟩
  | [], c :: y, A, B, _, hy, h => absurd (List.cons.inj h).1 fun e => hy (e ▸ .head _)
  | c :: x, [], A, B, hx, _, h => absurd (List.cons.inj h).1 fun e => hx (e ▸ .head _)
  | c :: x, d :: y, A, B, hx, hy, h => by
    obtain ⟨h1, h2⟩ := List.cons.inj h
    obtain ⟨e1, e2⟩ := free_cut (fun q => hx (.tail _ q)) (fun q => hy (.tail _ q)) h2
    exact ⟨by rw [h1, e1], e2⟩
theorem jn_inj : ∀ {r s : List (List Nat)}, (∀ p ∈ r, 47 ∉ p) → (∀ p ∈ s, 47 ∉ p) → ∀ {x y : List Nat}, 47 ∉ x → 47 ∉ y → x ++ jn r = y ++ jn s → x = y ∧ r = s
  | [], [], _, _, x, y, _, _, h => by
    simp [jn] at h; exact ⟨h, rfl⟩
  | [], b :: s, _, _, x, y, hx, _, h => by
    rw [jn_cons, show jn [] = [] from rfl, List.append_nil] at h
    exact absurd (by rw [h]; simp) hx
  | a :: r, [], _, _, x, y, _, hy, h => by
    rw [jn_cons, show jn [] = [] from rfl, List.append_nil] at h
    exact absurd (by rw [← h]; simp) hy
  | a :: r, b :: s, hr, hs, x, y, hx, hy, h => by
    rw [jn_cons, jn_cons] at h
    obtain ⟨e1, e2⟩ := free_cut hx hy h
    obtain ⟨e3, e4⟩ := jn_inj (r := r) (s := s) (fun p q => hr p (.tail _ q)) (fun p q => hs p (.tail _ q)) (hr a (.head _)) (hs b (.head _)) e2
    exact ⟨e1, by rw [e3, e4]⟩
def cL (l : List PySem.Str) : List (List Nat) := l.map (·.cps.toList)
theorem q_slash : (PySem.Str.ofString "/") = ⟨#[47]⟩ := by decide +kernel
theorem q_slash2 : (PySem.Str.ofString "/").cps.toList = [47] := by decide +kernel
theorem join_jn : ∀ (r : List PySem.Str) (x : PySem.Str), (PySem.Str.join (PySem.Str.ofString "/") (x :: r)).cps.toList = x.cps.toList ++ jn (cL r)
  | [], x => by
    show x.cps.toList = _
    simp [jn, cL]
  | y :: r, x => by
    show (x ++ PySem.Str.ofString "/" ++ PySem.Str.join (PySem.Str.ofString "/") (y :: r)).cps.toList = _
    rw [app_cps, app_cps, join_jn r y, q_slash2]
    show _ = x.cps.toList ++ jn (y.cps.toList :: cL r)
    rw [jn_cons]; simp
theorem cL_inj : ∀ {a b : List PySem.Str}, cL a = cL b → a = b
  | [], [], _ => rfl
  | [], _ :: _, h => by simp [cL] at h
  | _ :: _, [], h => by simp [cL] at h
  | x :: a, y :: b, h => by
    obtain ⟨h1, h2⟩ := List.cons.inj h
    rw [str_eq h1, cL_inj h2]
theorem split_jn {x rest : PySem.Str} {r : List PySem.Str} (h : ∀ p ∈ x :: r, 47 ∉ p.cps.toList) (e : rest.cps.toList = x.cps.toList ++ jn (cL r)) : Txt.split rest (PySem.Str.ofString "/") = x :: r := by
  have h1 := StrLaws.join_split rest (PySem.Str.ofString "/")
  have h2 := PyProof.Rows.split_pos rest (PySem.Str.ofString "/")
  have h3 := StrLaws.split_free rest 47
  rw [← q_slash] at h3
  generalize Txt.split rest (PySem.Str.ofString "/") = L at h1 h2 h3 ⊢
  cases L with
  | nil => simp at h2
  | cons y s =>
    have h4 : (PySem.Str.join (PySem.Str.ofString "/") (y :: s)).cps.toList = rest.cps.toList := by rw [h1]
    rw [join_jn, e] at h4
    have f : ∀ {l : List PySem.Str}, (∀ p ∈ l, 47 ∉ p.cps.toList) → ∀ p ∈ cL l, 47 ∉ p := fun hl p hp => by
      obtain ⟨q, hq, rfl⟩ := List.mem_map.mp hp
      exact hl q hq
    obtain ⟨e1, e2⟩ := jn_inj (f fun p q => h3 p (.tail _ q)) (f fun p q => h p (.tail _ q)) (h3 y (.head _)) (h x (.head _)) h4
    rw [str_eq e1, cL_inj e2]
theorem path_jn : ∀ (ps : List PySem.Str) (acc : PySem.Str), (ps.foldl (fun a p => a ++ PySem.Str.ofString "/" ++ p) acc).cps.toList = acc.cps.toList ++ jn (cL ps)
  | [], acc => by simp [jn, cL]
  | p :: r, acc => by
    rw [List.foldl_cons, path_jn r, app_cps, app_cps, q_slash2]
    show _ = acc.cps.toList ++ jn (p.cps.toList :: cL r)
    rw [jn_cons]; simp
theorem q_dot : (PySem.Str.ofString ".").cps.toList = [46] := by decide +kernel
theorem path_cps (front : PySem.Str) (ps : List PySem.Str) : (pathOf front ps).cps.toList = front.cps.toList ++ 46 :: jn (cL ps) := by
  unfold pathOf
  rw [path_jn, app_cps, q_dot]; simp
theorem slice_head {x : PySem.Str} {b : Nat} (h2 : b ≤ x.cps.toList.length) : (Txt.slice x none (some (b : Int))).cps.toList = x.cps.toList.take b := by
  have := beq_iff_eq.mp (slice_closes_toL (x := x) (j := b) (by omega) (by have : x.length = x.cps.toList.length := by simp [PySem.Str.length]
                                                                           omega))
  rw [this]
  simp
theorem ne_str {a b : PySem.Str} (h : a.cps.toList ≠ b.cps.toList) : (a != b) = true := by
  simp only [bne_iff_ne]; intro e; exact h (e ▸ rfl)
theorem eq_str {a b : PySem.Str} (h : a.cps.toList = b.cps.toList) : (a == b) = true := by rw [str_eq h]; simp
theorem split_0 {X : PySem.Str} {c : Nat} {r : List Nat} (e : X.cps.toList = c :: r) (h : c ≠ 47) : splitR X = (PySem.Str.ofString "", X) := by
  unfold splitR
  have h1 : (Txt.slice X none (some 1)).cps.toList = [c] := (slice_head (x := X) (b := 1) (by rw [e]; simp)).trans (by rw [e]; rfl)
  rw [if_pos (ne_str (by rw [h1, q_slash2]; simpa using h))]
theorem split_a {X : PySem.Str} {d : Nat} {r : List Nat} (e : X.cps.toList = 47 :: d :: r) (h : d ≠ 47) : splitR X = (PySem.Str.ofString "/", Txt.slice X (some 1) none) := by
  unfold splitR
  have h1 : (Txt.slice X none (some 1)).cps.toList = [47] := (slice_head (x := X) (b := 1) (by rw [e]; simp)).trans (by rw [e]; rfl)
  have h2 : (Txt.slice X (some 1) (some 2)).cps.toList = [d] := (slice_mid (x := X) (a := 1) (b := 2) (by decide) (by rw [e]; simp)).trans (by rw [e]; rfl)
  rw [if_neg (by rw [str_eq (h1.trans q_slash2.symm)]; simp), if_pos (.inl (ne_str (by rw [h2, q_slash2]; simpa using h)))]
theorem split_3 {X : PySem.Str} {r : List Nat} (e : X.cps.toList = 47 :: 47 :: 47 :: r) : splitR X = (PySem.Str.ofString "/", Txt.slice X (some 1) none) := by
  unfold splitR
  have h1 : (Txt.slice X none (some 1)).cps.toList = [47] := (slice_head (x := X) (b := 1) (by rw [e]; simp)).trans (by rw [e]; rfl)
  have h3 : (Txt.slice X (some 2) (some 3)).cps.toList = [47] := (slice_mid (x := X) (a := 2) (b := 3) (by decide) (by rw [e]; simp)).trans (by rw [e]; rfl)
  rw [if_neg (by rw [str_eq (h1.trans q_slash2.symm)]; simp), if_pos (.inr (eq_str (h3.trans q_slash2.symm)))]
theorem split_2 {X : PySem.Str} {c : Nat} {r : List Nat} (e : X.cps.toList = 47 :: 47 :: c :: r) (h : c ≠ 47) : splitR X = (PySem.Str.ofString "//", Txt.slice X (some 2) none) := by
  unfold splitR
  have h1 : (Txt.slice X none (some 1)).cps.toList = [47] := (slice_head (x := X) (b := 1) (by rw [e]; simp)).trans (by rw [e]; rfl)
  have h2 : (Txt.slice X (some 1) (some 2)).cps.toList = [47] := (slice_mid (x := X) (a := 1) (b := 2) (by decide) (by rw [e]; simp)).trans (by rw [e]; rfl)
  have h3 : (Txt.slice X (some 2) (some 3)).cps.toList = [c] := (slice_mid (x := X) (a := 2) (b := 3) (by decide) (by rw [e]; simp)).trans (by rw [e]; rfl)
  have h4 : (Txt.slice X none (some 2)).cps.toList = [47, 47] := (slice_head (x := X) (b := 2) (by rw [e]; simp)).trans (by rw [e]; rfl)
  have hn : ¬ (Txt.slice X (some 2) (some 3) == PySem.Str.ofString "/") = true := fun z => by
    have this : (Txt.slice X (some 2) (some 3)).cps.toList = (PySem.Str.ofString "/").cps.toList := by rw [beq_iff_eq.mp z]
    rw [h3, q_slash2] at this
    simp at this; exact h this
  have hm : ¬ ((Txt.slice X (some 1) (some 2) != PySem.Str.ofString "/") = true ∨ (Txt.slice X (some 2) (some 3) == PySem.Str.ofString "/") = true) := by
    rintro (z | z)
    · rw [str_eq (h2.trans q_slash2.symm)] at z; simp at z
    · exact hn z
  rw [if_neg (by rw [str_eq (h1.trans q_slash2.symm)]; simp), if_neg hm, str_eq (h4.trans (show _ = (PySem.Str.ofString "//").cps.toList from by decide +kernel))]
theorem norm_core {X ini rest : PySem.Str} {ps L : List PySem.Str} (h0 : (X.length : Int) ≠ 0) (hs : splitR X = (ini, rest)) (hL : Txt.split rest (PySem.Str.ofString "/") = L) (hf : L.foldl (normStep ini) [] = ps.foldl (normStep ini) []) :
    normOf X = finalOf ini (ps.foldl (normStep ini) []) := by
  unfold normOf finalOf
  rw [if_neg h0, hs]
  dsimp only
  rw [hL, hf]
theorem norm_fold {front : PySem.Str} {k : Nat} {ps : List PySem.Str} (hf : frontsL[k]? = some front) (h : ∀ p ∈ ps, 47 ∉ p.cps.toList) : normOf (pathOf front ps) = finalOf (rootOf front) (ps.foldl (normStep (rootOf front)) []) := by
  have hp := path_cps front ps
  have h0 : ((pathOf front ps).length : Int) ≠ 0 := by rw [len_list, hp]; simp; omega
  have hd : ∀ p ∈ PySem.Str.ofString "." :: ps, 47 ∉ p.cps.toList := by
    intro p q
    rcases List.mem_cons.mp q with rfl | q
    · rw [q_dot]; decide
    · exact h p q
  have hm := List.mem_of_getElem? hf
  have e0 : (PySem.Str.ofString "").cps.toList = [] := by decide +kernel
  have e2 : (PySem.Str.ofString "//").cps.toList = [47, 47] := by decide +kernel
  have e3 : (PySem.Str.ofString "///").cps.toList = [47, 47, 47] := by decide +kernel
  simp only [frontsL, List.mem_cons, List.not_mem_nil, or_false] at hm
  rcases hm with rfl | rfl | rfl | rfl
  · rw [show rootOf (PySem.Str.ofString "") = PySem.Str.ofString "" from by decide +kernel]
    rw [e0] at hp
    refine norm_core h0 (split_0 hp (by decide)) (split_jn hd (hp.trans (by rw [q_dot]; rfl))) ?_
    rw [List.foldl_cons, ns_dot (by decide +kernel)]
  · rw [show rootOf (PySem.Str.ofString "/") = PySem.Str.ofString "/" from by decide +kernel]
    rw [q_slash2] at hp
    refine norm_core h0 (split_a hp (by decide)) (split_jn hd ((slice_end (a := 1) (by rw [hp]; simp)).trans (by rw [hp, q_dot]; rfl))) ?_
    rw [List.foldl_cons, ns_dot (by decide +kernel)]
  · rw [show rootOf (PySem.Str.ofString "//") = PySem.Str.ofString "//" from by decide +kernel]
    rw [e2] at hp
    refine norm_core h0 (split_2 hp (by decide)) (split_jn hd ((slice_end (a := 2) (by rw [hp]; simp)).trans (by rw [hp, q_dot]; rfl))) ?_
    rw [List.foldl_cons, ns_dot (by decide +kernel)]
  · rw [show rootOf (PySem.Str.ofString "///") = PySem.Str.ofString "/" from by decide +kernel]
    rw [e3] at hp
    have hd2 : ∀ p ∈ PySem.Str.ofString "" :: PySem.Str.ofString "" :: PySem.Str.ofString "." :: ps, 47 ∉ p.cps.toList := by
      intro p q
      rcases List.mem_cons.mp q with rfl | q
      · rw [e0]; simp
      · rcases List.mem_cons.mp q with rfl | q
        · rw [e0]; simp
        · exact hd p q
    refine norm_core h0 (split_3 hp) (split_jn hd2 ((slice_end (a := 1) (by rw [hp]; simp)).trans ?_)) ?_
    · rw [hp, e0]
      show 47 :: 47 :: 46 :: jn (cL ps) = [] ++ jn ((PySem.Str.ofString "").cps.toList :: (PySem.Str.ofString ".").cps.toList :: cL ps)
      rw [jn_cons, jn_cons, e0, q_dot]; rfl
    · rw [List.foldl_cons, List.foldl_cons, List.foldl_cons, ns_empty (c := PySem.Str.ofString "") (by decide +kernel), ns_empty (c := PySem.Str.ofString "") (by decide +kernel), ns_dot (by decide +kernel)]
/-- the kinds and the pieces go side by side -/
def stOf (rn : Bool) (tr : List Tri) (n : Nat) : KSt := ((kindsOf (tr.take n)).map normK).foldl (stepS rn) ([], [], [])
theorem up_iff {t : Tri} (h : PieceOk t.1 t.2.1 t.2.2) : (t.2.1 == PySem.Str.ofString "..") = (match normK t.1 with | .up => true | _ => false) := by
  obtain ⟨k, p, w⟩ := t
  replace h : PieceOk k p w := h
  show (p == PySem.Str.ofString "..") = (match normK k with | .up => true | _ => false)
  cases h with
  | down e _ _ _ =>
    show _ = false
    refine beq_eq_false_iff_ne.mpr fun z => ?_
    have this : p.cps.toList.length = (PySem.Str.ofString "..").cps.toList.length := by rw [z]
    rw [e, show (PySem.Str.ofString "..").cps.toList.length = 2 from by decide +kernel] at this
    simp at this
  | up e _ => rw [e]; show _ = true; simp
  | flat e _ =>
    show _ = false
    rcases e with e | e <;> rw [e] <;> decide +kernel
  | hid e _ _ => rw [e]; show _ = false; decide +kernel
theorem isUp_at {tr : List Tri} (h : TrisOk tr) {i : Nat} (ks : List Kind) (hi : i < tr.length) (hk : ks[i]? = (((kindsOf tr).map normK))[i]?) : isUp ks i = ((piecesOf tr).getD i PySem.Str.empty == PySem.Str.ofString "..") := by
  have e : tr[i]? = some tr[i] := List.getElem?_eq_getElem hi
  have e1 : (piecesOf tr).getD i PySem.Str.empty = tr[i].2.1 := by rw [List.getD_eq_getElem?_getD, piecesOf, List.getElem?_map, e]; rfl
  have e2 : ((kindsOf tr).map normK)[i]? = some (normK tr[i].1) := by rw [List.getElem?_map, kindsOf, List.getElem?_map, e]; rfl
  rw [e1, up_iff (h _ (List.getElem_mem hi))]
  unfold isUp
  rw [hk, e2]
  generalize normK tr[i].1 = q
  cases q <;> rfl
theorem nstep_skip {ini : PySem.Str} {acc : List PySem.Str} {p : PySem.Str} (h : p = PySem.Str.ofString "." ∨ p = PySem.Str.ofString "") : normStep ini acc p = acc := by
  rcases h with rfl | rfl
  · exact ns_dot (by decide +kernel)
  · exact ns_empty (by decide +kernel)
theorem nstep_up {ini : PySem.Str} {rn : Bool} (hr : rn = true ↔ (ini.length : Int) = 0) (acc : List PySem.Str) : normStep ini acc (PySem.Str.ofString "..") =
    if (rn && acc.isEmpty || (match acc.getLast? with | some z => z == PySem.Str.ofString ".." | none => false)) = true then acc ++ [PySem.Str.ofString ".."] else acc.dropLast := by
  unfold normStep
  rw [if_neg (by decide +kernel)]
  have e : (PySem.Str.ofString ".." != PySem.Str.ofString "..") = false := by decide +kernel
  rw [e]
  rcases List.eq_nil_or_concat acc with rfl | ⟨b, z, rfl⟩
  · cases rn with
    | true => rw [if_pos (.inr (.inl ⟨hr.mp rfl, rfl⟩))]; rfl
    | false =>
      rw [if_neg]
      · rfl
      · rintro (z | z | z)
        · exact Bool.false_ne_true z
        · exact Bool.false_ne_true (hr.mpr z.1)
        · cases z
  · rw [List.concat_eq_append, List.getLast?_concat]
    have e3 : (b ++ [z]).isEmpty = false := by simp
    rw [e3, Bool.and_false, Bool.false_or]
    by_cases hz : (z == PySem.Str.ofString "..") = true
    · rw [if_pos (.inr (.inr (by rw [beq_iff_eq.mp hz]))), if_pos hz]
    · rw [if_neg, if_neg hz]
      rintro (q | q | q)
      · exact Bool.false_ne_true q
      · simp at q
      · exact hz (by rw [Option.some.inj q]; simp)
theorem kindsT_snoc {tr : List Tri} {n : Nat} {t : Tri} (e : tr[n]? = some t) : kindsOf (tr.take (n + 1)) = kindsOf (tr.take n) ++ [t.1] := by
  rw [List.take_add_one, e]; simp [kindsOf]
theorem piecesT_snoc {tr : List Tri} {n : Nat} {t : Tri} (e : tr[n]? = some t) : piecesOf (tr.take (n + 1)) = piecesOf (tr.take n) ++ [t.2.1] := by
  rw [List.take_add_one, e]; simp [piecesOf]
def acP (tr : List Tri) (acc : List Nat) : List PySem.Str := acc.map fun i => (piecesOf tr).getD i PySem.Str.empty
theorem st_inv {ini : PySem.Str} {rn : Bool} (hr : rn = true ↔ (ini.length : Int) = 0) {tr : List Tri} (h : TrisOk tr) : ∀ n : Nat, n ≤ tr.length →
    (stOf rn tr n).1 = (kindsOf (tr.take n)).map normK ∧ (stOf rn tr n).2.1.map (fun (k : Nat) => (k : Int)) = struckOf (kindsOf (tr.take n)) ∧ (∀ i ∈ (stOf rn tr n).2.2, i < n) ∧ (piecesOf (tr.take n)).foldl (normStep ini) [] = acP tr (stOf rn tr n).2.2
  | 0, _ => ⟨rfl, rfl, fun _ q => (by cases q), rfl⟩
  | n + 1, hn => by
    obtain ⟨i1, i2, i3, i4⟩ := st_inv hr h n (by omega)
    have e : tr[n]? = some tr[n] := List.getElem?_eq_getElem (by omega)
    have ht := h _ (List.getElem_mem (l := tr) (n := n) (by omega))
    generalize tr[n] = t at e ht
    have es : stOf rn tr (n + 1) = stepS rn (stOf rn tr n) (normK t.1) := by
      unfold stOf
      rw [kindsT_snoc e, List.map_append, List.foldl_append]; rfl
    have hl : (kindsOf (tr.take n)).length = n := by simp [kindsOf]; omega
    have hl2 : (stOf rn tr n).1.length = n := by rw [i1, List.length_map, hl]
    have hk : (stOf rn tr n).1 ++ [normK t.1] = (kindsOf (tr.take (n + 1))).map normK := by rw [kindsT_snoc e, List.map_append, i1]; rfl
    have hg : (piecesOf tr).getD n PySem.Str.empty = t.2.1 := by rw [List.getD_eq_getElem?_getD, piecesOf, List.getElem?_map, e]; rfl
    rw [es]
    refine ⟨hk, ?_, ?_⟩
    · show ((stOf rn tr n).2.1 ++ strN ((stOf rn tr n).1 ++ [normK t.1]) (stOf rn tr n).1.length).map _ = _
      rw [List.map_append, i2, hk, hl2, strN_eq, kindsT_snoc e, struck_snoc, hl]
    · show (∀ i ∈ nStep rn ((stOf rn tr n).1 ++ [normK t.1]) (stOf rn tr n).2.2 (stOf rn tr n).1.length (normK t.1), i < n + 1) ∧ _ = acP tr (nStep rn ((stOf rn tr n).1 ++ [normK t.1]) (stOf rn tr n).2.2 (stOf rn tr n).1.length (normK t.1))
      rw [hk, hl2, piecesT_snoc e, List.foldl_append, i4]
      show _ ∧ normStep ini (acP tr (stOf rn tr n).2.2) t.2.1 = _
      have hupat : ∀ i < n, isUp ((kindsOf (tr.take (n + 1))).map normK) i = ((piecesOf tr).getD i PySem.Str.empty == PySem.Str.ofString "..") := fun i hi => by
        refine isUp_at h _ (by omega) ?_
        rw [List.getElem?_map, List.getElem?_map]
        unfold kindsOf
        rw [List.getElem?_map, List.getElem?_map, List.getElem?_take_of_lt (by omega)]
      generalize (stOf rn tr n).2.2 = acc at i3 ⊢
      generalize (kindsOf (tr.take (n + 1))).map normK = ks at hupat ⊢
      have snoc_ok : (∀ i ∈ acc ++ [n], i < n + 1) ∧ acP tr acc ++ [t.2.1] = acP tr (acc ++ [n]) := by
        refine ⟨fun i hi => ?_, by unfold acP; rw [List.map_append, List.map_singleton, hg]⟩
        rcases List.mem_append.mp hi with q | q
        · have := i3 i q; omega
        · simp at q; omega
      have same : (∀ i ∈ acc, i < n + 1) := fun i hi => by have := i3 i hi; omega
      obtain ⟨k, p, w⟩ := t
      replace ht : PieceOk k p w := ht
      dsimp only at snoc_ok ⊢
      cases ht with
      | down ec _ _ _ =>
        have hname : normStep ini (acP tr acc) p = acP tr acc ++ [p] := by
          refine ns_name ?_ ?_ ?_
          · show ((p.cps.size : Nat) : Int) ≠ 0
            rw [ec]; simp
          · refine beq_eq_false_iff_ne.mpr fun z => ?_
            have this : p.cps.toList.length = (PySem.Str.ofString ".").cps.toList.length := by rw [z]
            rw [ec, q_dot] at this
            simp at this
          · refine ne_str fun z => ?_
            have := congrArg List.length z
            rw [ec, show (PySem.Str.ofString "..").cps.toList.length = 2 from by decide +kernel] at this
            simp at this
        rw [hname]; exact snoc_ok
      | up ep _ =>
        rw [ep] at snoc_ok ⊢
        rw [nstep_up hr]
        have c1 : (acP tr acc).isEmpty = acc.isEmpty := by unfold acP; cases acc <;> rfl
        have c2 : (match (acP tr acc).getLast? with | some z => z == PySem.Str.ofString ".." | none => false) = (match acc.getLast? with | some i => isUp ks i | none => false) := by
          unfold acP
          rw [List.getLast?_map]
          cases hz : acc.getLast? with
          | none => rfl
          | some i =>
            show ((piecesOf tr).getD i PySem.Str.empty == PySem.Str.ofString "..") = isUp ks i
            rw [hupat i (i3 i (List.mem_of_getLast? hz))]
        rw [c1, c2]
        show (∀ i ∈ (if (rn && acc.isEmpty || (match acc.getLast? with | some i => isUp ks i | none => false)) = true then acc ++ [n] else acc.dropLast), i < n + 1) ∧ _ = acP tr (if (rn && acc.isEmpty || (match acc.getLast? with | some i => isUp ks i | none => false)) = true then acc ++ [n] else acc.dropLast)
        generalize (rn && acc.isEmpty || (match acc.getLast? with | some i => isUp ks i | none => false)) = b
        cases b with
        | true => exact snoc_ok
        | false =>
          refine ⟨fun i hi => same i (List.dropLast_subset _ hi), ?_⟩
          show (acP tr acc).dropLast = acP tr acc.dropLast
          unfold acP
          rw [List.map_dropLast]
      | flat ep _ => rw [nstep_skip ep]; exact ⟨same, rfl⟩
      | hid ep _ _ => rw [nstep_skip (.inl ep)]; exact ⟨same, rfl⟩
theorem normK_hid {l : List Kind} : ∀ k ∈ l.map normK, k ≠ .hid := by
  intro k hk
  obtain ⟨q, _, rfl⟩ := List.mem_map.mp hk
  cases q <;> simp [normK]
theorem kept_fold {ini : PySem.Str} {rn : Bool} (hr : rn = true ↔ (ini.length : Int) = 0) {tr : List Tri} (h : TrisOk tr) (h6 : tr.length ≤ 6) : (piecesOf tr).foldl (normStep ini) [] = keptOf rn tr := by
  obtain ⟨i1, i2, i3, i4⟩ := st_inv hr h tr.length (Nat.le_refl _)
  rw [List.take_length] at i1 i2 i4
  have ok : okS rn (stOf rn tr tr.length) = true := by
    unfold stOf
    refine chk_ok 6 _ _ (by cases rn; exact chk_false; exact chk_true) normK_hid ?_
    simp [kindsOf]; omega
  rw [i4]
  unfold keptOf keptIx
  show acP tr _ = acP tr _
  congr 1
  unfold okS at ok
  rw [← beq_iff_eq.mp ok]
  have hl : (stOf rn tr tr.length).1.length = tr.length := by rw [i1, List.length_map, kindsOf, List.length_map]
  rw [hl]
  refine List.filter_congr fun k hk => ?_
  have hk := List.mem_range.mp hk
  unfold keepP
  rw [← i2, isUp_at h _ hk (by rw [i1]), List.any_map]
  congr 1
  congr 1
  rw [List.contains_eq_any_beq]
  congr 1
  funext z
  show (k == z) = (((z : Nat) : Int) == ((k : Nat) : Int))
  by_cases e : k = z
  · subst e; simp
  · rw [beq_eq_false_iff_ne.mpr e, beq_eq_false_iff_ne.mpr (by omega)]
theorem piece_free {tr : List Tri} (h : TrisOk tr) : ∀ p ∈ piecesOf tr, 47 ∉ p.cps.toList := by
  intro p hp
  obtain ⟨t, ht, rfl⟩ := List.mem_map.mp hp
  have := h t ht
  obtain ⟨k, p, w⟩ := t
  replace this : PieceOk k p w := this
  show 47 ∉ p.cps.toList
  cases this with
  | down e c d _ => rw [e]; simp; omega
  | up e _ => rw [e]; decide +kernel
  | flat e _ => rcases e with e | e <;> rw [e] <;> decide +kernel
  | hid e _ _ => rw [e]; decide +kernel
/-- the plain law of normpath -/
theorem norm_law {front : PySem.Str} {k : Nat} {tr : List Tri} (hf : frontsL[k]? = some front) (h : TrisOk tr) (h6 : tr.length ≤ 6) :
    normOf (pathOf front (piecesOf tr)) = finalOf (rootOf front) (keptOf (rootOf front == PySem.Str.ofString "") tr) := by
  rw [norm_fold hf (piece_free h), kept_fold (ini := rootOf front) ?_ h h6]
  have hm := List.mem_of_getElem? hf
  simp only [frontsL, List.mem_cons, List.not_mem_nil, or_false] at hm
  rcases hm with rfl | rfl | rfl | rfl <;> decide +kernel
end
section
/-- how the law is to end -/
def EndB (g : Heap) (os : OsState) (r : Result) (s' : Shared) : Prop :=
  r = .ok (.ret (.bool true)) ∧ Kp g s'.heap ∧ s'.os = os ∧ AllBare s'.gens ∧ ∃ ps, s'.heap.get? 172 = some (tabObj ps)
theorem post_b {M : Model} {A : Around} {cd : Code} {s s₁ : Shared} {cl : PySem.Str → Option Addr} {mean : ExcName → Option Value} {args : List WData} (hT : TabsAt [(176, 172)] s₁.heap)
    (h : codeAny M A cd (EndB (ghostOf s₁.heap [(176, 172)]) s₁.os) s) : codeAny M A cd (GoodWG PySem.Challenge.rw_ik0121_01.row.toRowW.claim cl mean args s₁) s := by
  refine codeAny_mono h fun r s' hx => ?_
  obtain ⟨rfl, hk, hos, hb, ps, hps⟩ := hx
  obtain ⟨hcode, htab⟩ := hT (176, 172) (.head _)
  have keep : ∀ b o, b ≠ 172 → s₁.heap.get? b = some o → s'.heap.get? b = some o := fun b o hb e => hk b o (hideAll_get _ e (by simpa using hb))
  refine ⟨.inl ⟨.bool true, .bool true, [], rfl, fun _ => rfl, .bool true, ?_, fun _ => ⟨List.nodup_nil, fun _ h => nomatch h⟩⟩, ⟨fun b o e => ?_, fun b o e => ?_⟩, hos, hb⟩
  · with_unfolding_all rfl
  · by_cases hb : b = 172
    · subst hb
      rw [htab] at e
      cases e
      exact .inr (.inl ⟨(hcode.tab htab).isCodeTable, rfl, #[], ps, rfl, by rw [Array.empty_append]; exact hps⟩)
    · exact .inl (keep b o hb e)
  · by_cases hb : b = 172
    · subst hb; exact ⟨_, hps⟩
    · exact ⟨o, keep b o hb e⟩
end
section
theorem all.tw10130366669087276332 : True := trivial
theorem all.tw10175558820241607032 : True := trivial
theorem all.tw10223631046379920419 : True := trivial
theorem all.tw10252965763247687682 : True := trivial
theorem all.tw10297896857411331038 : True := trivial
theorem all.tw10312239555926195531 : True := trivial
theorem all.tw10316705163991428254 : True := trivial
theorem all.tw10323370424266482742 : True := trivial
theorem all.tw10331167273965929257 : True := trivial
theorem all.tw10658958392246782621 : True := trivial
theorem all.tw10705108097460422218 : True := trivial
theorem all.tw1088589479996732829 : True := trivial
theorem all.tw10942295900298899174 : True := trivial
theorem all.tw11051709101105081487 : True := trivial
theorem all.tw11091474679367250208 : True := trivial
theorem all.tw11120492362615346026 : True := trivial
theorem all.tw11139934685464864865 : True := trivial
theorem all.tw11169558830825096451 : True := trivial
theorem all.tw11242623580682996947 : True := trivial
theorem all.tw11273133048781285286 : True := trivial
theorem all.tw11448872678469705673 : True := trivial
theorem all.tw11536899603342547138 : True := trivial
theorem all.tw11573567738276184859 : True := trivial
theorem all.tw11693868651726016439 : True := trivial
theorem all.tw11736780227944870738 : True := trivial
theorem all.tw11744878476890876738 : True := trivial
theorem all.tw11798761498685784450 : True := trivial
theorem all.tw11928815663860865973 : True := trivial
theorem all.tw11951307492845570281 : True := trivial
theorem all.tw11961059351148515626 : True := trivial
theorem all.tw12180536567876656950 : True := trivial
theorem all.tw12320145003982579257 : True := trivial
theorem all.tw12381699962588209086 : True := trivial
theorem all.tw12405882331826627501 : True := trivial
theorem all.tw12428716410969305734 : True := trivial
theorem all.tw12447178028490564450 : True := trivial
theorem all.tw12512054102949984058 : True := trivial
theorem all.tw12540455083557110006 : True := trivial
theorem all.tw12563031120210811263 : True := trivial
theorem all.tw12580110897883145167 : True := trivial
theorem all.tw12588980310967471357 : True := trivial
theorem all.tw12784588452913835247 : True := trivial
theorem all.tw12803817524326497440 : True := trivial
theorem all.tw12836586787349170815 : True := trivial
theorem all.tw12899656968702213925 : True := trivial
theorem all.tw1291087626157917732 : True := trivial
theorem all.tw13057232943065969744 : True := trivial
theorem all.tw13098716769926991806 : True := trivial
theorem all.tw13100642850353945058 : True := trivial
theorem all.tw13113687655016186724 : True := trivial
theorem all.tw13115294276867197809 : True := trivial
theorem all.tw13172097402568735304 : True := trivial
theorem all.tw13185015893256467352 : True := trivial
theorem all.tw13211183136428257199 : True := trivial
theorem all.tw13215351417096909983 : True := trivial
theorem all.tw1323426155142419162 : True := trivial
theorem all.tw13270532327374429287 : True := trivial
theorem all.tw1327343985113690801 : True := trivial
theorem all.tw13283931332471535325 : True := trivial
theorem all.tw13338274903956020161 : True := trivial
theorem all.tw13358604424828501309 : True := trivial
theorem all.tw13370487131934946175 : True := trivial
theorem all.tw13423135486485445016 : True := trivial
theorem all.tw1352723322627576488 : True := trivial
theorem all.tw13596499734656872166 : True := trivial
theorem all.tw13635809943002144210 : True := trivial
theorem all.tw13900070722340429276 : True := trivial
theorem all.tw13938264285098176473 : True := trivial
theorem all.tw13960862262899742394 : True := trivial
theorem all.tw14037035779985357601 : True := trivial
theorem all.tw14099800850047386279 : True := trivial
theorem all.tw14124840197023413450 : True := trivial
theorem all.tw14204109254541194217 : True := trivial
theorem all.tw14242485706518956874 : True := trivial
theorem all.tw14288127532215574351 : True := trivial
theorem all.tw14331890051309236264 : True := trivial
theorem all.tw14523845485542788104 : True := trivial
theorem all.tw14647661154017913664 : True := trivial
theorem all.tw14701963045326077753 : True := trivial
theorem all.tw14712789833932970621 : True := trivial
theorem all.tw14721843458392949018 : True := trivial
theorem all.tw14822214895437561417 : True := trivial
theorem all.tw14832659646925512398 : True := trivial
theorem all.tw14839960761635216755 : True := trivial
theorem all.tw14848961488311411958 : True := trivial
theorem all.tw14883968960377749705 : True := trivial
theorem all.tw14953325984322379511 : True := trivial
theorem all.tw14954329004993159738 : True := trivial
theorem all.tw14970210157437980911 : True := trivial
theorem all.tw14984247238865676675 : True := trivial
theorem all.tw15014361466247048854 : True := trivial
theorem all.tw15059917014629022394 : True := trivial
theorem all.tw15081044799308232511 : True := trivial
theorem all.tw15105651507014581045 : True := trivial
theorem all.tw15145278206449419223 : True := trivial
theorem all.tw15158558636265767147 : True := trivial
theorem all.tw15198316981687975854 : True := trivial
theorem all.tw15211999164249328051 : True := trivial
theorem all.tw15242674970999812785 : True := trivial
theorem all.tw15248031165874397040 : True := trivial
theorem all.tw15284455985751111415 : True := trivial
theorem all.tw15298119835317213847 : True := trivial
theorem all.tw15593540169343849659 : True := trivial
theorem all.tw15618092478124507917 : True := trivial
theorem all.tw15670805634923389295 : True := trivial
theorem all.tw15766547542915688834 : True := trivial
theorem all.tw15785283845542414419 : True := trivial
theorem all.tw15849158762323818722 : True := trivial
theorem all.tw1585303152785439333 : True := trivial
theorem all.tw15888951733556516598 : True := trivial
theorem all.tw15926794790568321017 : True := trivial
theorem all.tw15968848678202421516 : True := trivial
theorem all.tw16084742875079473383 : True := trivial
theorem all.tw16133948047621740907 : True := trivial
theorem all.tw16339503202031470875 : True := trivial
theorem all.tw1639981616727947583 : True := trivial
theorem all.tw16457593375850944212 : True := trivial
theorem all.tw16573077582942348641 : True := trivial
theorem all.tw16576222957257545530 : True := trivial
theorem all.tw16644902639655322133 : True := trivial
theorem all.tw16694476904998839863 : True := trivial
theorem all.tw16727532447511142511 : True := trivial
theorem all.tw16739844878667351699 : True := trivial
theorem all.tw16747629065405408630 : True := trivial
theorem all.tw16779862611959906862 : True := trivial
theorem all.tw16838893715234930207 : True := trivial
theorem all.tw1694266930405009974 : True := trivial
theorem all.tw17103938086974590038 : True := trivial
theorem all.tw1714017278464437648 : True := trivial
theorem all.tw17256110906764061725 : True := trivial
theorem all.tw17260577670642009320 : True := trivial
theorem all.tw17314943208353570444 : True := trivial
theorem all.tw17360653242477243975 : True := trivial
theorem all.tw17368901067910498557 : True := trivial
theorem all.tw17390990283371976427 : True := trivial
theorem all.tw17447734377096445370 : True := trivial
theorem all.tw17469454598705902373 : True := trivial
theorem all.tw17523770736405063376 : True := trivial
theorem all.tw1758426702102747128 : True := trivial
theorem all.tw17590515576409907731 : True := trivial
theorem all.tw1768962640154500726 : True := trivial
theorem all.tw17740860788197283744 : True := trivial
theorem all.tw17772726858579744284 : True := trivial
theorem all.tw17800948086707717751 : True := trivial
theorem all.tw17846619120630023766 : True := trivial
theorem all.tw18003279642469066050 : True := trivial
theorem all.tw18048707754611488870 : True := trivial
theorem all.tw18068929663759586442 : True := trivial
theorem all.tw18074533905802821072 : True := trivial
theorem all.tw18111398738982083773 : True := trivial
theorem all.tw18124843273605240230 : True := trivial
theorem all.tw18369841484834026144 : True := trivial
theorem all.tw18440353960458814819 : True := trivial
theorem all.tw1973140245219671491 : True := trivial
theorem all.tw2000609977361463965 : True := trivial
theorem all.tw200952908838891698 : True := trivial
theorem all.tw2013830700403712203 : True := trivial
theorem all.tw2235618017368140517 : True := trivial
theorem all.tw2286941943676669977 : True := trivial
theorem all.tw2327203993564212451 : True := trivial
theorem all.tw2381709644828723065 : True := trivial
theorem all.tw2412950195513398651 : True := trivial
theorem all.tw2479237469882504799 : True := trivial
theorem all.tw2496985677507960046 : True := trivial
theorem all.tw2507984589230120672 : True := trivial
theorem all.tw2531900633515307401 : True := trivial
theorem all.tw2543849888741498996 : True := trivial
theorem all.tw2627396739876165418 : True := trivial
theorem all.tw2684394654484992079 : True := trivial
theorem all.tw2690882624139800689 : True := trivial
theorem all.tw282994513109133150 : True := trivial
theorem all.tw2843221860408074035 : True := trivial
theorem all.tw2863937026978368667 : True := trivial
theorem all.tw2891402810631288588 : True := trivial
theorem all.tw2997595627926355555 : True := trivial
theorem all.tw3020832510069240704 : True := trivial
theorem all.tw306535358961565008 : True := trivial
theorem all.tw3140866203998610647 : True := trivial
theorem all.tw3153289441736887298 : True := trivial
theorem all.tw3165661143165402847 : True := trivial
theorem all.tw3222988062523167153 : True := trivial
theorem all.tw3239841934065285509 : True := trivial
theorem all.tw3262146214845492323 : True := trivial
theorem all.tw3282140407130366615 : True := trivial
theorem all.tw3357559941945735724 : True := trivial
theorem all.tw3448833343719912132 : True := trivial
theorem all.tw3586251380002802234 : True := trivial
theorem all.tw3710633653253449935 : True := trivial
theorem all.tw3804168243799541492 : True := trivial
theorem all.tw3832104259330054055 : True := trivial
theorem all.tw3835962111665225711 : True := trivial
theorem all.tw397829171339713761 : True := trivial
theorem all.tw4038917290506115165 : True := trivial
theorem all.tw4244794441018138637 : True := trivial
theorem all.tw4258606087713283508 : True := trivial
theorem all.tw4302931102428780990 : True := trivial
theorem all.tw4515135292898193881 : True := trivial
theorem all.tw4561188658046838414 : True := trivial
theorem all.tw4631590275013254457 : True := trivial
theorem all.tw4634341240264483431 : True := trivial
theorem all.tw4645612490112672357 : True := trivial
theorem all.tw4700629318525561332 : True := trivial
theorem all.tw475742066537363858 : True := trivial
theorem all.tw4786962568827011835 : True := trivial
theorem all.tw4814944892674192296 : True := trivial
theorem all.tw4818641064637329869 : True := trivial
theorem all.tw4831860214510110302 : True := trivial
theorem all.tw4835796080096327916 : True := trivial
theorem all.tw4899250830898163692 : True := trivial
theorem all.tw4907521953547317329 : True := trivial
theorem all.tw4942582282674782268 : True := trivial
theorem all.tw5002070824922625533 : True := trivial
theorem all.tw5007245332940595331 : True := trivial
theorem all.tw5044639097624668846 : True := trivial
theorem all.tw5103420120806187630 : True := trivial
theorem all.tw5110890200219795554 : True := trivial
theorem all.tw5187159431361770467 : True := trivial
theorem all.tw5191467471856622273 : True := trivial
theorem all.tw5247617807198155932 : True := trivial
theorem all.tw5292727600074520659 : True := trivial
theorem all.tw5362506446432344171 : True := trivial
theorem all.tw549974085012918235 : True := trivial
theorem all.tw5555718599999811639 : True := trivial
theorem all.tw5615151462926910227 : True := trivial
theorem all.tw5615934883764171431 : True := trivial
theorem all.tw5649657749835318636 : True := trivial
theorem all.tw5718967094426423161 : True := trivial
theorem all.tw5747321363474778693 : True := trivial
theorem all.tw5750698986362780913 : True := trivial
theorem all.tw5815207240830897808 : True := trivial
theorem all.tw5854907428364158380 : True := trivial
theorem all.tw5888963250497168203 : True := trivial
theorem all.tw5919330448614353153 : True := trivial
theorem all.tw5927061715728957476 : True := trivial
theorem all.tw596421839371371174 : True := trivial
theorem all.tw6189357195160471388 : True := trivial
theorem all.tw62474882234398736 : True := trivial
theorem all.tw6405578165278201989 : True := trivial
theorem all.tw6575127235232548739 : True := trivial
theorem all.tw6635522753158126860 : True := trivial
theorem all.tw6648324312943424196 : True := trivial
theorem all.tw6836359950869179439 : True := trivial
theorem all.tw6853843781069519680 : True := trivial
theorem all.tw6900727353157573822 : True := trivial
theorem all.tw6946980451890315270 : True := trivial
theorem all.tw7062720368445256129 : True := trivial
theorem all.tw7091565871241343341 : True := trivial
theorem all.tw7159026401054745538 : True := trivial
theorem all.tw7193976414177721783 : True := trivial
theorem all.tw7205895575636617080 : True := trivial
theorem all.tw7234240908195146063 : True := trivial
theorem all.tw7317653850160689691 : True := trivial
theorem all.tw7334766253713545606 : True := trivial
theorem all.tw7347661181068853997 : True := trivial
theorem all.tw7546461858588002845 : True := trivial
theorem all.tw7619113539625694710 : True := trivial
theorem all.tw7654578318931278690 : True := trivial
theorem all.tw7657994479303150727 : True := trivial
theorem all.tw7686242042924871683 : True := trivial
theorem all.tw7688717403107198458 : True := trivial
theorem all.tw7785168158365692624 : True := trivial
theorem all.tw7815568295939220261 : True := trivial
theorem all.tw7824222052329908659 : True := trivial
theorem all.tw7855422573467142813 : True := trivial
theorem all.tw7888970235439995493 : True := trivial
theorem all.tw7916160540357663616 : True := trivial
theorem all.tw7957553974722075628 : True := trivial
theorem all.tw8108845850537571710 : True := trivial
theorem all.tw8225692313971065461 : True := trivial
theorem all.tw8322597137079436277 : True := trivial
theorem all.tw8354469831343087990 : True := trivial
theorem all.tw8543756510809834644 : True := trivial
theorem all.tw8670540905479144303 : True := trivial
theorem all.tw8678582069086723682 : True := trivial
theorem all.tw8711421783369662179 : True := trivial
theorem all.tw8857914048673524507 : True := trivial
theorem all.tw886047313143998090 : True := trivial
theorem all.tw8901488873923373992 : True := trivial
theorem all.tw8909644736058714228 : True := trivial
theorem all.tw8968355716326206664 : True := trivial
theorem all.tw9022205114861038860 : True := trivial
theorem all.tw9081986644780270648 : True := trivial
theorem all.tw9099692492981059535 : True := trivial
theorem all.tw9133701021851612117 : True := trivial
theorem all.tw9163178095015654352 : True := trivial
theorem all.tw9177752736887620958 : True := trivial
theorem all.tw9285670843845949155 : True := trivial
theorem all.tw9305783451064888827 : True := trivial
theorem all.tw9351078540693612215 : True := trivial
theorem all.tw9448091282758670523 : True := trivial
theorem all.tw9496632788025766839 : True := trivial
theorem all.tw9600454056292803967 : True := trivial
theorem all.tw9642480246203547912 : True := trivial
theorem all.tw9743695723290020096 : True := trivial
theorem all.tw9764797518255496921 : True := trivial
theorem all.tw9833964599435250050 : True := trivial
theorem all.tw9844501786611167853 : True := trivial
theorem all.tw9900696922168193843 : True := trivial
theorem all.tw9976896545867408452 : True := trivial
end
example : True ∧ True := by
  w_top off
  walk1 <;> trivial
section
local macro_rules | `(tactic| walk_at "subscriptTail") => `(tactic| refine stop_of ?_)
def StrAt (r : PySem.Str) (s : Shared) (v : Value) (s' : Shared) : Prop := ∃ t tk, v = .str r t ∧ s' = { s with toks := tk }
theorem str_at {r r2 : PySem.Str} {s : Shared} {t : Tok} {tk : Nat} (e : r2 = r) : StrAt r s (.str r2 t) { s with toks := tk } := e ▸ ⟨t, tk, rfl, rfl⟩
theorem join_str {M : Model} {A : Around} {E : Value → Shared → Prop} {s : Shared} {m : Sem Value} {Q : Value → Shared → Prop} (r : PySem.Str) (h : wpAny M A m (StrAt r s) nope s) (k : ∀ t tk, Q (.str r t) { s with toks := tk }) : wpAny M A m Q E s :=
  wpAny_mono h (fun _ _ ⟨t, tk, e1, e2⟩ => e1 ▸ e2 ▸ k t tk) fun _ _ x => x.elim
theorem root_yes {f : PySem.Str} (h : (f == PySem.Str.ofString "///") = true) : PySem.Str.ofString "/" = rootOf f := by unfold rootOf; rw [if_pos h]
theorem root_no {f : PySem.Str} (h : (f == PySem.Str.ofString "///") = false) : f = rootOf f := by unfold rootOf; rw [if_neg (by rw [h]; decide)]
local macro_rules | `(tactic| walk_at "call builtin:list.append") => `(tactic| (k_dflt ((with_reducible rename Fr _ _ _ _ => F'); (with_reducible rename News _ _ _ _ => N'); refine' append_lst F' N' ?kU ?kz ?_; (case kU => k_upd); (case kz => walk_at "m.len"); intro h9 F9 N9; clear F' N')))
local macro_rules | `(tactic| walk_at "call builtin:len") => `(tactic| (k_dflt ((with_reducible rename News _ _ _ _ => N'); refine' len_lst N' ?km ?kz ?_; (case km => k_mem); (case kz => walk_at "m.len"); intro t9 k9)))
local macro_rules | `(tactic| walk_at "subscriptTail") => `(tactic| ((with_reducible show wpAny _ _ (subscriptTail _ _ (Value.ref _) (Value.ref _)) _ _ _); k_dflt ((with_reducible rename Fr _ _ _ _ => F'); (with_reducible rename News _ _ _ _ => N'); refine' slice_from F' N' ?km ?kz ?_; (case km => k_mem); (case kz => walk_at "m.len"); intro D9 h9 F9 N9 A9; clear F' N'; simp only [GnLt, and_true] at A9)))
local macro_rules | `(tactic| walk_at "call builtin:str.join") => `(tactic| (k_dflt ((with_reducible rename News _ _ _ _ => N'); refine' join_lst N' ?km ?kS ?kz ?_; (case km => k_mem); (case kS => first | assumption | exact strs_drop (by assumption) _); (case kz => first | assumption | exact join_room (by assumption) (by omega) _); intro y9 t9 k9 e9; (try (have hy9 := join_fit3 (by decide +kernel) e9)))))
local macro_rules | `(tactic| walk_at "call builtin:list.extend") => `(tactic| (k_dflt ((with_reducible rename Fr _ _ _ _ => F'); (with_reducible rename News _ _ _ _ => N'); refine' extend_lst F' N' ?kb ?kne ?kU ?kz ?_; (case kb => k_mem); (case kne => exact List.cons_ne_nil _ _); (case kU => k_upd); (case kz => (simp only [List.length_cons, List.length_nil]; omega)); intro h9 F9 N9; clear F' N')))
local macro_rules | `(tactic| walk_at "exec If") => `(tactic| refine wpAny_If ?_)
local macro_rules
  | `(tactic| walk_at "eval IfExp") => `(tactic| refine stop_of ?_)
  | `(tactic| walk_at "exec For Name Subscript cons nil") => `(tactic| refine stop_of ?_)
  | `(tactic| walk_at "binaryOp Add ref ref") => `(tactic| refine stop_of ?_)
  | `(tactic| walk_at "call ref") => `(tactic| refine stop_of ?_)
  | `(tactic| walk_at "exec For Name Call cons nil") => `(tactic| refine stop_of ?_)
  | `(tactic| walk_at "exec Assign cons ListComp") => `(tactic| refine stop_of ?_)
  | `(tactic| walk_at "CompSrcT") => `(tactic| refine stop_of ?_)
local macro_rules | `(tactic| walk_at "compareOp NotIn int ref") => `(tactic| (k_dflt ((with_reducible rename News _ _ _ _ => N'); refine' notin_lst N' ?km ?ki ?_; (case km => k_mem); (case ki => assumption))))
local macro_rules | `(tactic| walk_at "subscriptTail Name Name ref int") => `(tactic| (k_dflt ((with_reducible rename News _ _ _ _ => N'); refine' item_strs (xs := piecesOf _) N' ?km ?kS ?ka ?kb ?kz ?_ ?khs; (case km => k_mem); (case kS => assumption); (case ka => omega); (case kb => omega); (case kz => omega); (case khs => with_unfolding_all rfl); intro y9 t9 e9)))
theorem at_view {q q' : Program} {l : List PySem.Str} {vs : List (PySem.Str × WData)} {YP : World → Heap → Prop} {r : RowW} {d : DefRec} {kwd : List (PySem.Str × PySem.Expr)} {run : Value → List Value → Sem Value}
    (e : q = q') (h : WalkO q' l (XL q' vs) YP r d kwd run) : WalkO q l (XL q vs) YP r d kwd run := e ▸ h
set_option Elab.async true in
theorem all : PySem.Challenge.rw_ik0121_01.Holds := by
  w_on
  o_law
  o_head (kmHook K [2,3,110,111,117,118,124,125,131,132,138,139,145,146,150,151,157,158,160,169,170,176,177,183,184,190,191,197,198,202,203] (fun _ => by kernel_rfl) [172])
  case hw => w_witness2
  refine at_view (q' := vw) (by kernel_rfl) ?_
  k_fill
  intro W s₀ s₁ mg mb G Y fa o pm cd doc dV kV ho hd hcd hD hmg hg args vals as hpre hlay hrd hwl hlo
  have KX := km_in_of Y
  km_tabs Y
  have X := (Ground.X G).1
  have V := (Ground.X G).2
  refine Ground.open G ?_
  intro T B D TE TW
  try (refine guard_noD D (by decide +kernel) ?_; clear D)
  km_lay T hmg ho hd cd
  clear hmg
  wrow_args hpre hlay hrd hwl hlo
  first | refine callC_kw (enter_call ?_) | refine enter_call ?_
  w_top on
  refine post_b hT9 ?_
  w_call any ho hd hcd hD T F
  clear hd
  kn_ghosts F T
  k_drop
  all_goals (try k_fold)
  rename_i zs hs hlay0 hLay hr hl2 aa ab la lv ac hL ra w1 r0 hI hr2 hcond hcond2 hh tk1 o3 o2 o1 dd3 dd2 dd1 X0 X' T' K' F' N' l0
  k_steps
  unfold Stop
  with_reducible rename News _ _ _ _ => N'
  refine' item_strs (xs := frontsL) N' ?km ?kS ?ka ?kb ?kz ?_ ?khs
  case km => k_mem
  case kS => exact .cons _ _ (.cons _ _ (.cons _ _ (.cons _ _ .nil)))
  case ka => exact Int.fmod_nonneg_of_pos _ (by decide)
  case kb => exact Int.fmod_lt_of_pos _ (by decide)
  case kz => decide
  case khs => with_unfolding_all rfl
  intro front9 tf9 ef9
  obtain ⟨lf9, lr9⟩ := fronts_le ef9
  k_steps
  unfold Stop
  refine join_str (rootOf front9) ?_ ?_
  · with_reducible refine IfExp_ ?_
    k_steps
    · exact str_at (root_yes (by assumption))
    · exact str_at (root_no (by assumption))
  intro troot tkroot
  k_steps
  unfold Stop
  rename_i D' ws' _ hI' hC' hL' l1a _ _ _ l1b _ _ _ _ _ oR dR tpath _ lpa _ lP _ l1c _ oP dP lW _ l1d _ lS _ l1e _ oS F1 N1 dS
  refine fr_tail F1 fun M0 hM F0 => ?_
  clear F1
  refine wpAny_mono (E := nope) (for_listB (h₀ := ghostOf s₁.heap [(176, 172)]) (LawJ (fun y => if y = PySem.Str.ofString "writings" then some (Value.ref lW) else M0 y) lS lW lP (s₁.heap.objs.size + 1 + 1 + 1) (s₁.heap.objs.size + 1 + 1) (s₁.heap.objs.size + 1) oS oP oR front9) rfl rfl rfl ?hb ?hiter ?hmem ?turn ?done) (fun _ _ x => x) (fun _ _ x => x.elim)
  case hb => intro z hz; have hz2 : z ∈ (#[] : Array GenState) := hg ▸ hz; simp at hz2
  case hmem =>
    rintro vs l n i m news ⟨kp, st, en, wr, pc, xx, tp, vp, vw, vst, np, nw, nst, ps, tr, ns, rfl, rfl, _⟩
    exact .head _
  case hiter =>
    (try clear hr2); (try clear r0); (try clear w1); (try clear ra); (try clear hL); (try clear hD); (try clear hl2); (try clear hr); (try clear hLay); (try clear hlay0); (try clear hs); (try clear TW); (try clear TE); (try clear B); (try clear D); (try clear V); (try clear X); (try clear KX); (try clear hcd); (try clear ho); (try clear Y); (try clear G); (try clear hT8); (try clear hT9); (try clear T)
    subst hM
    k_steps
    unfold Stop
    with_reducible rename Fr _ _ _ _ => F1
    with_reducible rename News _ _ _ _ => N2
    refine add_lst F1 N2 (by k_mem) (by k_mem) (by rw [hI'.length]; simp only [List.length_take, List.length_cons, List.length_nil]; omega) ?_
    intro D9 h9 F9 N9 A9
    clear F1 N2
    k_steps
    unfold Stop
    with_reducible rename Fr _ _ _ _ => F1
    with_reducible rename News _ _ _ _ => N2
    refine slice_to (j := 6) F1 N2 (by k_mem) (by rw [List.length_append, hI'.length]; simp only [List.length_take, List.length_cons, List.length_nil]; omega) ?_
    intro D8 h8 F8 N8 A8
    refine law_start_it (tp := tpath) F8 N8 A8 ((hI'.append (.cons _ _ (.cons _ _ (.cons _ _ (.cons _ _ .nil))))).take 6) (by rw [List.length_take]; exact Nat.min_le_left _ _) rfl ?_
    intro p hp
    repeat' (rcases List.mem_cons.mp hp with rfl | hp)
    all_goals first | k_mem | cases hp
  case turn =>
    have T0 := top_ghost T'
    have hgn : (ghostOf s₁.heap [(176, 172)]).get? 172 = none := hideAll_none _ (.head _)
    rintro vs l n i v m₁ news₁ I h9 tk9 gens hv ⟨kp, st, en, wr, pc, xx, tp, vp, vw, vst, np, nw, nst, ps, tr, ns, rfl, rfl, hIs, h6, hP, hWr, hSt, hTr, htl, hgood, hne⟩ hbare F9 N9 neI
    obtain ⟨xv, txv, rfl⟩ : ∃ x t, v = .int x t := ints_item hIs i v hv
    have hi6 : i < 6 := Nat.lt_of_lt_of_le (List.getElem?_eq_some_iff.mp hv).1 h6
    have hpl := path_len (front := front9) hTr
    have hvp : vp.length = tr.length := by rw [← are_len hP]; exact List.length_map ..
    have hvw : vw.length = tr.length := by rw [← are_len hWr]; exact List.length_map ..
    have hv1 : vp.length ≤ 6 := by omega
    have hv2 : vw.length ≤ 6 := by omega
    generalize hpth : pathOf front9 (piecesOf tr) = pth at hpl F9
    have hpl2 : pth.length ≤ 40 := by omega
    replace F9 : Fr (ghostOf s₁.heap [(176, 172)]) s₁.heap.objs.size h9 _ := F9
    replace N9 : News (ghostOf s₁.heap [(176, 172)]) s₁.heap.objs.size h9 _ := N9
    rw [lm_x] at F9
    unfold lawMap at F9
    simp only [GnLt, and_true] at neI
    have hne0 := hne
    simp only [List.mem_cons, List.not_mem_nil, or_false, forall_eq_or_imp, forall_eq] at hne
    have hL0 : 172 < s₁.heap.objs.size := l0
    clear N1
    (try clear hr2); (try clear r0); (try clear w1); (try clear ra); (try clear hL); (try clear hD); (try clear hl2); (try clear hr); (try clear hLay); (try clear hlay0); (try clear hs); (try clear TW); (try clear TE); (try clear B); (try clear D); (try clear V); (try clear X); (try clear KX); (try clear hcd); (try clear ho); (try clear Y); (try clear G); (try clear hT8); (try clear hT9); (try clear T)
    clear hM
    refine opq1 ?_
    intro Qn hqn
    k_steps
    unfold Stop
    with_reducible rename Fr _ _ _ _ => F1
    with_reducible rename News _ _ _ _ => N1
    refine wpAny_call (piece_spec (ghostOf s₁.heap [(176, 172)]) X' T0 T' F1.keep hgn (Room.less (room_law _) (by decide)) ⟨ps, N1.get (by k_mem), hgood⟩ ?_)
    intro h8 tk8 DT kd pc8 wr8 t81 t82 k8 g8 M8 hPc
    obtain ⟨ps2, hps2, hgood2⟩ := g8
    have F8 := fr_kx F1 hgn (Nat.ne_of_gt hL0) k8
    have N8 := news_kx (pre := [_, _, _, _, _, _, _, _]) N1 (fun q hq => by
      simp only [List.mem_cons, List.not_mem_nil, or_false] at hq
      rcases hq with rfl | rfl | rfl | rfl | rfl | rfl | rfl | rfl <;> (show @Ne Nat _ _; dsimp only; omega)) k8 hps2
    have hDT : h8.get? DT = some { cls := .type "tuple", data := .seq #[.str pc8 t81, .str wr8 t82] } := (M8 _ (.head _)).1
    clear F1 N1 M8 k8 hps2
    (try dsimp only [List.cons_append, List.nil_append] at N8)
    obtain ⟨hwl, hpcl⟩ : wr8.length ≤ 70 ∧ pc8.length ≤ 3 := writ_len (t := (kd, pc8, wr8)) hPc
    dsimp only
    clear F0
    refine assign_two rfl rfl rfl rfl F8 N8 ⟨_, hDT, rfl, _, rfl⟩ ?_
    intro h8b tk8b F9 N9
    clear F8 N8 hDT
    k_steps
    unfold Stop
    with_reducible rename Fr _ _ _ _ => F1
    with_reducible rename News _ _ _ _ => N1
    have ee : ((vp ++ [Value.str pc8 t81]).length : Int) - 1 = (i : Int) := by
      simp only [List.length_append, List.length_cons, List.length_nil]; omega
    refine fr_end F1 ee fun te F3 => ?_
    clear F1
    have hTr2 := tris_snoc hTr hPc
    have hW2 : StrsAre (vw ++ [Value.str wr8 t82]) (writsOf (tr ++ [(kd, pc8, wr8)])) := by rw [writs_snoc]; exact strs_add hWr
    have hP2 : StrsAre (vp ++ [Value.str pc8 t81]) (piecesOf (tr ++ [(kd, pc8, wr8)])) := by rw [pieces_snoc]; exact strs_add hP
    have hl2 : (tr ++ [(kd, pc8, wr8)]).length = i + 1 := by simp only [List.length_append, List.length_cons, List.length_nil]; omega
    generalize htr2 : tr ++ [(kd, pc8, wr8)] = tr2 at hTr2 hW2 hP2 hl2
    refine fr_name F3 fun M1 hM1 F2 => ?_
    clear F3
    refine in_split N1 fun pre po hpre hpo N2 => ?_
    clear N1 F9 N9
    refine for_rangeB (h₀ := ghostOf s₁.heap [(176, 172)]) (i + 1) (InJ M1 pre lS po (struckOf (kindsOf tr)) (kindsOf tr2) i) rfl rfl rfl hbare (by omega) ?hiter2 ?turn2 ?done2
    case hiter2 =>
      subst hM1 hpre hpo
      k_steps
      rename_i hr5 F5 N5 _
      exact range_it F5 N5 (by omega) hr5 (in_start hSt)
    case turn2 =>
      rintro j tj m₁ news₁ I2 h7 tk7 gens7 hj ⟨u, vst2, nst2, rfl, rfl, hI2⟩ hb7 F7 N7 ne7
      replace F7 := fr_once F7
      subst hM1 hpre hpo
      replace F7 : Fr (ghostOf s₁.heap [(176, 172)]) s₁.heap.objs.size h7 _ := F7
      replace N7 : News (ghostOf s₁.heap [(176, 172)]) s₁.heap.objs.size h7 _ := N7
      clear F2 N2
      dsimp only [List.cons_append, List.nil_append] at N7
      have ne8 := ne7
      dsimp only [List.cons_append, List.nil_append] at ne8
      simp only [GnLt, and_true] at ne8
      have hsl := struck_len (ks := kindsOf tr) (by rw [show (kindsOf tr).length = tr.length from List.length_map ..]; omega)
      have hskl := strikes_len (kindsOf tr2) i j
      have hvst : vst2.length ≤ 100 := by
        have := hI2.length
        rw [List.length_append] at this
        omega
      refine opq1 ?_
      intro Qm hqm
      k_steps
      unfold Stop
      with_reducible rename Fr _ _ _ _ => F1
      with_reducible rename News _ _ _ _ => N1
      rename _ = PySem.Str.join _ _ => ey
      obtain ⟨hyl, hyl2⟩ := join_drop_len hTr2 (by omega) j ey
      refine wpAny_call (check_spec (in_fr X' F1) (top_fr T0 F1) (Room.less (room_law _) (by decide)) hyl hyl2 hb7 ?_)
      intro h5 tk5 gens5 k5 b5
      have F5 := fr_kp F1 k5
      have N5 := news_kp N1 k5
      clear F1 N1
      rw [check_drop hTr2 j ey]
      clear ey hyl hyl2
      (try dsimp only)
      k_steps
      · with_reducible rename Fr _ _ _ _ => F1
        with_reducible rename News _ _ _ _ => N1
        exact hqm _ _ (turn_b b5 F1 (news_tl (news_tl N1)) ne7 (in_strike hI2 (by assumption)))
      · with_reducible rename Fr _ _ _ _ => F1
        with_reducible rename News _ _ _ _ => N1
        exact hqm _ _ (turn_b b5 F1 (news_tl N1) ne7 (in_next hI2 (by assumption)))
    case done2 =>
      rintro m₁ news₁ h7 tk7 gens7 ⟨u, vst2, nst2, rfl, rfl, hI2⟩ hb7 F7 N7
      subst hM1 hpre hpo
      replace F7 : Fr (ghostOf s₁.heap [(176, 172)]) s₁.heap.objs.size h7 _ := F7
      replace N7 : News (ghostOf s₁.heap [(176, 172)]) s₁.heap.objs.size h7 _ := N7
      clear F2 N2
      dsimp only [List.cons_append, List.nil_append] at N7
      have hI3 : IntsAre vst2 (struckOf (kindsOf tr2)) := by
        rw [← htr2, kinds_snoc, struck_snoc, ← kinds_snoc tr kd pc8 wr8, htr2]
        rw [show (kindsOf tr).length = i from by rw [← htl]; exact List.length_map ..]
        exact hI2
      dsimp only
      k_steps
      unfold Stop
      with_reducible rename Fr _ _ _ _ => F1
      with_reducible rename News _ _ _ _ => N1
      refine LCt.Assign_ListComp_T (F₀ := F1) (by rfl) (by with_unfolding_all rfl) (by with_unfolding_all rfl) (by decide) (by rfl) (by decide) (by rfl) (by rfl) (by rfl) ?_
      k_steps
      unfold Stop
      rename_i F4 N4 h4 tk4 t4 u4 v4 hr5 F5 N5 _
      clear F4 N4
      have hsz5 : ((i : Int) + 1) = ((i + 1 : Nat) : Int) := by omega
      refine LCt.CompSrcT.range (n := i + 1) rfl F5 N5 hr5 (by rw [hsz5]; exact range_small _ (by omega)) (by rw [hsz5]; exact range_size _) (by rw [sizeLine_eq]; omega) ?_
      intro g5
      clear hr5 F5 N5
      refine rest_ind (fun j ys => StrsAre ys (keptTo (rootOf front9 == PySem.Str.ofString "") tr2 j)) (i + 1) .nil ?fin5 ?step5
      case step5 =>
        intro j ys k hj hinv ih
        refine LCt.CompRestT.succ ?_
        intro v I5 oI5 C5 oC5 D5 m5 h5 tk5 E5 hP5 hNs hm5 F5 N5 off5 ne5
        obtain ⟨tv, rfl⟩ := hP5
        have hpl3 : (piecesOf tr2).length = i + 1 := by rw [← hl2]; exact List.length_map ..
        k_steps
        · exact LCg.CompEnd.intro (by assumption) (by assumption) _ (fun p hp => hp) off5 trivial (ih _ (kept_no1 hinv (by assumption)))
        · exact LCg.CompEnd.intro (by assumption) (by assumption) _ (fun p hp => hp) off5 trivial (ih _ (kept_yes hinv (by assumption) (by assumption) (.inl (by assumption))))
        · rename_i e9a ha _ _ e9b
          exact LCg.CompEnd.intro (by assumption) (by assumption) _ (fun p hp => hp) off5 trivial (ih _ (kept_yes2 hinv (by assumption) e9a ha e9b))
        · exact LCg.CompEnd.intro (by assumption) (by assumption) _ (fun p hp => hp) off5 trivial (ih _ (kept_no2 hinv (by assumption) (by assumption) (by assumption)))
      case fin5 =>
        intro ys hys
        intro D6 hp6 tk6 F6 N6 off6
        dsimp only
        k_steps
        unfold Stop
        with_reducible rename Fr _ _ _ _ => F1
        with_reducible rename News _ _ _ _ => N1
        have hpath : pth ++ PySem.Str.ofString "/" ++ pc8 = pathOf front9 (piecesOf tr2) := by rw [← htr2, pieces_snoc, path_snoc, hpth]
        refine wpAny_call (normpath_spec (in_fr X' F1) (top_fr T0 F1) (Room.less (room_law _) (by decide)) (by rw [app_len, app_len, show (PySem.Str.ofString "/").length = 1 from by decide +kernel]; omega) ?_)
        intro h5 tk5 t5 k5
        have F5 := fr_kp F1 k5
        have N5 := news_kp N1 k5
        clear F1 N1 k5
        have hN := norm_law ef9 hTr2 (by omega)
        rw [← hpath, ← kept_to, hl2] at hN
        obtain ⟨hk1, hk2⟩ := kept_len (rn := rootOf front9 == PySem.Str.ofString "") (j := i + 1) hTr2
        generalize normOf (pth ++ PySem.Str.ofString "/" ++ pc8) = nres at hN ⊢
        generalize keptTo (rootOf front9 == PySem.Str.ofString "") tr2 (i + 1) = kpt at hN hys hk1 hk2
        have hkr : (kpt.map (·.length)).sum + kpt.length * (PySem.Str.ofString "/").length ≤ 16777216 := by rw [show (PySem.Str.ofString "/").length = 1 from by decide +kernel]; omega
        have hjl := join_fit3 (sep := PySem.Str.ofString "/") (ts := kpt) (by decide +kernel) rfl
        dsimp only [LCg.lst] at N5
        (try dsimp only)
        k_steps
        all_goals first
          | exact no_bne (final_text (by assumption) (by assumption) hN) (by assumption)
          | exact no_bne (final_dot (by assumption) (by assumption) hN) (by assumption)
          | (with_reducible rename Fr _ _ _ _ => F1
             with_reducible rename News _ _ _ _ => N1
             exact hqn _ _ (law_next hb7 F1 (news_tl N1) hpath hIs h6 hP2 hW2 hI3 hTr2 hl2 hgood2 hne0 neI.1))
  case done =>
    have T0 := top_ghost T'
    clear F0
    rintro vs l n m₁ news₁ h9 tk9 gens ⟨kp, st, en, wr, pc, xx, tp, vp, vw, vst, np, nw, nst, ps, tr, ns, rfl, rfl, hIs, h6, hP, hWr, hSt, hTr, htl, hgood, hne⟩ hbare F9 N9
    replace F9 : Fr (ghostOf s₁.heap [(176, 172)]) s₁.heap.objs.size h9 _ := F9
    replace N9 : News (ghostOf s₁.heap [(176, 172)]) s₁.heap.objs.size h9 _ := N9
    unfold lawMap at F9
    simp only [List.mem_cons, List.not_mem_nil, or_false, forall_eq_or_imp, forall_eq] at hne
    have hvw : vw.length = tr.length := by rw [← are_len hWr]; exact List.length_map ..
    have hL0 : 172 < s₁.heap.objs.size := l0
    clear N1 hM
    (try clear hr2); (try clear r0); (try clear w1); (try clear ra); (try clear hL); (try clear hD); (try clear hl2); (try clear hr); (try clear hLay); (try clear hlay0); (try clear hs); (try clear TW); (try clear TE); (try clear B); (try clear D); (try clear V); (try clear X); (try clear KX); (try clear hcd); (try clear ho); (try clear Y); (try clear G); (try clear hT8); (try clear hT9); (try clear T)
    dsimp only
    k_steps
    unfold Stop
    with_reducible rename Fr _ _ _ _ => F1
    with_reducible rename News _ _ _ _ => N1
    refine LCt.Assign_ListComp_T (F₀ := F1) (by rfl) (by with_unfolding_all rfl) (by with_unfolding_all rfl) (by decide) (by rfl) (by decide) (by rfl) (by rfl) (by rfl) ?_
    k_steps
    unfold Stop
    refine LCt.CompSrcT.ledger (its := vw.toArray) rfl F1 N1 (by k_mem) (by rw [sizeLine_eq, List.size_toArray]; omega) ?_
    intro g5
    refine rest_ind (fun j ys => StrsAre ys (shownOf (pairsOf (tr.take j)))) vw.toArray.size .nil ?fin6 ?step6
    case step6 =>
      intro j ys k hj hinv ih
      refine LCt.CompRestT.succ ?_
      intro v I5 oI5 C5 oC5 D5 m5 h5 tk5 E5 hP5 hNs hm5 F5 N5 off5 ne5
      obtain ⟨y, ty, rfl, ey⟩ := hWr.item j v (by simpa using hP5)
      obtain ⟨hy1, hy2⟩ := writ_one hTr ey
      clear F1 N1
      k_steps
      · exact LCg.CompEnd.intro (by assumption) (by assumption) _ (fun p hp => hp) off5 (.inr ⟨_, by k_mem, rfl, _, rfl⟩) (ih _ (sh_yes hTr hinv ey (by assumption)))
      · exact LCg.CompEnd.intro (by assumption) (by assumption) _ (fun p hp => hp) off5 (.inr ⟨_, by k_mem, rfl, _, rfl⟩) (ih _ (sh_no hTr hinv ey (by assumption)))
    case fin6 =>
      intro ys hys
      intro D6 hp6 tk6 F6 N6 off6
      clear F1 N1
      rw [show vw.toArray.size = tr.length from by rw [List.size_toArray]; exact hvw, List.take_length] at hys
      have h6t : tr.length ≤ 6 := by omega
      have hkr := join_room hTr h6t 0
      rw [List.drop_zero] at hkr
      have hks := shown_room hTr h6t
      dsimp only [LCg.lst] at N6
      dsimp only
      k_steps
      unfold Stop
      rename _ = PySem.Str.join _ _ => ey
      with_reducible rename Fr _ _ _ _ => F1
      with_reducible rename News _ _ _ _ => N1
      refine wpAny_call (strip_spec (in_fr X' F1) (top_fr T0 F1) (Room.less (room_law _) (by decide)) (join_drop_len hTr h6t 0 ey).1 hbare ?_)
      intro h5 tk5 t5 gens5 k5 b5
      have F5 := fr_kp F1 k5
      have N5 := news_kp N1 k5
      clear F1 N1 k5
      rw [ey, strip_tris hTr]
      clear ey
      (try dsimp only)
      k_steps
      rename _ = PySem.Str.join _ _ => ez
      with_reducible rename Fr _ _ _ _ => F1
      with_reducible rename News _ _ _ _ => N1
      exact ⟨by rw [ez, beq_self_eq_true], F1.keep, rfl, b5, ⟨ps, N1.get (by k_mem)⟩⟩
end
end Mine
theorem PySem.Challenge.cw_ik0121_01_holds : PySem.Challenge.rw_ik0121_01.Holds :=
  Mine.all
